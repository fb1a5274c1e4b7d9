import PyProof.Rows.All
import Wide.All
import OpenK.AllK
import Wide.FinOn
import PySem.Challenge.RW_bb0062_01

section
open PySem PySem.W PyProof.Rows
set_option Elab.async false
set_option maxRecDepth 100000
set_option maxHeartbeats 8000000
namespace Mine
open_top hd for PySem.Challenge.rw_bb0062_01
end Mine
end

section
open PySem PySem.W PyProof.Rows
open PySem.Sem (wp)
open PySem.AutoSeq1 (wpAny_loadPart')
set_option Elab.async false
set_option maxRecDepth 100000
set_option maxHeartbeats 4000000
namespace Mine
section
variable {prog : Program} {w : World} {A : Around} {E : Value → Shared → Prop} {s : Shared}

theorem nextOf_tuple_item {it t : Addr} {i : Nat} {items : Array Value} {x : Value} {Q : Value → Shared → Prop} (hit : s.heap.IsTupleIter it t i)
    (ht : s.heap.IsTuple t items) (hx : items[i]? = some x)
    (hQ : ∀ h', h'.IsTupleIter it t (i + 1) → Heap.SameBut it s.heap h' → Q x { s with heap := h' }) :
    wpAny (model prog w) A (Builtin.SmallTypes.nextOf (.ref it)) Q E s := by
  obtain ⟨o, ho, hc, hd⟩ := id hit
  obtain ⟨ol, hol, _, nl, hdl⟩ := ht
  unfold Builtin.SmallTypes.nextOf
  refine wpAny_bind (wpAny_callSpecial?_slot (name := Str.ofString "__next__") hit.typeIs F.slot_tuple_iterator_next
    (wpAny_call_entry F.slot_tuple_iterator_next hit.typeIs F.entry_tuple_iterator_next ?_ (F.args_tuple_iterator_next_1 _)))
  show wpAny _ _ (field (.ref it) 0 >>= _) _ _ s
  refine wpAny_bind (wpAny_field ho hd (x := .ref t) rfl ?_)
  show wpAny _ _ (if (Value.ref t == Value.none) = true then _ else _) _ _ s
  rw [if_neg (show ¬ ((Value.ref t == Value.none) = true) from Bool.false_ne_true)]
  show wpAny _ _ (field (.ref it) 1 >>= _) _ _ s
  refine wpAny_bind (wpAny_field ho hd (x := .int i 0) rfl ?_)
  show wpAny _ _ (seqItems? (.ref t) >>= _) _ _ s
  refine wpAny_bind (wpAny_seqItems hol hdl ?_)
  simp only [Int.toNat_natCast, hx]
  refine wpAny_bind (wpAny_setField ho hd (by simp) (wpAny_pure ⟨x, rfl, wpAny_pure (hQ _ ?_ (Heap.SameBut.update ..))⟩))
  exact ⟨_, Heap.get?_update_self _ ho (Obj.isFreed_of_fields (Obj.data_mapFields hd _)), (Obj.cls_mapFields ..).trans hc, by
    rw [Obj.data_mapFields hd]; simp [rawInt]⟩

theorem nextOf_tuple_end {it t : Addr} {i : Nat} {items : Array Value} {Q : Value → Shared → Prop} (hh : A.handled = none)
    (hit : s.heap.IsTupleIter it t i) (ht : s.heap.IsTuple t items) (hx : items[i]? = none)
    (hE : ∀ h' e, Heap.ExtBut it s.heap h' → (∃ o, h'.get? e = some o ∧ o.cls = .type "StopIteration") → E (.ref e) { s with heap := h' }) :
    wpAny (model prog w) A (Builtin.SmallTypes.nextOf (.ref it)) Q E s := by
  obtain ⟨o, ho, hc, hd⟩ := id hit
  obtain ⟨ol, hol, _, nl, hdl⟩ := ht
  unfold Builtin.SmallTypes.nextOf
  refine wpAny_bind (wpAny_callSpecial?_slot (name := Str.ofString "__next__") hit.typeIs F.slot_tuple_iterator_next
    (wpAny_call_entry F.slot_tuple_iterator_next hit.typeIs F.entry_tuple_iterator_next ?_ (F.args_tuple_iterator_next_1 _)))
  show wpAny _ _ (field (.ref it) 0 >>= _) _ _ s
  refine wpAny_bind (wpAny_field ho hd (x := .ref t) rfl ?_)
  show wpAny _ _ (if (Value.ref t == Value.none) = true then _ else _) _ _ s
  rw [if_neg (show ¬ ((Value.ref t == Value.none) = true) from Bool.false_ne_true)]
  show wpAny _ _ (field (.ref it) 1 >>= _) _ _ s
  refine wpAny_bind (wpAny_field ho hd (x := .int i 0) rfl ?_)
  show wpAny _ _ (seqItems? (.ref t) >>= _) _ _ s
  refine wpAny_bind (wpAny_seqItems hol hdl ?_)
  simp only [Int.toNat_natCast, hx]
  refine wpAny_bind (wpAny_rule (wpAny_bind (wpAny_setField ho hd (by simp) ?_)))
  show wpAny _ _ (newExc (.type "StopIteration") [] >>= _) _ _ _
  refine wpAny_bind ?_
  simp only [newExc, newTuple]
  refine wpAny_bind (wpAny_newObj_type ?_ (by size_fits))
  refine wpAny_bind (m := firstArgMember _ _) (wpAny_of_eq (a := Value.none) (by first | rfl | (simp only [firstArgMember]; rfl)) ?_)
  refine wpAny_newObj_type ?_ (by size_fits)
  simp only [raiseNew]
  refine wpAny_bind (wpAny_handled ?_)
  first | rw [show A.in1.handled = none from hh] | rw [hh]
  refine wpAny_bind (wpAny_pure (wpAny_throw ?_))
  exact hE _ _ (((Heap.SameBut.update ..).extBut.push _).push _) ⟨_, Heap.get?_push_size _ rfl, rfl⟩

theorem drawsTuple (hh : A.handled = none) (it t : Addr) (hne : t ≠ it) (items : Array Value) :
    Draws prog w A it [it, t] items.size (fun i v => items[i]? = some v) (fun i h => h.IsTupleIter it t i ∧ h.IsTuple t items) where
  live := fun _ _ st => let ⟨o, ho, _⟩ := st.1; ⟨o, ho⟩
  frame := fun _ _ _ st hk => ⟨st.1.at fun o e => hk it (by simp) o e, st.2.at fun o e => hk t (by simp) o e⟩
  item := fun i s Q E hi st hQ => by
    refine nextOf_tuple_item st.1 st.2 (x := items[i]) (by simp [hi]) fun h' hit' hs' => ?_
    exact hQ _ h' s.toks (by simp [hi]) ⟨hit', st.2.extBut hs'.extBut hne⟩ hs'
  done := fun s Q E st hE => nextOf_tuple_end hh st.1 st.2 (by simp) hE

theorem meets_enumerate_tup (l : Addr) (items : Array Value) (n : Nat) (dct : Option Addr) (sl : Array (Option Value)) :
    Meets (Builtin.«enumerate.__new__» ⟨[.type "enumerate", .ref l], []⟩) (fun _ R s => s.heap.get? l = some { cls := .type "tuple", dict := dct, data := .seq items n, slots := sl } ∧
      R (.ok (.ret (.ref (s.heap.push { cls := .type "tuple_iterator", data := .fields #[.ref l, .int 0 0] }).objs.size)))
        { s with heap := (s.heap.push { cls := .type "tuple_iterator", data := .fields #[.ref l, .int 0 0] }).push { cls := .type "enumerate", data := .fields #[.none, .bool false, .ref s.heap.objs.size, rawInt 0, .none, .none] } }) :=
  .of_wp fun prog w A R s h => by
    obtain ⟨hp, g, d, tk, os⟩ := s; obtain ⟨hl, h⟩ := h
    have hsub := sub_enumerate
    have hL : Heap.IsTuple (Shared.heap ⟨hp, g, d, tk, os⟩) l items := ⟨_, hl, rfl, n, rfl⟩
    wp_walk using wpAny_loadPart' hl
    refine wpAny_stack_any fun st => wpAny_pure ?_
    split
    · rename_i c _ _ _ _ _
      cases (c == Value.type "enumerate")
      · wp_walk using wpAny_loadPart' hl, wpAny_pyIter_tuple hL
        exact ⟨_, rfl, h⟩
      · wp_walk using wpAny_loadPart' hl, wpAny_pyIter_tuple hL
        exact ⟨_, rfl, h⟩
    · wp_walk using wpAny_loadPart' hl, wpAny_pyIter_tuple hL
      exact ⟨_, rfl, h⟩

theorem call_enumerate_tuple {l : Addr} {items : Array Value} {Q : Value → Shared → Prop} (hL : s.heap.IsTuple l items)
    (h : ∀ h', IsEnum h' (s.heap.objs.size + 1) s.heap.objs.size 0 .none → h'.IsTupleIter s.heap.objs.size l 0 → h'.objs.size = s.heap.objs.size + 2 →
      (∀ b o, s.heap.get? b = some o → h'.get? b = some o) → Q (.ref (s.heap.objs.size + 1)) { s with heap := h' }) :
    wpAny (model prog w) A (call (.type "enumerate") [.ref l]) Q E s := by
  obtain ⟨⟨c, dct, dt, sl⟩, hl, hc, n, hd⟩ := hL
  replace hc : c = .type "tuple" := hc
  replace hd : dt = .seq items n := hd
  subst hc hd
  refine callType_new F.called_enumerate (by decide) (F.typeCall_enumerate_1 _) (F.newCall_enumerate_1 _) (fun obj => F.args_object_init_2 obj _) F.entry_enumerate_new
    (meets_enumerate_tup l items n dct sl) ⟨hl, ?_⟩
  have hz : (s.heap.push { cls := .type "tuple_iterator", data := .fields #[.ref l, .int 0 0] }).objs.size = s.heap.objs.size + 1 := Heap.size_push ..
  show _ ∧ _
  rw [hz]
  have he : IsEnum ((s.heap.push { cls := .type "tuple_iterator", data := .fields #[.ref l, .int 0 0] }).push
      { cls := .type "enumerate", data := .fields #[.none, .bool false, .ref s.heap.objs.size, rawInt 0, .none, .none] }) (s.heap.objs.size + 1) s.heap.objs.size 0 .none := by
    have := Heap.get?_push_size (s.heap.push { cls := .type "tuple_iterator", data := .fields #[.ref l, .int 0 0] })
      (o := { cls := .type "enumerate", data := .fields #[.none, .bool false, .ref s.heap.objs.size, rawInt 0, .none, .none] }) rfl
    rw [hz] at this; exact this
  refine ⟨⟨_, he, rfl⟩, h _ he ⟨_, Heap.get?_push_of_some _ (Heap.get?_push_size _ rfl), rfl, rfl⟩ (by rw [Heap.size_push, hz]) fun b o x => Heap.get?_push_of_some _ (Heap.get?_push_of_some _ x)⟩
end
end Mine
end

section
open PySem PySem.W PyProof.Rows
open PySem.Sem (wp)
set_option Elab.async false
set_option maxRecDepth 100000
set_option maxHeartbeats 4000000
namespace Mine
section
variable {prog : Program} {w : World} {A : Around} {E : Value → Shared → Prop} {s : Shared}

/-- all that a zip of two tuples touches lies apart -/
structure ZAp (z TI TO i1 i2 l1 l2 : Addr) : Prop where
  TIz : TI ≠ z
  TOz : TO ≠ z
  i1z : i1 ≠ z
  i2z : i2 ≠ z
  TITO : TI ≠ TO
  TIi1 : TI ≠ i1
  TIi2 : TI ≠ i2
  TOi1 : TO ≠ i1
  TOi2 : TO ≠ i2
  i12 : i1 ≠ i2
  l1z : l1 ≠ z
  l1TO : l1 ≠ TO
  l1i1 : l1 ≠ i1
  l1i2 : l1 ≠ i2
  l2z : l2 ≠ z
  l2TO : l2 ≠ TO
  l2i1 : l2 ≠ i1
  l2i2 : l2 ≠ i2

/-- where the zip stands between two turns -/
structure ZSt (z TI TO i1 i2 l1 l2 : Addr) (xs ys : Array Value) (f0 : Value) (k1 k2 : Nat) (h : Heap) : Prop where
  zz : IsZip h z TI TO f0
  ti : IsPair h TI (.ref i1) (.ref i2)
  to : ∃ a b, IsPair h TO a b
  a1 : h.IsTupleIter i1 l1 k1
  a2 : h.IsTupleIter i2 l2 k2
  t1 : h.IsTuple l1 xs
  t2 : h.IsTuple l2 ys

theorem zipT_item {z TI TO i1 i2 l1 l2 : Addr} {k : Nat} {xs ys : Array Value} {x y : Value} {Q : Value → Shared → Prop} (D : ZAp z TI TO i1 i2 l1 l2)
    (S : ZSt z TI TO i1 i2 l1 l2 xs ys .none k k s.heap) (hx : xs[k]? = some x) (hy : ys[k]? = some y)
    (hQ : ∀ h', ZSt z TI TO i1 i2 l1 l2 xs ys (rawInt s.heap.objs.size) (k + 1) (k + 1) h' → IsPair h' s.heap.objs.size x y → h'.objs.size = s.heap.objs.size + 1 →
      (∀ c o, c ≠ z → c ≠ TO → c ≠ i1 → c ≠ i2 → s.heap.get? c = some o → h'.get? c = some o) → Q (.ref s.heap.objs.size) { s with heap := h' }) :
    wpAny (model prog w) A (Builtin.«zip.__next__» ⟨[.ref z], []⟩) (fun fin s' => ∃ v, fin = .done (.ret v) ∧ Q v s') E s := by
  obtain ⟨hz, hTI, ⟨a, b, hTO⟩, h1, h2, hl1, hl2⟩ := S
  show wpAny _ _ (field (.ref z) 2 >>= _) _ _ _
  refine wpAny_bind (wpAny_field hz rfl (x := .bool false) rfl ?_)
  show wpAny _ _ (field (.ref z) 3 >>= _) _ _ _
  refine wpAny_bind (wpAny_field hz rfl (x := .ref TI) rfl ?_)
  refine wpAny_bind (wpAny_seqItems hTI rfl ?_)
  show wpAny _ _ (Builtin.SmallTypes.ownedTupleIsFree (.ref z) >>= _) _ _ _
  refine wpAny_bind ?_
  unfold Builtin.SmallTypes.ownedTupleIsFree
  refine wpAny_bind (wpAny_field hz rfl (x := .none) rfl (wpAny_pure ?_))
  simp only [if_true]
  refine wpAny_bind (wpAny_rule ?_)
  refine wpAny_bind (wpAny_field hz rfl (x := .ref TO) rfl ?_)
  refine wpAny_bind (wpAny_setField_rec hz (by simp) fun h₁ hz₁ hs₁ => ?_)
  replace hz₁ : IsZip h₁ z TI TO .ellipsis := hz₁
  refine wpAny_bind ?_
  simp only [List.zipIdx_cons, List.zipIdx_nil, List.forIn_cons, List.forIn_nil]
  refine wpAny_bind (wpAny_bind (wpAny_onRaise ?_))
  show wpAny _ _ (Builtin.SmallTypes.nextOf (.ref i1) >>= _) _ _ _
  refine wpAny_bind (nextOf_tuple_item (h1.extBut hs₁.extBut D.i1z) (hl1.extBut hs₁.extBut D.l1z) hx fun h₂ h1₂ hs₂ => wpAny_pure ?_)
  have hTO₂ : IsPair h₂ TO a b := hs₂.extBut _ _ D.TOi1 (hs₁.extBut _ _ D.TOz hTO)
  refine wpAny_bind (wpAny_seqItems hTO₂ rfl ?_)
  refine wpAny_bind (wpAny_updateSeq_pair hTO₂ fun h₃ hTO₃ hs₃ => ?_)
  replace hTO₃ : IsPair h₃ TO x b := hTO₃
  refine wpAny_bind (wpAny_letGo (wpAny_pure ?_))
  refine wpAny_bind (wpAny_bind (wpAny_onRaise ?_))
  show wpAny _ _ (Builtin.SmallTypes.nextOf (.ref i2) >>= _) _ _ _
  refine wpAny_bind (nextOf_tuple_item (((h2.extBut hs₁.extBut D.i2z).extBut hs₂.extBut D.i12.symm).extBut hs₃.extBut D.TOi2.symm)
    (((hl2.extBut hs₁.extBut D.l2z).extBut hs₂.extBut D.l2i1).extBut hs₃.extBut D.l2TO) hy fun h₄ h2₄ hs₄ => wpAny_pure ?_)
  have hTO₄ : IsPair h₄ TO x b := hs₄.extBut _ _ D.TOi2 hTO₃
  refine wpAny_bind (wpAny_seqItems hTO₄ rfl ?_)
  refine wpAny_bind (wpAny_updateSeq_pair hTO₄ fun h₅ hTO₅ hs₅ => ?_)
  replace hTO₅ : IsPair h₅ TO x y := hTO₅
  refine wpAny_bind (wpAny_letGo (wpAny_pure (wpAny_pure ?_)))
  refine wpAny_bind (wpAny_seqItems hTO₅ rfl ?_)
  refine wpAny_bind (wpAny_newTuple ?_)
  have hsz : h₅.objs.size = s.heap.objs.size := by rw [hs₅.1, hs₄.1, hs₃.1, hs₂.1, hs₁.1]
  have hz₅ : IsZip h₅ z TI TO .ellipsis := hs₅.extBut _ _ D.TOz.symm (hs₄.extBut _ _ D.i2z.symm (hs₃.extBut _ _ D.TOz.symm (hs₂.extBut _ _ D.i1z.symm hz₁)))
  have hk₅ : ∀ c o, c ≠ z → c ≠ TO → c ≠ i1 → c ≠ i2 → s.heap.get? c = some o → h₅.get? c = some o := fun c o c1 c2 c3 c4 e =>
    hs₅.extBut _ _ c2 (hs₄.extBut _ _ c4 (hs₃.extBut _ _ c2 (hs₂.extBut _ _ c3 (hs₁.extBut _ _ c1 e))))
  have h1₅ : h₅.IsTupleIter i1 l1 (k + 1) := ((h1₂.extBut hs₃.extBut D.TOi1.symm).extBut hs₄.extBut D.i12).extBut hs₅.extBut D.TOi1.symm
  have h2₅ : h₅.IsTupleIter i2 l2 (k + 1) := h2₄.extBut hs₅.extBut D.TOi2.symm
  have hzlt : z < h₅.objs.size := Heap.lt_size hz₅
  show wpAny _ _ (Builtin.SmallTypes.ownedTupleHandOut (.ref z) (.ref h₅.objs.size) >>= _) _ _ _
  refine wpAny_bind ?_
  unfold Builtin.SmallTypes.ownedTupleHandOut
  have hz₆ : IsZip (h₅.push { cls := .type "tuple", data := .seq #[x, y] }) z TI TO .ellipsis := Heap.get?_push_of_some _ hz₅
  refine wpAny_bind (wpAny_setField_rec hz₆ (by simp) fun h₇ hz₇ hs₇ => ?_)
  replace hz₇ : IsZip h₇ z TI TO (rawInt h₅.objs.size) := hz₇
  refine wpAny_setField_rec hz₇ (by simp) fun h₈ hz₈ hs₈ => ?_
  replace hz₈ : IsZip h₈ z TI TO (rawInt h₅.objs.size) := hz₈
  have up : ∀ c o, c ≠ z → h₅.get? c = some o → h₈.get? c = some o := fun c o c1 e => hs₈.extBut _ _ c1 (hs₇.extBut _ _ c1 (Heap.get?_push_of_some _ e))
  have hT₈ : IsPair h₈ h₅.objs.size x y := hs₈.extBut _ _ (Nat.ne_of_gt hzlt) (hs₇.extBut _ _ (Nat.ne_of_gt hzlt) (Heap.get?_push_size _ rfl))
  have hz8 : h₈.objs.size = h₅.objs.size + 1 := by rw [hs₈.1, hs₇.1, Heap.size_push]
  rw [hsz] at hz₈ hT₈ hz8
  refine wpAny_pure ⟨_, rfl, ?_⟩
  show Q (.ref h₅.objs.size) _
  rw [hsz]
  have hk8 : ∀ c o, c ≠ z → c ≠ TO → c ≠ i1 → c ≠ i2 → s.heap.get? c = some o → h₈.get? c = some o := fun c o c1 c2 c3 c4 e => up c o c1 (hk₅ c o c1 c2 c3 c4 e)
  exact hQ h₈ ⟨hz₈, hk8 _ _ D.TIz D.TITO D.TIi1 D.TIi2 hTI, ⟨_, _, up _ _ D.TOz hTO₅⟩, h1₅.at fun o e => up _ o D.i1z e, h2₅.at fun o e => up _ o D.i2z e,
    hl1.at fun o e => hk8 _ o D.l1z D.l1TO D.l1i1 D.l1i2 e, hl2.at fun o e => hk8 _ o D.l2z D.l2TO D.l2i1 D.l2i2 e⟩ hT₈ hz8 hk8

theorem zipT_end {z TI TO i1 i2 l1 l2 : Addr} {k : Nat} {xs ys : Array Value} {Q : Fin → Shared → Prop} (hh : A.handled = none) (D : ZAp z TI TO i1 i2 l1 l2)
    (S : ZSt z TI TO i1 i2 l1 l2 xs ys .none k k s.heap) (hend : xs[k]? = none ∨ ys[k]? = none)
    (hE : ∀ h' e, (∀ c o, c ≠ z → c ≠ TO → c ≠ i1 → c ≠ i2 → s.heap.get? c = some o → h'.get? c = some o) → (∃ o, h'.get? e = some o ∧ o.cls = .type "StopIteration") → E (.ref e) { s with heap := h' }) :
    wpAny (model prog w) A (Builtin.«zip.__next__» ⟨[.ref z], []⟩) Q E s := by
  obtain ⟨hz, hTI, ⟨a, b, hTO⟩, h1, h2, hl1, hl2⟩ := S
  show wpAny _ _ (field (.ref z) 2 >>= _) _ _ _
  refine wpAny_bind (wpAny_field hz rfl (x := .bool false) rfl ?_)
  show wpAny _ _ (field (.ref z) 3 >>= _) _ _ _
  refine wpAny_bind (wpAny_field hz rfl (x := .ref TI) rfl ?_)
  refine wpAny_bind (wpAny_seqItems hTI rfl ?_)
  show wpAny _ _ (Builtin.SmallTypes.ownedTupleIsFree (.ref z) >>= _) _ _ _
  refine wpAny_bind ?_
  unfold Builtin.SmallTypes.ownedTupleIsFree
  refine wpAny_bind (wpAny_field hz rfl (x := .none) rfl (wpAny_pure ?_))
  simp only [if_true]
  refine wpAny_bind (wpAny_rule ?_)
  refine wpAny_bind (wpAny_field hz rfl (x := .ref TO) rfl ?_)
  refine wpAny_bind (wpAny_setField_rec hz (by simp) fun h₁ hz₁ hs₁ => ?_)
  replace hz₁ : IsZip h₁ z TI TO .ellipsis := hz₁
  refine wpAny_bind ?_
  simp only [List.zipIdx_cons, List.zipIdx_nil, List.forIn_cons, List.forIn_nil]
  refine wpAny_bind (wpAny_bind (wpAny_onRaise ?_))
  show wpAny _ _ (Builtin.SmallTypes.nextOf (.ref i1) >>= _) _ _ _
  cases hx : xs[k]? with
  | none =>
    refine wpAny_bind (nextOf_tuple_end hh (h1.extBut hs₁.extBut D.i1z) (hl1.extBut hs₁.extBut D.l1z) hx fun h₂ e hs₂ he => ?_)
    obtain ⟨oe, hoe, hce⟩ := he
    have hz₂ : IsZip h₂ z TI TO .ellipsis := hs₂ _ _ D.i1z.symm hz₁
    have hez : e ≠ z := fun x => by subst x; rw [hz₂] at hoe; cases hoe; simp at hce
    refine wpAny_setField_rec hz₂ (by simp) fun h₃ _ hs₃ => hE h₃ e (fun c o c1 _ c3 _ x => hs₃.extBut _ _ c1 (hs₂ _ _ c3 (hs₁.extBut _ _ c1 x))) ⟨oe, hs₃.extBut _ _ hez hoe, hce⟩
  | some x =>
    have hy : ys[k]? = none := by rcases hend with h | h; rw [hx] at h; cases h; exact h
    refine wpAny_bind (nextOf_tuple_item (h1.extBut hs₁.extBut D.i1z) (hl1.extBut hs₁.extBut D.l1z) hx fun h₂ h1₂ hs₂ => wpAny_pure ?_)
    have hTO₂ : IsPair h₂ TO a b := hs₂.extBut _ _ D.TOi1 (hs₁.extBut _ _ D.TOz hTO)
    refine wpAny_bind (wpAny_seqItems hTO₂ rfl ?_)
    refine wpAny_bind (wpAny_updateSeq_pair hTO₂ fun h₃ hTO₃ hs₃ => ?_)
    refine wpAny_bind (wpAny_letGo (wpAny_pure ?_))
    refine wpAny_bind (wpAny_bind (wpAny_onRaise ?_))
    show wpAny _ _ (Builtin.SmallTypes.nextOf (.ref i2) >>= _) _ _ _
    refine wpAny_bind (nextOf_tuple_end hh (((h2.extBut hs₁.extBut D.i2z).extBut hs₂.extBut D.i12.symm).extBut hs₃.extBut D.TOi2.symm)
      (((hl2.extBut hs₁.extBut D.l2z).extBut hs₂.extBut D.l2i1).extBut hs₃.extBut D.l2TO) hy fun h₄ e hs₄ he => ?_)
    obtain ⟨oe, hoe, hce⟩ := he
    have hz₄ : IsZip h₄ z TI TO .ellipsis := hs₄ _ _ D.i2z.symm (hs₃.extBut _ _ D.TOz.symm (hs₂.extBut _ _ D.i1z.symm hz₁))
    have hez : e ≠ z := fun x => by subst x; rw [hz₄] at hoe; cases hoe; simp at hce
    refine wpAny_setField_rec hz₄ (by simp) fun h₅ _ hs₅ => hE h₅ e (fun c o c1 c2 c3 c4 x => hs₅.extBut _ _ c1 (hs₄ _ _ c4 (hs₃.extBut _ _ c2 (hs₂.extBut _ _ c3 (hs₁.extBut _ _ c1 x))))) ⟨oe, hs₅.extBut _ _ hez hoe, hce⟩

theorem pyNext_zipT_item {z TI TO i1 i2 l1 l2 : Addr} {k : Nat} {xs ys : Array Value} {x y : Value} {Q : Option Value → Shared → Prop} (D : ZAp z TI TO i1 i2 l1 l2)
    (S : ZSt z TI TO i1 i2 l1 l2 xs ys .none k k s.heap) (hx : xs[k]? = some x) (hy : ys[k]? = some y)
    (hQ : ∀ h', ZSt z TI TO i1 i2 l1 l2 xs ys (rawInt s.heap.objs.size) (k + 1) (k + 1) h' → IsPair h' s.heap.objs.size x y → h'.objs.size = s.heap.objs.size + 1 →
      (∀ c o, c ≠ z → c ≠ TO → c ≠ i1 → c ≠ i2 → s.heap.get? c = some o → h'.get? c = some o) → Q (some (.ref s.heap.objs.size)) { s with heap := h' }) :
    wpAny (model prog w) A (pyNext (.ref z)) Q E s := by
  have hT : s.TypeIs (.ref z) "zip" := ⟨_, S.zz, rfl⟩
  unfold pyNext
  exact wpAny_bind (wpAny_attempt (wpAny_callSpecial?_slot (name := Str.ofString "__next__") hT F.slot_zip_next
    (wpAny_call_entry F.slot_zip_next hT F.entry_zip_next
      (zipT_item D S hx hy fun h' a1 a2 a3 a4 => wpAny_pure (hQ h' a1 a2 a3 a4)) (F.args_zip_next_1 _))))

theorem pyNext_zipT_end {z TI TO i1 i2 l1 l2 : Addr} {k : Nat} {xs ys : Array Value} {Q : Option Value → Shared → Prop} (hh : A.handled = none) (D : ZAp z TI TO i1 i2 l1 l2)
    (S : ZSt z TI TO i1 i2 l1 l2 xs ys .none k k s.heap) (hend : xs[k]? = none ∨ ys[k]? = none)
    (hQ : ∀ h', (∀ c o, c ≠ z → c ≠ TO → c ≠ i1 → c ≠ i2 → s.heap.get? c = some o → h'.get? c = some o) → Q none { s with heap := h' }) : wpAny (model prog w) A (pyNext (.ref z)) Q E s := by
  have hT : s.TypeIs (.ref z) "zip" := ⟨_, S.zz, rfl⟩
  unfold pyNext
  refine wpAny_bind (wpAny_attempt (wpAny_callSpecial?_slot (name := Str.ofString "__next__") hT F.slot_zip_next
    (wpAny_call_entry F.slot_zip_next hT F.entry_zip_next (zipT_end hh D S hend fun h' e hk he => ?_) (F.args_zip_next_1 _))))
  obtain ⟨o, ho, hc⟩ := he
  refine wpAny_bind (wpAny_isInstance (T := "StopIteration") (b := true) ⟨o, ho, hc⟩ isSubtype_stop ?_)
  exact wpAny_pure (hQ _ hk)

theorem walksZipT (hh : A.handled = none) (z TI TO i1 i2 l1 l2 : Addr) (D : ZAp z TI TO i1 i2 l1 l2) (xs ys : Array Value) :
    WalksT prog w A z [z, TI, TO, i1, i2, l1, l2] [z, TO, i1, i2] (min xs.size ys.size)
      (fun i vals => ∃ x y, xs[i]? = some x ∧ ys[i]? = some y ∧ vals = #[x, y])
      (fun i h => ZSt z TI TO i1 i2 l1 l2 xs ys .none i i h)
      (fun i T h => ZSt z TI TO i1 i2 l1 l2 xs ys (rawInt T) (i + 1) (i + 1) h ∧ T ≠ z ∧ T ≠ TO ∧ T ≠ i1 ∧ T ≠ i2) where
  sub := fun c hc => by simp at hc ⊢; rcases hc with rfl | rfl | rfl | rfl <;> simp
  frame := fun i h h' hst hk => by
    obtain ⟨hz, hTI, ⟨a, b, hTO⟩, h1, h2, hl1, hl2⟩ := hst
    exact ⟨hk z (by simp) _ hz, hk TI (by simp) _ hTI, ⟨a, b, hk TO (by simp) _ hTO⟩, h1.at fun o e => hk i1 (by simp) o e, h2.at fun o e => hk i2 (by simp) o e,
      hl1.at fun o e => hk l1 (by simp) o e, hl2.at fun o e => hk l2 (by simp) o e⟩
  item := fun i s Q E hi hst hQ => by
    have hix : i < xs.size := Nat.lt_of_lt_of_le hi (Nat.min_le_left ..)
    have hiy : i < ys.size := Nat.lt_of_lt_of_le hi (Nat.min_le_right ..)
    refine pyNext_zipT_item D hst (Array.getElem?_eq_getElem hix) (Array.getElem?_eq_getElem hiy) fun h' S' a5 a6 hk => ?_
    have lt : ∀ {c o}, s.heap.get? c = some o → s.heap.objs.size ≠ c := fun e => Nat.ne_of_gt (Heap.lt_size e)
    obtain ⟨hz, hTI, ⟨a, b, hTO⟩, h1, h2, hl1, hl2⟩ := hst
    exact hQ s.heap.objs.size #[xs[i], ys[i]] h' s.toks ⟨_, _, Array.getElem?_eq_getElem hix, Array.getElem?_eq_getElem hiy, rfl⟩ (Nat.le_refl _) ⟨_, a5, rfl, _, rfl⟩
      ⟨S', lt hz, lt hTO, (by obtain ⟨_, e, _⟩ := h1; exact lt e), (by obtain ⟨_, e, _⟩ := h2; exact lt e)⟩
      fun c o hc e => hk c o (fun x => hc (by simp [x])) (fun x => hc (by simp [x])) (fun x => hc (by simp [x])) (fun x => hc (by simp [x])) e
  go := fun elts k pos i T s Q E hm hQ => by
    obtain ⟨⟨hz, hTI, ⟨a, b, hTO⟩, h1, h2, hl1, hl2⟩, _⟩ := hm
    refine wpAny_letOwnedTupleGo_zip hz fun h' hz' hs' => hQ h' ⟨hz', hs'.extBut _ _ D.TIz hTI, ⟨a, b, hs'.extBut _ _ D.TOz hTO⟩, h1.extBut hs'.extBut D.i1z, h2.extBut hs'.extBut D.i2z,
      hl1.extBut hs'.extBut D.l1z, hl2.extBut hs'.extBut D.l2z⟩ fun c o hc e => hs'.extBut _ _ (fun x => hc (by simp [x])) e
  apart := fun i T h hm hT => by
    obtain ⟨_, t1, t2, t3, t4⟩ := hm
    simp at hT
    rcases hT with rfl | rfl | rfl | rfl
    · exact t1 rfl
    · exact t2 rfl
    · exact t3 rfl
    · exact t4 rfl
  done := fun s Q E hst hQ => by
    have hend : xs[min xs.size ys.size]? = none ∨ ys[min xs.size ys.size]? = none := by
      rcases Nat.le_total xs.size ys.size with h | h
      · exact .inl (by rw [Nat.min_eq_left h]; exact Array.getElem?_eq_none (Nat.le_refl _))
      · exact .inr (by rw [Nat.min_eq_right h]; exact Array.getElem?_eq_none (Nat.le_refl _))
    exact pyNext_zipT_end hh D hst hend fun h' hk => hQ h' s.toks fun c o hc e =>
      hk c o (fun x => hc (by simp [x])) (fun x => hc (by simp [x])) (fun x => hc (by simp [x])) (fun x => hc (by simp [x])) e
  self := fun i s Q E hst hQ => wpAny_pyIter_zip hst.zz hQ

abbrev zt1 (h : Heap) (l1 : Addr) : Heap := h.push { cls := .type "tuple_iterator", data := .fields #[.ref l1, .int 0 0] }
abbrev zt2 (h : Heap) (l1 l2 : Addr) : Heap := (zt1 h l1).push { cls := .type "tuple_iterator", data := .fields #[.ref l2, .int 0 0] }
abbrev zt3 (h : Heap) (l1 l2 : Addr) : Heap := (zt2 h l1 l2).push { cls := .type "tuple", data := .seq #[.ref h.objs.size, .ref (zt1 h l1).objs.size] }
abbrev zt4 (h : Heap) (l1 l2 : Addr) : Heap := (zt3 h l1 l2).push { cls := .type "tuple", data := .seq #[.none, .none] }
abbrev zt5 (h : Heap) (l1 l2 : Addr) : Heap := (zt4 h l1 l2).push { cls := .type "zip", data := .fields #[.none, .bool false, .bool false, .ref (zt2 h l1 l2).objs.size, .ref (zt3 h l1 l2).objs.size] }

theorem meets_zip_newT (l1 l2 : Addr) (xs ys : Array Value) :
    Meets (Builtin.«zip.__new__» ⟨[.type "zip", .ref l1, .ref l2], []⟩) (fun _ R s => s.heap.IsTuple l1 xs ∧ s.heap.IsTuple l2 ys ∧
      R (.ok (.ret (.ref (zt4 s.heap l1 l2).objs.size))) { s with heap := zt5 s.heap l1 l2 }) :=
  .of_wp fun prog w A R s h => by
    obtain ⟨hp, g, d, tk, os⟩ := s; obtain ⟨hl1, hl2, h⟩ := h
    have hsub := sub_zip
    have hL1 : Heap.IsTuple (Shared.heap ⟨hp, g, d, tk, os⟩) l1 xs := hl1
    have hL2 : Heap.IsTuple (Shared.heap ⟨hp.push { cls := .type "tuple_iterator", data := .fields #[.ref l1, .int 0 0] }, g, d, tk, os⟩) l2 ys := Heap.IsTuple.push hl2 _
    wp_walk using wpAny_pyIter_tuple hL1, wpAny_pyIter_tuple hL2
    exact ⟨_, rfl, h⟩

theorem call_zip_tt {l1 l2 : Addr} {xs ys : Array Value} {Q : Value → Shared → Prop} (hl1 : s.heap.IsTuple l1 xs) (hl2 : s.heap.IsTuple l2 ys)
    (h : ∀ h', ZSt (s.heap.objs.size + 4) (s.heap.objs.size + 2) (s.heap.objs.size + 3) s.heap.objs.size (s.heap.objs.size + 1) l1 l2 xs ys .none 0 0 h' → h'.objs.size = s.heap.objs.size + 5 →
      (∀ c o, s.heap.get? c = some o → h'.get? c = some o) → Q (.ref (s.heap.objs.size + 4)) { s with heap := h' }) :
    wpAny (model prog w) A (call (.type "zip") [.ref l1, .ref l2]) Q E s := by
  refine callType_new F.called_zip (by decide) (F.typeCall_zip_2 _ _) (F.newCall_zip_2 _ _) (fun obj => F.args_object_init_3 obj _ _) F.entry_zip_new
    (meets_zip_newT l1 l2 xs ys) ⟨hl1, hl2, ?_⟩
  have z1 : (zt1 s.heap l1).objs.size = s.heap.objs.size + 1 := Heap.size_push ..
  have z2 : (zt2 s.heap l1 l2).objs.size = s.heap.objs.size + 2 := by rw [Heap.size_push, z1]
  have z3 : (zt3 s.heap l1 l2).objs.size = s.heap.objs.size + 3 := by rw [Heap.size_push, z2]
  have z4 : (zt4 s.heap l1 l2).objs.size = s.heap.objs.size + 4 := by rw [Heap.size_push, z3]
  have z5 : (zt5 s.heap l1 l2).objs.size = s.heap.objs.size + 5 := by rw [Heap.size_push, z4]
  have g5 : (zt5 s.heap l1 l2).get? (zt4 s.heap l1 l2).objs.size = some _ := Heap.get?_push_size _ rfl
  have g4 : (zt5 s.heap l1 l2).get? (zt3 s.heap l1 l2).objs.size = some _ := Heap.get?_push_of_some _ (Heap.get?_push_size _ rfl)
  have g3 : (zt5 s.heap l1 l2).get? (zt2 s.heap l1 l2).objs.size = some _ := Heap.get?_push_of_some _ (Heap.get?_push_of_some _ (Heap.get?_push_size _ rfl))
  have g2 : (zt5 s.heap l1 l2).get? (zt1 s.heap l1).objs.size = some _ := Heap.get?_push_of_some _ (Heap.get?_push_of_some _ (Heap.get?_push_of_some _ (Heap.get?_push_size _ rfl)))
  have g1 : (zt5 s.heap l1 l2).get? s.heap.objs.size = some _ := Heap.get?_push_of_some _ (Heap.get?_push_of_some _ (Heap.get?_push_of_some _ (Heap.get?_push_of_some _ (Heap.get?_push_size _ rfl))))
  have up : ∀ c o, s.heap.get? c = some o → (zt5 s.heap l1 l2).get? c = some o := fun c o x =>
    Heap.get?_push_of_some _ (Heap.get?_push_of_some _ (Heap.get?_push_of_some _ (Heap.get?_push_of_some _ (Heap.get?_push_of_some _ x))))
  show _ ∧ _
  rw [z2, z3, z4] at g5
  rw [z1, z2] at g3
  rw [z3] at g4
  rw [z1] at g2
  rw [z4]
  exact ⟨⟨_, g5, rfl⟩, h _ ⟨g5, g3, ⟨_, _, g4⟩, ⟨_, g1, rfl, rfl⟩, ⟨_, g2, rfl, rfl⟩, hl1.at fun o e => up _ o e, hl2.at fun o e => up _ o e⟩ z5 up⟩
end
end Mine
end

section
open PySem PySem.W PyProof.Rows PySem.Spec PySem.Calls PyProof.Rows.LCg
set_option Elab.async false
set_option maxRecDepth 100000
set_option maxHeartbeats 4000000
namespace Mine
section
variable {prog : Program} {w : World} {A : Around} {E : Value → Shared → Prop} {s : Shared} {h₀ : Heap} {L : Addr} {m : Str → Option Value} {env : Env}

/-- one turn of a comprehension over pairs, with tests -/
theorem compLoop_pairT {elt iter : Expr} {elts ifs : List Expr} {x1} {tp : Pos} {scope : Scope} {pos : Pos} {it acc : Value} {env : Env} {R : Result → Shared → Prop} (I : Nat → Shared → Prop)
    (turn : ∀ n s, I n s → wpAny (model prog w) A (pyNext it) (fun r s₁ => match r with
      | none => R (.ok .next) s₁
      | some v => wpAny (model prog w) A (letOwnedTupleGo (.Tuple elts x1 tp) it v) (fun _ s₁' => wpAny (model prog w) A (assign (.Tuple elts x1 tp) env v) (fun _ s₂ =>
          wpAny (model prog w) A (forIn ifs true fun c r => if r = true then do let ok ← isTrue c env (eval c env); pure (ForInStep.yield ok) else pure (ForInStep.yield r)) (fun ok s₃ =>
            if ok = true then wpAny (model prog w) A (eval elt env) (fun x s₄ =>
              wpAny (model prog w) A (call (.builtin "list.append") [acc, x]) (fun _ s₅ => ∃ m, m < n ∧ I m s₅) (notedBy (model prog w) A env fun e s' => R (.error e) s') s₄) (notedBy (model prog w) A env fun e s' => R (.error e) s') s₃
            else ∃ m, m < n ∧ I m s₃) (notedBy (model prog w) A env fun e s' => R (.error e) s') s₂)
          (notedBy (model prog w) A env fun e s' => R (.error e) s') s₁') (notedBy (model prog w) A env fun e s' => R (.error e) s') s₁) (notedBy (model prog w) A env fun e s' => R (.error e) s') s)
    (n : Nat) (h : I n s) : codeAny (model prog w) A (.compLoop (.ListComp elt [⟨.Tuple elts x1 tp, iter, ifs, 0⟩] scope pos) 0 it acc env) R s := by
  refine codeAny_loop rfl I (fun n s hI => ?_) n h
  show wpAny _ A ((compTurn (.ListComp elt [⟨.Tuple elts x1 tp, iter, ifs, 0⟩] scope pos) 0 it acc env).onRaise (fun x => do noteFrame x env; theTreesLotGoes x)) _ _ s
  refine wpAny_noted ?_
  rw [compTurn_list]
  refine wpAny_bind (wpAny_standAt (wpAny_bind (wpAny_mono (turn n s hI) (fun r s₁ h₁ => ?_) fun _ _ h' => h')))
  cases r with
  | none => exact wpAny_pure h₁
  | some v =>
    refine wpAny_bind (wpAny_mono h₁ (fun _ s₁' h₁' => ?_) fun _ _ h' => h')
    refine wpAny_bind (wpAny_mono h₁' (fun _ s₂ h₂ => wpAny_bind (wpAny_mono h₂ (fun ok s₃ h₃ => ?_) fun _ _ h' => h')) fun _ _ h' => h')
    cases ok with
    | false => exact wpAny_pure ⟨rfl, h₃⟩
    | true =>
      exact wpAny_bind (wpAny_bind (wpAny_mono h₃ (fun x s₄ h₄ => wpAny_bind (wpAny_mono h₄ (fun _ s₅ h₅ => wpAny_pure (wpAny_pure ⟨rfl, h₅⟩)) fun _ _ h' => h')) fun _ _ h' => h'))

/-- where a turn's tests and element leave the comprehension -/
def CEnd (h₀ : Heap) (L : Addr) (m : Str → Option Value) (s₁ : Shared) (its : List (Addr × Obj)) (C : Addr) (oC : Obj) (D : Addr) (oD : Obj) (k : List (Addr × Obj) → Prop) (s₂ : Shared) : Prop :=
  ∃ h' tk news', s₂ = { s₁ with heap := h', toks := tk } ∧ Fr h₀ L h' m ∧ News h₀ L h' (its ++ (C, oC) :: (D, oD) :: news') ∧ (∀ p ∈ news', p.1 ≠ C ∧ p.1 ≠ D ∧ ∀ q ∈ its, p.1 ≠ q.1) ∧ k news'

/-- a comprehension over pairs, from any source of turns, by an invariant over what is made so far and the ledger -/
theorem block_pair {elt iter : Expr} {x x₂ : Str} {px px₂ tp : Pos} {tk0 : Nat} {ifs : List Expr} {scope : Scope} {cl : List (Str × Addr)} {pos : Pos} {s₂ : Shared} {I : Addr} {fp wr : List Addr} {n : Nat}
    {P Md : Nat → Value → Heap → Prop} {St : Nat → Heap → Prop} {V : Nat → Value → Value → Prop} {ws : List (Addr × String)} {keep news : List (Addr × Obj)} {RR : Value → Addr → Result → Shared → Prop}
    (J : Nat → List Value → List (Addr × Obj) → Prop)
    (W : KTurns prog w A (.Tuple [.Name x px, .Name x₂ px₂] tk0 tp) I fp wr n P Md St) (hsz : n ≤ sizeLine) (hh : A.handled = none)
    (hself : ∀ i (s : Shared) (Q : Value → Shared → Prop) (E : Value → Shared → Prop), St i s.heap → Q (.ref I) s → wpAny (model prog w) A (pyIter (.ref I)) Q E s)
    (hP : ∀ i v h, P i v h → ∃ T v₁ v₂, v = .ref T ∧ IsTup h T #[v₁, v₂] ∧ V i v₁ v₂)
    (hobj : ∀ i h, St i h → ∃ its, Objs ws its ∧ ∀ p ∈ its, h.get? p.1 = some p.2)
    (hws : ∀ b ∈ ws.map (·.1), b ∈ fp ∧ h₀.get? b = none) (hwr : ∀ b ∈ wr, b ∈ ws.map (·.1))
    (hfp : ∀ b ∈ fp, b ∈ ws.map (·.1) ∨ (∃ o, (b, o) ∈ keep) ∨ ∃ o, h₀.get? b = some o)
    (hcell : ∀ y ∈ scope.names, y.2 ≠ .cell) (hkind : scope.kind = .function) (hx : scope.names.lookup x = some .local) (hx₂ : scope.names.lookup x₂ = some .local) (hxx : x ≠ x₂)
    (hst : St 0 s₂.heap) (hfs : ∀ b ∈ fp, b < s₂.heap.objs.size) (F : Fr h₀ L s₂.heap m) (N : News h₀ L s₂.heap news) (hLf : L ∉ fp)
    (off : ∀ p ∈ news, p.1 ∉ ws.map (·.1)) (hk : SubL keep news) (hj : J 0 [] news)
    (turn : ∀ i v₁ v₂ C oC D m₂ ys its news₁ h tk (E' : Value → Shared → Prop), i < n → V i v₁ v₂ → J i ys news₁ → SubL keep news₁ → Objs ws its → NsObj oC m₂ → m₂ x = some v₁ → m₂ x₂ = some v₂ → Fr h₀ L h m →
      News h₀ L h (its ++ (C, oC) :: (D, lst ys) :: news₁) → (∀ p ∈ news₁, p.1 ≠ C ∧ p.1 ≠ D ∧ ∀ q ∈ its, p.1 ≠ q.1) → (C ≠ D ∧ ∀ q ∈ its, q.1 ≠ C ∧ q.1 ≠ D) →
      wpAny (model prog w) A (forIn ifs true fun c r => if r = true then do let ok ← isTrue c (compEnvC scope cl C env) (eval c (compEnvC scope cl C env)); pure (ForInStep.yield ok) else pure (ForInStep.yield r)) (fun ok s₃ =>
        if ok = true then wpAny (model prog w) A (eval elt (compEnvC scope cl C env)) (fun y s₄ => CEnd h₀ L m { s₂ with heap := h, toks := tk } its C oC D (lst ys) (fun nw => SubL keep nw ∧ J (i + 1) (ys ++ [y]) nw) s₄) E' s₃
        else CEnd h₀ L m { s₂ with heap := h, toks := tk } its C oC D (lst ys) (fun nw => SubL keep nw ∧ J (i + 1) ys nw) s₃) E' { s₂ with heap := h, toks := tk })
    (hRR : ∀ D C h tk m' ys news', Fr h₀ L h m → News h₀ L h ((D, lst ys) :: news') → Off1 D news' → h.Ns C m' → h₀.get? C = none → h₀.get? D = none → C ≠ L → D ≠ L → C ≠ D → (∀ p ∈ news', p.1 ≠ C) → SubL keep news' → J n ys news' → RR (.ref D) C (.ok .next) { s₂ with heap := h, toks := tk }) :
    wpAny (model prog w) A (newList []) (fun acc s₃ => wpAny (model prog w) A (newFunctionEnv scope env.globals cl [] env.qual none .none (some env)) (fun cenv s₄ =>
      codeAny (model prog w) A (.compStart (.ListComp elt [⟨.Tuple [.Name x px, .Name x₂ px₂] tk0 tp, iter, ifs, 0⟩] scope pos) 0 (.ref I) acc { cenv with scope := relabel scope env }) (RR acc cenv.locals) s₄) E s₃) E s₂ := by
  refine wpAny_newObj_type (wpAny_newFunctionEnv hcell (by intro y hy; simp at hy) (fun h₁ hns₁ hsb₁ => ?_) hkind)
  dsimp only at hns₁ hsb₁ ⊢
  generalize hH2 : s₂.heap.push { cls := .type "list", dict := none, data := .seq ([] : List Value).toArray } = H2 at hns₁ hsb₁ ⊢
  have hC : H2.objs.size = s₂.heap.objs.size + 1 := by rw [← hH2, Heap.size_push]
  have hDC : s₂.heap.objs.size ≠ H2.objs.size := by rw [hC]; exact Nat.ne_of_lt (Nat.lt_succ_self _)
  have below : ∀ b, b < s₂.heap.objs.size → b ≠ H2.objs.size ∧ b ≠ s₂.heap.objs.size := fun b hb => ⟨by rw [hC]; exact Nat.ne_of_lt (Nat.lt_succ_of_lt hb), Nat.ne_of_lt hb⟩
  have hDf : s₂.heap.objs.size ∉ fp := fun hm => Nat.lt_irrefl _ (hfs _ hm)
  have hCf : H2.objs.size ∉ fp := fun hm => by have := hfs _ hm; rw [hC] at this; exact Nat.lt_irrefl _ (Nat.lt_of_succ_lt this)
  have old : ∀ b o, s₂.heap.get? b = some o → h₁.get? b = some o := fun b o e => hsb₁.extBut b o (below b (Heap.lt_size e)).1 (Heap.get?_push_of_some _ (hH2 ▸ Heap.get?_push_of_some _ e))
  have hacc : h₁.get? s₂.heap.objs.size = some (lst []) := hsb₁.extBut _ _ hDC (Heap.get?_push_of_some _ (hH2 ▸ Heap.get?_push_size _ rfl))
  have hst₁ : St 0 h₁ := W.frame _ _ _ hst fun b _ o e => old b o e
  have fresh : ∀ a, s₂.heap.objs.size ≤ a → s₂.heap.get? a = none := fun a ha => by
    cases e : s₂.heap.get? a with
    | none => rfl
    | some o' => exact absurd (Heap.lt_size e) (Nat.not_lt.mpr ha)
  have fresh₀ : ∀ a, s₂.heap.objs.size ≤ a → h₀.get? a = none := fun a ha => by
    cases e : h₀.get? a with
    | none => rfl
    | some o' => have := F.keep a o' e; rw [fresh a ha] at this; cases this
  have hD₀ : h₀.get? s₂.heap.objs.size = none := fresh₀ _ (Nat.le_refl _)
  have hC₀ : h₀.get? H2.objs.size = none := fresh₀ _ (by rw [hC]; exact Nat.le_succ _)
  have hLlt : L < s₂.heap.objs.size := F.ns.lt
  have hDL : s₂.heap.objs.size ≠ L := Ne.symm (below L hLlt).2
  have hCL : H2.objs.size ≠ L := Ne.symm (below L hLlt).1
  have hwf : ∀ b ∈ wr, b ∈ fp := W.sub
  have hCw : H2.objs.size ∉ wr := fun h => hCf (hwf _ h)
  have hDw : s₂.heap.objs.size ∉ wr := fun h => hDf (hwf _ h)
  have hLw : L ∉ wr := fun h => hLf (hwf _ h)
  have h0w : ∀ b o, h₀.get? b = some o → b ∉ wr := fun b o e hb => by rw [(hws b (hwr b hb)).2] at e; cases e
  have off₀ : ∀ p ∈ news, p.1 ≠ H2.objs.size ∧ p.1 ≠ s₂.heap.objs.size ∧ p.1 ∉ ws.map (·.1) := fun p hp => ⟨(below _ (Heap.lt_size (N p hp).1)).1, (below _ (Heap.lt_size (N p hp).1)).2, off p hp⟩
  have loop : ∀ s₃ : Shared, s₃ = { s₂ with heap := h₁, toks := s₂.toks + ([] : List (Str × Value)).length } →
      codeAny (model prog w) A (.compLoop (.ListComp elt [⟨.Tuple [.Name x px, .Name x₂ px₂] tk0 tp, iter, ifs, 0⟩] scope pos) 0 (.ref I) (.ref s₂.heap.objs.size) (compEnvC scope cl H2.objs.size env))
        (RR (.ref s₂.heap.objs.size) H2.objs.size) s₃ := by
    rintro s₃ rfl
    refine compLoop_pairT
      (fun k s' => ∃ h' tk i ys m' news', s' = { s₂ with heap := h', toks := tk } ∧ i ≤ n ∧ k = n + 1 - i ∧ ys.length ≤ i ∧ St i h' ∧ Fr h₀ L h' m ∧ h'.Ns H2.objs.size m' ∧ News h₀ L h' ((s₂.heap.objs.size, lst ys) :: news') ∧
        (∀ p ∈ news', p.1 ≠ H2.objs.size ∧ p.1 ≠ s₂.heap.objs.size ∧ p.1 ∉ ws.map (·.1)) ∧ SubL keep news' ∧ J i ys news') ?_ (n + 1)
      ⟨h₁, _, 0, [], _, news, rfl, Nat.zero_le _, rfl, Nat.le_refl _, hst₁, F.keeps old, hns₁, fun p hp => ?_, off₀, hk, hj⟩
    · rintro k s' ⟨h', tk, i, ys, m', news', rfl, hi, rfl, hyl, hst', F', hn', N', off', hk', hJ⟩
      by_cases hlt : i < n
      · refine W.item i _ _ _ hlt hst' fun v h₂ tk₂ hMd hk₂ => ?_
        refine W.go i v _ _ _ hMd fun h₃ hPv hst₃ hk₃ => ?_
        have k3 : ∀ b o, b ∉ wr → h'.get? b = some o → h₃.get? b = some o := fun b o hb e => hk₃ b o hb (hk₂ b o hb e)
        obtain ⟨T, v₁, v₂, rfl, ht, hV⟩ := hP i v h₃ hPv
        have N₃ : News h₀ L h₃ ((s₂.heap.objs.size, lst ys) :: news') := fun p hp => ⟨k3 _ _ (by
          rcases List.mem_cons.mp hp with rfl | hp
          · exact hDw
          · exact fun hb => (off' p hp).2.2 (hwr _ hb)) (N' p hp).1, (N' p hp).2⟩
        have F₃ : Fr h₀ L h₃ m := ⟨F'.ns.at' fun o e => k3 _ o hLw e, fun b o e => k3 b o (h0w b o e) (F'.keep b o e), F'.above⟩
        have hn₃ : h₃.Ns H2.objs.size m' := hn'.at' fun o e => k3 _ o hCw e
        refine assign_Tuple_tuple hh ht rfl rfl fun h₅ he => ?_
        have he' : ∀ b o, h₃.get? b = some o → h₅.get? b = some o := fun b o e => he b o (Nat.ne_of_lt (Heap.lt_size e)) e
        refine assignInOrder_cons (wpAny_assign_Name (wpAny_storeName_local (lookup_relabel_local hx) (hn₃.at' fun o e => he' _ o e) (fun h₆ hn₆ hs₆ => ?_) (by simp [compEnvC, relabel, hkind])))
        refine assignInOrder_cons (wpAny_assign_Name (wpAny_storeName_local (lookup_relabel_local hx₂) hn₆ (fun h₇ hn₇ hs₇ => ?_) (by simp [compEnvC, relabel, hkind])))
        refine assignInOrder_nil ?_
        have old7 : ∀ b o, b ≠ H2.objs.size → h₃.get? b = some o → h₇.get? b = some o := fun b o hb e => hs₇.extBut b o hb (hs₆.extBut b o hb (he' b o e))
        have hst₇ : St (i + 1) h₇ := W.frame _ _ _ hst₃ fun b hb o e => old7 b o (fun q => hCf (by have q' : b = H2.objs.size := q; rw [← q']; exact hb)) e
        obtain ⟨its, hits, hval⟩ := hobj _ _ hst₇
        have hmap := hits.map
        obtain ⟨oC, heC, hoC⟩ := ns_obj hn₇
        have F₇ : Fr h₀ L h₇ m := ((F₃.keeps he').change hs₆ hCL hC₀).change hs₇ hCL hC₀
        have itw : ∀ q ∈ its, q.1 ∈ ws.map (·.1) := fun q hq => by rw [← hmap]; exact List.mem_map_of_mem hq
        have N₇ : News h₀ L h₇ (its ++ (H2.objs.size, oC) :: (s₂.heap.objs.size, lst ys) :: news') := fun p hp => by
          rcases List.mem_append.mp hp with hp | hp
          · exact ⟨hval p hp, fun e => hLf (e ▸ (hws _ (itw p hp)).1), (hws _ (itw p hp)).2⟩
          · rcases List.mem_cons.mp hp with rfl | hp
            · exact ⟨heC, hCL, hC₀⟩
            · have z := N₃ p hp
              refine ⟨old7 _ _ ?_ z.1, z.2⟩
              rcases List.mem_cons.mp hp with rfl | hp
              · exact hDC
              · exact (off' p hp).1
        have st8 : ∀ h₈ ys' news₈, Fr h₀ L h₈ m → News h₀ L h₈ (its ++ (H2.objs.size, oC) :: (s₂.heap.objs.size, lst ys') :: news₈) → SubL keep news₈ → St (i + 1) h₈ := by
          intro h₈ ys' news₈ F₈ N₈ k₈
          refine W.frame _ _ _ hst₇ fun b hb o e => ?_
          rcases hfp b hb with h | ⟨o', h⟩ | ⟨o', h⟩
          · have h4 : b ∈ its.map (·.1) := by rw [hmap]; exact h
            obtain ⟨⟨qa, qo⟩, hq, hqe⟩ := List.mem_map.mp h4
            have hqe' : qa = b := hqe
            subst hqe'
            have h5 : h₇.get? qa = some qo := hval _ hq
            have h6 : qo = o := Option.some.inj (h5.symm.trans e)
            subst h6
            exact (N₈ _ (List.mem_append_left _ hq)).1
          · have h4 : h₇.get? b = some o' := (N₇ _ (List.mem_append_right _ (.tail _ (.tail _ (hk'.mem _ h))))).1
            have h6 : o' = o := Option.some.inj (h4.symm.trans e)
            subst h6
            exact (N₈ _ (List.mem_append_right _ (.tail _ (.tail _ (k₈.mem _ h))))).1
          · have h4 : h₇.get? b = some o' := F₇.keep _ _ h
            have h6 : o' = o := Option.some.inj (h4.symm.trans e)
            subst h6
            exact F₈.keep _ _ h
        have offW : ∀ news₈ : List (Addr × Obj), (∀ p ∈ news₈, p.1 ≠ H2.objs.size ∧ p.1 ≠ s₂.heap.objs.size ∧ ∀ q ∈ its, p.1 ≠ q.1) →
            ∀ p ∈ news₈, p.1 ≠ H2.objs.size ∧ p.1 ≠ s₂.heap.objs.size ∧ p.1 ∉ ws.map (·.1) := fun news₈ o8 p hp => ⟨(o8 p hp).1, (o8 p hp).2.1, fun hb => by
              rw [← hmap] at hb
              obtain ⟨q, hq, hqe⟩ := List.mem_map.mp hb
              exact (o8 p hp).2.2 q hq hqe.symm⟩
        have offI : ∀ p ∈ news', p.1 ≠ H2.objs.size ∧ p.1 ≠ s₂.heap.objs.size ∧ ∀ q ∈ its, p.1 ≠ q.1 := fun p hp => ⟨(off' p hp).1, (off' p hp).2.1, fun q hq e => (off' p hp).2.2 (e ▸ itw q hq)⟩
        refine wpAny_mono (turn i v₁ v₂ H2.objs.size oC s₂.heap.objs.size _ ys its news' h₇ _ _ hlt hV hJ hk' hits hoC (by simp [hxx]) (by simp) F₇ N₇ offI
          ⟨Ne.symm hDC, fun q hq => ⟨fun e => hCf (e ▸ (hws _ (itw q hq)).1), fun e => hDf (e ▸ (hws _ (itw q hq)).1)⟩⟩) (fun ok s₃ h₃ => ?_) fun _ _ e => e
        cases ok with
        | false =>
          obtain ⟨h₈, tk₈, news₈, rfl, F₈, N₈, o8, k₈, J₈⟩ := h₃
          have zC := (N₈ (H2.objs.size, oC) (List.mem_append_right _ (.head _))).1
          exact ⟨n + 1 - (i + 1), by omega, h₈, tk₈, i + 1, ys, _, news₈, rfl, hlt, rfl, Nat.le_succ_of_le hyl, st8 h₈ ys news₈ F₈ N₈ k₈, F₈, hoC.ns zC,
            fun p hp => N₈ p (List.mem_append_right _ (.tail _ hp)), offW _ o8, k₈, J₈⟩
        | true =>
          refine wpAny_mono h₃ (fun y s₄ h₄ => ?_) fun _ _ e => e
          obtain ⟨h₈, tk₈, news₈, rfl, F₈, N₈, o8, k₈, J₈⟩ := h₄
          have zC := (N₈ (H2.objs.size, oC) (List.mem_append_right _ (.head _))).1
          have zD := (N₈ (s₂.heap.objs.size, lst ys) (List.mem_append_right _ (.tail _ (.head _)))).1
          have hst₈ := st8 h₈ ys news₈ F₈ N₈ k₈
          refine append_at (hsz := by show ys.toArray.size ≤ sizeLine; rw [List.size_toArray]; exact Nat.le_trans hyl (Nat.le_trans hi hsz)) zD fun h₉ hs₉ hD₉ => ?_
          refine ⟨n + 1 - (i + 1), by omega, h₉, tk₈, i + 1, ys ++ [y], _, news₈, rfl, hlt, rfl, by rw [List.length_append, List.length_singleton]; omega, W.frame _ _ _ hst₈ fun b hb o e => hs₉.extBut b o (fun q => hDf (q ▸ hb)) e, F₈.change hs₉ hDL hD₀,
            (hoC.ns zC).sameBut hs₉ (Ne.symm hDC), fun p hp => ?_, offW _ o8, k₈, J₈⟩
          rcases List.mem_cons.mp hp with rfl | hp
          · exact ⟨hD₉.trans (congrArg some (lst_snoc ys y)), hDL, hD₀⟩
          · have z := N₈ p (List.mem_append_right _ (.tail _ (.tail _ hp)))
            exact ⟨hs₉.extBut _ _ (o8 p hp).2.1 z.1, z.2⟩
      · obtain rfl : i = n := Nat.le_antisymm hi (Nat.not_lt.mp hlt)
        refine W.done _ _ _ hst' fun h₂ tk₂ hk₂ => ?_
        refine hRR _ _ h₂ tk₂ _ ys news' ⟨F'.ns.at' fun o e => hk₂ _ o hLw e, fun b o e => hk₂ b o (h0w b o e) (F'.keep b o e), F'.above⟩ (fun p hp => ⟨hk₂ _ _ (by
          rcases List.mem_cons.mp hp with rfl | hp
          · exact hDw
          · exact fun hb => (off' p hp).2.2 (hwr _ hb)) (N' p hp).1, (N' p hp).2⟩) (Off3.one (Off3.of (I := H2.objs.size) (C := H2.objs.size) fun p hp => ⟨(off' p hp).1, (off' p hp).1, (off' p hp).2.1⟩)) (hn'.at' fun o e => hk₂ _ o hCw e) hC₀ hD₀ hCL hDL (Ne.symm hDC) (fun p hp => (off' p hp).1) hk' hJ
    · rcases List.mem_cons.mp hp with rfl | hp
      · exact ⟨hacc, hDL, hD₀⟩
      · exact ⟨old _ _ (N p hp).1, (N p hp).2⟩
  exact codeAny_compStart_list (loop _ rfl) (hself 0 _ _ _ hst₁ (loop _ rfl))
end
end Mine
end

section
open PySem PySem.W PyProof.Rows PySem.Spec PySem.Calls PyProof.Rows.LCg
set_option Elab.async false
set_option maxRecDepth 100000
set_option maxHeartbeats 4000000
namespace Mine

/-- an iterator at I that hands out n pairs; V says of the turn's number and its two values -/
structure PSrc (prog : Program) (w : World) (A : Around) (h₀ : Heap) (L I : Addr) (n : Nat) (V : Nat → Value → Value → Prop) (ws : List (Addr × String)) (keep : List (Addr × Obj)) (h : Heap) : Prop where
  ex : ∃ (fp wr : List Addr) (Pt : Nat → Array Value → Prop) (St : Nat → Heap → Prop) (Mid : Nat → Addr → Heap → Prop),
    WalksU prog w A I fp wr n Pt St Mid ∧ (∀ i vals, Pt i vals → ∃ v₁ v₂, vals = #[v₁, v₂] ∧ V i v₁ v₂) ∧
    (∀ i h, St i h → ∃ its, Objs ws its ∧ ∀ p ∈ its, h.get? p.1 = some p.2) ∧ (∀ b ∈ ws.map (·.1), b ∈ fp ∧ h₀.get? b = none) ∧ (∀ b ∈ wr, b ∈ ws.map (·.1)) ∧
    (∀ b ∈ fp, b ∈ ws.map (·.1) ∨ (∃ o, (b, o) ∈ keep) ∨ ∃ o, h₀.get? b = some o) ∧ St 0 h ∧ (∀ b ∈ fp, b < h.objs.size) ∧ L ∉ fp

section
variable {prog : Program} {w : World} {A : Around} {E : Value → Shared → Prop} {s : Shared} {h₀ : Heap} {L : Addr} {m : Str → Option Value} {env : Env} {news : List (Addr × Obj)}

theorem PSrc.self {I : Addr} {n : Nat} {V : Nat → Value → Value → Prop} {ws : List (Addr × String)} {keep : List (Addr × Obj)} {Q : Value → Shared → Prop} (S : PSrc prog w A h₀ L I n V ws keep s.heap) (h : Q (.ref I) s) :
    wpAny (model prog w) A (pyIter (.ref I)) Q E s := by
  obtain ⟨fp, wr, Pt, St, Mid, W, _, _, _, _, _, st, _⟩ := S.ex
  exact W.self 0 s Q E st h

theorem off_of {led : List (Addr × Obj)} {I : Addr} {bs : List Addr} (l : ∀ p ∈ led, p.1 < I) (h : ∀ b ∈ bs, I ≤ b) : ∀ p ∈ led, p.1 ∉ bs := fun p hp hb => absurd (l p hp) (Nat.not_lt.mpr (h _ hb))

theorem enum_list {l : Addr} {lo : Obj} {vs : List Value} {k : Nat} {Q : Value → Shared → Prop} (hh : A.handled = none) (F : Fr h₀ L s.heap m) (N : News h₀ L s.heap news) (hm : (l, lo) ∈ news) (hc : lo.cls = .type "list") (hd : lo.data = .seq vs.toArray k)
    (h : ∀ I h', PSrc prog w A h₀ L (I + 1) vs.length (fun i a b => (∃ t, a = .int (i : Int) t) ∧ vs[i]? = some b) [(I + 1, "enumerate"), (I, "list_iterator")] [(l, lo)] h' → (∀ p ∈ news, p.1 < I) → (∀ p ∈ news, p.1 ∉ [I + 1, I]) → Fr h₀ L h' m → News h₀ L h' news → Q (.ref (I + 1)) { s with heap := h' }) :
    wpAny (model prog w) A (call (.type "enumerate") [.ref l]) Q E s := by
  have hax := N _ hm
  have hl : s.heap.IsList l vs.toArray := ⟨lo, hax.1, hc, k, hd⟩
  have hlt : l < s.heap.objs.size := Heap.lt_size hax.1
  have hLs : L < s.heap.objs.size := F.ns.lt
  refine call_enumerate_list hl fun h' hE hI hsz hk => ?_
  have W := (WalksT.enumerate (prog := prog) (w := w) hh (s.heap.objs.size + 1) s.heap.objs.size l (Nat.succ_ne_self _) (ktu_ne 1 hlt) (Nat.ne_of_lt hlt) vs.toArray).toU
  rw [List.size_toArray] at W
  refine h s.heap.objs.size h' ⟨⟨_, _, _, _, _, W, ?_, ?_, ?_, ?_, ?_, ?_, ?_, ?_⟩⟩ (fun p hp => Heap.lt_size (N p hp).1) (off_of (fun p hp => Heap.lt_size (N p hp).1) (by intro b hb; simp only [List.mem_cons, List.not_mem_nil, or_false] at hb; rcases hb with rfl | rfl <;> first | exact Nat.le_refl _ | exact Nat.le_add_right _ _)) (F.keeps hk) (N.grown hk)
  · rintro i vals ⟨t, x, hx, rfl⟩
    exact ⟨_, _, rfl, ⟨t, rfl⟩, by simpa using hx⟩
  · rintro i h ⟨⟨old, he⟩, ⟨oi, hoi, hic, _⟩, _⟩
    have he' : ∃ oe : Obj, h.get? (s.heap.objs.size + 1) = some oe ∧ oe.cls = .type "enumerate" := ⟨_, he, rfl⟩
    obtain ⟨oe, h1, h2⟩ := he'
    refine ⟨[(s.heap.objs.size + 1, oe), (s.heap.objs.size, oi)], ⟨⟨rfl, h2⟩, ⟨rfl, hic⟩, trivial⟩, fun p hp => ?_⟩
    rcases List.mem_cons.mp hp with rfl | hp
    · exact h1
    · rw [List.mem_singleton.mp hp]; exact hoi
  · intro b hb
    have hb' : b = s.heap.objs.size + 1 ∨ b = s.heap.objs.size := by simpa using hb
    rcases hb' with rfl | rfl
    · exact ⟨by simp, ktu_new F (Nat.le_add_right _ _)⟩
    · exact ⟨by simp, ktu_new F (Nat.le_refl _)⟩
  · intro b hb
    simpa using hb
  · intro b hb
    have hb' : b = s.heap.objs.size + 1 ∨ b = s.heap.objs.size ∨ b = l := by simpa using hb
    rcases hb' with rfl | rfl | rfl
    · exact .inl (by simp)
    · exact .inl (by simp)
    · exact .inr (.inl ⟨lo, by simp⟩)
  · exact ⟨⟨.none, hE⟩, hI, hl.at fun o e => hk l o e⟩
  · intro b hb
    have hb' : b = s.heap.objs.size + 1 ∨ b = s.heap.objs.size ∨ b = l := by simpa using hb
    rw [hsz]
    rcases hb' with rfl | rfl | rfl
    · exact Nat.lt_succ_self _
    · exact Nat.lt_succ_of_lt (Nat.lt_succ_self _)
    · exact Nat.lt_succ_of_lt (Nat.lt_succ_of_lt hlt)
  · intro hI'
    have hb' : L = s.heap.objs.size + 1 ∨ L = s.heap.objs.size ∨ L = l := by simpa using hI'
    rcases hb' with e | e | e
    · exact ktu_ne 1 hLs e
    · exact Nat.ne_of_lt hLs e
    · exact hax.2.1 e.symm

/-- what stands after enumerate of a tuple -/
structure RawEnum (h : Heap) (e it l : Addr) (vs : List Value) : Prop where
  en : IsEnum h e it 0 .none
  ti : h.IsTupleIter it l 0
  tu : h.IsTuple l vs.toArray
  ne1 : e ≠ it
  ne2 : e ≠ l
  ne3 : it ≠ l

theorem enum_tup {l : Addr} {lo : Obj} {vs : List Value} {k : Nat} {Q : Value → Shared → Prop} (hh : A.handled = none) (F : Fr h₀ L s.heap m) (N : News h₀ L s.heap news) (hm : (l, lo) ∈ news) (hc : lo.cls = .type "tuple") (hd : lo.data = .seq vs.toArray k)
    (h : ∀ I h', PSrc prog w A h₀ L (I + 1) vs.length (fun i a b => (∃ t, a = .int (i : Int) t) ∧ vs[i]? = some b) [(I + 1, "enumerate"), (I, "tuple_iterator")] [(l, lo)] h' → RawEnum h' (I + 1) I l vs → L < I → (∀ p ∈ news, p.1 < I) → (∀ p ∈ news, p.1 ∉ [I + 1, I]) → Fr h₀ L h' m → News h₀ L h' news → Q (.ref (I + 1)) { s with heap := h' }) :
    wpAny (model prog w) A (call (.type "enumerate") [.ref l]) Q E s := by
  have hax := N _ hm
  have hl : s.heap.IsTuple l vs.toArray := ⟨lo, hax.1, hc, k, hd⟩
  have hlt : l < s.heap.objs.size := Heap.lt_size hax.1
  have hLs : L < s.heap.objs.size := F.ns.lt
  refine call_enumerate_tuple hl fun h' hE hI hsz hk => ?_
  have W := (WalksT.enumerateD (drawsTuple (prog := prog) (w := w) (A := A.in1) hh s.heap.objs.size l (Nat.ne_of_lt hlt) vs.toArray) (s.heap.objs.size + 1) (Nat.succ_ne_self _)
    (by intro hm'; rcases List.mem_cons.mp hm' with e | hm'; exact Nat.succ_ne_self _ e; exact ktu_ne 1 hlt (List.mem_singleton.mp hm').symm) (by simp)).toU
  rw [List.size_toArray] at W
  refine h s.heap.objs.size h' ⟨⟨_, _, _, _, _, W, ?_, ?_, ?_, ?_, ?_, ?_, ?_, ?_⟩⟩ ⟨hE, hI, hl.at fun o e => hk l o e, Nat.succ_ne_self _, Nat.ne_of_gt (Nat.lt_succ_of_lt hlt), Nat.ne_of_gt hlt⟩ hLs (fun p hp => Heap.lt_size (N p hp).1) (off_of (fun p hp => Heap.lt_size (N p hp).1) (by intro b hb; simp only [List.mem_cons, List.not_mem_nil, or_false] at hb; rcases hb with rfl | rfl <;> first | exact Nat.le_refl _ | exact Nat.le_add_right _ _)) (F.keeps hk) (N.grown hk)
  · rintro i vals ⟨t, x, hx, rfl⟩
    exact ⟨_, _, rfl, ⟨t, rfl⟩, by simpa using hx⟩
  · rintro i h ⟨⟨old, he⟩, ⟨oi, hoi, hic, _⟩, _⟩
    have he' : ∃ oe : Obj, h.get? (s.heap.objs.size + 1) = some oe ∧ oe.cls = .type "enumerate" := ⟨_, he, rfl⟩
    obtain ⟨oe, h1, h2⟩ := he'
    refine ⟨[(s.heap.objs.size + 1, oe), (s.heap.objs.size, oi)], ⟨⟨rfl, h2⟩, ⟨rfl, hic⟩, trivial⟩, fun p hp => ?_⟩
    rcases List.mem_cons.mp hp with rfl | hp
    · exact h1
    · rw [List.mem_singleton.mp hp]; exact hoi
  · intro b hb
    have hb' : b = s.heap.objs.size + 1 ∨ b = s.heap.objs.size := by simpa using hb
    rcases hb' with rfl | rfl
    · exact ⟨by simp, ktu_new F (Nat.le_add_right _ _)⟩
    · exact ⟨by simp, ktu_new F (Nat.le_refl _)⟩
  · intro b hb
    simpa using hb
  · intro b hb
    have hb' : b = s.heap.objs.size + 1 ∨ b = s.heap.objs.size ∨ b = l := by simpa using hb
    rcases hb' with rfl | rfl | rfl
    · exact .inl (by simp)
    · exact .inl (by simp)
    · exact .inr (.inl ⟨lo, by simp⟩)
  · exact ⟨⟨.none, hE⟩, hI, hl.at fun o e => hk l o e⟩
  · intro b hb
    have hb' : b = s.heap.objs.size + 1 ∨ b = s.heap.objs.size ∨ b = l := by simpa using hb
    rw [hsz]
    rcases hb' with rfl | rfl | rfl
    · exact Nat.lt_succ_self _
    · exact Nat.lt_succ_of_lt (Nat.lt_succ_self _)
    · exact Nat.lt_succ_of_lt (Nat.lt_succ_of_lt hlt)
  · intro hI'
    have hb' : L = s.heap.objs.size + 1 ∨ L = s.heap.objs.size ∨ L = l := by simpa using hI'
    rcases hb' with e | e | e
    · exact ktu_ne 1 hLs e
    · exact Nat.ne_of_lt hLs e
    · exact hax.2.1 e.symm

theorem zap_new (I l1 l2 : Nat) (h1 : l1 < I) (h2 : l2 < I) : ZAp (I + 4) (I + 2) (I + 3) I (I + 1) l1 l2 := by
  constructor <;> (refine neN ?_; omega)

theorem zip_tup {l1 l2 : Addr} {lo1 lo2 : Obj} {xs ys : List Value} {k1 k2 : Nat} {Q : Value → Shared → Prop} (hh : A.handled = none) (F : Fr h₀ L s.heap m) (N : News h₀ L s.heap news)
    (hm1 : (l1, lo1) ∈ news) (hc1 : lo1.cls = .type "tuple") (hd1 : lo1.data = .seq xs.toArray k1) (hm2 : (l2, lo2) ∈ news) (hc2 : lo2.cls = .type "tuple") (hd2 : lo2.data = .seq ys.toArray k2)
    (h : ∀ I h', PSrc prog w A h₀ L (I + 4) (min xs.length ys.length) (fun i a b => xs[i]? = some a ∧ ys[i]? = some b) [(I + 4, "zip"), (I + 2, "tuple"), (I + 3, "tuple"), (I, "tuple_iterator"), (I + 1, "tuple_iterator")] [(l1, lo1), (l2, lo2)] h' →
      (∀ p ∈ news, p.1 < I) → (∀ p ∈ news, p.1 ∉ [I + 4, I + 2, I + 3, I, I + 1]) → Fr h₀ L h' m → News h₀ L h' news → Q (.ref (I + 4)) { s with heap := h' }) :
    wpAny (model prog w) A (call (.type "zip") [.ref l1, .ref l2]) Q E s := by
  have hax1 := N _ hm1
  have hax2 := N _ hm2
  have hl1 : s.heap.IsTuple l1 xs.toArray := ⟨lo1, hax1.1, hc1, k1, hd1⟩
  have hl2 : s.heap.IsTuple l2 ys.toArray := ⟨lo2, hax2.1, hc2, k2, hd2⟩
  have hlt1 : l1 < s.heap.objs.size := Heap.lt_size hax1.1
  have hlt2 : l2 < s.heap.objs.size := Heap.lt_size hax2.1
  have hLs : L < s.heap.objs.size := F.ns.lt
  have D : ZAp (s.heap.objs.size + 4) (s.heap.objs.size + 2) (s.heap.objs.size + 3) s.heap.objs.size (s.heap.objs.size + 1) l1 l2 := zap_new _ _ _ hlt1 hlt2
  refine call_zip_tt hl1 hl2 fun h' hz hsz hk => ?_
  have W := (walksZipT (prog := prog) (w := w) hh _ _ _ _ _ _ _ D xs.toArray ys.toArray).toU
  rw [List.size_toArray, List.size_toArray] at W
  refine h s.heap.objs.size h' ⟨⟨_, _, _, _, _, W, ?_, ?_, ?_, ?_, ?_, ?_, ?_, ?_⟩⟩ (fun p hp => Heap.lt_size (N p hp).1) (off_of (fun p hp => Heap.lt_size (N p hp).1) (by intro b hb; simp only [List.mem_cons, List.not_mem_nil, or_false] at hb; rcases hb with rfl | rfl | rfl | rfl | rfl <;> first | exact Nat.le_refl _ | exact Nat.le_add_right _ _)) (F.keeps hk) (N.grown hk)
  · rintro i vals ⟨x, y, hx, hy, rfl⟩
    exact ⟨_, _, rfl, by simpa using hx, by simpa using hy⟩
  · rintro i h ⟨hz, hTI, ⟨a, b, hTO⟩, ⟨o1, ho1, hc1, _⟩, ⟨o2, ho2, hc2, _⟩, _⟩
    have e1 : ∃ o : Obj, h.get? (s.heap.objs.size + 4) = some o ∧ o.cls = .type "zip" := ⟨_, hz, rfl⟩
    have e2 : ∃ o : Obj, h.get? (s.heap.objs.size + 2) = some o ∧ o.cls = .type "tuple" := ⟨_, hTI, rfl⟩
    have e3 : ∃ o : Obj, h.get? (s.heap.objs.size + 3) = some o ∧ o.cls = .type "tuple" := ⟨_, hTO, rfl⟩
    obtain ⟨q1, g1, c1⟩ := e1
    obtain ⟨q2, g2, c2⟩ := e2
    obtain ⟨q3, g3, c3⟩ := e3
    refine ⟨[(s.heap.objs.size + 4, q1), (s.heap.objs.size + 2, q2), (s.heap.objs.size + 3, q3), (s.heap.objs.size, o1), (s.heap.objs.size + 1, o2)],
      ⟨⟨rfl, c1⟩, ⟨rfl, c2⟩, ⟨rfl, c3⟩, ⟨rfl, hc1⟩, ⟨rfl, hc2⟩, trivial⟩, fun p hp => ?_⟩
    simp only [List.mem_cons, List.not_mem_nil, or_false] at hp
    rcases hp with rfl | rfl | rfl | rfl | rfl
    · exact g1
    · exact g2
    · exact g3
    · exact ho1
    · exact ho2
  · intro b hb
    simp only [List.map_cons, List.map_nil, List.mem_cons, List.not_mem_nil, or_false] at hb
    rcases hb with rfl | rfl | rfl | rfl | rfl
    · exact ⟨by simp, ktu_new F (Nat.le_add_right _ _)⟩
    · exact ⟨by simp, ktu_new F (Nat.le_add_right _ _)⟩
    · exact ⟨by simp, ktu_new F (Nat.le_add_right _ _)⟩
    · exact ⟨by simp, ktu_new F (Nat.le_refl _)⟩
    · exact ⟨by simp, ktu_new F (Nat.le_add_right _ _)⟩
  · intro b hb
    simp only [List.mem_cons, List.not_mem_nil, or_false] at hb
    simp only [List.map_cons, List.map_nil, List.mem_cons, List.not_mem_nil, or_false]
    rcases hb with rfl | rfl | rfl | rfl <;> simp
  · intro b hb
    simp only [List.mem_cons, List.not_mem_nil, or_false] at hb
    rcases hb with rfl | rfl | rfl | rfl | rfl | rfl | rfl
    · exact .inl (by simp)
    · exact .inl (by simp)
    · exact .inl (by simp)
    · exact .inl (by simp)
    · exact .inl (by simp)
    · exact .inr (.inl ⟨lo1, by simp⟩)
    · exact .inr (.inl ⟨lo2, by simp⟩)
  · exact hz
  · intro b hb
    simp only [List.mem_cons, List.not_mem_nil, or_false] at hb
    rw [hsz]
    rcases hb with rfl | rfl | rfl | rfl | rfl | rfl | rfl
    · exact Nat.add_lt_add_left (by decide) _
    · exact Nat.add_lt_add_left (by decide) _
    · exact Nat.add_lt_add_left (by decide) _
    · exact Nat.lt_add_of_pos_right (by decide)
    · exact Nat.add_lt_add_left (by decide) _
    · exact Nat.lt_add_right _ hlt1
    · exact Nat.lt_add_right _ hlt2
  · intro hI'
    simp only [List.mem_cons, List.not_mem_nil, or_false] at hI'
    rcases hI' with e | e | e | e | e | e | e
    · exact ktu_ne 4 hLs e
    · exact ktu_ne 2 hLs e
    · exact ktu_ne 3 hLs e
    · exact Nat.ne_of_lt hLs e
    · exact ktu_ne 1 hLs e
    · exact hax1.2.1 e.symm
    · exact hax2.2.1 e.symm

/-- a list of pairs that the ledger holds -/
theorem iter_pairs {l : Addr} {lo : Obj} {vs : List Value} {k : Nat} {Q : Value → Shared → Prop} (ps : List (Addr × Obj)) (xs : List (Value × Value)) (hh : A.handled = none) (F : Fr h₀ L s.heap m) (N : News h₀ L s.heap news) (hm : (l, lo) ∈ news) (hc : lo.cls = .type "list") (hd : lo.data = .seq vs.toArray k)
    (hps : ∀ p ∈ ps, p ∈ news) (hvs : ∀ (i : Nat) (v : Value), vs[i]? = some v → ∃ (T : Addr) (oT : Obj) (x y : Value) (kT : Nat), v = Value.ref T ∧ (T, oT) ∈ ps ∧ oT.cls = .type "tuple" ∧ oT.data = .seq #[x, y] kT ∧ xs[i]? = some (x, y))
    (h : ∀ I h', PSrc prog w A h₀ L I vs.length (fun (i : Nat) a b => xs[i]? = some (a, b)) [(I, "list_iterator")] ((l, lo) :: ps) h' → (∀ p ∈ news, p.1 < I) → (∀ p ∈ news, p.1 ∉ [I]) → Fr h₀ L h' m → News h₀ L h' news → Q (.ref I) { s with heap := h' }) :
    wpAny (model prog w) A (pyIter (.ref l)) Q E s := by
  have hax := N _ hm
  have hl : s.heap.IsList l vs.toArray := ⟨lo, hax.1, hc, k, hd⟩
  have hlt : l < s.heap.objs.size := Heap.lt_size hax.1
  have hLs : L < s.heap.objs.size := F.ns.lt
  refine wpAny_pyIter_list hl ?_
  have hk : ∀ b o, s.heap.get? b = some o → (s.heap.push { cls := .type "list_iterator", data := .fields #[.ref l, .int 0 0] }).get? b = some o := fun b o e => Heap.get?_push_of_some _ e
  let Ts : Nat → Addr := fun i => match vs[i]? with | some (.ref a) => a | _ => 0
  let vals : Nat → Array Value := fun i => match xs[i]? with | some (x, y) => #[x, y] | none => #[]
  have key : ∀ i, i < vs.length → ∃ oT x y, vs[i]? = some (.ref (Ts i)) ∧ (Ts i, oT) ∈ ps ∧ IsTup s.heap (Ts i) (vals i) ∧ xs[i]? = some (x, y) ∧ vals i = #[x, y] := by
    intro i hi
    obtain ⟨T, oT, x, y, kT, e, h1, h2, h3, h4⟩ := hvs i vs[i] (List.getElem?_eq_getElem hi)
    have e' : vs[i]? = some (.ref T) := by rw [List.getElem?_eq_getElem hi, e]
    have eT : Ts i = T := by show (match vs[i]? with | some (.ref a) => a | _ => 0) = T; rw [e']
    have ev : vals i = #[x, y] := by show (match xs[i]? with | some (x, y) => #[x, y] | none => #[]) = _; rw [h4]
    refine ⟨oT, x, y, by rw [eT]; exact e', by rw [eT]; exact h1, ?_, h4, ev⟩
    rw [eT, ev]
    exact ⟨oT, (N _ (hps _ h1)).1, h2, kT, h3⟩
  have W := WalksU.listOfTuples (prog := prog) (w := w) hh s.heap.objs.size l (Nat.ne_of_lt hlt) vs.toArray Ts vals (fun j hj => by
    obtain ⟨_, _, _, e, _⟩ := key j (by simpa using hj); simpa using e) (fun j hj => by
    obtain ⟨oT, _, _, _, e, _⟩ := key j (by simpa using hj)
    exact Nat.ne_of_lt (Heap.lt_size (N _ (hps _ e)).1))
  have W' := W.bound
  rw [List.size_toArray] at W'
  refine h s.heap.objs.size _ ⟨⟨_, _, _, _, _, W', ?_, ?_, ?_, ?_, ?_, ?_, ?_, ?_⟩⟩ (fun p hp => Heap.lt_size (N p hp).1) (off_of (fun p hp => Heap.lt_size (N p hp).1) (by intro b hb; simp only [List.mem_cons, List.not_mem_nil, or_false] at hb; subst hb; exact Nat.le_refl _)) (F.keeps hk) (N.grown hk)
  · rintro i vals' ⟨hi, rfl⟩
    obtain ⟨_, x, y, _, _, _, h4, ev⟩ := key i hi
    exact ⟨x, y, ev, h4⟩
  · rintro i h ⟨⟨oi, hoi, hic, _⟩, _⟩
    exact ⟨[(s.heap.objs.size, oi)], ⟨⟨rfl, hic⟩, trivial⟩, fun p hp => by rw [List.mem_singleton.mp hp]; exact hoi⟩
  · intro b hb
    have hb' : b = s.heap.objs.size := by simpa using hb
    subst hb'
    exact ⟨by simp, ktu_new F (Nat.le_refl _)⟩
  · intro b hb
    simpa using hb
  · intro b hb
    rcases List.mem_cons.mp hb with rfl | hb
    · exact .inl (by simp)
    · rcases List.mem_cons.mp hb with rfl | hb
      · exact .inr (.inl ⟨lo, by simp⟩)
      · obtain ⟨j, hj, rfl⟩ := List.mem_map.mp hb
        obtain ⟨oT, _, _, _, e, _⟩ := key j (by simpa using hj)
        exact .inr (.inl ⟨oT, by simp [e]⟩)
  · refine ⟨⟨_, Heap.get?_push_size _ rfl, rfl, rfl⟩, hl.at fun o e => hk l o e, fun j hj => ?_⟩
    obtain ⟨_, _, _, _, _, e, _⟩ := key j (by simpa using hj)
    exact Heap.IsTuple.at e fun o q => hk _ o q
  · intro b hb
    show b < (s.heap.push _).objs.size
    rw [Heap.size_push]
    rcases List.mem_cons.mp hb with rfl | hb
    · exact Nat.lt_succ_self _
    · rcases List.mem_cons.mp hb with rfl | hb
      · exact Nat.lt_succ_of_lt hlt
      · obtain ⟨j, hj, rfl⟩ := List.mem_map.mp hb
        obtain ⟨oT, _, _, _, e, _⟩ := key j (by simpa using hj)
        exact Nat.lt_succ_of_lt (Heap.lt_size (N _ (hps _ e)).1)
  · intro hI'
    rcases List.mem_cons.mp hI' with e | hb
    · exact Nat.ne_of_lt hLs e
    · rcases List.mem_cons.mp hb with e | hb
      · exact hax.2.1 e.symm
      · obtain ⟨j, hj, e'⟩ := List.mem_map.mp hb
        obtain ⟨oT, _, _, _, e, _⟩ := key j (by simpa using hj)
        exact (N _ (hps _ e)).2.1 e'
end
end Mine
end

section
open PySem PySem.W PyProof.Rows PySem.Spec PySem.Calls PyProof.Rows.LCg
set_option Elab.async false
set_option maxRecDepth 100000
set_option maxHeartbeats 4000000
namespace Mine

def PairTurn (prog : Program) (w : World) (A : Around) (h₀ : Heap) (L : Addr) (m : Str → Option Value) (env : Env) (elt : Expr) (ifs : List Expr) (x x₂ : Str) (scope : Scope) (cl : List (Str × Addr)) (s₂ : Shared)
    (n : Nat) (V : Nat → Value → Value → Prop) (ws : List (Addr × String)) (keep : List (Addr × Obj)) (J : Nat → List Value → List (Addr × Obj) → Prop) : Prop :=
  ∀ i v₁ v₂ C oC D m₂ ys its news₁ h tk (E' : Value → Shared → Prop), i < n → V i v₁ v₂ → J i ys news₁ → SubL keep news₁ → Objs ws its → NsObj oC m₂ → m₂ x = some v₁ → m₂ x₂ = some v₂ → Fr h₀ L h m →
      News h₀ L h (its ++ (C, oC) :: (D, lst ys) :: news₁) → (∀ p ∈ news₁, p.1 ≠ C ∧ p.1 ≠ D ∧ ∀ q ∈ its, p.1 ≠ q.1) → (C ≠ D ∧ ∀ q ∈ its, q.1 ≠ C ∧ q.1 ≠ D) →
      wpAny (model prog w) A (forIn ifs true fun c r => if r = true then do let ok ← isTrue c (compEnvC scope cl C env) (eval c (compEnvC scope cl C env)); pure (ForInStep.yield ok) else pure (ForInStep.yield r)) (fun ok s₃ =>
        if ok = true then wpAny (model prog w) A (eval elt (compEnvC scope cl C env)) (fun y s₄ => CEnd h₀ L m { s₂ with heap := h, toks := tk } its C oC D (lst ys) (fun nw => SubL keep nw ∧ J (i + 1) (ys ++ [y]) nw) s₄) E' s₃
        else CEnd h₀ L m { s₂ with heap := h, toks := tk } its C oC D (lst ys) (fun nw => SubL keep nw ∧ J (i + 1) ys nw) s₃) E' { s₂ with heap := h, toks := tk }

def PairComp (prog : Program) (w : World) (A : Around) (h₀ : Heap) (L : Addr) (m : Str → Option Value) (env : Env) (elt : Expr) (ifs : List Expr) (x x₂ : Str) (scope : Scope) (cl : List (Str × Addr))
    (Fin : Shared → List Value → List (Addr × Obj) → Prop) (xv : Value) (s₁ : Shared) : Prop :=
  ∃ (I : Addr) (n : Nat) (V : Nat → Value → Value → Prop) (ws : List (Addr × String)) (keep news : List (Addr × Obj)) (J : Nat → List Value → List (Addr × Obj) → Prop),
    xv = .ref I ∧ A.handled = none ∧ PSrc prog w A h₀ L I n V ws keep s₁.heap ∧ n ≤ sizeLine ∧ Fr h₀ L s₁.heap m ∧ News h₀ L s₁.heap news ∧ (∀ p ∈ news, p.1 ∉ ws.map (·.1)) ∧ SubL keep news ∧ J 0 [] news ∧
    PairTurn prog w A h₀ L m env elt ifs x x₂ scope cl s₁ n V ws keep J ∧ ∀ ys news', SubL keep news' → J n ys news' → Fin s₁ ys news'

section
variable {prog : Program} {w : World} {A : Around} {E : Value → Shared → Prop} {s : Shared} {h₀ : Heap} {L : Addr} {m : Str → Option Value} {env : Env}

theorem ListComp_pair {elt iter : Expr} {ifs : List Expr} {x x₂ : Str} {px px₂ tp : Pos} {tk : Nat} {scope : Scope} {cl : List (Str × Addr)} {pos : Pos} {Q : Value → Shared → Prop} (F₀ : Fr h₀ L s.heap m)
    (hclos : closureFor scope env = pure cl) (hcell : ∀ y ∈ scope.names, y.2 ≠ .cell) (hkind : scope.kind = .function)
    (hnames : ∀ y ∈ scope.names, y.2 = .local → scope.names.lookup y.1 = some .local) (hx : scope.names.lookup x = some .local) (hx₂ : scope.names.lookup x₂ = some .local) (hxx : x ≠ x₂)
    (h : wpAny (model prog w) A (eval iter env) (PairComp prog w A h₀ L m env elt ifs x x₂ scope cl (fun s₂ => FinE h₀ L m s₂ Q)) E s)
    (hs : ∀ x, foldedSetIterable iter env x = pure x := by intro _; rfl) :
    wpAny (model prog w) A (eval (.ListComp elt [⟨.Tuple [.Name x px, .Name x₂ px₂] tk tp, iter, ifs, 0⟩] scope pos) env) Q E s := by
  let _ := F₀
  rw [eval_ListComp]
  refine wpAny_comprehension_free (use := none) rfl hs hclos hkind hnames (wpAny_mono h (fun xv s₁ h₁ => ?_) fun _ _ e => e)
  obtain ⟨I, n, V, ws, keep, news, J, rfl, hh, S, hsz, F, N, off, hk, hj, turn, fin⟩ := h₁
  refine S.self ?_
  obtain ⟨fp, wr, Pt, St, Mid, W, hV, hobj, hws, hwr, hfp, hst, hfs, hLf⟩ := S.ex
  refine block_pair (V := V) J (KTurns.ofWalksU W) hsz hh W.self (fun i v h hp => ?_) hobj hws hwr hfp hcell hkind hx hx₂ hxx hst hfs F N hLf off hk hj (fun i v₁ v₂ C oC D m₂ ys its news₁ h tk E' => turn i v₁ v₂ C oC D m₂ ys its news₁ h tk E') ?_
  · obtain ⟨T, vals, rfl, hp, ht⟩ := hp
    obtain ⟨v₁, v₂, rfl, hv⟩ := hV i vals hp
    exact ⟨T, v₁, v₂, rfl, ht, hv⟩
  · intro D C h tk m' ys news' F' N' o1 hn hC₀ hD₀ hCL hDL hCD offC hk' hJ
    refine ⟨m', hn, fun h'' hs'' => fin ys news' hk' hJ D h'' tk (F'.change hs'' hCL hC₀) (fun p hp => ?_) o1⟩
    refine ⟨hs''.extBut _ _ ?_ (N' p hp).1, (N' p hp).2⟩
    rcases List.mem_cons.mp hp with rfl | hp
    · exact Ne.symm hCD
    · exact offC p hp

theorem Assign_ListComp_pair {elt iter : Expr} {ifs : List Expr} {x x₂ y : Str} {px px₂ tp py : Pos} {tk : Nat} {scope : Scope} {cl : List (Str × Addr)} {pos spos : Pos} {Q : Flow → Shared → Prop} (F₀ : Fr h₀ L s.heap m) (hLe : env.locals = L)
    (hsw : swapsWith (.ListComp elt [⟨.Tuple [.Name x px, .Name x₂ px₂] tk tp, iter, ifs, 0⟩] scope pos) (some (.Name y py)) spos.line env = pure true)
    (hclos : closureFor scope env = pure cl) (hcell : ∀ z ∈ scope.names, z.2 ≠ .cell) (hkind : scope.kind = .function)
    (hnames : ∀ z ∈ scope.names, z.2 = .local → scope.names.lookup z.1 = some .local) (hx : scope.names.lookup x = some .local) (hx₂ : scope.names.lookup x₂ = some .local) (hxx : x ≠ x₂)
    (hy : env.kindOf y = some .local) (hp : (env.scope.kind == .class || (env.scope.kind == .module && env.locals != env.globals)) = false)
    (h : wpAny (model prog w) A (eval iter env) (PairComp prog w A h₀ L m env elt ifs x x₂ scope cl (fun s₂ => FinA h₀ L m s₂ y Q)) E s)
    (hs : ∀ x, foldedSetIterable iter env x = pure x := by intro _; rfl) :
    wpAny (model prog w) A (exec (.Assign [.Name y py] (.ListComp elt [⟨.Tuple [.Name x px, .Name x₂ px₂] tk tp, iter, ifs, 0⟩] scope pos) spos) env) Q E s := by
  let _ := F₀
  subst hLe
  rw [exec_Assign_Name_used _ _ _ _ hsw]
  refine wpAny_bind (wpAny_standAt (wpAny_bind ?_))
  show wpAny _ A (do let _ ← comprehension (.ListComp elt [⟨.Tuple [.Name x px, .Name x₂ px₂] tk tp, iter, ifs, 0⟩] scope pos) scope env _ (newList []) false (eval iter env) (some (assign (.Name y py) env))) _ _ s
  refine wpAny_bind (wpAny_mono (wpAny_comprehension_free (use := some (assign (.Name y py) env)) (Q := fun _ s' => Q .next s') rfl hs hclos hkind hnames
    (wpAny_mono h (fun xv s₁ h₁ => ?_) fun _ _ e => e)) (fun _ s' hq => wpAny_pure (wpAny_pure hq)) fun _ _ e => e)
  obtain ⟨I, n, V, ws, keep, news, J, rfl, hh, S, hsz, F, N, off, hk, hj, turn, fin⟩ := h₁
  refine S.self ?_
  obtain ⟨fp, wr, Pt, St, Mid, W, hV, hobj, hws, hwr, hfp, hst, hfs, hLf⟩ := S.ex
  refine block_pair (V := V) J (KTurns.ofWalksU W) hsz hh W.self (fun i v h hp => ?_) hobj hws hwr hfp hcell hkind hx hx₂ hxx hst hfs F N hLf off hk hj (fun i v₁ v₂ C oC D m₂ ys its news₁ h tk E' => turn i v₁ v₂ C oC D m₂ ys its news₁ h tk E') ?_
  · obtain ⟨T, vals, rfl, hp, ht⟩ := hp
    obtain ⟨v₁, v₂, rfl, hv⟩ := hV i vals hp
    exact ⟨T, v₁, v₂, rfl, ht, hv⟩
  · intro D C h' tk m' ys news' F' N' o1 hn hC₀ hD₀ hCL hDL hCD offC hk' hJ
    show wpAny _ A (assign (.Name y py) env (.ref D)) _ _ _
    refine wpAny_assign_Name (wpAny_storeName_local hy F'.ns (fun h₂ hn₂ hs₂ => ?_) hp)
    have hL₀ : h₀.get? env.locals = none := Heap.get?_none_of_le F'.above
    have F₂ : Fr h₀ env.locals h₂ (fun z => if z = y then some (.ref D) else m z) := ⟨hn₂, fun b o e => hs₂.extBut b o (fun q => by rw [q, hL₀] at e; cases e) (F'.keep b o e), F'.above⟩
    refine ⟨m', hn.sameBut hs₂ hCL, fun h'' hs'' => fin ys news' hk' hJ D h'' _ (F₂.change hs'' hCL hC₀) (fun p hp => ?_) o1⟩
    have z : h₂.get? p.1 = some p.2 := hs₂.extBut _ _ (N' p hp).2.1 (N' p hp).1
    refine ⟨hs''.extBut _ _ ?_ z, (N' p hp).2⟩
    rcases List.mem_cons.mp hp with rfl | hp
    · exact Ne.symm hCD
    · exact offC p hp

/-- a for over any turns, by an invariant -/
theorem turns_inv {target : Expr} {body : List Stmt} {Q : Flow → Shared → Prop} {I : Addr} {fp wr : List Addr} {n : Nat} {P Md : Nat → Value → Heap → Prop} {St : Nat → Heap → Prop} {ws : List (Addr × String)} {keep : List (Addr × Obj)} {m₀ : Str → Option Value} {news : List (Addr × Obj)}
    (J : Nat → (Str → Option Value) → List (Addr × Obj) → Prop) (W : KTurns prog w A target I fp wr n P Md St)
    (hobj : ∀ i h, St i h → ∃ its, Objs ws its ∧ ∀ p ∈ its, h.get? p.1 = some p.2)
    (hws : ∀ b ∈ ws.map (·.1), b ∈ fp ∧ h₀.get? b = none) (hwr : ∀ b ∈ wr, b ∈ ws.map (·.1))
    (hfp : ∀ b ∈ fp, b ∈ ws.map (·.1) ∨ (∃ o, (b, o) ∈ keep) ∨ ∃ o, h₀.get? b = some o) (hL : env.locals ∉ fp) (off : ∀ p ∈ news, p.1 ∉ ws.map (·.1)) (hst : St 0 s.heap)
    (F : Fr h₀ env.locals s.heap m₀) (N : News h₀ env.locals s.heap news) (hk : SubL keep news) (hj : J 0 m₀ news)
    (turn : ∀ i v m₁ news₁ its h tk, i < n → P i v h → J i m₁ news₁ → SubL keep news₁ → Objs ws its → Fr h₀ env.locals h m₁ → News h₀ env.locals h (its ++ news₁) → (∀ p ∈ news₁, ∀ q ∈ its, p.1 ≠ q.1) →
      wpAny (model prog w) A (assign target env v) (fun _ s₂ => wpAny (model prog w) A (execs body env) (UnrPostW h₀ env.locals { s with heap := h, toks := tk } its (fun m' n' => SubL keep n' ∧ J (i + 1) m' n') Q) E s₂) E { s with heap := h, toks := tk })
    (done : ∀ m₁ news₁ h tk, J n m₁ news₁ → SubL keep news₁ → Fr h₀ env.locals h m₁ → News h₀ env.locals h news₁ → Q .next { s with heap := h, toks := tk }) :
    TurnsAt prog w A h₀ env target body Q E (.ref I) s := by
  refine ⟨I, fp, wr, n, P, Md, St, m₀, news, fun i m₁ n₁ => SubL keep n₁ ∧ (∀ p ∈ n₁, p.1 ∉ ws.map (·.1)) ∧ J i m₁ n₁, rfl, W, hL, fun b hb => (hws b (hwr b hb)).2, fun p hp hb => off p hp (hwr _ hb), hst, F, N, ⟨hk, off, hj⟩, ?_, ?_⟩
  · intro i v m₁ news₁ h₁ tk₁ own hin hPi hJ hoff hown hget hall hst₁ F₁ N₁
    obtain ⟨hk₁, off₁, hJ⟩ := hJ
    obtain ⟨its, hits, hval⟩ := hobj (i + 1) h₁ hst₁
    have hmap := hits.map
    have itw : ∀ q ∈ its, q.1 ∈ ws.map (·.1) := fun q hq => by rw [← hmap]; exact List.mem_map_of_mem hq
    have N₂ : News h₀ env.locals h₁ (its ++ news₁) := fun p hp => by
      rcases List.mem_append.mp hp with hp | hp
      · exact N₁ _ (List.mem_append_left _ (hall p.1 (hws _ (itw p hp)).1 (hws _ (itw p hp)).2 p.2 (hval p hp)))
      · exact N₁ _ (List.mem_append_right _ hp)
    have fin : ∀ s₃, UnrEndW h₀ env.locals { s with heap := h₁, toks := tk₁ } its (fun m' n' => SubL keep n' ∧ J (i + 1) m' n') s₃ →
        LoopStepU h₀ env.locals wr own (fun m₁ n₁ => SubL keep n₁ ∧ (∀ p ∈ n₁, p.1 ∉ ws.map (·.1)) ∧ J (i + 1) m₁ n₁) { s with heap := h₁, toks := tk₁ } .next s₃ := by
      rintro s₃ ⟨h', tk, m', news', e, F', N', ho, hk', r⟩
      have ow : ∀ p ∈ news', p.1 ∉ ws.map (·.1) := fun p hp hb => by
        rw [← hmap] at hb
        obtain ⟨q, hq, hqe⟩ := List.mem_map.mp hb
        exact ho p hp q hq hqe.symm
      refine ⟨rfl, h', tk, m', news', e, F', ?_, fun p hp hb => ow p hp (hwr _ hb), hk', ow, r⟩
      rintro ⟨pa, po⟩ hp
      rcases List.mem_append.mp hp with hp | hp
      · have h2 : h₁.get? pa = some po := hget _ hp
        have hz := N₁ _ (List.mem_append_left _ hp)
        rcases hfp pa (hown _ hp) with h3 | ⟨o, h3⟩ | ⟨o, h3⟩
        · have h4 : pa ∈ its.map (·.1) := by rw [hmap]; exact h3
          obtain ⟨⟨qa, qo⟩, hq, hqe⟩ := List.mem_map.mp h4
          have hqe' : qa = pa := hqe
          subst hqe'
          have h5 : h₁.get? qa = some qo := hval _ hq
          have h6 : qo = po := Option.some.inj (h5.symm.trans h2)
          subst h6
          exact N' _ (List.mem_append_left _ hq)
        · have h4 : h₁.get? pa = some o := (N₁ _ (List.mem_append_right _ (hk₁.mem _ h3))).1
          have h6 : o = po := Option.some.inj (h4.symm.trans h2)
          subst h6
          exact N' _ (List.mem_append_right _ (hk'.mem _ h3))
        · have := hz.2.2
          rw [h3] at this
          cases this
      · exact N' _ (List.mem_append_right _ hp)
    refine wpAny_mono (turn i v m₁ news₁ its h₁ tk₁ hin hPi hJ hk₁ hits F₁ N₂ fun p hp q hq e => off₁ p hp (e ▸ itw q hq)) (fun _ s₂ h₂ => wpAny_mono h₂ (fun f s₃ p => ?_) fun _ _ e => e) fun _ _ e => e
    cases f with
    | ret v => exact .ret p
    | brk => exact .brk p
    | next => exact .next (fin _ p)
    | cont => exact .cont (fin _ p)
  · intro h' tk m' news' F' N' _ hJ
    exact done m' news' h' tk hJ.2.2 hJ.1 F' N'

/-- a for over pairs -/
theorem pairs_inv {elts : List Expr} {k0 : Nat} {tp : Pos} {body : List Stmt} {Q : Flow → Shared → Prop} {I : Addr} {n : Nat} {V : Nat → Value → Value → Prop} {ws : List (Addr × String)} {keep : List (Addr × Obj)} {m₀ : Str → Option Value} {news : List (Addr × Obj)}
    (J : Nat → (Str → Option Value) → List (Addr × Obj) → Prop) (S : PSrc prog w A h₀ env.locals I n V ws keep s.heap) (off : ∀ p ∈ news, p.1 ∉ ws.map (·.1))
    (F : Fr h₀ env.locals s.heap m₀) (N : News h₀ env.locals s.heap news) (hk : SubL keep news) (hj : J 0 m₀ news)
    (turn : ∀ i T v₁ v₂ m₁ news₁ its h tk, i < n → IsTup h T #[v₁, v₂] → V i v₁ v₂ → J i m₁ news₁ → SubL keep news₁ → Objs ws its → Fr h₀ env.locals h m₁ → News h₀ env.locals h (its ++ news₁) → (∀ p ∈ news₁, ∀ q ∈ its, p.1 ≠ q.1) →
      wpAny (model prog w) A (assign (.Tuple elts k0 tp) env (.ref T)) (fun _ s₂ => wpAny (model prog w) A (execs body env) (UnrPostW h₀ env.locals { s with heap := h, toks := tk } its (fun m' n' => SubL keep n' ∧ J (i + 1) m' n') Q) E s₂) E { s with heap := h, toks := tk })
    (done : ∀ m₁ news₁ h tk, J n m₁ news₁ → SubL keep news₁ → Fr h₀ env.locals h m₁ → News h₀ env.locals h news₁ → Q .next { s with heap := h, toks := tk }) :
    TurnsAt prog w A h₀ env (.Tuple elts k0 tp) body Q E (.ref I) s := by
  obtain ⟨fp, wr, Pt, St, Mid, W, hV, hobj, hws, hwr, hfp, hst, hfs, hLf⟩ := S.ex
  refine turns_inv J (KTurns.ofWalksU W) hobj hws hwr hfp hLf off hst F N hk hj ?_ done
  rintro i v m₁ news₁ its h tk hi ⟨T, vals, rfl, hp, ht⟩ hJ hk₁ hits F₁ N₁ ho
  obtain ⟨v₁, v₂, rfl, hv⟩ := hV i vals hp
  exact turn i T v₁ v₂ m₁ news₁ its h tk hi ht hv hJ hk₁ hits F₁ N₁ ho
end
end Mine
end

section
open PySem PySem.W PyProof.Rows
set_option Elab.async false
set_option maxRecDepth 100000
set_option maxHeartbeats 1000000
namespace Mine

theorem memL {x : Addr × Obj} {a b : List (Addr × Obj)} (h : x ∈ a) : List.Mem x (a ++ b) := List.mem_append_left _ h
theorem memR {x : Addr × Obj} {a b : List (Addr × Obj)} (h : x ∈ b) : List.Mem x (a ++ b) := List.mem_append_right _ h

/-- a tuple as the machine makes it -/
abbrev tupO (vs : List Value) (k : Nat) : Obj := { cls := .type "tuple", data := .seq vs.toArray k }

/-- the values vs are pairs of ints that the ledger holds -/
inductive PairsAre (led : List (Addr × Obj)) : List Value → List (Int × Int) → Prop
  | nil : PairsAre led [] []
  | cons {T : Addr} {a b : Int} {ta tb : Tok} {k : Nat} {vs : List Value} {xs : List (Int × Int)} : (T, tupO [.int a ta, .int b tb] k) ∈ led → PairsAre led vs xs → PairsAre led (.ref T :: vs) ((a, b) :: xs)

theorem PairsAre.mono {led led' : List (Addr × Obj)} {vs : List Value} {xs : List (Int × Int)} (h : PairsAre led vs xs) (hs : ∀ p ∈ led, p ∈ led') : PairsAre led' vs xs := by
  induction h with
  | nil => exact .nil
  | cons hm _ ih => exact .cons (hs _ hm) ih
theorem PairsAre.snoc {led : List (Addr × Obj)} {T : Addr} {a b : Int} {ta tb : Tok} {k : Nat} (hm : (T, tupO [.int a ta, .int b tb] k) ∈ led) : ∀ {vs : List Value} {xs : List (Int × Int)}, PairsAre led vs xs → PairsAre led (vs ++ [.ref T]) (xs ++ [(a, b)])
  | _, _, .nil => .cons hm .nil
  | _, _, .cons h r => .cons h (PairsAre.snoc hm r)
theorem PairsAre.length {led : List (Addr × Obj)} {vs : List Value} {xs : List (Int × Int)} (h : PairsAre led vs xs) : vs.length = xs.length := by
  induction h with
  | nil => rfl
  | cons _ _ ih => simp [ih]
theorem PairsAre.at {led : List (Addr × Obj)} {vs : List Value} {xs : List (Int × Int)} (h : PairsAre led vs xs) : ∀ (i : Nat) (v : Value), vs[i]? = some v → ∃ (T : Addr) (a b : Int) (ta tb : Tok) (k : Nat), v = .ref T ∧ (T, tupO [.int a ta, .int b tb] k) ∈ led ∧ xs[i]? = some (a, b) := by
  induction h with
  | nil => intro i v h; simp at h
  | cons hm _ ih =>
    intro i v h
    cases i with
    | zero => simp at h; exact ⟨_, _, _, _, _, _, h.symm, hm, rfl⟩
    | succ i => simp at h; simpa using ih i v h

/-- the places and the values of the coefficients that are not nought -/
def mcs (ms : List Int) : List (Int × Int) := (ms.zipIdx.filter (fun p => p.1 != 0)).map (fun p => ((p.2 : Int), p.1))
theorem mcs_snoc (ms : List Int) (c : Int) : mcs (ms ++ [c]) = if c = 0 then mcs ms else mcs ms ++ [((ms.length : Int), c)] := by
  unfold mcs
  rw [List.zipIdx_append, List.filter_append, List.map_append]
  by_cases h : c = 0 <;> simp [h, List.zipIdx_cons]

end Mine
end

section
open PySem PySem.W PyProof.Rows PySem.Spec PySem.Calls PyProof.Rows.LCg
set_option Elab.async false
set_option maxRecDepth 100000
set_option maxHeartbeats 1000000
namespace Mine
section
variable {prog : Program} {w : World} {A : Around} {E : Value → Shared → Prop} {s : Shared} {h₀ : Heap} {L : Addr} {m : Str → Option Value} {env : Env}

theorem led_grow {its news₁ : List (Addr × Obj)} {p c d : Addr × Obj} : ∀ q ∈ its ++ c :: d :: p :: news₁, q ∈ p :: (its ++ c :: d :: news₁) := by
  intro q hq
  simp only [List.mem_append, List.mem_cons] at hq ⊢
  rcases hq with h | h | h | h | h <;> simp [h]

theorem ne_cls {news : List (Addr × Obj)} {h : Heap} {a b : Addr} {oa ob : Obj} (N : News h₀ L h news) (ha : (a, oa) ∈ news) (hb : (b, ob) ∈ news) (hc : oa.cls ≠ ob.cls) : @Ne Nat a b := by
  intro e
  subst e
  have h1 := (N _ ha).1
  rw [(N _ hb).1] at h1
  exact hc (congrArg Obj.cls (Option.some.inj h1.symm))

theorem led_mv3 {D a b c : Addr × Obj} {tl news : List (Addr × Obj)} : ∀ q ∈ D :: a :: b :: c :: (tl ++ news), q ∈ D :: (tl ++ a :: b :: c :: news) := by
  intro q hq
  simp only [List.mem_append, List.mem_cons] at hq ⊢
  rcases hq with h | h | h | h | h | h <;> simp [h]

/-- the scope of the comprehension in FQP.__init__ -/
theorem mc_turn {p1 p2 p3 p4 : Pos} {k0 : Nat} {scope : Scope} {cl : List (Str × Addr)} {I n : Nat} {c1 c2 : String} {l : Addr} {lo : Obj} {mvs : List Value} {ms : List Int} {N0 : List (Addr × Obj)}
    (hsc : scope.kind = .function) (hi : scope.names.lookup (Str.ofString "i") = some .local) (hc : scope.names.lookup (Str.ofString "c") = some .local) (hm : IntsAre mvs ms) (hk : (l, lo) ∈ N0) :
    PairTurn prog w A h₀ L m env (.Tuple [.Name (Str.ofString "i") p1, .Name (Str.ofString "c") p2] k0 p3) [.Name (Str.ofString "c") p4] (Str.ofString "i") (Str.ofString "c") scope cl s n
      (fun i a b => (∃ t, a = .int (i : Int) t) ∧ mvs[i]? = some b) [(I + 1, c1), (I, c2)] [(l, lo)]
      (fun i ys led => ∃ tl, led = tl ++ N0 ∧ PairsAre led ys (mcs (ms.take i)) ∧ ∀ q ∈ N0, ∀ p ∈ tl, q.1 < p.1) := by
  intro i v₁ v₂ C oC D m₂ ys its news₁ h tk E' hin hV hJ hkeep hits hoC hx hx₂ F N off ne
  obtain ⟨⟨t, rfl⟩, hv⟩ := hV
  obtain ⟨tl, rfl, hpa, hord⟩ := hJ
  obtain ⟨c, tc, rfl, hck⟩ := hm.at i v₂ hv
  have hC : (C, oC) ∈ its ++ (C, oC) :: (D, lst ys) :: (tl ++ N0) := List.mem_append_right _ (.head _)
  have ns : h.Ns C m₂ := hoC.ns (N _ hC).1
  have kx : (compEnvC scope cl C env).kindOf (Str.ofString "i") = some .local := lookup_relabel_local hi
  have kc : (compEnvC scope cl C env).kindOf (Str.ofString "c") = some .local := lookup_relabel_local hc
  have hs : mcs (ms.take (i + 1)) = if c = 0 then mcs (ms.take i) else mcs (ms.take i) ++ [((i : Int), c)] := by
    have hlt : i < ms.length := by
      rw [List.getElem?_eq_some_iff] at hck; exact hck.1
    rw [List.take_add_one, hck]
    have := mcs_snoc (ms.take i) c
    rw [List.length_take, Nat.min_eq_left (Nat.le_of_lt hlt)] at this
    exact this
  refine wpAny_tests_one (isTrue_plain (wpAny_Name (wpAny_loadName_local (by simp [compEnvC, relabel, hsc]) kc ns hx₂ ?_)))
  refine truthy_int ?_
  by_cases h0 : c = 0
  · subst h0
    refine ⟨h, tk, _, rfl, F, N, off, ⟨hkeep, tl, rfl, ?_, hord⟩⟩
    rw [hs, if_pos rfl]
    exact hpa
  · have hb : (c != 0) = true := by simpa using h0
    rw [hb, if_pos rfl]
    refine Tuple_ (spliced_cons (wpAny_Name (wpAny_loadName_local (by simp [compEnvC, relabel, hsc]) kx ns hx ?_)))
    refine spliced_cons (wpAny_Name (wpAny_loadName_local (by simp [compEnvC, relabel, hsc]) kc ns hx₂ ?_))
    refine spliced_nil ?_
    refine newTuple_N F N (fun h' F' N' => ?_) (by simp [PySem.sizeLine_eq])
    have big : ∀ q ∈ its ++ (C, oC) :: (D, lst ys) :: (tl ++ N0), q.1 < h.objs.size := fun q hq => Heap.lt_size (N q hq).1
    refine ⟨h', _, (h.objs.size, tupO [.int (i : Int) t, .int c tc] 0) :: (tl ++ N0), rfl, F', kst_newsOf N' (fun q hq => led_grow q hq), ?_, ⟨?_, (h.objs.size, tupO [.int (i : Int) t, .int c tc] 0) :: tl, rfl, ?_, ?_⟩⟩
    · intro p hp
      rcases List.mem_cons.mp hp with rfl | hp
      · exact ⟨Nat.ne_of_gt (big _ hC), Nat.ne_of_gt (big _ (List.mem_append_right _ (.tail _ (.head _)))), fun q hq => Nat.ne_of_gt (big q (List.mem_append_left _ hq))⟩
      · exact off p hp
    · exact ⟨.tail _ hkeep.1, trivial⟩
    · rw [hs, if_neg h0]
      exact PairsAre.snoc (.head _) (hpa.mono fun _ q => .tail _ q)
    · intro q hq p hp
      rcases List.mem_cons.mp hp with rfl | hp
      · exact big q (List.mem_append_right _ (.tail _ (.tail _ (List.mem_append_right _ hq))))
      · exact hord q hq p hp
end
end Mine
end

section
open PySem PySem.W PyProof.Rows PySem.Spec PySem.Calls PyProof.Rows.LCg
set_option Elab.async false
set_option maxRecDepth 100000
set_option maxHeartbeats 1000000
namespace Mine
section
variable {prog : Program} {w : World} {A : Around} {E : Value → Shared → Prop} {s : Shared} {h₀ : Heap} {L : Addr} {m : Str → Option Value} {env : Env} {news : List (Addr × Obj)} {l : Addr}

theorem len_T {us : List Value} {k c : Nat} {Q : Value → Shared → Prop} (N : News h₀ L s.heap news) (hm : (l, tupO us c) ∈ news) (e : us.length = k) (hfit : (k : Int) < 2 ^ 63)
    (h : Q (.int (k : Int) (s.toks + 1)) { s with toks := s.toks + 1 + 1 }) : wpAny (model prog w) A (call (.builtin "len") [.ref l]) Q E s := by
  have hl : IsTup s.heap l us.toArray := ⟨_, (N _ hm).1, rfl, c, rfl⟩
  have e2 : us.toArray.size = k := by rw [List.size_toArray, e]
  exact len_tuple hl (by rw [e2]; exact hfit) (by rw [e2]; exact h)

theorem item_L {value slice : Expr} {us : List Value} {c : Nat} {k : Int} {u : Tok} {x : Value} {Q : Value → Shared → Prop} (N : News h₀ L s.heap news) (hm : (l, listOf us.toArray c) ∈ news) (h0 : 0 ≤ k) (hfit : k < 2 ^ 63) (hx : us[k.toNat]? = some x) (h : Q x s)
    (hs : subscripted slice false (.ref l) (.int k u) = operate [.ref l, .int k u] (getItem (.ref l) (.int k u)) := by with_unfolding_all rfl) (hg : ∀ r, letTemporaryGo value (.ref l) r = pure () := by intro _; with_unfolding_all rfl) :
    wpAny (model prog w) A (subscriptTail value slice (.ref l) (.int k u)) Q E s := by
  have hl : s.heap.IsList l us.toArray := ⟨_, (N _ hm).1, rfl, c, rfl⟩
  exact item_list hl h0 hfit (by simpa using hx) h hs hg
end
end Mine
end

section
open PySem PySem.W PyProof.Rows PySem.Spec PySem.Calls PyProof.Rows.LCg
set_option Elab.async false
set_option maxRecDepth 100000
set_option maxHeartbeats 4000000
namespace Mine

/-- the table of a code object's own code objects, as the machine keeps it -/
abbrev TabO (ps : Array Value) : Obj := { cls := .none, data := .fields ps }
/-- the table holds nothing, or the one code object made at pos -/
def TabP (pos : Pos) (ps : Array Value) : Prop := ps = #[] ∨ ∃ q : Addr, ps = #[rawInt pos.line, rawInt pos.col, .ref q]
theorem TabP.triples {pos : Pos} {ps : Array Value} (h : TabP pos ps) : TriplesOk ps.toList := by
  rcases h with rfl | ⟨q, rfl⟩ <;> simp [TriplesOk, rawInt]

theorem led44 {D a b c t : Addr × Obj} {tl news : List (Addr × Obj)} : ∀ q ∈ t :: D :: a :: b :: c :: (tl ++ news), q ∈ D :: a :: b :: c :: (tl ++ t :: news) := by
  intro q hq
  simp only [List.mem_append, List.mem_cons] at hq ⊢
  rcases hq with h | h | h | h | h | h | h <;> simp [h]

theorem offs {h₀ h : Heap} {L P : Addr} {o : Obj} {news : List (Addr × Obj)} (N : News h₀ L h ((P, o) :: news)) (k : ∀ p ∈ news, @Ne Nat p.1 P) : ∀ p ∈ news, p.1 ≠ P := fun p hp => let _ := N; k p hp
theorem news_into {h₀ h h' : Heap} {L C P : Addr} {o : Obj} {news : List (Addr × Obj)} (N : News h₀ L h ((P, o) :: news)) (k : ∀ p ∈ news, p.1 ≠ P) (hk : ∀ b o, b ≠ P → h.get? b = some o → h'.get? b = some o) (hC : h.objs.size ≤ C) : News h₀ C h' news :=
  fun q hq => ⟨hk _ _ (k q hq) (N _ (.tail _ hq)).1, Nat.ne_of_lt (Nat.lt_of_lt_of_le (Heap.lt_size (N _ (.tail _ hq)).1) hC), (N _ (.tail _ hq)).2.2⟩

theorem leK_cons {h₀ h : Heap} {L P Kb : Addr} {o : Obj} {news : List (Addr × Obj)} (N : News h₀ L h ((P, o) :: news)) (a : P ≤ Kb) (k : ∀ p ∈ news, p.1 ≤ Kb) : ∀ p ∈ (P, o) :: news, p.1 ≤ Kb := fun p hp => by
  let _ := N
  rcases List.mem_cons.mp hp with rfl | hp
  · exact a
  · exact k p hp

theorem weakS {prog : Program} {w : World} {A : Around} {I : Addr} {fp wr : List Addr} {G : Array GenState → Array GenState → Prop} {n : Nat} {P P' : Nat → Value → Prop} {St : Nat → Shared → Prop} (W : WalksS prog w A I fp wr G n P St) (h : ∀ i v, P i v → P' i v) : WalksS prog w A I fp wr G n P' St where
  sub := W.sub
  grefl := W.grefl
  gtrans := W.gtrans
  frame := W.frame
  item := fun i s Q E hi st hQ => W.item i s Q E hi st fun v s' hv => hQ v s' (h i v hv)
  done := W.done
  self := W.self

structure CodeRow (h : Heap) (c P : Addr) : Prop where
  ex : ∃ (o : Obj) (vs : Array Value) (file : Str) (tf : Tok) (flags : Int) (tg : Tok) (inF : Bool) (text : Int) (tt : Tok), h.get? c = some o ∧ o.cls = .type "code" ∧ o.data = .fields vs ∧ vs[11]? = some (.ref P) ∧ vs.getD 11 .none = .ref P ∧ vs.getD 18 .none = .str file tf ∧
    vs.getD 7 .none = .int flags tg ∧ vs.getD 9 .none = .bool inF ∧ vs.getD 10 .none = .int text tt ∧ c ≠ P

theorem CodeRow.at {h₀ h : Heap} {c P : Addr} {ps : Array Value} (R : CodeRow h₀ c P) (hk : ∀ b o, h₀.get? b = some o → h.get? b = some o) (hP : h.get? P = some (TabO ps)) (ht : TriplesOk ps.toList) : h.IsCode c P ps ∧ h.TableAt c P ps := by
  obtain ⟨o, vs, file, tf, flags, tg, inF, text, tt, ho, hc, hd, h11, g11, h18, h7, h9, h10, hne⟩ := R.ex
  exact ⟨⟨o, vs, file, tf, flags, tg, inF, text, tt, _, hk _ _ ho, hd, g11, h18, h7, h9, h10, hP, rfl, ht, hne⟩, ⟨o, vs, hk _ _ ho, hc, hd, h11⟩, hP⟩

section
variable {prog : Program} {w : World} {A : Around} {E : Value → Shared → Prop} {s : Shared} {h₀ : Heap} {L : Addr} {m mg : Str → Option Value} {env : Env} {news : List (Addr × Obj)} {c P bm l : Addr} {ob : Obj} {ps : Array Value} {pos : Pos}

theorem ne_of_cls_TabO (N : News h₀ L s.heap ((P, TabO ps) :: news)) {lo : Array Value} {k : Nat} (hl : (l, listOf lo k) ∈ news) : l ≠ P := by
  intro e
  have h1 := (N _ (.tail _ hl)).1
  have h2 := (N (P, TabO ps) (.head _)).1
  rw [e] at h1
  rw [h1] at h2
  cases h2

theorem passing_all (n : Nat) : passing (fun _ => true) n 0 = List.range n := by
  unfold passing
  simp

theorem genexp_tab {elt iter : Expr} {x : Str} {px : Pos} {scope : Scope} {cl : List (Str × Addr)} {Q : Value → Shared → Prop} {vs : List Value} {k : Nat} (Fv : Nat → Value → Prop)
    (CR : CodeRow h₀ c P) (M : BMod h₀ env.globals mg bm ob) (hcode : env.code = .ref c) (hlim : h₀.NoLimit)
    (F : Fr h₀ L s.heap m) (N : News h₀ L s.heap ((P, TabO ps) :: news)) (hps : TabP pos ps) (G : AllBare s.gens) (hl : (l, listOf vs.toArray k) ∈ news) (hoff : ∀ p ∈ news, p.1 ≠ P)
    (hh : A.handled = none) (hco : scope.isCoroutine = false) (hclos : closureFor scope env = pure cl) (hcell : ∀ y ∈ scope.names, y.2 ≠ .cell) (h0 : scope.names.lookup (".0" : Str) = some NameKind.local)
    (hx : scope.names.lookup x = some .local) (hkind : scope.kind = .function) (hroom : A.depth < recursionLimit)
    (hiter : ∀ Q' : Value → Shared → Prop, Q' (.ref l) s → wpAny (model prog w) A (eval iter env) Q' E s)
    (helt : ∀ (code : Value) (C : Addr) (A' : Around) E' i v (t : Shared) m₂, A'.handled = none → A'.depth ≤ A.depth + 1 → A'.units ≤ A.units + 8 → vs[i]? = some v → s.heap.objs.size ≤ C → t.heap.Ns C m₂ → m₂ x = some v →
      (∀ b o, b ≠ P → s.heap.get? b = some o → t.heap.get? b = some o) →
      wpAny (model prog w) A' (eval elt (genEnv scope cl C code builtinsNs env)) (fun y s₃ => Fv i y ∧ Keeps t s₃) E' t)
    (hQ : ∀ (a Kb : Addr) ps' h g tk, TabP pos ps' → Fr h₀ L h m → News h₀ L h ((P, TabO ps') :: news) → AllBare g → Gen prog w A Kb a vs.length (fun j y => j < vs.length ∧ Fv j y) { s with heap := h, gens := g, toks := tk } → L ≤ Kb → (∀ p ∈ news, p.1 ≤ Kb) → P ≤ Kb →
      Q (.ref a) { s with heap := h, gens := g, toks := tk })
    (hs : ∀ x, genFold iter env x = pure x := by intro _; rfl) :
    wpAny (model prog w) A (eval (.GeneratorExp elt [⟨.Name x px, iter, [], 0⟩] scope pos) env) Q E s := by
  have hlN := N _ (.tail _ hl)
  have hls : s.heap.IsList l vs.toArray := ⟨_, hlN.1, rfl, k, rfl⟩
  have hlt : l < s.heap.objs.size := Heap.lt_size hlN.1
  have hPN := N (P, TabO ps) (.head _)
  have hP0 : h₀.get? P = none := hPN.2.2
  have hlP : l ≠ P := hoff _ hl
  refine wpAny_GeneratorExp_walksQD hh hco hclos hcell h0 hx hkind hroom (hiter _ ?_) hs
  refine wpAny_pyIter_list hls ?_
  generalize hH : s.heap.push { cls := .type "list_iterator", data := .fields #[.ref l, .int 0 0] } = H
  have up : ∀ b o, s.heap.get? b = some o → H.get? b = some o := fun b o e => hH ▸ Heap.get?_push_of_some _ e
  have hsz : H.objs.size = s.heap.objs.size + 1 := by rw [← hH, Heap.size_push]
  have hI : H.get? s.heap.objs.size = some { cls := .type "list_iterator", data := .fields #[.ref l, .int 0 0] } := hH ▸ Heap.get?_push_size _ rfl
  have FH : Fr h₀ L H m := F.keeps up
  refine ⟨hlim.keeps FH.keep, ?_⟩
  have after : ∀ (code : Value) h₃ tk₃ ps', Heap.ExtBut P H h₃ → H.objs.size ≤ h₃.objs.size → h₃.get? P = some (TabO ps') → TabP pos ps' →
      wpAny (model prog w) A (builtinsFor env.globals env.builtins) (fun bi s₄ =>
        ∃ I fp wr n₀ P St₀ pz F, Value.ref s.heap.objs.size = .ref I ∧ (∀ A' : Around, A'.handled = none → Walks prog w A' I fp wr n₀ P St₀) ∧ St₀ 0 s₄.heap ∧ (∀ b ∈ fp, b < s₄.heap.objs.size) ∧ s₄.heap.NoLimit ∧ cStatics ∉ wr ∧
          (∀ href : Heap, (∀ b o, s₄.heap.get? b = some o → href.get? b = some o) →
            QuietGenD prog w (genEnv scope cl s₄.heap.objs.size code bi env) x [] elt (List.range s₄.heap.objs.size) wr P pz F href (A.depth + 1) (A.units + 8)) ∧
          (∀ a h₅ tk gs, gs.bare = true → s₄.heap.objs.size < a → h₅.objs.size = a + 1 → (∀ b o, s₄.heap.get? b = some o → h₅.get? b = some o) →
            WalksS prog w A.in4 a (a :: s₄.heap.objs.size :: List.range s₄.heap.objs.size) (s₄.heap.objs.size :: wr) (GenOnlyQ s₄.gens.size) (passing pz n₀ 0).length
              (fun j y => ∃ i, (passing pz n₀ 0)[j]? = some i ∧ F i y) (GenAt prog w A.in4 a s₄.gens.size s₄.heap.objs.size (List.range s₄.heap.objs.size) wr pz n₀ F) →
            GenAt prog w A.in4 a s₄.gens.size s₄.heap.objs.size (List.range s₄.heap.objs.size) wr pz n₀ F 0 { s₄ with gens := s₄.gens.push gs, toks := tk, heap := h₅ } →
            Q (.ref a) { s₄ with gens := s₄.gens.push gs, toks := tk, heap := h₅ })) E { s with heap := h₃, toks := tk₃ } := by
    intro code h₃ tk₃ ps' hx₃ hle hP₃ hps'
    have keep3 : ∀ b o, h₀.get? b = some o → h₃.get? b = some o := fun b o e => hx₃ b o (fun q => by rw [q, hP0] at e; cases e) (FH.keep b o e)
    have M₃ := M.keeps keep3
    have hLP : L ≠ P := Ne.symm hPN.2.1
    have F₃ : Fr h₀ L h₃ m := ⟨FH.ns.at' fun o e => hx₃ L o hLP e, keep3, F.above⟩
    have hl₃ : h₃.NoLimit := hlim.keeps keep3
    have hIP : s.heap.objs.size ≠ P := Nat.ne_of_gt (Heap.lt_size hPN.1)
    have hcs : cStatics < s.heap.objs.size := let ⟨_, hn, _⟩ := hlim.keeps F.keep; hn.lt
    refine wpAny_builtinsFor M₃.ns M₃.name M₃.ne M₃.obj M₃.cls M₃.dict M₃.data ?_
    refine ⟨s.heap.objs.size, [s.heap.objs.size, l], [s.heap.objs.size], vs.toArray.size, _, _, fun _ => true, Fv, rfl, (fun A' hA => Walks.list hA _ _ (Nat.ne_of_lt hlt) vs.toArray),
      ⟨⟨_, hx₃ _ _ hIP hI, rfl, rfl⟩, hls.at fun o e => hx₃ _ _ hlP (up _ _ e)⟩, ?_, hl₃, ?_, ?_, ?_⟩
    · intro b hb
      refine Nat.lt_of_lt_of_le ?_ hle
      rw [hsz]
      rcases List.mem_cons.mp hb with rfl | hb
      · exact Nat.lt_succ_self _
      · rw [List.mem_singleton.mp hb]; exact Nat.lt_succ_of_lt hlt
    · intro hm
      exact Nat.ne_of_lt hcs (List.mem_singleton.mp hm)
    · intro href hhref
      refine ⟨fun A' E' i v t m₂ hA hD hU hP hn hm hkp => wpAny_tests_nil ⟨rfl, t.heap, t.toks, rfl, fun _ _ e => e⟩, fun A' E' i v t m₂ hA hD hU hP hp hn hm hkp => ?_⟩
      refine helt code _ A' E' i v t m₂ hA hD hU (by simpa using hP) (Nat.le_trans (by rw [hsz]; exact Nat.le_succ _) hle) hn hm fun b o hb e => ?_
      have hb2 : b < s.heap.objs.size := Heap.lt_size e
      exact hkp b (List.mem_range.mpr (Nat.lt_of_lt_of_le (by rw [hsz]; exact Nat.lt_succ_of_lt hb2) hle)) (fun hm' => Nat.ne_of_lt hb2 (List.mem_singleton.mp hm')) o (hhref b o (hx₃ b o hb (up b o e)))
    · intro a h₅ tk gs hgb hag hsz₅ hk₅ W hat
      have N₃ : News h₀ L h₃ ((P, TabO ps') :: news) := fun p hp => by
        rcases List.mem_cons.mp hp with rfl | hp
        · exact ⟨hP₃, hPN.2⟩
        · have z := N p (.tail _ hp)
          exact ⟨hx₃ _ _ (hoff _ hp) (up _ _ z.1), z.2⟩
      have hGen : Gen prog w A (s.heap.objs.size - 1) a vs.length (fun j y => j < vs.length ∧ Fv j y) { s with heap := h₅, gens := s.gens.push gs, toks := tk } := by
        rw [passing_all, List.length_range, List.size_toArray] at W
        refine ⟨_, _, _, _, weakS W fun j y hy => ?_, hat, (fun i s' st => st.1.typeIs), List.mem_cons_self, ?_, ?_⟩
        · obtain ⟨i, hi, hF⟩ := hy
          have hji : j < vs.length ∧ j = i := by
            obtain ⟨hlt2, he2⟩ := List.getElem?_eq_some_iff.mp hi
            rw [List.getElem_range] at he2
            exact ⟨by simpa using hlt2, he2⟩
          exact ⟨hji.1, hji.2 ▸ hF⟩
        · intro b hb
          show b < h₅.objs.size
          rw [hsz₅]
          rcases List.mem_cons.mp hb with rfl | hb
          · exact Nat.lt_succ_self _
          · rcases List.mem_cons.mp hb with rfl | hb
            · exact Nat.lt_succ_of_lt hag
            · exact Nat.lt_succ_of_lt (Nat.lt_trans (List.mem_range.mp hb) hag)
        · intro b hb
          have h1 : s.heap.objs.size - 1 < s.heap.objs.size := by
            have : 0 < s.heap.objs.size := Nat.lt_of_le_of_lt (Nat.zero_le _) hlt
            omega
          rcases List.mem_cons.mp hb with rfl | hb
          · exact Nat.lt_of_lt_of_le h1 (Nat.le_trans (by rw [hsz]; exact Nat.le_succ _) hle)
          · rw [List.mem_singleton.mp hb]; exact h1
      exact hQ a (s.heap.objs.size - 1) ps' h₅ _ tk hps' (F₃.keeps hk₅) (N₃.grown hk₅) (G.push hgb) hGen (Nat.le_sub_one_of_lt F.ns.lt) (fun p hp => Nat.le_sub_one_of_lt (Heap.lt_size (N p (.tail _ hp)).1)) (Nat.le_sub_one_of_lt (Heap.lt_size hPN.1))
  have hPH : H.get? P = some (TabO ps) := up _ _ hPN.1
  obtain ⟨C1, C2⟩ := CR.at FH.keep hPH hps.triples
  cases hnf : codeAmong pos ps.toList with
  | some c' => exact wpAny_genexprCode_hit hcode C1 hnf (after c' H s.toks ps (fun _ _ _ e => e) (Nat.le_refl _) hPH hps)
  | none =>
    refine wpAny_genexprCodeX hcode C1 C2 hnf fun c' h₃ tk₃ hx₃ hge hlt' _ _ htab₃ _ => after _ h₃ tk₃ _ hx₃ (Nat.le_trans hge (Nat.le_of_lt hlt')) htab₃.2 ?_
    rcases hps with rfl | ⟨q, rfl⟩
    · exact .inr ⟨c', by simp⟩
    · simp [codeAmong, rawInt] at hnf

/-- a tuple of what a generator yields -/
theorem tuple_Gen {a Kb : Addr} {n : Nat} {Fv : Nat → Value → Prop} {Q : Value → Shared → Prop} {led : List (Addr × Obj)} (F : Fr h₀ L s.heap m) (N : News h₀ L s.heap led) (G : AllBare s.gens) (X : Gen prog w A Kb a n Fv s) (hLK : L ≤ Kb) (hK : ∀ p ∈ led, p.1 ≤ Kb) (hsz : n ≤ sizeLine)
    (hQ : ∀ (D : Addr) h g tk (ys : List Value), ys.length = n → (∀ j v, ys[j]? = some v → Fv j v) → Fr h₀ L h m → News h₀ L h ((D, tupO ys 0) :: led) → AllBare g → (∀ p ∈ led, p.1 < D) → Q (.ref D) { s with heap := h, gens := g, toks := tk }) :
    wpAny (model prog w) A (call (.type "tuple") [.ref a]) Q E s := by
  obtain ⟨fp, wr, g, St, W, hst, hT, hI, hfp, hwr⟩ := X
  refine call_tuple_gen (hsz := hsz) W.in4_3 hT hst hfp hI fun s' acc hm hacc => ?_
  have F₁ : Fr h₀ L s'.heap m := F.moved hm fun b hb => Nat.lt_of_le_of_lt hLK (hwr b hb)
  have G₁ : AllBare s'.gens := G.movedS hm
  have N₁ : News h₀ L s'.heap led := fun p hp => ⟨hm.heap _ _ (fun hb => Nat.lt_irrefl _ (Nat.lt_of_lt_of_le (hwr _ hb) (hK p hp))) (N p hp).1, (N p hp).2⟩
  have e : s' = { s with heap := s'.heap, gens := s'.gens, toks := s'.toks } := by
    have h1 := hm.drawn
    have h2 := hm.os
    cases s'; cases s
    simp only at h1 h2
    subst h1 h2
    rfl
  have N₂ : News h₀ L (s'.heap.push (tupO acc.toList 0)) ((s'.heap.objs.size, tupO acc.toList 0) :: led) := by
    intro p hp
    rcases List.mem_cons.mp hp with rfl | hp
    · refine ⟨Heap.get?_push_size _ rfl, Nat.ne_of_gt F₁.ns.lt, ?_⟩
      cases e : h₀.get? s'.heap.objs.size with
      | none => rfl
      | some o => exact absurd (Heap.lt_size (F₁.keep _ _ e)) (Nat.lt_irrefl _)
    · exact ⟨Heap.get?_push_of_some _ (N₁ p hp).1, (N₁ p hp).2⟩
  have hq := hQ s'.heap.objs.size (s'.heap.push (tupO acc.toList 0)) s'.gens s'.toks acc.toList (by simpa using hacc.1) (fun j v hv => hacc.2 j v (by simpa using hv)) (F₁.push _) N₂ G₁ (fun p hp => Heap.lt_size (N₁ p hp).1)
  have e2 : ({ s' with heap := s'.heap.push { cls := .type "tuple", data := .seq acc } } : Shared) = { s with heap := s'.heap.push (tupO acc.toList 0), gens := s'.gens, toks := s'.toks } := by
    have h3 : tupO acc.toList 0 = { cls := .type "tuple", data := .seq acc } := by simp [tupO]
    rw [h3]
    exact (congrArg (fun z : Shared => ({ z with heap := s'.heap.push { cls := .type "tuple", data := .seq acc } } : Shared)) e)
  rw [e2]
  exact hq

/-- a tuple of a list -/
theorem tuple_list_N {l : Addr} {us : List Value} {k : Nat} {led : List (Addr × Obj)} {Q : Value → Shared → Prop} (F : Fr h₀ L s.heap m) (N : News h₀ L s.heap led) (hm : (l, listOf us.toArray k) ∈ led) (hsz : us.length ≤ sizeLine)
    (hQ : ∀ (D : Addr) h tk, Fr h₀ L h m → News h₀ L h ((D, tupO us 0) :: led) → (∀ p ∈ led, p.1 < D) → Q (.ref D) { s with heap := h, toks := tk }) :
    wpAny (model prog w) A (call (.type "tuple") [.ref l]) Q E s := by
  have hl : s.heap.IsList l us.toArray := ⟨_, (N _ hm).1, rfl, k, rfl⟩
  refine call_tuple_list (hsz := by simpa using hsz) hl fun h' hk => ?_
  have F₁ := F.keeps hk
  have N₁ := N.grown hk
  refine hQ h'.objs.size (h'.push (tupO us 0)) s.toks (F₁.push _) (fun p hp => ?_) (fun p hp => Heap.lt_size (N₁ p hp).1)
  rcases List.mem_cons.mp hp with rfl | hp
  · refine ⟨Heap.get?_push_size _ rfl, Nat.ne_of_gt F₁.ns.lt, ?_⟩
    cases e : h₀.get? h'.objs.size with
    | none => rfl
    | some o => exact absurd (Heap.lt_size (F₁.keep _ _ e)) (Nat.lt_irrefl _)
  · exact ⟨Heap.get?_push_of_some _ (N₁ p hp).1, (N₁ p hp).2⟩
theorem tuple_tup_N {l : Addr} {us : List Value} {k : Nat} {led : List (Addr × Obj)} {Q : Value → Shared → Prop} (N : News h₀ L s.heap led) (hm : (l, tupO us k) ∈ led) (hQ : Q (.ref l) s) :
    wpAny (model prog w) A (call (.type "tuple") [.ref l]) Q E s :=
  call_tuple_tup (items := us.toArray) ⟨_, (N _ hm).1, rfl, k, rfl⟩ hQ
end
end Mine
end

section
open PySem PySem.W PyProof.Rows
set_option Elab.async false
set_option maxRecDepth 100000
set_option maxHeartbeats 8000000
namespace Mine

abbrev gpos : Pos := ⟨30, 32, 30, 80⟩
/-- the view of the program that the walks use: nothing of its names, only what is absent -/
noncomputable def vw0 : Program := { hd.view_39 with main := { hd.view_39.main with body := [] } }
abbrev lo0 : List Str := [Str.ofString "_wall", Str.ofString "prime_field_inv", Str.ofString "deg", Str.ofString "FQP", Str.ofString "_law_worlds", Str.ofString "_law_parts", Str.ofString "_law_divided", Str.ofString "_law_factors", Str.ofString "law"]

abbrev TopV (mean : ExcName → Option Value) (mg mb : Str → Option Value) (h : Heap) : Prop := Top vw0 lo0 mean mg mb h

theorem fill_C0 (w : World) : hd.heap_39 w.params = hd.heap_39 w.params ∧ PySem.Challenge.rw_bb0062_01 = PySem.Challenge.rw_bb0062_01 := by
  k_fill
  exact ⟨rfl, rfl⟩
theorem row44 {w : World} {h₀ : Heap} (X : (hd.heap_39 w.params).In h₀) : CodeRow h₀ 46 44 := by
  have h := X 46 _ (by k_is)
  exact ⟨⟨_, _, _, _, _, _, _, _, _, h, rfl, rfl, rfl, rfl, rfl, rfl, rfl, rfl, by decide⟩⟩

/-- what comes back from a def that makes no FQP -/
def Ret (h₀ : Heap) (L : Addr) (m : Str → Option Value) (news : List (Addr × Obj)) (s : Shared) (Q : Value → Shared → Prop) (Out : List (Addr × Obj) → Value → Prop) : Prop :=
  ∀ r tl h' tk', Fr h₀ L h' m → News h₀ L h' (tl ++ news) → (∀ q ∈ news, ∀ p ∈ tl, p.1 ≠ q.1) → Out (tl ++ news) r → Q r { s with heap := h', toks := tk' }

def Spec (w : World) (f : Addr) (vs : List Value) (k : Nat) (P : List (Addr × Obj) → Prop) (Out : List (Addr × Obj) → Value → Prop) : Prop :=
  ∀ (mean : ExcName → Option Value) (mg mb : Str → Option Value) (dp un : Nat) (gd : Option (List Code)) (cn : Str) (cs : Scope) (a : Addr) (ccd : Value) (cl : List (Str × Addr)) (outer : List Env) (A₀ : Around) (base h₀ : Heap) (L : Addr) (m : Str → Option Value)
    (news : List (Addr × Obj)) (s : Shared) (Q E : Value → Shared → Prop),
    Below A₀ base outer h₀ → Fr h₀ L s.heap m → (hd.heap_39 w.params).In h₀ → News h₀ L s.heap news → TopV mean mg mb h₀ → cs.kind = .function → P news →
    dp + k < recursionLimit → un + 8 * k < cLine → Ret h₀ L m news s Q Out →
    wpAny (model PySem.Challenge.rw_bb0062_01.row.prog w) (ktrTop dp un gd cn cs L a ccd cl outer) (call (.ref f) vs) Q E s

/-- what comes back from a def that may make one: the table of __init__'s code may have grown, and generators have been made -/
def RetG (h₀ : Heap) (L : Addr) (m : Str → Option Value) (news : List (Addr × Obj)) (s : Shared) (Q : Value → Shared → Prop) (Out : List (Addr × Obj) → Value → Prop) : Prop :=
  ∀ r ps' tl h' g' tk', TabP gpos ps' → AllBare g' → Fr h₀ L h' m → News h₀ L h' ((44, TabO ps') :: (tl ++ news)) → (∀ q ∈ news, ∀ p ∈ tl, p.1 ≠ q.1) → (∀ p ∈ tl, p.1 ≠ (44 : Nat)) → Out (tl ++ news) r → Q r { s with heap := h', gens := g', toks := tk' }

def SpecG (w : World) (f : Addr) (vs : List Value) (k : Nat) (P : List (Addr × Obj) → Prop) (Out : List (Addr × Obj) → Value → Prop) : Prop :=
  ∀ (mean : ExcName → Option Value) (mg mb : Str → Option Value) (dp un : Nat) (gd : Option (List Code)) (cn : Str) (cs : Scope) (a : Addr) (ccd : Value) (cl : List (Str × Addr)) (outer : List Env) (A₀ : Around) (base h₀ : Heap) (L : Addr) (m : Str → Option Value)
    (ps : Array Value) (news : List (Addr × Obj)) (s : Shared) (Q E : Value → Shared → Prop),
    Below A₀ base outer h₀ → Fr h₀ L s.heap m → (hd.heap_39 w.params).In h₀ → TabP gpos ps → AllBare s.gens → News h₀ L s.heap ((44, TabO ps) :: news) → (∀ p ∈ news, p.1 ≠ (44 : Nat)) → TopV mean mg mb h₀ → cs.kind = .function → P news →
    dp + k < recursionLimit → un + 8 * k < cLine → RetG h₀ L m news s Q Out →
    wpAny (model PySem.Challenge.rw_bb0062_01.row.prog w) (ktrTop dp un gd cn cs L a ccd cl outer) (call (.ref f) vs) Q E s

end Mine
end

section
open PySem PySem.W PyProof.Rows PySem.Spec PySem.Calls PyProof.Rows.LCg
set_option Elab.async false
set_option maxRecDepth 100000
set_option maxHeartbeats 1000000
namespace Mine

/-- a mark at which the walk stands still -/
def Stop (p : Prop) : Prop := p
theorem Stop.un {p : Prop} (h : Stop p) : p := h
theorem Stop.go {p : Prop} (h : p) : Stop p := h

theorem specG_use {w : World} {f : Addr} {vs : List Value} {k : Nat} {P : List (Addr × Obj) → Prop} {Out : List (Addr × Obj) → Value → Prop} (S : SpecG w f vs k P Out)
  {mean : ExcName → Option Value} {mg mb : Str → Option Value} {dp un : Nat} {gd : Option (List Code)} {cn : Str} {cs : Scope} {a : Addr} {ccd : Value} {cl : List (Str × Addr)} {outer : List Env} {A₀ : Around} {base h₀ : Heap} {L : Addr} {m : Str → Option Value}
    {ps : Array Value} {news : List (Addr × Obj)} {s : Shared} {Q E : Value → Shared → Prop}
    (B : Below A₀ base outer h₀) (F : Fr h₀ L s.heap m) (X : (hd.heap_39 w.params).In h₀) (TP : TabP gpos ps) (GB : AllBare s.gens) (N : News h₀ L s.heap ((44, TabO ps) :: news)) (off : ∀ p ∈ news, p.1 ≠ (44 : Nat)) (T : TopV mean mg mb h₀) (hk : cs.kind = .function) (hP : P news)
    (hd : dp + k < recursionLimit) (hu : un + 8 * k < cLine) (ret : RetG h₀ L m news s Q Out) :
    wpAny (model PySem.Challenge.rw_bb0062_01.row.prog w) (ktrTop dp un gd cn cs L a ccd cl outer) (call (.ref f) vs) Q E s :=
  S _ _ _ _ _ _ _ _ _ _ _ _ _ _ _ _ _ _ _ _ _ _ B F X TP GB N off T hk hP hd hu ret

theorem led_ret {a b t c d e f : Addr × Obj} {tl news : List (Addr × Obj)} : ∀ q ∈ t :: ((a :: b :: c :: d :: e :: f :: tl) ++ news), q ∈ a :: b :: t :: c :: d :: e :: f :: (tl ++ news) := by
  intro q hq
  simp only [List.mem_append, List.mem_cons] at hq ⊢
  rcases hq with h | (h | h | h | h | h | h | h) | h <;> simp [h]
theorem led_ret5 {b t c d e f : Addr × Obj} {tl news : List (Addr × Obj)} : ∀ q ∈ t :: ((b :: c :: d :: e :: f :: tl) ++ news), q ∈ b :: t :: c :: d :: e :: f :: (tl ++ news) := by
  intro q hq
  simp only [List.mem_append, List.mem_cons] at hq ⊢
  rcases hq with h | (h | h | h | h | h | h) | h <;> simp [h]
theorem led_t2 {a b t : Addr × Obj} {news : List (Addr × Obj)} : ∀ q ∈ t :: a :: b :: news, q ∈ a :: b :: t :: news := by
  intro q hq
  simp only [List.mem_cons] at hq ⊢
  rcases hq with h | h | h | h <;> simp [h]
theorem led_a2 {a b t : Addr × Obj} {tl news : List (Addr × Obj)} : ∀ q ∈ t :: ((a :: b :: tl) ++ news), q ∈ t :: (tl ++ a :: b :: news) := by
  intro q hq
  simp only [List.mem_append, List.mem_cons] at hq ⊢
  rcases hq with h | (h | h | h) | h <;> simp [h]
theorem led_m2 {a b : Addr × Obj} {tl news : List (Addr × Obj)} : ∀ q ∈ tl ++ a :: b :: news, q ∈ (a :: b :: tl) ++ news := by
  intro q hq
  simp only [List.mem_append, List.mem_cons] at hq ⊢
  rcases hq with h | h | h | h <;> simp [h]
theorem led_a1 {a t : Addr × Obj} {tl news : List (Addr × Obj)} : ∀ q ∈ t :: ((a :: tl) ++ news), q ∈ t :: (tl ++ a :: news) := by
  intro q hq
  simp only [List.mem_append, List.mem_cons] at hq ⊢
  rcases hq with h | (h | h) | h <;> simp [h]
theorem led_m1 {a : Addr × Obj} {tl news : List (Addr × Obj)} : ∀ q ∈ tl ++ a :: news, q ∈ (a :: tl) ++ news := by
  intro q hq
  simp only [List.mem_append, List.mem_cons] at hq ⊢
  rcases hq with h | h | h <;> simp [h]
theorem led_t1 {a t : Addr × Obj} {news : List (Addr × Obj)} : ∀ q ∈ t :: a :: news, q ∈ a :: t :: news := by
  intro q hq
  simp only [List.mem_cons] at hq ⊢
  rcases hq with h | h | h <;> simp [h]
theorem off1 {D : Addr} : ∀ {l : List (Addr × Obj)}, Off1 D l → ∀ p ∈ l, p.1 ≠ D
  | [], _, _, hp => (nomatch hp)
  | q :: r, h, p, hp => by
    rcases List.mem_cons.mp hp with rfl | hp
    · exact h.1
    · exact off1 h.2 p hp

theorem intsAre_of_get : ∀ (vs : List Value) (ns : List Int), vs.length = ns.length → (∀ (j : Nat) (v : Value), vs[j]? = some v → ∃ (n : Int) (t : Tok), ns[j]? = some n ∧ v = Value.int n t) → IntsAre vs ns
  | [], [], _, _ => .nil
  | [], _ :: _, h, _ => by simp at h
  | _ :: _, [], h, _ => by simp at h
  | v :: vs, n :: ns, h, k => by
    obtain ⟨n', t, hn, rfl⟩ := k 0 v rfl
    cases hn
    exact .cons _ _ (intsAre_of_get vs ns (by simpa using h) fun j v hv => by simpa using k (j + 1) v (by simpa using hv))

theorem intsAre_snoc {ys : List Value} {ns : List Int} {i : Nat} {n : Int} {t : Tok} (h : IntsAre ys (ns.take i)) (hn : ns[i]? = some n) : IntsAre (ys ++ [.int n t]) (ns.take (i + 1)) := by
  rw [List.take_add_one, hn]
  exact h.append (.cons n t .nil)

theorem intsAre_gen {cvs zs : List Value} {cs : List Int} {f : Int → Int} (hc : IntsAre cvs cs) (h1 : zs.length = cvs.length) (h2 : ∀ (j : Nat) (v : Value), zs[j]? = some v → j < cvs.length ∧ ∃ (t : Tok) (c : Int), cs[j]? = some c ∧ v = Value.int (f c) t) : IntsAre zs (cs.map f) :=
  intsAre_of_get _ _ (by rw [h1, List.length_map, hc.length]) fun j v hv => by
    obtain ⟨_, t, c, hck, rfl⟩ := h2 j v hv
    exact ⟨_, t, by simp [hck], rfl⟩

theorem PairsAre.monoT {led led' : List (Addr × Obj)} {vs : List Value} {xs : List (Int × Int)} (h : PairsAre led vs xs) (hs : ∀ T us k, (T, tupO us k) ∈ led → (T, tupO us k) ∈ led') : PairsAre led' vs xs := by
  induction h with
  | nil => exact .nil
  | cons hm _ ih => exact .cons (hs _ _ _ hm) ih

/-- the dict of an FQP -/
abbrev fqD (w : World) (p : Int) (tp t1 : Tok) (D : Addr) (t2 : Tok) (D2 : Addr) (t3 : Tok) (D3 : Addr) (t4 : Tok) (n : Nat) (t5 t6 : Tok) : Obj :=
  dictOf [{ hash := PyData.keyHash w.params (Str.ofString "field_modulus"), key := .str (Str.ofString "field_modulus") t1, val := .int p tp },
    { hash := PyData.keyHash w.params (Str.ofString "mc_tuples"), key := .str (Str.ofString "mc_tuples") t2, val := .ref D },
    { hash := PyData.keyHash w.params (Str.ofString "coeffs"), key := .str (Str.ofString "coeffs") t3, val := .ref D2 },
    { hash := PyData.keyHash w.params (Str.ofString "modulus_coeffs"), key := .str (Str.ofString "modulus_coeffs") t4, val := .ref D3 },
    { hash := PyData.keyHash w.params (Str.ofString "degree"), key := .str (Str.ofString "degree") t5, val := .int (n : Int) t6 }] 5

theorem fmod_small {p : Int} (h : 2 ≤ p) (h2 : p ≤ 5) (cs : List Int) : ∀ c ∈ cs.map (·.fmod p), 0 ≤ c ∧ c < 8 := by
  intro c hc
  obtain ⟨a, _, rfl⟩ := List.mem_map.mp hc
  have h1 := Int.fmod_nonneg_of_pos a (by omega : 0 < p)
  have h3 := Int.fmod_lt_of_pos a (by omega : 0 < p)
  omega
theorem small_at {cs : List Int} (h : ∀ c ∈ cs, 0 ≤ c ∧ c < 8) {i : Nat} {c : Int} (e : cs[i]? = some c) : 0 ≤ c ∧ c < 8 := h c (List.mem_of_getElem? e)

/-- x is an FQP over p with the modulus ms and the coefficients cs -/
def FQ (w : World) (S : Addr → Prop) (led : List (Addr × Obj)) (x : Addr) (p : Int) (ms cs : List Int) : Prop :=
  ∃ (d D D2 D3 : Addr) (tp t1 t2 t3 t4 t5 t6 : Tok) (ys zs mvs : List Value) (k3 : Nat),
    (x, instObj 156 d) ∈ led ∧ (d, fqD w p tp t1 D t2 D2 t3 D3 t4 ms.length t5 t6) ∈ led ∧ (D, lst ys) ∈ led ∧ PairsAre led ys (mcs ms) ∧ (D2, tupO zs 0) ∈ led ∧ (D3, tupO mvs k3) ∈ led ∧ IntsAre zs cs ∧ IntsAre mvs ms ∧ cs.length = ms.length ∧ (∀ c ∈ cs, 0 ≤ c ∧ c < 8) ∧ (∀ c ∈ ms, 0 ≤ c ∧ c < 8) ∧ ¬ S D

theorem FQ.mono {w : World} {S : Addr → Prop} {led led' : List (Addr × Obj)} {x : Addr} {p : Int} {ms cs : List Int} (h : FQ w S led x p ms cs) (k : ∀ q ∈ led, q ∈ led') : FQ w S led' x p ms cs := by
  obtain ⟨d, D, D2, D3, tp, t1, t2, t3, t4, t5, t6, ys, zs, mvs, k3, h1, h2, h3, h4, h5, h6, r⟩ := h
  exact ⟨d, D, D2, D3, tp, t1, t2, t3, t4, t5, t6, ys, zs, mvs, k3, k _ h1, k _ h2, k _ h3, h4.mono k, k _ h5, k _ h6, r⟩
end Mine
end

section
open PySem PySem.W PyProof.Rows PySem.Spec PySem.Calls PyProof.Rows.LCg
set_option Elab.async false
set_option maxRecDepth 100000
set_option maxHeartbeats 4000000
namespace Mine

abbrev EnF (h : Heap) (e it : Addr) (i : Int) (a : Addr) (f : Bool) (old : Value) : Prop :=
  h.get? e = some { cls := .type "enumerate", dict := none, data := .fields #[rawInt a, .bool f, .ref it, rawInt i, .none, old], slots := #[] }

theorem enum_no_len : typeLookup (.type "enumerate") "__len__" = pure none := by rw [typeLookup_type, builtinLookup_eq_fast]; kernel_rfl
theorem enum_no_hint : typeLookup (.type "enumerate") "__length_hint__" = pure none := by rw [typeLookup_type, builtinLookup_eq_fast]; kernel_rfl

section
variable {prog : Program} {w : World} {A : Around} {E : Value → Shared → Prop} {s : Shared}

theorem alive_ {a : Addr} {o : Obj} {Q : Option Obj → Shared → Prop} (ho : s.heap.get? a = some o) (h : Q (some o) s) : wpAny (model prog w) A (loadIfAlive a) Q E s := by
  have h' : Q (s.heap.get? a) s := by rw [ho]; exact h
  exact fun _ _ _ => h'

theorem enum_next_out {e it a : Addr} {f : Bool} {oa : Obj} {fp : List Addr} {n i : Nat} {P : Nat → Value → Prop} {St : Nat → Heap → Prop} {old : Value} {Q : Option Value → Shared → Prop}
    (D : Draws prog w A.in1 it fp n P St) (he : EnF s.heap e it i a f old) (ha : s.heap.get? a = some oa) (hae : a ≠ e) (hai : a ≠ it) (hst : St i s.heap) (hlt : i < n) (hne : e ≠ it) (hef : e ∉ fp)
    (hQ : ∀ x h' tk, P i x → EnF h' e it ((i : Int) + 1) a true old → St (i + 1) h' →
      h'.get? s.heap.objs.size = some { cls := .type "tuple", data := .seq #[.int i tk, x] } → h'.objs.size = s.heap.objs.size + 1 →
      (∀ b o, b ≠ e → b ≠ it → s.heap.get? b = some o → h'.get? b = some o) → Q (some (.ref s.heap.objs.size)) { s with heap := h', toks := tk + 1 }) :
    wpAny (model prog w) A (pyNext (.ref e)) Q E s := by
  have hT : s.TypeIs (.ref e) "enumerate" := ⟨_, he, rfl⟩
  unfold pyNext
  refine wpAny_bind (wpAny_attempt (wpAny_callSpecial?_slot (name := Str.ofString "__next__") hT F.slot_enumerate_next
    (wpAny_call_entry F.slot_enumerate_next hT F.entry_enumerate_next ?_ (F.args_enumerate_next_1 _))))
  clear hT
  obtain ⟨hp, g, d, tk₀, os⟩ := s
  show wpAny _ _ (field (.ref e) 2 >>= _) _ _ _
  refine wpAny_bind (wpAny_field he rfl (x := .ref it) rfl ?_)
  refine wpAny_bind (D.item i _ _ _ hlt hst fun x h₁ tk hPx hit₁ hs₁ => ?_)
  replace hs₁ : Heap.SameBut it hp h₁ := hs₁
  have he₁ : EnF h₁ e it i a f old := (hs₁.2 e hne).trans he
  show wpAny _ _ (field (.ref e) 3 >>= _) _ _ ⟨h₁, g, d, tk, os⟩
  refine wpAny_bind (wpAny_field he₁ rfl (x := rawInt i) rfl ?_)
  show wpAny _ _ (field (.ref e) 4 >>= _) _ _ ⟨h₁, g, d, tk, os⟩
  refine wpAny_bind (wpAny_field he₁ rfl (x := .none) rfl ?_)
  show wpAny _ _ (mkInt i >>= _) _ _ ⟨h₁, g, d, tk, os⟩
  refine wpAny_bind (wpAny_mkInt ?_)
  show wpAny _ _ (setField (.ref e) 3 (rawInt ((i : Int) + 1)) >>= _) _ _ ⟨h₁, g, d, tk + 1, os⟩
  refine wpAny_bind (wpAny_setField_rec he₁ (by simp) fun h₂ he₂ hs₂ => ?_)
  replace hs₂ : Heap.SameBut e h₁ h₂ := hs₂
  replace he₂ : EnF h₂ e it ((i : Int) + 1) a f old := he₂
  show wpAny _ _ (setField (.ref e) 4 .none >>= _) _ _ ⟨h₂, g, d, tk + 1, os⟩
  refine wpAny_bind (wpAny_setField_rec he₂ (by simp) fun h₃ he₃ hs₃ => ?_)
  replace hs₃ : Heap.SameBut e h₂ h₃ := hs₃
  replace he₃ : EnF h₃ e it ((i : Int) + 1) a f old := he₃
  show wpAny _ _ (newTuple [.int i tk, x] >>= _) _ _ ⟨h₃, g, d, tk + 1, os⟩
  refine wpAny_bind (wpAny_newTuple ?_)
  have he₄ : EnF (h₃.push { cls := .type "tuple", data := .seq #[.int i tk, x] }) e it ((i : Int) + 1) a f old := Heap.get?_push_of_some _ he₃
  generalize hh₄ : h₃.push { cls := .type "tuple", data := .seq #[.int i tk, x] } = h₄ at he₄
  have hsz : h₃.objs.size = hp.objs.size := by rw [hs₃.1, hs₂.1, hs₁.1]
  have hel : e < hp.objs.size := Heap.lt_size he
  have ht₄ : h₄.get? hp.objs.size = some { cls := .type "tuple", data := .seq #[.int i tk, x] } := by rw [← hh₄, ← hsz]; exact Heap.get?_push_size _ rfl
  have hz₄ : h₄.objs.size = hp.objs.size + 1 := by rw [← hh₄, Heap.size_push, hsz]
  have hk₄ : ∀ b o, b ≠ e → b ≠ it → hp.get? b = some o → h₄.get? b = some o := fun b o hbe hbi hb => by
    rw [← hh₄]; exact Heap.get?_push_of_some _ (hs₃.extBut b o hbe (hs₂.extBut b o hbe (hs₁.extBut b o hbi hb)))
  have hit₄ : St (i + 1) h₄ := D.frame _ _ _ hit₁ fun b hb o y => by
    have hbe : b ≠ e := fun q => hef (q ▸ hb)
    rw [← hh₄]; exact Heap.get?_push_of_some _ (hs₃.extBut b o hbe (hs₂.extBut b o hbe y))
  have ha₄ : h₄.get? a = some oa := hk₄ a oa hae hai ha
  show wpAny _ _ (Builtin.SmallTypes.ownedTupleIsFree (.ref e) >>= _) _ _ ⟨h₄, g, d, tk + 1, os⟩
  rw [hsz]
  clear hh₄ he₃ hs₃ he₂ hs₂ he₁ hs₁ hit₁ hsz h₃ h₂ h₁
  refine wpAny_bind ?_
  unfold Builtin.SmallTypes.ownedTupleIsFree
  refine wpAny_bind (wpAny_field he₄ rfl (x := rawInt a) rfl ?_)
  show wpAny _ _ (loadIfAlive ((a : Int).toNat) >>= _) _ _ _
  rw [Int.toNat_natCast]
  refine wpAny_bind (alive_ ha₄ ?_)
  simp only [Option.isNone_some, Bool.false_eq_true, if_false]
  refine wpAny_bind (wpAny_field he₄ rfl (x := .bool f) rfl ?_)
  cases f with
  | true =>
    rw [if_neg (show ¬ ((Value.bool true != Value.bool true) = true) from Bool.false_ne_true)]
    refine wpAny_pure ?_
    simp only [Bool.false_eq_true, if_false]
    exact wpAny_pure ⟨_, rfl, wpAny_pure (hQ x h₄ tk hPx he₄ hit₄ ht₄ hz₄ hk₄)⟩
  | false =>
    rw [if_pos (show (Value.bool false != Value.bool true) = true from rfl)]
    refine wpAny_bind (wpAny_setField_rec he₄ (by simp) fun h₅ he₅ hs₅ => ?_)
    replace hs₅ : Heap.SameBut e h₄ h₅ := hs₅
    replace he₅ : EnF h₅ e it ((i : Int) + 1) a true old := he₅
    refine wpAny_pure ?_
    simp only [Bool.false_eq_true, if_false]
    refine wpAny_pure ⟨_, rfl, wpAny_pure (hQ x h₅ tk hPx he₅ ?_ ?_ ?_ ?_)⟩
    · exact D.frame _ _ _ hit₄ fun b hb o y => hs₅.extBut b o (fun q => hef (q ▸ hb)) y
    · exact hs₅.extBut _ _ (Nat.ne_of_gt hel) ht₄
    · show h₅.objs.size = hp.objs.size + 1
      rw [hs₅.1, hz₄]
    · exact fun b o hbe hbi hb => hs₅.extBut b o hbe (hk₄ b o hbe hbi hb)

theorem enum_end_out {e it a : Addr} {f : Bool} {fp : List Addr} {n : Nat} {P : Nat → Value → Prop} {St : Nat → Heap → Prop} {i : Int} {old : Value} {Q : Option Value → Shared → Prop}
    (D : Draws prog w A.in1 it fp n P St) (he : EnF s.heap e it i a f old) (hst : St n s.heap)
    (hQ : ∀ h', Heap.ExtBut it s.heap h' → Q none { s with heap := h' }) : wpAny (model prog w) A (pyNext (.ref e)) Q E s := by
  have hT : s.TypeIs (.ref e) "enumerate" := ⟨_, he, rfl⟩
  unfold pyNext
  refine wpAny_bind (wpAny_attempt (wpAny_callSpecial?_slot (name := Str.ofString "__next__") hT F.slot_enumerate_next
    (wpAny_call_entry F.slot_enumerate_next hT F.entry_enumerate_next ?_ (F.args_enumerate_next_1 _))))
  show wpAny _ _ (field (.ref e) 2 >>= _) _ _ _
  refine wpAny_bind (wpAny_field he rfl (x := .ref it) rfl ?_)
  refine wpAny_bind (D.done _ _ _ hst fun h' x he' hx' => ?_)
  obtain ⟨o, ho, hc⟩ := hx'
  refine wpAny_bind (wpAny_isInstance (T := "StopIteration") (b := true) ⟨o, ho, hc⟩ isSubtype_stop ?_)
  exact wpAny_pure (hQ _ he')

/-- the pairs that enumerate makes of ints -/
def enumP (cs : List Int) : List (Int × Int) := cs.zipIdx.map fun p => ((p.2 : Int), p.1)
theorem enumP_length (cs : List Int) : (enumP cs).length = cs.length := by simp [enumP]
theorem enumP_at {cs : List Int} {i : Nat} {c : Int} (h : cs[i]? = some c) : (enumP cs)[i]? = some ((i : Int), c) := by
  simp [enumP, List.getElem?_zipIdx, h]

theorem ext_loop {e it : Addr} {fp : List Addr} {vs : List Value} {cs : List Int} {St : Nat → Heap → Prop} {s₀ : Shared} {S : Addr} {res : Value} {R : Result → Shared → Prop}
    (D : Draws prog w A.in1.in1 it fp vs.length (fun i v => vs[i]? = some v) St) (hvs : IntsAre vs cs) (hne : e ≠ it) (hef : e ∉ fp) (hSf : S ∉ fp) (hSe : S ≠ e) (hSi : S ≠ it) (hif : it ∈ fp) (hsz : vs.length ≤ sizeLine)
    (hfp : ∀ b ∈ fp, b < s₀.heap.objs.size) (he0 : e < s₀.heap.objs.size) (hS0 : S < s₀.heap.objs.size)
    (hR : ∀ h' tk (acc : List Value) c tl, (∀ b o, b ≠ S → b ≠ e → b ≠ it → s₀.heap.get? b = some o → h'.get? b = some o) → h'.get? S = some { cls := .type "list", dict := none, data := .seq acc.toArray c, slots := #[] } →
      (∀ p ∈ tl, h'.get? p.1 = some p.2 ∧ s₀.heap.objs.size ≤ p.1) → PairsAre tl acc (enumP cs) → R (.ok (.ret res)) { s₀ with heap := h', toks := tk }) :
    ∀ (k i : Nat) (h : Heap) (tk : Nat) (acc : List Value) (c : Nat) (tl : List (Addr × Obj)), vs.length - i = k → i ≤ vs.length → St i h → s₀.heap.objs.size ≤ h.objs.size →
      ((∃ old, IsEnum h e it i old) ∨ ∃ a f old oa, EnF h e it i a f old ∧ h.get? a = some oa ∧ s₀.heap.objs.size ≤ a) →
      (∀ b o, b ≠ S → b ≠ e → b ≠ it → s₀.heap.get? b = some o → h.get? b = some o) → h.get? S = some { cls := .type "list", dict := none, data := .seq acc.toArray c, slots := #[] } →
      (∀ p ∈ tl, h.get? p.1 = some p.2 ∧ s₀.heap.objs.size ≤ p.1) → acc.length = i → PairsAre tl acc ((enumP cs).take i) →
      codeAny (model prog w) A (.builtin "list.extend.loop" ⟨[.ref S, .ref e, res], []⟩) R { s₀ with heap := h, toks := tk } := by
  have hit0 : it < s₀.heap.objs.size := hfp _ hif
  intro k
  induction k with
  | zero =>
    intro i h tk acc c tl hk hi hst hle hen hkp hS htl hlen hpa
    have hin : i = vs.length := by omega
    subst hin
    have fin : ∀ h', Heap.ExtBut it h h' → R (.ok (.ret res)) { s₀ with heap := h', toks := tk } := fun h' hx =>
      hR h' tk acc c tl (fun b o h1 h2 h3 q => hx b o h3 (hkp b o h1 h2 h3 q)) (hx _ _ hSi hS) (fun p hp => ⟨hx _ _ (Nat.ne_of_gt (Nat.lt_of_lt_of_le hit0 (htl p hp).2)) (htl p hp).1, (htl p hp).2⟩) (by
        rw [hvs.length, ← enumP_length cs, List.take_length] at hpa
        exact hpa)
    refine codeAny_builtin F.entry_extend_loop ?_
    rw [Around.under_plainId F.plain_extend_loop _]
    show wpAny _ A.in1 (pyNext (.ref e) >>= _) _ _ _
    rcases hen with ⟨old, he⟩ | ⟨a, f, old, oa, he, ha, hla⟩
    · exact wpAny_bind (wpAny_pyNext_enum_endD D he hst fun h' hx => wpAny_pure (fin h' hx))
    · exact wpAny_bind (enum_end_out D he hst fun h' hx => wpAny_pure (fin h' hx))
  | succ k ih =>
    intro i h tk acc c tl hk hi hst hle hen hkp hS htl hlen hpa
    have hlt : i < vs.length := by omega
    have next : ∀ x (h' : Heap) (tk' : Nat) (a' : Addr) f' old' oa', vs[i]? = some x → EnF h' e it ((i : Int) + 1) a' f' old' → h'.get? a' = some oa' → s₀.heap.objs.size ≤ a' → St (i + 1) h' →
        h'.get? h.objs.size = some { cls := .type "tuple", data := .seq #[.int i tk', x] } → h'.objs.size = h.objs.size + 1 → (∀ b o, b ≠ e → b ≠ it → h.get? b = some o → h'.get? b = some o) →
        wpAny (model prog w) A.in1 (updateSeq S (·.push (.ref h.objs.size)) >>= fun _ => again (.builtin "list.extend.loop" ⟨[.ref S, .ref e, res], []⟩))
          (fun fin s' => match fin with | .done f => R (.ok f) s' | .again c' => c'.quiet = true ∧ codeAny (model prog w) A c' R s') (fun e s' => R (.error e) s') { s₀ with heap := h', toks := tk' + 1 } := by
      intro x h' tk' a' f' old' oa' hx he' ha' hla' hst' hT hsz' hk'
      have hS' := hk' _ _ hSe hSi hS
      refine wpAny_bind ?_
      refine wpAny_updateSeq hS' rfl (wpAny_pure ⟨plainId_quiet F.plain_extend_loop _, ?_⟩) (by simp [hlen]; omega) (by simp [hlen]; omega)
      generalize hH : h'.update S (Obj.mapSeq (·.push (.ref h.objs.size))) = H
      have oth : ∀ b o, b ≠ S → h'.get? b = some o → H.get? b = some o := fun b o hb q => hH ▸ (Heap.get?_update_other _ _ (Ne.symm hb)).trans q
      have hHS := Heap.get?_update_self (Obj.mapSeq (·.push (Value.ref h.objs.size))) hS' rfl
      rw [hH] at hHS
      obtain ⟨cv, tc, rfl, hcv⟩ := hvs.at i x hx
      have hSn : S < h.objs.size := Nat.lt_of_lt_of_le hS0 hle
      have en : h.objs.size ≠ e := Nat.ne_of_gt (Nat.lt_of_lt_of_le he0 hle)
      have Hsz : H.objs.size = h.objs.size + 1 := by rw [← hH, Heap.size_update, hsz']
      obtain ⟨c2, hHS2⟩ : ∃ c2, H.get? S = some { cls := .type "list", dict := none, data := .seq (acc ++ [Value.ref h.objs.size]).toArray c2, slots := #[] } := ⟨_, hHS.trans (by rw [← List.push_toArray]; rfl)⟩
      refine ih (i + 1) H (tk' + 1) (acc ++ [.ref h.objs.size]) c2 ((h.objs.size, tupO [.int i tk', .int cv tc] 0) :: tl) (by omega) hlt (D.frame _ _ _ hst' fun b hb o q => oth b o (fun z => hSf (z ▸ hb)) q) (by rw [Hsz]; omega) (.inr ⟨a', f', old', oa', ?_, ?_, hla'⟩) ?_ ?_ ?_ (by simp [hlen]) ?_
      · have : ((i + 1 : Nat) : Int) = (i : Int) + 1 := by omega
        rw [this]
        exact oth _ _ (Ne.symm hSe) he'
      · exact oth _ _ (Nat.ne_of_gt (Nat.lt_of_lt_of_le hS0 hla')) ha'
      · exact fun b o h1 h2 h3 q => oth b o h1 (hk' b o h2 h3 (hkp b o h1 h2 h3 q))
      · exact hHS2
      · intro p hp
        rcases List.mem_cons.mp hp with rfl | hp
        · exact ⟨oth _ _ (Nat.ne_of_gt hSn) hT, hle⟩
        · have z := htl p hp
          exact ⟨oth _ _ (Nat.ne_of_gt (Nat.lt_of_lt_of_le hS0 z.2)) (hk' _ _ (Nat.ne_of_gt (Nat.lt_of_lt_of_le he0 z.2)) (Nat.ne_of_gt (Nat.lt_of_lt_of_le hit0 z.2)) z.1), z.2⟩
      · rw [List.take_add_one, enumP_at hcv]
        exact PairsAre.snoc (.head _) (hpa.mono fun _ q => .tail _ q)
    refine codeAny_builtin F.entry_extend_loop ?_
    rw [Around.under_plainId F.plain_extend_loop _]
    show wpAny _ A.in1 (pyNext (.ref e) >>= _) _ _ _
    rcases hen with ⟨old, he⟩ | ⟨a, f, old, oa, he, ha, hla⟩
    · refine wpAny_bind (wpAny_pyNext_enum_itemD D he hst hlt hne hef fun x h' tk' hPx he' hst' hT hsz' hk' => ?_)
      exact next x h' tk' h.objs.size false x _ hPx he' hT hle hst' hT hsz' hk'
    · refine wpAny_bind (enum_next_out D he ha (Nat.ne_of_gt (Nat.lt_of_lt_of_le he0 hla)) (Nat.ne_of_gt (Nat.lt_of_lt_of_le hit0 hla)) hst hlt hne hef fun x h' tk' hPx he' hst' hT hsz' hk' => ?_)
      exact next x h' tk' a true old oa hPx he' (hk' _ _ (Nat.ne_of_gt (Nat.lt_of_lt_of_le he0 hla)) (Nat.ne_of_gt (Nat.lt_of_lt_of_le hit0 hla)) ha) hla hst' hT hsz' hk'

theorem list_enum {h₀ : Heap} {L : Addr} {m : Str → Option Value} {led : List (Addr × Obj)} {e it l : Addr} {vs : List Value} {cs : List Int} {Q : Value → Shared → Prop} (hh : A.handled = none) (FF : Fr h₀ L s.heap m) (N : News h₀ L s.heap led)
    (X : RawEnum s.heap e it l vs) (hvs : IntsAre vs cs) (off : ∀ p ∈ led, p.1 ≠ e ∧ p.1 ≠ it) (hL : L ≠ e ∧ L ≠ it) (h0 : h₀.get? e = none ∧ h₀.get? it = none) (hsz : vs.length ≤ sizeLine)
    (hQ : ∀ (D : Addr) h tk (ys : List Value) c tl, Fr h₀ L h m → News h₀ L h ((D, listOf ys.toArray c) :: (tl ++ led)) → PairsAre tl ys (enumP cs) → (∀ p ∈ led, p.1 < D) → (∀ p ∈ tl, D < p.1) → Q (.ref D) { s with heap := h, toks := tk }) :
    wpAny (model prog w) A (call (.type "list") [.ref e]) Q E s := by
  have het : e < s.heap.objs.size := Heap.lt_size X.en
  have hit : it < s.heap.objs.size := let ⟨_, ho, _⟩ := X.ti; Heap.lt_size ho
  have hlt : l < s.heap.objs.size := let ⟨_, ho, _⟩ := X.tu; Heap.lt_size ho
  have hLs : L < s.heap.objs.size := FF.ns.lt
  have D := drawsTuple (prog := prog) (w := w) (A := A.in1.in1.in1) hh it l (Ne.symm X.ne3) vs.toArray
  simp only [List.size_toArray, List.getElem?_toArray] at D
  refine callType_codes (Q₁ := fun obj s₁ => obj = .ref s.heap.objs.size ∧ s₁ = { s with heap := s.heap.push { cls := .type "list", data := .seq #[] } }) F.called_list (F.typeCall_list_1 _) F.entry_list_init
    (code_list_new _ ⟨rfl, rfl⟩) fun obj s₁ h₁ => ?_
  obtain ⟨rfl, rfl⟩ := h₁
  generalize hSS : s.heap.objs.size = S at *
  have hS : (s.heap.push { cls := .type "list", data := .seq #[] }).get? S = some { cls := .type "list", data := .seq #[] } := hSS ▸ Heap.get?_push_size _ rfl
  have up : ∀ b o, s.heap.get? b = some o → (s.heap.push { cls := .type "list", data := .seq #[] }).get? b = some o := fun b o q => Heap.get?_push_of_some _ q
  refine ⟨⟨_, hS, rfl⟩, F.args_list_init_2 _ _, ?_⟩
  have hz : (s.heap.push { cls := .type "list", data := .seq #[] }).objs.size = S + 1 := by rw [Heap.size_push, hSS]
  generalize hH0 : s.heap.push { cls := .type "list", data := .seq #[] } = H0 at hS up hz
  show wpAny _ A.in1.in1 (do let old ← Builtin.List.listItems (.ref S); Builtin.List.listUpdate (.ref S) (fun _ => #[]); letGo old.toList.reverse; Builtin.List.listExtendWith (.ref S) (.ref e) .none) _ _ { s with heap := H0 }
  refine wpAny_bind ?_
  unfold Builtin.List.listItems
  refine wpAny_bind (wpAny_seqItems hS rfl (wpAny_pure ?_))
  show wpAny _ A.in1.in1 (updateSeq S (fun _ => #[]) >>= fun _ => letGo (#[] : Array Value).toList.reverse >>= fun _ => Builtin.List.listExtendWith (.ref S) (.ref e) .none) _ _ { s with heap := H0 }
  refine wpAny_bind (wpAny_updateSeq hS rfl ?_)
  have hS₂ := Heap.get?_update_self (Obj.mapSeq (fun _ => (#[] : Array Value))) hS rfl
  have oth : ∀ b o, b ≠ S → H0.get? b = some o → (H0.update S (Obj.mapSeq (fun _ => (#[] : Array Value)))).get? b = some o :=
    fun b o hb q => (Heap.get?_update_other _ _ (Ne.symm hb)).trans q
  have hz2 : (H0.update S (Obj.mapSeq (fun _ => (#[] : Array Value)))).objs.size = S + 1 := by rw [Heap.size_update, hz]
  generalize H0.update S (Obj.mapSeq (fun _ => (#[] : Array Value))) = H1 at hS₂ oth hz2
  refine wpAny_bind (wpAny_letGo ?_)
  have heS : e ≠ S := Nat.ne_of_lt het
  have hiS : it ≠ S := Nat.ne_of_lt hit
  have hlS : l ≠ S := Nat.ne_of_lt hlt
  have hen : IsEnum H1 e it 0 .none := oth _ _ heS (up _ _ X.en)
  have hT : Shared.TypeIs { s with heap := H1 } (.ref e) "enumerate" := ⟨_, hen, rfl⟩
  unfold Builtin.List.listExtendWith
  refine wpAny_bind (wpAny_typeOf hT ?_)
  have h1 : Builtin.List.listSameRef (.ref S) (.ref e) = false := by simp [Builtin.List.listSameRef, Ne.symm heS]
  have h2 : (Value.type "enumerate" == Value.type "list") = false := by decide
  have h3 : (Value.type "enumerate" == Value.type "tuple") = false := by decide
  simp only [h1, h2, h3, Bool.or_false, Bool.false_eq_true, if_false]
  refine wpAny_bind (wpAny_pyIter_enum hen ?_)
  refine wpAny_bind (wpAny_holding ?_)
  unfold Builtin.List.listLengthHint
  refine wpAny_bind (wpAny_specialOf hT enum_no_len ?_)
  show wpAny _ A.in1.in1 (specialOf (Value.ref e) (Str.ofString "__length_hint__") >>= _) _ _ _
  refine wpAny_bind (wpAny_specialOf hT enum_no_hint ?_)
  refine wpAny_pure ?_
  show wpAny _ A.in1.in1 (rule "list.extend.makes-room" >>= fun _ => Builtin.List.listTouch (.ref S) >>= fun _ =>
    again (.builtin "list.extend.loop" ⟨[.ref S, .ref e, .none], []⟩)) _ _ _
  refine wpAny_bind (wpAny_rule ?_)
  refine wpAny_bind ?_
  show wpAny _ A.in1.in1 (updateSeq S (·.push .none) >>= fun _ => updateSeq S (·.pop)) _ _ _
  refine wpAny_bind (wpAny_updateSeq hS₂ rfl ?_)
  have hS₃ := Heap.get?_update_self (Obj.mapSeq (·.push Value.none)) hS₂ rfl
  refine wpAny_updateSeq (hz := by seq_fits) hS₃ rfl ?_
  have hS₄ := Heap.get?_update_self (Obj.mapSeq (·.pop)) hS₃ rfl
  have oth2 : ∀ b o, b ≠ S → H1.get? b = some o → ((H1.update S (Obj.mapSeq (·.push Value.none))).update S (Obj.mapSeq (·.pop))).get? b = some o :=
    fun b o hb q => (Heap.get?_update_other _ _ (Ne.symm hb)).trans ((Heap.get?_update_other _ _ (Ne.symm hb)).trans q)
  have hz3 : ((H1.update S (Obj.mapSeq (·.push Value.none))).update S (Obj.mapSeq (·.pop))).objs.size = S + 1 := by rw [Heap.size_update, Heap.size_update, hz2]
  obtain ⟨c4, hS5⟩ : ∃ c4, ((H1.update S (Obj.mapSeq (·.push Value.none))).update S (Obj.mapSeq (·.pop))).get? S = some { cls := .type "list", dict := none, data := .seq ([] : List Value).toArray c4, slots := #[] } := ⟨_, hS₄⟩
  generalize (H1.update S (Obj.mapSeq (·.push Value.none))).update S (Obj.mapSeq (·.pop)) = H2 at hS5 oth2 hz3
  have all : ∀ b o, s.heap.get? b = some o → H2.get? b = some o := fun b o q => oth2 b o (Nat.ne_of_lt (hSS ▸ Heap.lt_size q)) (oth b o (Nat.ne_of_lt (hSS ▸ Heap.lt_size q)) (up b o q))
  refine wpAny_pure ⟨plainId_quiet F.plain_extend_loop _, ?_⟩
  have hl0 : S < S + 1 := Nat.lt_succ_self _
  refine ext_loop (s₀ := { s with heap := H2 }) D hvs X.ne1 (by simp [X.ne1, X.ne2]) (by simp [Ne.symm hiS, Ne.symm hlS]) (Ne.symm heS) (Ne.symm hiS) (by simp) hsz ?_ ?_ ?_ ?_ vs.length 0 H2 s.toks [] c4 [] (by omega) (Nat.zero_le _)
    ⟨X.ti.at fun o q => all _ _ q, X.tu.at fun o q => all _ _ q⟩ (Nat.le_refl _) (.inl ⟨.none, all _ _ X.en⟩) (fun _ _ _ _ _ q => q) hS5 (fun _ h => nomatch h) rfl .nil
  · intro b hb
    show b < H2.objs.size
    rw [hz3]
    simp only [List.mem_cons, List.not_mem_nil, or_false] at hb
    rcases hb with rfl | rfl
    · exact Nat.lt_succ_of_lt hit
    · exact Nat.lt_succ_of_lt hlt
  · show e < H2.objs.size
    rw [hz3]; exact Nat.lt_succ_of_lt het
  · show S < H2.objs.size
    rw [hz3]; exact hl0
  · intro h' tk acc c tl hkp hSf htl hpa
    have hkeep : ∀ b o, b ≠ e → b ≠ it → s.heap.get? b = some o → h'.get? b = some o := fun b o q1 q2 q => hkp b o (Nat.ne_of_lt (hSS ▸ Heap.lt_size q)) q1 q2 (all b o q)
    have hge : ∀ p ∈ tl, S < p.1 := fun p hp => by
      have := (htl p hp).2
      have hz4 : ({ s with heap := H2 } : Shared).heap.objs.size = S + 1 := hz3
      rw [hz4] at this
      exact this
    have none0 : ∀ b, S ≤ b → h₀.get? b = none := fun b hb => by
      cases q : h₀.get? b with
      | none => rfl
      | some o => exact absurd (Heap.lt_size (FF.keep _ _ q)) (by rw [hSS]; exact Nat.not_lt.mpr hb)
    refine ⟨rfl, hQ S h' tk acc c tl ⟨FF.ns.at fun o q => hkeep _ _ hL.1 hL.2 q, fun b o q => hkeep _ _ (fun z => by rw [z, h0.1] at q; cases q) (fun z => by rw [z, h0.2] at q; cases q) (FF.keep _ _ q), FF.above⟩ ?_ hpa (fun p hp => hSS ▸ Heap.lt_size (N p hp).1) hge⟩
    intro p hp
    rcases List.mem_cons.mp hp with rfl | hp
    · exact ⟨hSf, Nat.ne_of_gt hLs, none0 _ (Nat.le_refl _)⟩
    · rcases List.mem_append.mp hp with hp | hp
      · exact ⟨(htl p hp).1, Nat.ne_of_gt (Nat.lt_trans hLs (hge p hp)), none0 _ (Nat.le_of_lt (hge p hp))⟩
      · exact ⟨hkeep _ _ (off p hp).1 (off p hp).2 (N p hp).1, (N p hp).2⟩

theorem list_enumT {h₀ : Heap} {L : Addr} {m : Str → Option Value} {led : List (Addr × Obj)} {I l : Addr} {vs : List Value} {cs : List Int} {Q : Value → Shared → Prop} (hh : A.handled = none) (FF : Fr h₀ L s.heap m) (N : News h₀ L s.heap led)
    (X : RawEnum s.heap (I + 1) I l vs) (hvs : IntsAre vs cs) (hLI : L < I) (l1 : ∀ p ∈ led, p.1 < I) (hsz : vs.length ≤ sizeLine)
    (hQ : ∀ (D : Addr) h tk (ys : List Value) c tl, Fr h₀ L h m → News h₀ L h ((D, listOf ys.toArray c) :: (tl ++ led)) → PairsAre tl ys (enumP cs) → (∀ p ∈ led, p.1 < D) → (∀ p ∈ tl, D < p.1) → Q (.ref D) { s with heap := h, toks := tk }) :
    wpAny (model prog w) A (call (.type "list") [.ref (I + 1)]) Q E s :=
  list_enum hh FF N X hvs (fun p hp => ⟨Nat.ne_of_lt (Nat.lt_succ_of_lt (l1 p hp)), Nat.ne_of_lt (l1 p hp)⟩) ⟨Nat.ne_of_lt (Nat.lt_succ_of_lt hLI), Nat.ne_of_lt hLI⟩
    ⟨Heap.get?_none_of_le (Nat.le_trans FF.above (Nat.le_of_lt (Nat.lt_succ_of_lt hLI))), Heap.get?_none_of_le (Nat.le_trans FF.above (Nat.le_of_lt hLI))⟩ hsz hQ
end
end Mine
end

section
namespace Mine
/-- the program's arithmetic as plain functions -/
def addAt (b : List Int) (k : Nat) (x : Int) : List Int := b.set k (b.getD k 0 + x)
def subAt (b : List Int) (k : Nat) (x : Int) : List Int := b.set k (b.getD k 0 - x)
def mulIn (b : List Int) (i : Nat) (a : Int) (ys : List (Int × Int)) : List Int := ys.foldl (fun b p => addAt b (i + p.1.toNat) (a * p.2)) b
def mulOut (b : List Int) (xs ys : List (Int × Int)) : List Int := xs.foldl (fun b p => mulIn b p.1.toNat p.2 ys) b
def redIn (b : List Int) (e : Nat) (top : Int) (ms : List (Int × Int)) : List Int := ms.foldl (fun b p => subAt b (e + p.1.toNat) (top * p.2)) b
/-- the exponents from n - 1 down to 0 -/
def redOut (b : List Int) (ms : List (Int × Int)) : Nat → List Int
  | 0 => b
  | n + 1 => redOut (redIn b.dropLast n (b.getLastD 0) ms) ms n
theorem addAt_length (b : List Int) (k : Nat) (x : Int) : (addAt b k x).length = b.length := List.length_set ..
theorem subAt_length (b : List Int) (k : Nat) (x : Int) : (subAt b k x).length = b.length := List.length_set ..
theorem mulIn_length (ys : List (Int × Int)) : ∀ (b : List Int) (i : Nat) (a : Int), (mulIn b i a ys).length = b.length := by
  induction ys with
  | nil => intro b i a; rfl
  | cons p ys ih => intro b i a; exact (ih (addAt b (i + p.1.toNat) (a * p.2)) i a).trans (addAt_length ..)
theorem mulOut_length (ys xs : List (Int × Int)) : ∀ (b : List Int), (mulOut b xs ys).length = b.length := by
  induction xs with
  | nil => intro b; rfl
  | cons p xs ih => intro b; exact (ih (mulIn b p.1.toNat p.2 ys)).trans (mulIn_length ..)
theorem redIn_length (ms : List (Int × Int)) : ∀ (b : List Int) (e : Nat) (t : Int), (redIn b e t ms).length = b.length := by
  induction ms with
  | nil => intro b i a; rfl
  | cons p ys ih => intro b i a; exact (ih (subAt b (i + p.1.toNat) (a * p.2)) i a).trans (subAt_length ..)
theorem mulIn_snoc (b : List Int) (i : Nat) (a : Int) (ys : List (Int × Int)) (p : Int × Int) : mulIn b i a (ys ++ [p]) = addAt (mulIn b i a ys) (i + p.1.toNat) (a * p.2) := by simp [mulIn]
theorem mulOut_snoc (b : List Int) (xs ys : List (Int × Int)) (p : Int × Int) : mulOut b (xs ++ [p]) ys = mulIn (mulOut b xs ys) p.1.toNat p.2 ys := by simp [mulOut]
theorem redIn_snoc (b : List Int) (i : Nat) (a : Int) (ys : List (Int × Int)) (p : Int × Int) : redIn b i a (ys ++ [p]) = subAt (redIn b i a ys) (i + p.1.toNat) (a * p.2) := by simp [redIn]
/-- the product of two elements of the ring modulo p and the polynomial ms -/
def mulF (p : Int) (ms : List (Int × Int)) (d : Nat) (xs ys : List (Int × Int)) : List Int := (redOut (mulOut (List.replicate (2 * d - 1) 0) xs ys) ms (d - 1)).map (Int.fmod · p)
/-- one turn of the long division's inner loop: the first n places -/
def divIn (left : List Int) (off : Nat) (share : Int) (low : List Int) (n : Nat) : List Int := (List.range n).foldl (fun l k => subAt l (off + k) (share * low.getD k 0)) left
theorem divIn_succ (left : List Int) (off : Nat) (share : Int) (low : List Int) (n : Nat) : divIn left off share low (n + 1) = subAt (divIn left off share low n) (off + n) (share * low.getD n 0) := by simp [divIn, List.range_succ]
theorem divIn_length (left : List Int) (off : Nat) (share : Int) (low : List Int) : ∀ n, (divIn left off share low n).length = left.length
  | 0 => rfl
  | n + 1 => by rw [divIn_succ, subAt_length, divIn_length left off share low n]
def divLoop (p : Int) (low : List Int) : Nat → List Int → List Int → List Int × List Int
  | 0, left, out => (left, out)
  | n + 1, left, out =>
    if left.length < low.length then (left, out)
    else
      let share := (left.getLastD 0).fmod p
      divLoop p low n (divIn left (left.length - low.length) share low low.length).dropLast (share :: out)
/-- the quotient, if the division leaves nothing -/
def divF (p : Int) (high low : List Int) : Option (List Int) :=
  let r := divLoop p low (high.length + 1) high []
  if (r.1.filter fun c => c.fmod p != 0) = [] then some r.2 else none
end Mine
end

section
open PySem PySem.W PyProof.Rows PySem.Spec PySem.Calls PyProof.Rows.LCg
set_option Elab.async false
set_option maxRecDepth 100000
set_option maxHeartbeats 4000000
namespace Mine

/-- where a turn of a loop may end: the generators may have grown -/
def EndG (h₀ : Heap) (L : Addr) (s₁ : Shared) (its : List (Addr × Obj)) (rest : Array GenState → (Str → Option Value) → List (Addr × Obj) → Prop) (s₂ : Shared) : Prop :=
  ∃ h' g' tk m' news', s₂ = { s₁ with heap := h', gens := g', toks := tk } ∧ Fr h₀ L h' m' ∧ News h₀ L h' (its ++ news') ∧ (∀ p ∈ news', ∀ q ∈ its, p.1 ≠ q.1) ∧ rest g' m' news'
def PostG (h₀ : Heap) (L : Addr) (s₁ : Shared) (its : List (Addr × Obj)) (rest : Array GenState → (Str → Option Value) → List (Addr × Obj) → Prop) (Q : Flow → Shared → Prop) (f : Flow) (s₂ : Shared) : Prop :=
  match f with
  | .ret v => Q (.ret v) s₂
  | .brk => Q .next s₂
  | _ => EndG h₀ L s₁ its rest s₂

def TurnsG (prog : Program) (w : World) (A : Around) (h₀ : Heap) (env : Env) (target : Expr) (body : List Stmt) (Q : Flow → Shared → Prop) (E : Value → Shared → Prop) (it : Value) (s₂ : Shared) : Prop :=
  ∃ (I : Addr) (fp wr : List Addr) (n : Nat) (P Md : Nat → Value → Heap → Prop) (St : Nat → Heap → Prop) (ws : List (Addr × String)) (keep : List (Addr × Obj)) (m₀ : Str → Option Value) (news : List (Addr × Obj)) (J : Nat → Array GenState → (Str → Option Value) → List (Addr × Obj) → Prop),
    it = .ref I ∧ KTurns prog w A target I fp wr n P Md St ∧ (∀ i h, St i h → ∃ its, Objs ws its ∧ ∀ p ∈ its, h.get? p.1 = some p.2) ∧ (∀ b ∈ ws.map (·.1), b ∈ fp ∧ h₀.get? b = none) ∧ (∀ b ∈ wr, b ∈ ws.map (·.1)) ∧
    (∀ b ∈ fp, b ∈ ws.map (·.1) ∨ (∃ o, (b, o) ∈ keep) ∨ ∃ o, h₀.get? b = some o) ∧ env.locals ∉ fp ∧ (∀ p ∈ news, p.1 ∉ ws.map (·.1)) ∧ St 0 s₂.heap ∧ Fr h₀ env.locals s₂.heap m₀ ∧ News h₀ env.locals s₂.heap news ∧ SubL keep news ∧ J 0 s₂.gens m₀ news ∧
    (∀ i v m₁ news₁ its h g tk, i < n → P i v h → J i g m₁ news₁ → SubL keep news₁ → Objs ws its → Fr h₀ env.locals h m₁ → News h₀ env.locals h (its ++ news₁) → (∀ p ∈ news₁, ∀ q ∈ its, p.1 ≠ q.1) →
      wpAny (model prog w) A (assign target env v) (fun _ s₃ => wpAny (model prog w) A (execs body env) (PostG h₀ env.locals { s₂ with heap := h, gens := g, toks := tk } its (fun g' m' n' => SubL keep n' ∧ J (i + 1) g' m' n') Q) E s₃) E { s₂ with heap := h, gens := g, toks := tk }) ∧
    (∀ m₁ news₁ h g tk, J n g m₁ news₁ → SubL keep news₁ → Fr h₀ env.locals h m₁ → News h₀ env.locals h news₁ → Q .next { s₂ with heap := h, gens := g, toks := tk })

section
variable {prog : Program} {w : World} {A : Around} {E : Value → Shared → Prop} {s : Shared} {env : Env} {h₀ : Heap} {target : Expr} {body : List Stmt} {Q : Flow → Shared → Prop}

theorem For_gens {iter : Expr} {pos : Pos} {m : Str → Option Value} (_F : Fr h₀ env.locals s.heap m)
    (h : wpAny (model prog w) A (eval iter env) (fun xv s₁ => wpAny (model prog w) A (pyIter xv) (fun it s₂ => TurnsG prog w A h₀ env target body Q E it s₂) E s₁) E s)
    (hs : ∀ x, foldedSetIterable iter env x = pure x := by intro _; rfl)
    (hE : PassesOwn (model prog w) A env E := by passes_own) :
    wpAny (model prog w) A (exec (.For target iter body [] pos) env) Q E s := by
  refine wpAny_For (wpAny_mono h (fun xv s₁ h₁ => wpAny_mono h₁ (fun it s₂ h₂ => ?_) fun _ _ e => e) fun _ _ e => e) hs
  obtain ⟨I, fp, wr, n, P, Md, St, ws, keep, m₀, news, J, rfl, W, hobj, hws, hwr, hfp, hL, off, hst, F, N, hk, hj, turn, done⟩ := h₂
  have hLw : env.locals ∉ wr := fun h => hL (W.sub _ h)
  have hwr0 : ∀ b ∈ wr, h₀.get? b = none := fun b hb => (hws b (hwr b hb)).2
  have old : ∀ b o, h₀.get? b = some o → b ∉ wr := fun b o e hb => by rw [hwr0 b hb] at e; cases e
  refine codeAny_forLoop_any
    (fun k s' => ∃ h' g' tk m' news' i, s' = { s₂ with heap := h', gens := g', toks := tk } ∧ St i h' ∧ Fr h₀ env.locals h' m' ∧ News h₀ env.locals h' news' ∧ (∀ p ∈ news', p.1 ∉ ws.map (·.1)) ∧ SubL keep news' ∧ J i g' m' news' ∧ i ≤ n ∧ k = n + 1 - i) ?_ (n + 1)
    ⟨s₂.heap, s₂.gens, s₂.toks, m₀, news, 0, rfl, hst, F, N, off, hk, hj, Nat.zero_le _, rfl⟩
  rintro k s' ⟨h', g', tk, m', news', i, rfl, hst', F', N', off', hk', hJ, hi, rfl⟩
  have next : ∀ h₁ : Heap, (∀ b o, b ∉ wr → h'.get? b = some o → h₁.get? b = some o) → Fr h₀ env.locals h₁ m' ∧ News h₀ env.locals h₁ news' := fun h₁ hk₁ =>
    ⟨⟨F'.ns.at' fun o e => hk₁ _ o hLw e, fun b o e => hk₁ b o (old b o e) (F'.keep b o e), F'.above⟩, fun p hp => ⟨hk₁ _ _ (fun hb => off' p hp (hwr _ hb)) (N' p hp).1, (N' p hp).2⟩⟩
  by_cases hlt : i < n
  · refine W.item i _ _ _ hlt hst' fun v h₁ tk₁ hMd hk₁ => ?_
    refine W.go i v _ _ _ hMd fun h₂ hP hst₂ hk₂ => ?_
    obtain ⟨F₂, N₂⟩ := next h₂ fun b o hb x => hk₂ b o hb (hk₁ b o hb x)
    obtain ⟨its, hits, hval⟩ := hobj (i + 1) h₂ hst₂
    have hmap := hits.map
    have itw : ∀ q ∈ its, q.1 ∈ ws.map (·.1) := fun q hq => by rw [← hmap]; exact List.mem_map_of_mem hq
    have N₃ : News h₀ env.locals h₂ (its ++ news') := fun p hp => by
      rcases List.mem_append.mp hp with hp | hp
      · exact ⟨hval p hp, fun e => hL (e ▸ (hws _ (itw p hp)).1), (hws _ (itw p hp)).2⟩
      · exact N₂ p hp
    have fin : ∀ s₃, EndG h₀ env.locals { s₂ with heap := h₂, gens := g', toks := tk₁ } its (fun g'' m'' n'' => SubL keep n'' ∧ J (i + 1) g'' m'' n'') s₃ →
        ∃ k', k' < n + 1 - i ∧ ∃ h' g' tk m' news' j, s₃ = { s₂ with heap := h', gens := g', toks := tk } ∧ St j h' ∧ Fr h₀ env.locals h' m' ∧ News h₀ env.locals h' news' ∧ (∀ p ∈ news', p.1 ∉ ws.map (·.1)) ∧ SubL keep news' ∧ J j g' m' news' ∧ j ≤ n ∧ k' = n + 1 - j := by
      rintro s₃ ⟨h₄, g₄, tk₄, m₄, news₄, e, F₄, N₄, ho, hk₄, r⟩
      refine ⟨n + 1 - (i + 1), by omega, h₄, g₄, tk₄, m₄, news₄, i + 1, e, ?_, F₄, fun p hp => N₄ p (List.mem_append_right _ hp), fun p hp hb => ?_, hk₄, r, hlt, rfl⟩
      · refine W.frame _ _ _ hst₂ fun b hb o eo => ?_
        rcases hfp b hb with h3 | ⟨o', h3⟩ | ⟨o', h3⟩
        · rw [← hmap] at h3
          obtain ⟨q, hq, hqe⟩ := List.mem_map.mp h3
          obtain ⟨qa, qo⟩ := q
          have hqe' : qa = b := hqe
          subst hqe'
          have h5 : h₂.get? qa = some qo := hval _ hq
          have h6 : qo = o := Option.some.inj (h5.symm.trans eo)
          subst h6
          exact (N₄ _ (List.mem_append_left _ hq)).1
        · have h4 : h₂.get? b = some o' := (N₂ _ (hk'.mem _ h3)).1
          have h6 : o' = o := Option.some.inj (h4.symm.trans eo)
          subst h6
          exact (N₄ _ (List.mem_append_right _ (hk₄.mem _ h3))).1
        · have q := F₂.keep b o' h3
          have h6 : o' = o := Option.some.inj (q.symm.trans eo)
          subst h6
          exact F₄.keep b o' h3
      · rw [← hmap] at hb
        obtain ⟨q, hq, hqe⟩ := List.mem_map.mp hb
        exact ho p hp q hq hqe.symm
    refine wpAny_mono (turn i v m' news' its h₂ g' tk₁ hlt hP hJ hk' hits F₂ N₃ fun p hp q hq e => off' p hp (e ▸ itw q hq)) (fun _ s₃ h₃ => wpAny_passesOwn hE (wpAny_mono h₃ (fun f s₄ p => ?_) fun _ _ e => e)) hE
    cases f with
    | ret v => exact p
    | brk => exact p
    | next => exact fin _ p
    | cont => exact fin _ p
  · have hin : i = n := by omega
    subst hin
    refine W.done _ _ _ hst' fun h₁ tk₁ hk₁ => wpAny_execs_nil ?_
    obtain ⟨F₁, N₁⟩ := next h₁ hk₁
    exact done m' news' h₁ g' tk₁ hJ hk' F₁ N₁

/-- a for over pairs, by an invariant -/
theorem pairsG {elts : List Expr} {k0 : Nat} {tp : Pos} {I : Addr} {n : Nat} {V : Nat → Value → Value → Prop} {ws : List (Addr × String)} {keep : List (Addr × Obj)} {m₀ : Str → Option Value} {news : List (Addr × Obj)}
    (J : Nat → Array GenState → (Str → Option Value) → List (Addr × Obj) → Prop) (S : PSrc prog w A h₀ env.locals I n V ws keep s.heap) (off : ∀ p ∈ news, p.1 ∉ ws.map (·.1))
    (F : Fr h₀ env.locals s.heap m₀) (N : News h₀ env.locals s.heap news) (hk : SubL keep news) (hj : J 0 s.gens m₀ news)
    (turn : ∀ i T v₁ v₂ m₁ news₁ its h g tk, i < n → IsTup h T #[v₁, v₂] → V i v₁ v₂ → J i g m₁ news₁ → SubL keep news₁ → Objs ws its → Fr h₀ env.locals h m₁ → News h₀ env.locals h (its ++ news₁) → (∀ p ∈ news₁, ∀ q ∈ its, p.1 ≠ q.1) →
      wpAny (model prog w) A (assign (.Tuple elts k0 tp) env (.ref T)) (fun _ s₃ => wpAny (model prog w) A (execs body env) (PostG h₀ env.locals { s with heap := h, gens := g, toks := tk } its (fun g' m' n' => SubL keep n' ∧ J (i + 1) g' m' n') Q) E s₃) E { s with heap := h, gens := g, toks := tk })
    (done : ∀ m₁ news₁ h g tk, J n g m₁ news₁ → SubL keep news₁ → Fr h₀ env.locals h m₁ → News h₀ env.locals h news₁ → Q .next { s with heap := h, gens := g, toks := tk }) :
    TurnsG prog w A h₀ env (.Tuple elts k0 tp) body Q E (.ref I) s := by
  obtain ⟨fp, wr, Pt, St, Mid, W, hV, hobj, hws, hwr, hfp, hst, hfs, hLf⟩ := S.ex
  refine ⟨I, fp, wr, n, _, _, St, ws, keep, m₀, news, J, rfl, KTurns.ofWalksU W, hobj, hws, hwr, hfp, hLf, off, hst, F, N, hk, hj, ?_, done⟩
  rintro i v m₁ news₁ its h g tk hi ⟨T, vals, rfl, hp, ht⟩ hJ hk₁ hits F₁ N₁ ho
  obtain ⟨v₁, v₂, rfl, hv⟩ := hV i vals hp
  exact turn i T v₁ v₂ m₁ news₁ its h g tk hi ht hv hJ hk₁ hits F₁ N₁ ho

/-- an iterator at I that hands out n values -/
structure SSrc (prog : Program) (w : World) (A : Around) (h₀ : Heap) (L I : Addr) (n : Nat) (V : Nat → Value → Prop) (ws : List (Addr × String)) (keep : List (Addr × Obj)) (h : Heap) : Prop where
  ex : ∃ (fp wr : List Addr) (St : Nat → Heap → Prop), Walks prog w A I fp wr n V St ∧
    (∀ i h, St i h → ∃ its, Objs ws its ∧ ∀ p ∈ its, h.get? p.1 = some p.2) ∧ (∀ b ∈ ws.map (·.1), b ∈ fp ∧ h₀.get? b = none) ∧ (∀ b ∈ wr, b ∈ ws.map (·.1)) ∧
    (∀ b ∈ fp, b ∈ ws.map (·.1) ∨ (∃ o, (b, o) ∈ keep) ∨ ∃ o, h₀.get? b = some o) ∧ St 0 h ∧ (∀ b ∈ fp, b < h.objs.size) ∧ L ∉ fp

/-- a for over single values, by an invariant -/
theorem singlesG {x : Str} {px : Pos} {I : Addr} {n : Nat} {V : Nat → Value → Prop} {ws : List (Addr × String)} {keep : List (Addr × Obj)} {m₀ : Str → Option Value} {news : List (Addr × Obj)}
    (J : Nat → Array GenState → (Str → Option Value) → List (Addr × Obj) → Prop) (S : SSrc prog w A h₀ env.locals I n V ws keep s.heap) (off : ∀ p ∈ news, p.1 ∉ ws.map (·.1))
    (F : Fr h₀ env.locals s.heap m₀) (N : News h₀ env.locals s.heap news) (hk : SubL keep news) (hj : J 0 s.gens m₀ news)
    (turn : ∀ i v m₁ news₁ its h g tk, i < n → V i v → J i g m₁ news₁ → SubL keep news₁ → Objs ws its → Fr h₀ env.locals h m₁ → News h₀ env.locals h (its ++ news₁) → (∀ p ∈ news₁, ∀ q ∈ its, p.1 ≠ q.1) →
      wpAny (model prog w) A (assign (.Name x px) env v) (fun _ s₃ => wpAny (model prog w) A (execs body env) (PostG h₀ env.locals { s with heap := h, gens := g, toks := tk } its (fun g' m' n' => SubL keep n' ∧ J (i + 1) g' m' n') Q) E s₃) E { s with heap := h, gens := g, toks := tk })
    (done : ∀ m₁ news₁ h g tk, J n g m₁ news₁ → SubL keep news₁ → Fr h₀ env.locals h m₁ → News h₀ env.locals h news₁ → Q .next { s with heap := h, gens := g, toks := tk }) :
    TurnsG prog w A h₀ env (.Name x px) body Q E (.ref I) s := by
  obtain ⟨fp, wr, St, W, hobj, hws, hwr, hfp, hst, hfs, hLf⟩ := S.ex
  exact ⟨I, fp, wr, n, _, _, St, ws, keep, m₀, news, J, rfl, KTurns.ofWalks W (fun i v s Q E _ h => wpAny_pure h), hobj, hws, hwr, hfp, hLf, off, hst, F, N, hk, hj,
    fun i v m₁ news₁ its h g tk hi hv hJ hk₁ hits F₁ N₁ ho => turn i v m₁ news₁ its h g tk hi hv hJ hk₁ hits F₁ N₁ ho, done⟩
end

section
variable {prog : Program} {w : World} {A : Around} {E : Value → Shared → Prop} {s : Shared} {h₀ : Heap} {L : Addr} {m : Str → Option Value} {news : List (Addr × Obj)}

theorem range_1 {n : Int} {t : Tok} {Q : Value → Shared → Prop} (F : Fr h₀ L s.heap m) (N : News h₀ L s.heap news)
    (h : ∀ r h' t' u' tk, IsRange h' r 0 n 1 t' t u' → Fr h₀ L h' m → News h₀ L h' news → Q (.ref r) { s with heap := h', toks := tk }) :
    wpAny (model prog w) A (call (.type "range") [.int n t]) Q E s :=
  call_range_1 (h _ _ _ _ _ (Heap.get?_push_size _ rfl) (F.push _) (N.grown fun _ _ e => Heap.get?_push_of_some _ e))
theorem range_3 {a b c : Int} {t u v : Tok} {Q : Value → Shared → Prop} (hc : c ≠ 0) (F : Fr h₀ L s.heap m) (N : News h₀ L s.heap news) (hp : Builtin.divisionGoesByPylong (b - a) c = false)
    (h : ∀ r h', IsRange h' r a b c t u v → Fr h₀ L h' m → News h₀ L h' news → Q (.ref r) { s with heap := h' }) :
    wpAny (model prog w) A (call (.type "range") [.int a t, .int b u, .int c v]) Q E s :=
  call_range_3 hc (h _ _ (Heap.get?_push_size _ rfl) (F.push _) (N.grown fun _ _ e => Heap.get?_push_of_some _ e)) (.inl hp)

theorem iter_range {r : Addr} {a b c : Int} {t u v : Tok} {n : Nat} {Q : Value → Shared → Prop} (hh : A.handled = none) (F : Fr h₀ L s.heap m) (N : News h₀ L s.heap news) (R : IsRange s.heap r a b c t u v) (hs : Builtin.Range.small a b c = true)
    (hn : Builtin.Range.rangeSize a b c = (n : Int))
    (h : ∀ I h', SSrc prog w A h₀ L I n (fun i x => ∃ t, x = .int (a + i * c) t) [(I, "range_iterator")] [] h' → (∀ p ∈ news, p.1 < I) → (∀ p ∈ news, p.1 ∉ [I]) → Fr h₀ L h' m → News h₀ L h' news → Q (.ref I) { s with heap := h' }) :
    wpAny (model prog w) A (pyIter (.ref r)) Q E s := by
  refine wpAny_pyIter_range R hs ?_
  have hk : ∀ bb o, s.heap.get? bb = some o → (s.heap.push { cls := .type "range_iterator", data := .fields #[rawInt a, rawInt (Builtin.Range.rangeSize a b c), rawInt c] }).get? bb = some o := fun bb o e => Heap.get?_push_of_some _ e
  refine h s.heap.objs.size _ ⟨⟨_, _, _, Walks.range (prog := prog) (w := w) hh s.heap.objs.size a c n, ?_, ?_, ?_, ?_, ?_, ?_, ?_⟩⟩ (fun p hp => Heap.lt_size (N p hp).1) (off_of (fun p hp => Heap.lt_size (N p hp).1) (by intro b hb; rw [List.mem_singleton.mp hb]; exact Nat.le_refl _)) (F.keeps hk) (N.grown hk)
  · intro i h hi
    exact ⟨[(s.heap.objs.size, _)], ⟨⟨rfl, rfl⟩, trivial⟩, fun p hp => by rw [List.mem_singleton.mp hp]; exact hi⟩
  · intro b hb
    have hb' : b = s.heap.objs.size := by simpa using hb
    subst hb'
    exact ⟨by simp, ktu_new F (Nat.le_refl _)⟩
  · intro b hb
    simpa using hb
  · intro b hb
    exact .inl (by simpa using hb)
  · show _ = _
    rw [hn]
    simp only [Int.natCast_zero, Int.zero_mul, Int.add_zero, Int.sub_zero]
    exact Heap.get?_push_size _ rfl
  · intro b hb
    rw [List.mem_singleton.mp hb, Heap.size_push]
    exact Nat.lt_succ_self _
  · intro e
    exact Nat.ne_of_lt F.ns.lt (List.mem_singleton.mp e)

theorem iter_list {l : Addr} {vs : List Value} {k : Nat} {Q : Value → Shared → Prop} (hh : A.handled = none) (F : Fr h₀ L s.heap m) (N : News h₀ L s.heap news) (hm : (l, listOf vs.toArray k) ∈ news)
    (h : ∀ I h', SSrc prog w A h₀ L I vs.length (fun i x => vs[i]? = some x) [(I, "list_iterator")] [(l, listOf vs.toArray k)] h' → (∀ p ∈ news, p.1 < I) → (∀ p ∈ news, p.1 ∉ [I]) → Fr h₀ L h' m → News h₀ L h' news → Q (.ref I) { s with heap := h' }) :
    wpAny (model prog w) A (pyIter (.ref l)) Q E s := by
  have hax := N _ hm
  have hl : s.heap.IsList l vs.toArray := ⟨_, hax.1, rfl, k, rfl⟩
  have hlt : l < s.heap.objs.size := Heap.lt_size hax.1
  refine wpAny_pyIter_list hl ?_
  have hk : ∀ b o, s.heap.get? b = some o → (s.heap.push { cls := .type "list_iterator", data := .fields #[.ref l, .int 0 0] }).get? b = some o := fun b o e => Heap.get?_push_of_some _ e
  have W := Walks.list (prog := prog) (w := w) hh s.heap.objs.size l (Nat.ne_of_lt hlt) vs.toArray
  simp only [List.size_toArray, List.getElem?_toArray] at W
  refine h s.heap.objs.size _ ⟨⟨_, _, _, W, ?_, ?_, ?_, ?_, ?_, ?_, ?_⟩⟩ (fun p hp => Heap.lt_size (N p hp).1) (off_of (fun p hp => Heap.lt_size (N p hp).1) (by intro b hb; rw [List.mem_singleton.mp hb]; exact Nat.le_refl _)) (F.keeps hk) (N.grown hk)
  · rintro i h ⟨⟨oi, hoi, hic, _⟩, _⟩
    exact ⟨[(s.heap.objs.size, oi)], ⟨⟨rfl, hic⟩, trivial⟩, fun p hp => by rw [List.mem_singleton.mp hp]; exact hoi⟩
  · intro b hb
    have hb' : b = s.heap.objs.size := by simpa using hb
    subst hb'
    exact ⟨by simp, ktu_new F (Nat.le_refl _)⟩
  · intro b hb
    simpa using hb
  · intro b hb
    rcases List.mem_cons.mp hb with rfl | hb
    · exact .inl (by simp)
    · have e := List.mem_singleton.mp hb
      subst e
      exact .inr (.inl ⟨_, List.mem_singleton.mpr rfl⟩)
  · exact ⟨⟨_, Heap.get?_push_size _ rfl, rfl, rfl⟩, hl.at fun o e => hk l o e⟩
  · intro b hb
    rw [Heap.size_push]
    rcases List.mem_cons.mp hb with rfl | hb
    · exact Nat.lt_succ_self _
    · rw [List.mem_singleton.mp hb]; exact Nat.lt_succ_of_lt hlt
  · intro hb
    rcases List.mem_cons.mp hb with e | hb
    · exact Nat.ne_of_lt F.ns.lt e
    · exact hax.2.1 (List.mem_singleton.mp hb).symm

theorem setH {D : Addr} {vs : List Value} {ns : List Int} {n : Nat} {k x : Int} {t u : Tok} {Q : Unit → Shared → Prop} (F : Fr h₀ L s.heap m) (N : News h₀ L s.heap ((D, listOf vs.toArray n) :: news)) (off : ∀ p ∈ news, p.1 ≠ D) (hi : IntsAre vs ns) (h0 : 0 ≤ k) (h1 : k < ns.length) (hfit : k < 2 ^ 63)
    (h : ∀ h', Fr h₀ L h' m → News h₀ L h' ((D, listOf (vs.set k.toNat (.int x u)).toArray n) :: news) → IntsAre (vs.set k.toNat (.int x u)) (ns.set k.toNat x) → Q () { s with heap := h' }) :
    wpAny (model prog w) A (setItem (.ref D) (.int k t) (.int x u)) Q E s := by
  have z := N (D, listOf vs.toArray n) (.head _)
  have hl : vs.length = ns.length := hi.length
  have hs : vs.toArray.size = ns.length := by rw [List.size_toArray]; exact hl
  have hj : k.toNat < ns.length := by omega
  refine ki_setAt z.1 h0 hfit (by omega) (h _ (F.change (Heap.SameBut.update ..) z.2.1 z.2.2) (ki_turn (pre := []) _ N (fun _ h => nomatch h) off ?_ ?_) (ints_set hi _))
  · show vs.toArray.setIfInBounds k.toNat (.int x u) = (vs.set k.toNat (.int x u)).toArray
    apply Array.toList_inj.mp
    simp
  · simp

theorem ints_last {y : Int} : ∀ (ns : List Int) {vs : List Value}, IntsAre vs (ns ++ [y]) → ∃ us t, vs = us ++ [Value.int y t] ∧ IntsAre us ns
  | [], _, .cons _ t .nil => ⟨[], t, rfl, .nil⟩
  | _ :: ns, _, .cons a t r => by
    obtain ⟨us, t', rfl, hu⟩ := ints_last ns r
    exact ⟨.int a t :: us, t', rfl, .cons _ _ hu⟩

theorem popH {D : Addr} {vs : List Value} {ns : List Int} {n : Nat} {y : Int} {Q : Value → Shared → Prop} (F : Fr h₀ L s.heap m) (N : News h₀ L s.heap ((D, listOf vs.toArray n) :: news)) (off : ∀ p ∈ news, p.1 ≠ D) (hi : IntsAre vs (ns ++ [y])) (hz : vs.length ≤ sizeLine)
    (h : ∀ h' us t, IntsAre us ns → Fr h₀ L h' m → News h₀ L h' ((D, listOf us.toArray (n + 1)) :: news) → Q (.int y t) { s with heap := h' }) : wpAny (model prog w) A (call (.builtin "list.pop") [.ref D]) Q E s := by
  have z := N (D, listOf vs.toArray n) (.head _)
  obtain ⟨us, t, rfl, hus⟩ := ints_last ns hi
  have hz' : (us ++ [Value.int y t]).toArray.size ≤ sizeLine := by rw [List.size_toArray]; exact hz
  have hk : (us ++ [Value.int y t]).toArray.size - 1 = us.length := by rw [List.size_toArray, List.length_append]; rfl
  have hy : (us ++ [Value.int y t]).toArray[(us ++ [Value.int y t]).toArray.size - 1]? = some (Value.int y t) := by rw [hk]; simp
  refine call_meets PySem.F.slot_list_pop ⟨_, z.1, rfl⟩ PySem.F.entry_list_pop (PySem.F.args_list_pop_1 _) (PySem.MeetsSeq.list_pop_last D _ n _ hy hz') ⟨z.1, h _ us t hus (F.change (Heap.SameBut.update ..) z.2.1 z.2.2) (kl_turn (pre := []) _ N (fun _ h => nomatch h) off ?_ ?_)⟩
  · show (us ++ [Value.int y t]).toArray.eraseIdxIfInBounds ((us ++ [Value.int y t]).toArray.size - 1) = us.toArray
    rw [hk, kl_erase, List.append_nil]
  · rw [List.size_toArray, List.size_toArray, List.length_append]
    simp

theorem subL_of : ∀ {keep led : List (Addr × Obj)}, (∀ p ∈ keep, p ∈ led) → SubL keep led
  | [], _, _ => trivial
  | _ :: _, _, h => ⟨h _ (.head _), subL_of fun p hp => h p (.tail _ hp)⟩

theorem PSrc.weaken {A : Around} {I : Addr} {n : Nat} {V V' : Nat → Value → Value → Prop} {ws : List (Addr × String)} {keep : List (Addr × Obj)} {h : Heap} (S : PSrc prog w A h₀ L I n V ws keep h) (k : ∀ i a b, V i a b → V' i a b) : PSrc prog w A h₀ L I n V' ws keep h := by
  obtain ⟨fp, wr, Pt, St, Mid, W, hV, r⟩ := S.ex
  exact ⟨⟨fp, wr, Pt, St, Mid, W, fun i vals hp => let ⟨a, b, e, hv⟩ := hV i vals hp; ⟨a, b, e, k i a b hv⟩, r⟩⟩

/-- a list of pairs of ints that the ledger holds -/
theorem iter_pairsZ {l : Addr} {vs : List Value} {ps : List (Int × Int)} {tl : List (Addr × Obj)} {k : Nat} {Q : Value → Shared → Prop} (hh : A.handled = none) (F : Fr h₀ L s.heap m) (N : News h₀ L s.heap news) (hm : (l, listOf vs.toArray k) ∈ news) (hp : PairsAre tl vs ps) (hs : ∀ p ∈ tl, p ∈ news)
    (h : ∀ I h', PSrc prog w A h₀ L I vs.length (fun (i : Nat) a b => ∃ (x y : Int) (t u : Tok), ps[i]? = some (x, y) ∧ a = .int x t ∧ b = .int y u) [(I, "list_iterator")] ((l, listOf vs.toArray k) :: tl) h' → (∀ p ∈ news, p.1 < I) → (∀ p ∈ news, p.1 ∉ [I]) → Fr h₀ L h' m → News h₀ L h' news → Q (.ref I) { s with heap := h' }) :
    wpAny (model prog w) A (pyIter (.ref l)) Q E s := by
  obtain ⟨xs, hx1, hx2⟩ : ∃ xs : List (Value × Value), (∀ (i : Nat) (v : Value), vs[i]? = some v → ∃ (T : Addr) (oT : Obj) (x y : Value) (kT : Nat), v = Value.ref T ∧ (T, oT) ∈ tl ∧ oT.cls = .type "tuple" ∧ oT.data = .seq #[x, y] kT ∧ xs[i]? = some (x, y)) ∧
      ∀ (i : Nat) a b, xs[i]? = some (a, b) → ∃ (x y : Int) (t u : Tok), ps[i]? = some (x, y) ∧ a = Value.int x t ∧ b = Value.int y u := by
    clear h hm
    induction hp with
    | nil => exact ⟨[], fun i v e => by simp at e, fun i a b e => by simp at e⟩
    | @cons T a b ta tb kT vs ps' hmem _ ih =>
      obtain ⟨xs, h1, h2⟩ := ih
      refine ⟨(.int a ta, .int b tb) :: xs, fun i v e => ?_, fun i x y e => ?_⟩
      · cases i with
        | zero => simp at e; exact ⟨T, _, _, _, kT, e.symm, hmem, rfl, rfl, rfl⟩
        | succ i => simp at e; simpa using h1 i v e
      · cases i with
        | zero => simp at e; exact ⟨a, b, ta, tb, rfl, e.1.symm, e.2.symm⟩
        | succ i => simp at e; simpa using h2 i x y e
  exact iter_pairs tl xs hh F N hm rfl rfl hs hx1 fun I h' S l1 off F' N' => h I h' (S.weaken fun i a b e => hx2 i a b e) l1 off F' N'
theorem name_tail {h : Heap} {x : Addr × Obj} {R : List (Addr × Obj)} (_N : News h₀ L h (x :: R)) : ∃ r, r = R := ⟨_, rfl⟩
end
theorem mvA {x : Addr × Obj} {a r : List (Addr × Obj)} : ∀ q ∈ x :: (a ++ r), q ∈ a ++ x :: r := by
  intro q hq
  simp only [List.mem_append, List.mem_cons] at hq ⊢
  rcases hq with h | h | h <;> simp [h]
theorem mvB {x : Addr × Obj} {a r : List (Addr × Obj)} : ∀ q ∈ a ++ x :: r, q ∈ x :: (a ++ r) := by
  intro q hq
  simp only [List.mem_append, List.mem_cons] at hq ⊢
  rcases hq with h | h | h <;> simp [h]
theorem enumP_inv {cs : List Int} {j : Nat} {x y : Int} (h : (enumP cs)[j]? = some (x, y)) : x = (j : Int) ∧ cs[j]? = some y := by
  unfold enumP at h
  rw [List.getElem?_map, List.getElem?_zipIdx] at h
  cases e : cs[j]? with
  | none => rw [e] at h; simp at h
  | some c => rw [e] at h; simp at h; exact ⟨h.1.symm, by rw [h.2]⟩
theorem mcs_at {ms : List Int} {j : Nat} {x c : Int} (h : (mcs ms)[j]? = some (x, c)) : ∃ k : Nat, x = (k : Int) ∧ ms[k]? = some c := by
  have hm := List.mem_of_getElem? h
  unfold mcs at hm
  obtain ⟨⟨c', k⟩, hp, he⟩ := List.mem_map.mp hm
  have hp' := (List.mem_filter.mp hp).1
  simp only [Prod.mk.injEq] at he
  rw [List.mk_mem_zipIdx_iff_getElem?] at hp'
  exact ⟨k, he.1.symm, by rw [hp', he.2]⟩
theorem snoc_of {α : Type} : ∀ {b : List α}, 0 < b.length → ∃ b' y, b = b' ++ [y]
  | b, h => ⟨b.dropLast, b.getLast (by intro e; rw [e] at h; simp at h), (List.dropLast_concat_getLast _).symm⟩
theorem led_mul {a b c d e f t : Addr × Obj} {tl2 news : List (Addr × Obj)} : ∀ q ∈ t :: (a :: b :: c :: (tl2 ++ d :: e :: f :: news)), q ∈ a :: b :: c :: (tl2 ++ d :: e :: f :: t :: news) := by
  intro q hq
  simp only [List.mem_append, List.mem_cons] at hq ⊢
  rcases hq with h | h | h | h | h | h | h | h | h <;> simp [h]
theorem led_fin {a b c d e f t : Addr × Obj} {tl tl2 news : List (Addr × Obj)} : ∀ q ∈ t :: ((tl ++ a :: b :: c :: (tl2 ++ [d, e, f])) ++ news), q ∈ t :: (tl ++ a :: b :: c :: (tl2 ++ d :: e :: f :: news)) := by
  intro q hq
  simpa only [List.append_assoc, List.cons_append, List.nil_append] using hq
theorem led_fin' {a b c d e f : Addr × Obj} {tl tl2 news : List (Addr × Obj)} : ∀ q ∈ tl ++ a :: b :: c :: (tl2 ++ d :: e :: f :: news), q ∈ (tl ++ a :: b :: c :: (tl2 ++ [d, e, f])) ++ news := by
  intro q hq
  simpa only [List.append_assoc, List.cons_append, List.nil_append] using hq
theorem spec_use {w : World} {f : Addr} {vs : List Value} {k : Nat} {P : List (Addr × Obj) → Prop} {Out : List (Addr × Obj) → Value → Prop} (S : Spec w f vs k P Out)
  {mean : ExcName → Option Value} {mg mb : Str → Option Value} {dp un : Nat} {gd : Option (List Code)} {cn : Str} {cs : Scope} {a : Addr} {ccd : Value} {cl : List (Str × Addr)} {outer : List Env} {A₀ : Around} {base h₀ : Heap} {L : Addr} {m : Str → Option Value}
    {news : List (Addr × Obj)} {s : Shared} {Q E : Value → Shared → Prop}
    (B : Below A₀ base outer h₀) (F : Fr h₀ L s.heap m) (X : (hd.heap_39 w.params).In h₀) (N : News h₀ L s.heap news) (T : TopV mean mg mb h₀) (hk : cs.kind = .function) (hP : P news)
    (hd : dp + k < recursionLimit) (hu : un + 8 * k < cLine) (ret : Ret h₀ L m news s Q Out) :
    wpAny (model PySem.Challenge.rw_bb0062_01.row.prog w) (ktrTop dp un gd cn cs L a ccd cl outer) (call (.ref f) vs) Q E s :=
  S _ _ _ _ _ _ _ _ _ _ _ _ _ _ _ _ _ _ _ _ _ B F X N T hk hP hd hu ret

theorem fr_skip {c : Prop} {_d : Decidable c} {a b o : Option Value} (h : ¬ c) (k : b = o) : (if c then a else b) = o := by rw [if_neg h]; exact k
theorem fr_hit {c : Prop} {_d : Decidable c} {a b o : Option Value} (h : c) (k : a = o) : (if c then a else b) = o := by rw [if_pos h]; exact k
end Mine
end

section
open PySem PySem.W PyProof.Rows PySem.Spec PySem.Calls PyProof.Rows.LCg
set_option Elab.async false
set_option maxRecDepth 100000
set_option maxHeartbeats 1000000
namespace Mine
/-- led is news with newer objects before it -/
def Ext (news led : List (Addr × Obj)) : Prop := ∃ tl, led = tl ++ news ∧ (∀ q ∈ news, ∀ p ∈ tl, p.1 ≠ q.1) ∧ ∀ p ∈ tl, p.1 ≠ (44 : Nat)
theorem Ext.refl (news : List (Addr × Obj)) : Ext news news := ⟨[], rfl, (fun _ _ _ h => nomatch h), (fun _ h => nomatch h)⟩
theorem Ext.sub {news led : List (Addr × Obj)} (x : Ext news led) : ∀ p ∈ news, p ∈ led := fun p hp => by
  obtain ⟨tl, rfl, _⟩ := x
  exact List.mem_append_right _ hp
theorem Ext.trans {a b c : List (Addr × Obj)} (x : Ext a b) (y : Ext b c) : Ext a c := by
  have s := x.sub
  obtain ⟨t1, rfl, h1, k1⟩ := x
  obtain ⟨t2, rfl, h2, k2⟩ := y
  refine ⟨t2 ++ t1, by rw [List.append_assoc], fun q hq p hp => ?_, fun p hp => ?_⟩
  · rcases List.mem_append.mp hp with hp | hp
    · exact h2 q (s q hq) p hp
    · exact h1 q hq p hp
  · rcases List.mem_append.mp hp with hp | hp
    · exact k2 p hp
    · exact k1 p hp
theorem Ext.of {news tl : List (Addr × Obj)} (h : ∀ q ∈ news, ∀ p ∈ tl, p.1 ≠ q.1) (k : ∀ p ∈ tl, p.1 ≠ (44 : Nat)) : Ext news (tl ++ news) := ⟨tl, rfl, h, k⟩
theorem Ext.cons {news led : List (Addr × Obj)} {a : Addr} {o : Obj} (x : Ext news led) (h : ∀ q ∈ news, a ≠ q.1) (k : @Ne Nat a 44) : Ext news ((a, o) :: led) := by
  obtain ⟨tl, rfl, h1, k1⟩ := x
  refine ⟨(a, o) :: tl, rfl, fun q hq p hp => ?_, fun p hp => ?_⟩
  · rcases List.mem_cons.mp hp with rfl | hp
    · exact h q hq
    · exact h1 q hq p hp
  · rcases List.mem_cons.mp hp with rfl | hp
    · exact k
    · exact k1 p hp
theorem Ext.off {news led : List (Addr × Obj)} (x : Ext news led) (h : ∀ p ∈ news, p.1 ≠ (44 : Nat)) : ∀ p ∈ led, p.1 ≠ (44 : Nat) := by
  obtain ⟨tl, rfl, _, k⟩ := x
  intro p hp
  rcases List.mem_append.mp hp with hp | hp
  · exact k p hp
  · exact h p hp
theorem Ext.cons_lt {news led : List (Addr × Obj)} {a : Addr} {o : Obj} (x : Ext news led) (h : 44 < a ∧ AllLt a news) : Ext news ((a, o) :: led) :=
  x.cons (fun q hq => Nat.ne_of_gt (ktn_ltOf h.2 q hq)) (Nat.ne_of_gt h.1)
/-- the end of a def that makes FQPs -/
theorem RetG.fin {h₀ : Heap} {L : Addr} {m : Str → Option Value} {news led : List (Addr × Obj)} {s : Shared} {Q : Value → Shared → Prop} {Out : List (Addr × Obj) → Value → Prop} (R : RetG h₀ L m news s Q Out) {r : Value} {ps' : Array Value} {h' : Heap} {g' : Array GenState} {tk' : Nat}
    (x : Ext news led) (TP : TabP gpos ps') (G : AllBare g') (F : Fr h₀ L h' m) (N : News h₀ L h' ((44, TabO ps') :: led)) (O : Out led r) : Q r { s with heap := h', gens := g', toks := tk' } := by
  obtain ⟨tl, rfl, h, k⟩ := x
  exact R r ps' tl h' g' tk' TP G F N h k O
/-- what comes back, with the ledger as one name -/
theorem RetG.mk {h₀ : Heap} {L : Addr} {m : Str → Option Value} {news : List (Addr × Obj)} {s : Shared} {Q : Value → Shared → Prop} {Out : List (Addr × Obj) → Value → Prop}
    (R : ∀ r ps' led h' g' tk', Ext news led → TabP gpos ps' → AllBare g' → Fr h₀ L h' m → News h₀ L h' ((44, TabO ps') :: led) → Out led r → Q r { s with heap := h', gens := g', toks := tk' }) : RetG h₀ L m news s Q Out :=
  fun r ps' tl h' g' tk' TP G F N h k O => R r ps' (tl ++ news) h' g' tk' (Ext.of h k) TP G F N O

theorem led_t4 {a b c d t : Addr × Obj} {news : List (Addr × Obj)} : ∀ q ∈ t :: a :: b :: c :: d :: news, q ∈ a :: b :: c :: d :: t :: news := by
  intro q hq
  simp only [List.mem_cons] at hq ⊢
  rcases hq with h | h | h | h | h | h <;> simp [h]
theorem FQ.inst {w : World} {S : Addr → Prop} {led : List (Addr × Obj)} {x : Addr} {p : Int} {ms cs : List Int} (h : FQ w S led x p ms cs) : ∃ d es, (x, instObj 156 d) ∈ led ∧ (d, dictOf es 5) ∈ led := by
  obtain ⟨d, _, _, _, _, _, _, _, _, _, _, _, _, _, _, h1, h2, _⟩ := h
  exact ⟨d, _, h1, h2⟩

theorem pow_ne0 {p : Int} (h : 2 ≤ p) (k : Nat) : p ^ k ≠ 0 := Int.ne_of_gt (Int.pow_pos (by omega))

theorem pow_small {p : Int} (h1 : 2 ≤ p) (h2 : p ≤ 5) {k : Nat} (hk : k ≤ 5) : (p ^ k).natAbs < 1073741824 := by
  have hp : p = 2 ∨ p = 3 ∨ p = 4 ∨ p = 5 := by omega
  have hk' : k = 0 ∨ k = 1 ∨ k = 2 ∨ k = 3 ∨ k = 4 ∨ k = 5 := by omega
  rcases hp with rfl | rfl | rfl | rfl <;> rcases hk' with rfl | rfl | rfl | rfl | rfl | rfl <;> decide

/-- the digits of a number to the base p -/
def partsF (n p : Int) (d : Nat) : List Int := (rangeKs 0 d).map fun k => (n.fdiv (p ^ k.toNat)).fmod p

theorem led_l3 {a b c : Addr × Obj} {r : List (Addr × Obj)} : ∀ q ∈ c :: a :: b :: r, q ∈ a :: b :: c :: r := by
  intro q hq
  simp only [List.mem_cons] at hq ⊢
  rcases hq with h | h | h | h <;> simp [h]

/-- what is known of a frame's map, written out so that the walk's rules read it off -/
theorem fr_known {h₀ h : Heap} {L : Addr} {m : Str → Option Value} {x : Str} {v : Value} (F : Fr h₀ L h m) (e : m x = some v) : Fr h₀ L h (fun y => if y = x then some v else m y) := by
  have : (fun y => if y = x then some v else m y) = m := by
    funext y
    by_cases hy : y = x
    · rw [if_pos hy, hy, e]
    · rw [if_neg hy]
  rw [this]
  exact F

/-- the product of two elements, as the program gives it -/
def mulM (p : Int) (ms a b : List Int) : List Int := (mulF p (mcs ms) ms.length (enumP a) (enumP b)).map (·.fmod p)
def oneM (p : Int) (ms : List Int) : List Int := ((1 : Int) :: List.replicate (ms.length - 1) 0).map (·.fmod p)
def powM (p : Int) (ms a : List Int) (q : Int) : List Int :=
  let m := mulM p ms
  if q = 2 then m (oneM p ms) (m a a)
  else if q = 3 then m (m (oneM p ms) a) (m a a)
  else m (m (oneM p ms) a) (m (m a a) (m a a))
section
variable {prog : Program} {w : World} {A : Around} {E : Value → Shared → Prop} {s : Shared} {h₀ : Heap} {L : Addr} {m : Str → Option Value} {led : List (Addr × Obj)}
/-- list of a list: a new list of the same values -/
theorem list_copy_N {l : Addr} {us : List Value} {k : Nat} {Q : Value → Shared → Prop} (FF : Fr h₀ L s.heap m) (N : News h₀ L s.heap led) (hm : (l, listOf us.toArray k) ∈ led) (hsz : us.length ≤ sizeLine)
    (hQ : ∀ (D : Addr) h c, Fr h₀ L h m → News h₀ L h ((D, listOf us.toArray c) :: led) → (∀ p ∈ led, p.1 < D) → Q (.ref D) { s with heap := h }) :
    wpAny (model prog w) A (call (.type "list") [.ref l]) Q E s := by
  refine call_list_seq (hsz := by simpa using hsz) l (.inl rfl) (N _ hm).1 rfl rfl fun h' c' hk hS => ?_
  refine hQ s.heap.objs.size h' c' (FF.keeps hk) (fun p hp => ?_) (fun p hp => Heap.lt_size (N p hp).1)
  rcases List.mem_cons.mp hp with rfl | hp
  · refine ⟨hS, Nat.ne_of_gt FF.ns.lt, ?_⟩
    cases e : h₀.get? s.heap.objs.size with
    | none => rfl
    | some o => exact absurd (Heap.lt_size (FF.keep _ _ e)) (Nat.lt_irrefl _)
  · exact (N.grown hk) p hp
end
end Mine
end

section
open PySem PySem.W PyProof.Rows PySem.Spec PySem.Calls PyProof.Rows.LCg
set_option Elab.async false
set_option maxRecDepth 100000
set_option maxHeartbeats 1000000
namespace Mine
local macro_rules | `(tactic| k_room) => `(tactic| ktr_room)
local macro_rules | `(tactic| k_units) => `(tactic| ktr_units)
local macro_rules | `(tactic| ktr_enter) => `(tactic| (refine' code_defC ?k1 ?k2 ?k3 ?k4 ?k5 ?kA ?kF ?kK ?k6 ?k7 ?k8 ?k9 ?kB ?kD ?_ ?c2 ?c3 ?c4; (case kA => exact rfl); (case kF => exact rfl); (case kK => first | assumption | exact rfl); (case k1 => k_asm); (case k2 => k_asm); (case k3 => k_asm); (case k4 => k_asm); (case k5 => k_asm); (case k6 => k_is); (case k7 => k_is); (case k8 => ktr_room); (case k9 => exact BindsTo.of_eq rfl); (case kB => exact rfl); (case kD => decide +kernel); (case c2 => exact rfl); (case c3 => exact rfl); (case c4 => exact rfl); k_whole; intro g' L' h' tk' cells' FG' F' N' Y' B' X' T' l1; (try k_lt l1); k_cells Y'; (try simp only [List.cons_append, List.nil_append] at N'); (try dsimp only)))
theorem fill_C2 (w : World) : hd.heap_39 w.params = hd.heap_39 w.params ∧ PySem.Challenge.rw_bb0062_01 = PySem.Challenge.rw_bb0062_01 := by
  k_fill
  exact ⟨rfl, rfl⟩
local macro_rules | `(tactic| k_enter) => `(tactic| first
  | (refine' code_def ?k1 ?k2 ?k3 ?k4 ?k5 ?kA ?kF ?kK ?k6 ?k7 ?k8 ?k9 ?kB ?_ ?c2 ?c3 ?c4 ?c5; (case kA => exact rfl); (case kF => exact rfl); (case kK => first | assumption | exact rfl); (case k1 => k_asm); (case k2 => k_asm); (case k3 => k_asm); (case k4 => k_asm); (case k5 => k_asm); (case k6 => k_is); (case k7 => k_is); (case k8 => ktr_room); (case k9 => first | exact BindsTo.of_eq rfl | exact binds_K (by k_in) rfl (by k_is) rfl rfl rfl | fail "k_enter: no rule for these arguments"); (case c5 => decide); (case kB => exact locs rfl); (case c2 => exact rfl); (case c3 => exact rfl); (case c4 => exact rfl); k_whole; intro g' L' h' FG' F' N' B' X' T'; (try dsimp only); (try k_lift B'); (try k_fold))
  | (refine' code_defC ?k1 ?k2 ?k3 ?k4 ?k5 ?kA ?kF ?kK ?k6 ?k7 ?k8 ?k9 ?kB ?kD ?_ ?c2 ?c3 ?c4; (case kA => exact rfl); (case kF => exact rfl); (case kK => first | assumption | exact rfl); (case k1 => k_asm); (case k2 => k_asm); (case k3 => k_asm); (case k4 => k_asm); (case k5 => k_asm); (case k6 => k_is); (case k7 => k_is); (case k8 => ktr_room); (case k9 => first | exact BindsTo.of_eq rfl | exact binds_K (by k_in) rfl (by k_is) rfl rfl rfl | fail "k_enter: no rule for these arguments"); (case kB => exact rfl); (case kD => decide +kernel); (case c2 => exact rfl); (case c3 => exact rfl); (case c4 => exact rfl); k_whole; intro g' L' h' tk' cells' FG' F' N' Y' B' X' T' l1; (try k_lt l1); k_cells Y'; (try simp only [List.cons_append, List.nil_append] at N'); (try dsimp only); (try k_lift B'); (try k_fold)))
local macro_rules | `(tactic| k_mem) => `(tactic| first | with_reducible_and_instances assumption | with_reducible_and_instances exact List.Mem.head _ | (with_reducible_and_instances refine List.Mem.tail _ ?_; k_mem) | (with_reducible_and_instances refine memL ?_; k_mem) | (with_reducible_and_instances refine memR ?_; k_mem))
local macro_rules | `(tactic| k_all) => `(tactic| assumption)
local macro_rules | `(tactic| walk_at "eval ListComp") => `(tactic| (k_here; (with_reducible show wpAny _ _ (eval (Expr.ListComp _ [⟨Expr.Tuple _ _ _, _, _, _⟩] _ _) _) _ _ _); k_dflt (refine' ListComp_pair ?k1 ?k2 ?k3 ?k4 ?k5 ?k6 ?k7 ?k8 ?_; (case k1 => k_asm); (case k2 => exact rfl); (case k3 => decide); (case k4 => exact rfl); (case k5 => decide); (case k6 => exact rfl); (case k7 => exact rfl); (case k8 => decide); k_whole)))
local macro_rules | `(tactic| walk_at "call type:enumerate") => `(tactic| (k_here; (with_reducible show wpAny _ _ (call (Value.type _) [Value.ref _]) _ _ _); k_dflt (first
  | ((refine' enum_list ?k1 ?k2 ?k3 ?k4 ?k5 ?k6 ?_; (case k1 => exact rfl); (case k2 => k_asm); (case k3 => k_asm); (case k4 => k_mem); (case k5 => exact rfl); (case k6 => exact rfl); k_whole); intro I' h' S' l1 off' F' N')
  | ((refine' enum_tup ?k1 ?k2 ?k3 ?k4 ?k5 ?k6 ?_; (case k1 => exact rfl); (case k2 => k_asm); (case k3 => k_asm); (case k4 => k_mem); (case k5 => exact rfl); (case k6 => exact rfl); k_whole); intro I' h' S' R' lL' l1 off' F' N')); (try dsimp only)))
local macro_rules | `(tactic| walk_at "call type:list") => `(tactic| (k_here; (with_reducible show wpAny _ _ (call (Value.type _) [Value.ref _]) _ _ _); k_dflt (refine' list_enumT ?k1 ?k2 ?k3 ?k4 ?k5 ?k6 ?k7 ?k8 ?_; (case k1 => exact rfl); (case k2 => k_asm); (case k3 => k_asm); (case k4 => assumption); (case k5 => assumption); (case k6 => assumption); (case k7 => assumption); (case k8 => (rw [PySem.sizeLine_eq]; omega)); k_whole); intro D' h' tk' ys' c' tl' F' N' p' l1 l2; (try dsimp only)))
local macro_rules | `(tactic| walk_at "call builtin:len") => `(tactic| (k_here; (with_reducible show wpAny _ _ (call (Value.builtin "len") [Value.ref _]) _ _ _); k_dflt (first
  | (refine' kst_len ?k1 ?k2 ?k3 ?k4 ?_; (case k1 => k_asm); (case k2 => k_mem); (case k3 => assumption); (case k4 => omega); k_whole)
  | (refine' len_T ?k1 ?k2 ?k3 ?k4 ?_; (case k1 => k_asm); (case k2 => k_mem); (case k3 => assumption); (case k4 => omega); k_whole))))
local macro_rules | `(tactic| walk_at "subscriptTail") => `(tactic| (k_here; (with_reducible show wpAny _ _ (subscriptTail _ _ (Value.ref _) (Value.int _ _)) _ _ _); k_dflt (
   (refine' item_L ?k1 ?k2 ?k3 ?k4 ?k5 ?_; (case k1 => k_asm); (case k2 => k_mem); (case k3 => omega); (case k4 => omega); (case k5 => assumption); k_whole))))
local macro_rules | `(tactic| walk_at "exec If") => `(tactic| refine wpAny_If ?_)
local macro_rules | `(tactic| walk_at "isTrue Call") => `(tactic| refine isTrue_plain ?_)
local macro_rules | `(tactic| walk_at "exec If Call cons cons") => `(tactic| refine wpAny_If ?_)
local macro_rules | `(tactic| walk_at "exec If Call cons nil") => `(tactic| refine wpAny_If ?_)
local macro_rules | `(tactic| walk_at "exec If Compare cons nil") => `(tactic| refine wpAny_If ?_)
local macro_rules | `(tactic| walk_at "exec If UnaryOp cons nil") => `(tactic| refine wpAny_If ?_)
local macro_rules | `(tactic| walk_at "ite") => `(tactic| first | rw [if_neg (by first | (simp; done) | omega | (simp; omega))] | rw [if_pos (by first | (simp; done) | omega | (simp; omega))])
local macro_rules | `(tactic| walk_at "call type:tuple") => `(tactic| (k_here; (with_reducible show wpAny _ _ (call (Value.type _) [Value.ref _]) _ _ _); k_dflt (first
  | (refine' tuple_tup_N ?k1 ?k2 ?_; (case k1 => k_asm); (case k2 => k_mem); k_whole)
  | (refine' tuple_list_N ?k1 ?k2 ?k3 ?k4 ?_; (case k1 => k_asm); (case k2 => k_asm); (case k3 => k_mem); (case k4 => (rw [PySem.sizeLine_eq]; omega)); k_whole; intro D' h' tk' F' N' l1)
  | (refine' tuple_Gen ?k1 ?k2 ?k3 ?k4 ?k5 ?k6 ?k7 ?_; (case k1 => k_asm); (case k2 => k_asm); (case k3 => assumption); (case k4 => assumption); (case k5 => assumption); (case k6 => assumption); (case k7 => (rw [PySem.sizeLine_eq]; omega)); k_whole; intro D' h' g' tk' ys' e1 e2 F' N' G' l1))))
local macro_rules | `(tactic| walk_at "call ref") => `(tactic| (k_here; (with_reducible show wpAny _ _ (call (Value.ref 156) _) _ _ _); refine Stop.un ?_))
local macro_rules | `(tactic| walk_at "call type:zip") => `(tactic| (k_here; (with_reducible show wpAny _ _ (call (Value.type _) [Value.ref _, Value.ref _]) _ _ _); k_dflt (refine' zip_tup ?k1 ?k2 ?k3 ?k4 ?k5 ?k6 ?k7 ?k8 ?k9 ?_; (case k1 => exact rfl); (case k2 => k_asm); (case k3 => k_asm); (case k4 => k_mem); (case k5 => exact rfl); (case k6 => exact rfl); (case k7 => k_mem); (case k8 => exact rfl); (case k9 => exact rfl); k_whole); intro I' h' S' l1 off' F' N'; (try dsimp only)))
local macro_rules | `(tactic| walk_at "eval Name") => `(tactic| (k_here; (with_reducible show wpAny _ _ (eval (Expr.Name _ _) (compEnvC _ _ _ _)) _ _ _); k_dflt (first
  | (refine' wpAny_Name (wpAny_loadName_local ?k1 ?k2 ?k3 ?k4 ?_); (case k1 => exact rfl); (case k2 => exact rfl); (case k3 => assumption); (case k4 => assumption); k_whole)
  | (refine' ldFreeK ?k1 ?k2 ?_; (case k1 => exact rfl); (case k2 => assumption); k_whole))))
local macro_rules | `(tactic| walk_at "pyIter ref") => `(tactic| (k_here; k_dflt (refine' PSrc.self ?k1 ?_; (case k1 => assumption); k_whole)))
local macro_rules | `(tactic| walk_at "call ref") => `(tactic| (k_here; first
  | ((with_reducible show wpAny _ _ (call (Value.ref 59) _) _ _ _); refine Stop.un ?_)
  | ((with_reducible show wpAny _ _ (call (Value.ref 76) _) _ _ _); refine Stop.un ?_)
  | ((with_reducible show wpAny _ _ (call (Value.ref 95) _) _ _ _); refine Stop.un ?_)
  | ((with_reducible show wpAny _ _ (call (Value.ref 119) _) _ _ _); refine Stop.un ?_)
  | ((with_reducible show wpAny _ _ (call (Value.ref 126) _) _ _ _); refine Stop.un ?_)
  | ((with_reducible show wpAny _ _ (call (Value.ref 153) _) _ _ _); refine Stop.un ?_)
  | ((with_reducible show wpAny _ _ (call (Value.ref 172) _) _ _ _); refine Stop.un ?_)
  | ((with_reducible show wpAny _ _ (call (Value.ref 177) _) _ _ _); refine Stop.un ?_)
  | ((with_reducible show wpAny _ _ (call (Value.ref 184) _) _ _ _); refine Stop.un ?_)))
local macro_rules | `(tactic| walk_at "exec For Tuple Call cons nil") => `(tactic| (k_here; (rename Fr _ _ _ _ => lF'); (with_unfolding_all refine' For_gens lF' ?_; k_whole); skip))
local macro_rules | `(tactic| walk_at "exec For Tuple Call") => `(tactic| (k_here; (rename Fr _ _ _ _ => lF'); (with_unfolding_all refine' For_gens lF' ?_; k_whole); skip))
local macro_rules | `(tactic| walk_at "exec For Tuple Call cons cons") => `(tactic| (k_here; (rename Fr _ _ _ _ => lF'); (with_unfolding_all refine' For_gens lF' ?_; k_whole); skip))
local macro_rules | `(tactic| walk_at "exec For Tuple Attribute cons nil") => `(tactic| (k_here; (rename Fr _ _ _ _ => lF'); (with_unfolding_all refine' For_gens lF' ?_; k_whole); skip))
local macro_rules | `(tactic| walk_at "exec For Tuple Attribute") => `(tactic| (k_here; (rename Fr _ _ _ _ => lF'); (with_unfolding_all refine' For_gens lF' ?_; k_whole); skip))
local macro_rules | `(tactic| walk_at "exec For Tuple Attribute cons cons") => `(tactic| (k_here; (rename Fr _ _ _ _ => lF'); (with_unfolding_all refine' For_gens lF' ?_; k_whole); skip))
local macro_rules | `(tactic| walk_at "exec For Tuple Name cons nil") => `(tactic| (k_here; (rename Fr _ _ _ _ => lF'); (with_unfolding_all refine' For_gens lF' ?_; k_whole); skip))
local macro_rules | `(tactic| walk_at "exec For Tuple Name") => `(tactic| (k_here; (rename Fr _ _ _ _ => lF'); (with_unfolding_all refine' For_gens lF' ?_; k_whole); skip))
local macro_rules | `(tactic| walk_at "exec For Tuple Name cons cons") => `(tactic| (k_here; (rename Fr _ _ _ _ => lF'); (with_unfolding_all refine' For_gens lF' ?_; k_whole); skip))
local macro_rules | `(tactic| walk_at "exec For Name Call cons nil") => `(tactic| (k_here; (rename Fr _ _ _ _ => lF'); (with_unfolding_all refine' For_gens lF' ?_; k_whole); skip))
local macro_rules | `(tactic| walk_at "exec For Name Call") => `(tactic| (k_here; (rename Fr _ _ _ _ => lF'); (with_unfolding_all refine' For_gens lF' ?_; k_whole); skip))
local macro_rules | `(tactic| walk_at "exec For Name Call cons cons") => `(tactic| (k_here; (rename Fr _ _ _ _ => lF'); (with_unfolding_all refine' For_gens lF' ?_; k_whole); skip))
local macro_rules | `(tactic| walk_at "exec For Name Name cons nil") => `(tactic| (k_here; (rename Fr _ _ _ _ => lF'); (with_unfolding_all refine' For_gens lF' ?_; k_whole); skip))
local macro_rules | `(tactic| walk_at "exec For Name Name") => `(tactic| (k_here; (rename Fr _ _ _ _ => lF'); (with_unfolding_all refine' For_gens lF' ?_; k_whole); skip))
local macro_rules | `(tactic| walk_at "exec For Name Name cons cons") => `(tactic| (k_here; (rename Fr _ _ _ _ => lF'); (with_unfolding_all refine' For_gens lF' ?_; k_whole); skip))
local macro_rules | `(tactic| walk_at "exec For Name Subscript cons nil") => `(tactic| (k_here; (rename Fr _ _ _ _ => lF'); (with_unfolding_all refine' For_gens lF' ?_; k_whole); skip))
local macro_rules | `(tactic| walk_at "exec For Name Subscript") => `(tactic| (k_here; (rename Fr _ _ _ _ => lF'); (with_unfolding_all refine' For_gens lF' ?_; k_whole); skip))
local macro_rules | `(tactic| walk_at "exec For Name Subscript cons cons") => `(tactic| (k_here; (rename Fr _ _ _ _ => lF'); (with_unfolding_all refine' For_gens lF' ?_; k_whole); skip))
local macro_rules | `(tactic| walk_at "call type:range") => `(tactic| (k_here; (with_reducible show wpAny _ _ (call (Value.type _) _) (fun xv s₁ => wpAny _ _ (pyIter xv) (fun it s₂ => TurnsG _ _ _ _ _ _ _ _ _ it s₂) _ s₁) _ _); k_dflt (first
  | ((refine' range_1 ?k1 ?k2 ?_; (case k1 => k_asm); (case k2 => k_asm); k_whole); intro r' h' t' u' tk' R' F' N')
  | ((refine' range_3 ?k3 ?k1 ?k2 ?k4 ?_; (case k3 => decide); (case k1 => k_asm); (case k2 => k_asm); (case k4 => first | decide +kernel | (exact PyProof.noPylong_small (by omega))); k_whole); intro r' h' R' F' N'))))
local macro_rules | `(tactic| walk_at "pyIter ref") => `(tactic| (k_here; (with_reducible show wpAny _ _ (pyIter _) (fun it s₂ => TurnsG _ _ _ _ _ _ _ _ _ it s₂) _ _); k_dflt (first | (refine' PSrc.self ?k1 ?_; (case k1 => assumption); k_whole) | refine Stop.un ?_)))
local macro_rules | `(tactic| walk_at "setItem ref int") => `(tactic| (k_here; (with_reducible show wpAny _ _ (setItem (Value.ref _) (Value.int _ _) (Value.int _ _)) _ _ _); k_dflt (refine' setH ?k1 ?k2 ?k3 ?k4 ?k5 ?k6 ?k7 ?_; (case k1 => k_asm); (case k2 => k_asm); (case k3 => assumption); (case k4 => assumption); (case k5 => omega); (case k6 => omega); (case k7 => omega); k_whole); intro h' F' N' i'))
local macro_rules | `(tactic| walk_at "getItem ref int") => `(tactic| (k_here; (with_reducible show wpAny _ _ (getItem (Value.ref _) (Value.int _ _)) _ _ _); k_dflt (refine' ksa_get ?k1 ?k2 ?k3 ?k4 ?k5 ?k6 ?_; (case k1 => k_asm); (case k2 => k_mem); (case k3 => assumption); (case k4 => omega); (case k5 => omega); (case k6 => omega); k_whole); intro t'))
local macro_rules | `(tactic| walk_at "call builtin:list.pop") => `(tactic| (k_here; (with_reducible show wpAny _ _ (call (Value.builtin _) [Value.ref _]) _ _ _); k_dflt (refine' popH ?k1 ?k2 ?k3 ?k4 ?k5 ?_; (case k1 => k_asm); (case k2 => k_asm); (case k3 => assumption); (case k4 => assumption); (case k5 => (rw [PySem.sizeLine_eq]; omega)); k_whole); intro h' us' t' i' F' N'))
local macro_rules | `(tactic| walk_at "eval Name") => `(tactic| (k_here; (with_reducible show wpAny _ _ (eval (Expr.Name _ _) (envOf _ _ _ _ _)) _ _ _); k_dflt (refine' ld ?k1 ?k2 ?_; (case k1 => k_asm); (case k2 => ((try dsimp only); (repeat (refine' fr_skip ?frh ?_; (case frh => decide +kernel))); first | with_reducible assumption | (refine' fr_hit ?fra ?frb; (case fra => rfl); (case frb => rfl)))); k_whole)))
local macro_rules | `(tactic| walk_at "eval Name") => `(tactic| (k_here; (with_reducible show wpAny _ _ (eval (Expr.Name _ _) (envOfC _ _ _ _ _)) _ _ _); k_dflt (refine' nameX_L ?F ?v ?_ ?a ?b; (case F => k_asm); (case a => rfl); (case b => rfl); (case v => ((try dsimp only); (repeat (refine' fr_skip ?frh ?_; (case frh => decide +kernel))); first | with_reducible assumption | (refine' fr_hit ?fra ?frb; (case fra => rfl); (case frb => rfl)))); k_whole)))
--BODY
set_option maxHeartbeats 8000000 in
theorem mk_spec (w : World) (S : Addr → Prop) (lc lm : Addr) (cvs mvs : List Value) (cs ms : List Int) (nc nm : Nat) (p : Int) (tp : Tok) (hc : IntsAre cvs cs) (hm : IntsAre mvs ms) (hl : cs.length = ms.length) (h1 : 2 ≤ ms.length) (h4 : ms.length ≤ 4) (hp : 2 ≤ p) (hp2 : p ≤ 5) (hms : ∀ c ∈ ms, 0 ≤ c ∧ c < 8) :
    SpecG w 156 [.ref lc, .ref lm, .int p tp] 5 (fun news => (lc, listOf cvs.toArray nc) ∈ news ∧ (lm, listOf mvs.toArray nm) ∈ news ∧ ∀ a, S a → ∃ o, (a, o) ∈ news) (fun led r => ∃ x, r = .ref x ∧ FQ w S led x p ms (cs.map (·.fmod p))) := by
  unfold SpecG
  intro mean mg mb dp un gd cn cs' a ccd cl outer A₀ base h₀ L m ps news s Q E B F X TP GB N h44 T hk hP hdp hun hret
  obtain ⟨hP1, hP2, hS⟩ := hP
  w_on
  k_dflt ((refine' call_cls ?k1 ?k2 ?k3 ?k4 ?k5 ?k6 ?_; (case k1 => k_asm); (case k2 => k_asm); (case k3 => k_asm); (case k4 => k_is); (case k5 => k_is); (case k6 => k_is); k_whole; intro x9 d9 h9 F9 N9 l8 l7; (try k_lt l8); (try k_lt2 l7); (try k_sweep); k_enter))
  k_steps
  rename_i g9 L9 h8 tk9 FG9 B9 X9 T9 l9 o9 d1 h7 F8 N8 I9 h6 S9 l6 off9 F7 N7
  have hlen : mvs.length = ms.length := hm.length
  have hcl : cvs.length = ms.length := hc.length.trans hl
  obtain ⟨c0, t0, hc0⟩ : ∃ (c0 : Int) (t0 : Tok), cvs[0]? = some (.int c0 t0) := by
    have h0 : 0 < cvs.length := by omega
    obtain ⟨k, t, e, _⟩ := hc.at 0 _ (List.getElem?_eq_getElem h0)
    exact ⟨k, t, by rw [List.getElem?_eq_getElem h0, e]⟩
  refine ⟨_, _, _, _, _, _, _, rfl, rfl, S9, (by rw [PySem.sizeLine_eq]; omega), F7, N7, off9, ⟨by k_mem, trivial⟩, ⟨[], rfl, .nil, fun _ _ _ h => nomatch h⟩, mc_turn rfl rfl rfl hm (by k_mem), ?_⟩
  intro ys led hkeep hJ
  obtain ⟨tl, rfl, hpa, hord⟩ := hJ
  intro D h5 tk5 F5 N5 o5
  clear F7 N7 S9 l6
  have hne : ∀ p ∈ tl ++ (44, TabO ps) :: news, p.1 ≠ d9 := by
    intro p hp
    rcases List.mem_append.mp hp with hp | hp
    · exact Nat.ne_of_gt (hord (d9, _) (.tail _ (.tail _ (.head _))) p hp)
    · rcases List.mem_cons.mp hp with rfl | hp
      · exact Nat.ne_of_lt l8.1
      · exact Nat.ne_of_lt (ktn_ltOf l8.2 p hp)
  have N6 := kst_newsOf N5 led_mv3
  have h0D : @Ne Nat D 44 := ne_cls N5 (.head _) (by k_mem) (by simp)
  have htl : ∀ p ∈ tl, p.1 ≠ 44 := fun p hp => Nat.ne_of_gt (hord (44, _) (.tail _ (.tail _ (.tail _ (.head _)))) p hp)
  clear N5 hkeep off9
  have hD : @Ne Nat D d9 := ne_cls N6 (.head _) (.tail _ (.tail _ (.tail _ (.head _)))) (by simp)
  k_steps
  rename_i h4 F4 N4 tk3 tk2
  have N3 := kst_newsOf N4 led44
  clear N4
  have hoff := offs N3 (by
    intro p hp
    simp only [List.mem_cons, List.mem_append] at hp
    rcases hp with rfl | rfl | rfl | rfl | hp | hp
    · exact h0D
    · exact Nat.ne_of_gt (Nat.lt_succ_of_lt l9.2.2.1)
    · exact Nat.ne_of_gt (Nat.lt_trans l8.1 l7)
    · exact Nat.ne_of_gt l8.1
    · exact htl p hp
    · exact h44 p hp)
  have hlimit := T9.nolimit
  obtain ⟨bm, ob, hb1, hb2, hb3, hb4, hb5, hb6⟩ := T9.bmain
  refine genexp_tab (l := lc) (vs := cvs) (k := nc) (fun i y => ∃ t c, cs[i]? = some c ∧ y = .int (c.fmod p) t) (row44 X9) ⟨T9.g, hb1, hb2, hb3, hb4, hb5, hb6⟩ rfl hlimit F4 N3 TP GB (by k_mem) hoff rfl rfl rfl (by decide) rfl rfl rfl (by ktr_room) ?_ ?_ ?_
  · intro Q' hQ'
    k_steps
    exact hQ'
  · intro code C A' E' i v t m₂ hA' hd' hu' hv hC hns hm₂ hkeep
    have F2 : Fr g9 C t.heap m₂ := ⟨hns, fun b o e => hkeep b o (fun q => by rw [q, (N3 _ (.head _)).2.2] at e; cases e) (F4.keep b o e), Nat.le_trans (Nat.le_trans F4.above (Nat.le_of_lt F4.ns.lt)) hC⟩
    have N2 := news_into N3 hoff hkeep hC
    clear N3 F4
    obtain ⟨c, tc, rfl, hck⟩ := hc.at i v hv
    refine wpAny_BinOp (wpAny_Name (wpAny_loadName_local rfl rfl hns hm₂ ?_))
    refine Attribute_name (ldFreeG (c := L9 + 1) (v := .ref x9) rfl ⟨o9, (N2 (L9 + 1, o9) (.tail _ (.head _))).1, d1⟩ ?_)
    refine get_own F2 X9 (by k_inst) (by k_is) (by k_is) (by k_is) (by k_is) (by k_get) rfl ?_
    refine mod_int (by omega) ?_
    exact ⟨⟨_, _, hck, rfl⟩, ⟨t.heap, _, rfl, fun _ _ e => e⟩⟩
  intro a9 Kb ps' h2 g2 tk2 TP2 F2 N2 GB2 X2 hK1 hK2 hK3
  have hK6 := leK_cons N2 hK3 hK2
  have hne2 : ∀ p ∈ tl ++ news, p.1 ≠ d9 := fun p hp => hne p ((List.mem_append.mp hp).elim (fun h => List.mem_append_left _ h) fun h => List.mem_append_right _ (.tail _ h))
  have hd44 : @Ne Nat 44 d9 := Nat.ne_of_lt l8.1
  k_steps
  rename_i D2 h3 g3 tk3 zs hz1 hz2 F3 N3 GB3 l3
  have hD2 : @Ne Nat D2 d9 := Nat.ne_of_gt (l3 (d9, _) (by k_mem))
  k_steps
  rename_i D3 h2' tk2' F2' N2' l2'
  have hD3 : @Ne Nat D3 d9 := Nat.ne_of_gt (l2' (d9, _) (by k_mem))
  k_steps
  rename_i kF kN kT kX
  have hpm : List.take mvs.length ms = ms := by rw [hlen, List.take_length]
  rw [hpm] at hpa
  refine hret (.ref x9) ps' _ _ _ _ TP2 GB3 kF (kst_newsOf kN led_ret) ?_ ?_ ?_
  · intro q hq p hp
    have hq2 : q.1 < d9 := ktn_ltOf l8.2 q hq
    simp only [List.mem_cons, List.mem_append, List.cons_append, List.nil_append] at hp
    rcases hp with rfl | rfl | rfl | rfl | rfl | rfl | hp
    · exact Nat.ne_of_gt (l2' q (by k_mem))
    · exact Nat.ne_of_gt (l3 q (by k_mem))
    · exact (Ne.symm (off1 o5 q (by k_mem)))
    · exact Nat.ne_of_gt (Nat.lt_trans hq2 (Nat.lt_succ_of_lt l9.2.1))
    · exact Nat.ne_of_gt (Nat.lt_trans hq2 l7)
    · exact Nat.ne_of_gt hq2
    · exact Nat.ne_of_gt (hord q (by k_mem) p hp)
  · intro p hp
    simp only [List.mem_cons, List.mem_append, List.cons_append, List.nil_append] at hp
    rcases hp with rfl | rfl | rfl | rfl | rfl | rfl | hp
    · exact Nat.ne_of_gt (l2' (44, _) (by k_mem))
    · exact Nat.ne_of_gt (l3 (44, _) (by k_mem))
    · exact h0D
    · exact Nat.ne_of_gt (Nat.lt_succ_of_lt l9.2.2.1)
    · exact Nat.ne_of_gt (Nat.lt_trans l8.1 l7)
    · exact Nat.ne_of_gt l8.1
    · exact htl p hp
  · have hzs := intsAre_gen hc hz1 hz2
    refine ⟨x9, rfl, d9, D, D2, D3, _, _, _, _, _, _, _, ys, zs, mvs, _, by k_mem, by k_mem, by k_mem, ?_, by k_mem, by k_mem, hzs, hm, by rw [List.length_map, hl], fmod_small hp hp2 _, hms, fun hs => ?_⟩
    rotate_left
    · obtain ⟨o, ho⟩ := hS D hs
      exact off1 o5 (D, o) (by k_mem) rfl
    refine hpa.monoT fun T us k hm => ?_
    simp only [List.mem_cons, List.mem_append, List.cons_append, List.nil_append, Prod.mk.injEq] at hm ⊢
    rcases hm with h | h | h | h | h | h
    · simp [h]
    · simp [h]
    · exact absurd (congrArg Obj.cls h.2) (by simp)
    · exact absurd (congrArg Obj.cls h.2) (by simp)
    · exact absurd (congrArg Obj.cls h.2) (by simp)
    · simp [h]

end Mine
end

section
open PySem PySem.W PyProof.Rows PySem.Spec PySem.Calls PyProof.Rows.LCg
set_option Elab.async false
set_option maxRecDepth 100000
set_option maxHeartbeats 1000000
namespace Mine
local macro_rules | `(tactic| k_room) => `(tactic| ktr_room)
local macro_rules | `(tactic| k_units) => `(tactic| ktr_units)
local macro_rules | `(tactic| ktr_enter) => `(tactic| (refine' code_defC ?k1 ?k2 ?k3 ?k4 ?k5 ?kA ?kF ?kK ?k6 ?k7 ?k8 ?k9 ?kB ?kD ?_ ?c2 ?c3 ?c4; (case kA => exact rfl); (case kF => exact rfl); (case kK => first | assumption | exact rfl); (case k1 => k_asm); (case k2 => k_asm); (case k3 => k_asm); (case k4 => k_asm); (case k5 => k_asm); (case k6 => k_is); (case k7 => k_is); (case k8 => ktr_room); (case k9 => exact BindsTo.of_eq rfl); (case kB => exact rfl); (case kD => decide +kernel); (case c2 => exact rfl); (case c3 => exact rfl); (case c4 => exact rfl); k_whole; intro g' L' h' tk' cells' FG' F' N' Y' B' X' T' l1; (try k_lt l1); k_cells Y'; (try simp only [List.cons_append, List.nil_append] at N'); (try dsimp only)))
theorem fill_C2T (w : World) : hd.heap_39 w.params = hd.heap_39 w.params ∧ PySem.Challenge.rw_bb0062_01 = PySem.Challenge.rw_bb0062_01 := by
  k_fill
  exact ⟨rfl, rfl⟩
local macro_rules | `(tactic| k_enter) => `(tactic| first
  | (refine' code_def ?k1 ?k2 ?k3 ?k4 ?k5 ?kA ?kF ?kK ?k6 ?k7 ?k8 ?k9 ?kB ?_ ?c2 ?c3 ?c4 ?c5; (case kA => exact rfl); (case kF => exact rfl); (case kK => first | assumption | exact rfl); (case k1 => k_asm); (case k2 => k_asm); (case k3 => k_asm); (case k4 => k_asm); (case k5 => k_asm); (case k6 => k_is); (case k7 => k_is); (case k8 => ktr_room); (case k9 => first | exact BindsTo.of_eq rfl | exact binds_K (by k_in) rfl (by k_is) rfl rfl rfl | fail "k_enter: no rule for these arguments"); (case c5 => decide); (case kB => exact locs rfl); (case c2 => exact rfl); (case c3 => exact rfl); (case c4 => exact rfl); k_whole; intro g' L' h' FG' F' N' B' X' T'; (try dsimp only); (try k_lift B'); (try k_fold))
  | (refine' code_defC ?k1 ?k2 ?k3 ?k4 ?k5 ?kA ?kF ?kK ?k6 ?k7 ?k8 ?k9 ?kB ?kD ?_ ?c2 ?c3 ?c4; (case kA => exact rfl); (case kF => exact rfl); (case kK => first | assumption | exact rfl); (case k1 => k_asm); (case k2 => k_asm); (case k3 => k_asm); (case k4 => k_asm); (case k5 => k_asm); (case k6 => k_is); (case k7 => k_is); (case k8 => ktr_room); (case k9 => first | exact BindsTo.of_eq rfl | exact binds_K (by k_in) rfl (by k_is) rfl rfl rfl | fail "k_enter: no rule for these arguments"); (case kB => exact rfl); (case kD => decide +kernel); (case c2 => exact rfl); (case c3 => exact rfl); (case c4 => exact rfl); k_whole; intro g' L' h' tk' cells' FG' F' N' Y' B' X' T' l1; (try k_lt l1); k_cells Y'; (try simp only [List.cons_append, List.nil_append] at N'); (try dsimp only); (try k_lift B'); (try k_fold)))
local macro_rules | `(tactic| k_mem) => `(tactic| first | with_reducible_and_instances assumption | with_reducible_and_instances exact List.Mem.head _ | (with_reducible_and_instances refine List.Mem.tail _ ?_; k_mem) | (with_reducible_and_instances refine memL ?_; k_mem) | (with_reducible_and_instances refine memR ?_; k_mem))
local macro_rules | `(tactic| k_all) => `(tactic| assumption)
local macro_rules | `(tactic| walk_at "eval ListComp") => `(tactic| (k_here; (with_reducible show wpAny _ _ (eval (Expr.ListComp _ [⟨Expr.Tuple _ _ _, _, _, _⟩] _ _) _) _ _ _); k_dflt (refine' ListComp_pair ?k1 ?k2 ?k3 ?k4 ?k5 ?k6 ?k7 ?k8 ?_; (case k1 => k_asm); (case k2 => exact rfl); (case k3 => decide); (case k4 => exact rfl); (case k5 => decide); (case k6 => exact rfl); (case k7 => exact rfl); (case k8 => decide); k_whole)))
local macro_rules | `(tactic| walk_at "call type:enumerate") => `(tactic| (k_here; (with_reducible show wpAny _ _ (call (Value.type _) [Value.ref _]) _ _ _); k_dflt (first
  | ((refine' enum_list ?k1 ?k2 ?k3 ?k4 ?k5 ?k6 ?_; (case k1 => exact rfl); (case k2 => k_asm); (case k3 => k_asm); (case k4 => k_mem); (case k5 => exact rfl); (case k6 => exact rfl); k_whole); intro I' h' S' l1 off' F' N')
  | ((refine' enum_tup ?k1 ?k2 ?k3 ?k4 ?k5 ?k6 ?_; (case k1 => exact rfl); (case k2 => k_asm); (case k3 => k_asm); (case k4 => k_mem); (case k5 => exact rfl); (case k6 => exact rfl); k_whole); intro I' h' S' R' lL' l1 off' F' N')); (try dsimp only)))
local macro_rules | `(tactic| walk_at "call type:list") => `(tactic| (k_here; (with_reducible show wpAny _ _ (call (Value.type _) [Value.ref _]) _ _ _); k_dflt (refine' list_enumT ?k1 ?k2 ?k3 ?k4 ?k5 ?k6 ?k7 ?k8 ?_; (case k1 => exact rfl); (case k2 => k_asm); (case k3 => k_asm); (case k4 => assumption); (case k5 => assumption); (case k6 => assumption); (case k7 => assumption); (case k8 => (rw [PySem.sizeLine_eq]; omega)); k_whole); intro D' h' tk' ys' c' tl' F' N' p' l1 l2; (try dsimp only)))
local macro_rules | `(tactic| walk_at "call builtin:len") => `(tactic| (k_here; (with_reducible show wpAny _ _ (call (Value.builtin "len") [Value.ref _]) _ _ _); k_dflt (first
  | (refine' kst_len ?k1 ?k2 ?k3 ?k4 ?_; (case k1 => k_asm); (case k2 => k_mem); (case k3 => assumption); (case k4 => omega); k_whole)
  | (refine' len_T ?k1 ?k2 ?k3 ?k4 ?_; (case k1 => k_asm); (case k2 => k_mem); (case k3 => assumption); (case k4 => omega); k_whole))))
local macro_rules | `(tactic| walk_at "subscriptTail") => `(tactic| (k_here; (with_reducible show wpAny _ _ (subscriptTail _ _ (Value.ref _) (Value.int _ _)) _ _ _); k_dflt (
   (refine' item_L ?k1 ?k2 ?k3 ?k4 ?k5 ?_; (case k1 => k_asm); (case k2 => k_mem); (case k3 => omega); (case k4 => omega); (case k5 => assumption); k_whole))))
local macro_rules | `(tactic| walk_at "exec If") => `(tactic| refine wpAny_If ?_)
local macro_rules | `(tactic| walk_at "isTrue Call") => `(tactic| refine isTrue_plain ?_)
local macro_rules | `(tactic| walk_at "exec If Call cons cons") => `(tactic| refine wpAny_If ?_)
local macro_rules | `(tactic| walk_at "exec If Call cons nil") => `(tactic| refine wpAny_If ?_)
local macro_rules | `(tactic| walk_at "exec If Compare cons nil") => `(tactic| refine wpAny_If ?_)
local macro_rules | `(tactic| walk_at "exec If UnaryOp cons nil") => `(tactic| refine wpAny_If ?_)
local macro_rules | `(tactic| walk_at "ite") => `(tactic| first | rw [if_neg (by first | (simp; done) | omega | (simp; omega))] | rw [if_pos (by first | (simp; done) | omega | (simp; omega))])
local macro_rules | `(tactic| walk_at "call type:tuple") => `(tactic| (k_here; (with_reducible show wpAny _ _ (call (Value.type _) [Value.ref _]) _ _ _); k_dflt (first
  | (refine' tuple_tup_N ?k1 ?k2 ?_; (case k1 => k_asm); (case k2 => k_mem); k_whole)
  | (refine' tuple_list_N ?k1 ?k2 ?k3 ?k4 ?_; (case k1 => k_asm); (case k2 => k_asm); (case k3 => k_mem); (case k4 => (rw [PySem.sizeLine_eq]; omega)); k_whole; intro D' h' tk' F' N' l1)
  | (refine' tuple_Gen ?k1 ?k2 ?k3 ?k4 ?k5 ?k6 ?k7 ?_; (case k1 => k_asm); (case k2 => k_asm); (case k3 => assumption); (case k4 => assumption); (case k5 => assumption); (case k6 => assumption); (case k7 => (rw [PySem.sizeLine_eq]; omega)); k_whole; intro D' h' g' tk' ys' e1 e2 F' N' G' l1))))
local macro_rules | `(tactic| walk_at "call ref") => `(tactic| (k_here; (with_reducible show wpAny _ _ (call (Value.ref 156) _) _ _ _); refine Stop.un ?_))
local macro_rules | `(tactic| walk_at "call type:zip") => `(tactic| (k_here; (with_reducible show wpAny _ _ (call (Value.type _) [Value.ref _, Value.ref _]) _ _ _); k_dflt (refine' zip_tup ?k1 ?k2 ?k3 ?k4 ?k5 ?k6 ?k7 ?k8 ?k9 ?_; (case k1 => exact rfl); (case k2 => k_asm); (case k3 => k_asm); (case k4 => k_mem); (case k5 => exact rfl); (case k6 => exact rfl); (case k7 => k_mem); (case k8 => exact rfl); (case k9 => exact rfl); k_whole); intro I' h' S' l1 off' F' N'; (try dsimp only)))
local macro_rules | `(tactic| walk_at "eval Name") => `(tactic| (k_here; (with_reducible show wpAny _ _ (eval (Expr.Name _ _) (compEnvC _ _ _ _)) _ _ _); k_dflt (first
  | (refine' wpAny_Name (wpAny_loadName_local ?k1 ?k2 ?k3 ?k4 ?_); (case k1 => exact rfl); (case k2 => exact rfl); (case k3 => assumption); (case k4 => assumption); k_whole)
  | (refine' ldFreeK ?k1 ?k2 ?_; (case k1 => exact rfl); (case k2 => assumption); k_whole))))
local macro_rules | `(tactic| walk_at "pyIter ref") => `(tactic| (k_here; k_dflt (refine' PSrc.self ?k1 ?_; (case k1 => assumption); k_whole)))
local macro_rules | `(tactic| walk_at "call ref") => `(tactic| (k_here; first
  | ((with_reducible show wpAny _ _ (call (Value.ref 59) _) _ _ _); refine Stop.un ?_)
  | ((with_reducible show wpAny _ _ (call (Value.ref 76) _) _ _ _); refine Stop.un ?_)
  | ((with_reducible show wpAny _ _ (call (Value.ref 95) _) _ _ _); refine Stop.un ?_)
  | ((with_reducible show wpAny _ _ (call (Value.ref 119) _) _ _ _); refine Stop.un ?_)
  | ((with_reducible show wpAny _ _ (call (Value.ref 126) _) _ _ _); refine Stop.un ?_)
  | ((with_reducible show wpAny _ _ (call (Value.ref 153) _) _ _ _); refine Stop.un ?_)
  | ((with_reducible show wpAny _ _ (call (Value.ref 172) _) _ _ _); refine Stop.un ?_)
  | ((with_reducible show wpAny _ _ (call (Value.ref 177) _) _ _ _); refine Stop.un ?_)
  | ((with_reducible show wpAny _ _ (call (Value.ref 184) _) _ _ _); refine Stop.un ?_)))
local macro_rules | `(tactic| walk_at "exec For Tuple Call cons nil") => `(tactic| (k_here; (rename Fr _ _ _ _ => lF'); (with_unfolding_all refine' For_gens lF' ?_; k_whole); skip))
local macro_rules | `(tactic| walk_at "exec For Tuple Call") => `(tactic| (k_here; (rename Fr _ _ _ _ => lF'); (with_unfolding_all refine' For_gens lF' ?_; k_whole); skip))
local macro_rules | `(tactic| walk_at "exec For Tuple Call cons cons") => `(tactic| (k_here; (rename Fr _ _ _ _ => lF'); (with_unfolding_all refine' For_gens lF' ?_; k_whole); skip))
local macro_rules | `(tactic| walk_at "exec For Tuple Attribute cons nil") => `(tactic| (k_here; (rename Fr _ _ _ _ => lF'); (with_unfolding_all refine' For_gens lF' ?_; k_whole); skip))
local macro_rules | `(tactic| walk_at "exec For Tuple Attribute") => `(tactic| (k_here; (rename Fr _ _ _ _ => lF'); (with_unfolding_all refine' For_gens lF' ?_; k_whole); skip))
local macro_rules | `(tactic| walk_at "exec For Tuple Attribute cons cons") => `(tactic| (k_here; (rename Fr _ _ _ _ => lF'); (with_unfolding_all refine' For_gens lF' ?_; k_whole); skip))
local macro_rules | `(tactic| walk_at "exec For Tuple Name cons nil") => `(tactic| (k_here; (rename Fr _ _ _ _ => lF'); (with_unfolding_all refine' For_gens lF' ?_; k_whole); skip))
local macro_rules | `(tactic| walk_at "exec For Tuple Name") => `(tactic| (k_here; (rename Fr _ _ _ _ => lF'); (with_unfolding_all refine' For_gens lF' ?_; k_whole); skip))
local macro_rules | `(tactic| walk_at "exec For Tuple Name cons cons") => `(tactic| (k_here; (rename Fr _ _ _ _ => lF'); (with_unfolding_all refine' For_gens lF' ?_; k_whole); skip))
local macro_rules | `(tactic| walk_at "exec For Name Call cons nil") => `(tactic| (k_here; (rename Fr _ _ _ _ => lF'); (with_unfolding_all refine' For_gens lF' ?_; k_whole); skip))
local macro_rules | `(tactic| walk_at "exec For Name Call") => `(tactic| (k_here; (rename Fr _ _ _ _ => lF'); (with_unfolding_all refine' For_gens lF' ?_; k_whole); skip))
local macro_rules | `(tactic| walk_at "exec For Name Call cons cons") => `(tactic| (k_here; (rename Fr _ _ _ _ => lF'); (with_unfolding_all refine' For_gens lF' ?_; k_whole); skip))
local macro_rules | `(tactic| walk_at "exec For Name Name cons nil") => `(tactic| (k_here; (rename Fr _ _ _ _ => lF'); (with_unfolding_all refine' For_gens lF' ?_; k_whole); skip))
local macro_rules | `(tactic| walk_at "exec For Name Name") => `(tactic| (k_here; (rename Fr _ _ _ _ => lF'); (with_unfolding_all refine' For_gens lF' ?_; k_whole); skip))
local macro_rules | `(tactic| walk_at "exec For Name Name cons cons") => `(tactic| (k_here; (rename Fr _ _ _ _ => lF'); (with_unfolding_all refine' For_gens lF' ?_; k_whole); skip))
local macro_rules | `(tactic| walk_at "exec For Name Subscript cons nil") => `(tactic| (k_here; (rename Fr _ _ _ _ => lF'); (with_unfolding_all refine' For_gens lF' ?_; k_whole); skip))
local macro_rules | `(tactic| walk_at "exec For Name Subscript") => `(tactic| (k_here; (rename Fr _ _ _ _ => lF'); (with_unfolding_all refine' For_gens lF' ?_; k_whole); skip))
local macro_rules | `(tactic| walk_at "exec For Name Subscript cons cons") => `(tactic| (k_here; (rename Fr _ _ _ _ => lF'); (with_unfolding_all refine' For_gens lF' ?_; k_whole); skip))
local macro_rules | `(tactic| walk_at "call type:range") => `(tactic| (k_here; (with_reducible show wpAny _ _ (call (Value.type _) _) (fun xv s₁ => wpAny _ _ (pyIter xv) (fun it s₂ => TurnsG _ _ _ _ _ _ _ _ _ it s₂) _ s₁) _ _); k_dflt (first
  | ((refine' range_1 ?k1 ?k2 ?_; (case k1 => k_asm); (case k2 => k_asm); k_whole); intro r' h' t' u' tk' R' F' N')
  | ((refine' range_3 ?k3 ?k1 ?k2 ?k4 ?_; (case k3 => decide); (case k1 => k_asm); (case k2 => k_asm); (case k4 => first | decide +kernel | (exact PyProof.noPylong_small (by omega))); k_whole); intro r' h' R' F' N'))))
local macro_rules | `(tactic| walk_at "pyIter ref") => `(tactic| (k_here; (with_reducible show wpAny _ _ (pyIter _) (fun it s₂ => TurnsG _ _ _ _ _ _ _ _ _ it s₂) _ _); k_dflt (first | (refine' PSrc.self ?k1 ?_; (case k1 => assumption); k_whole) | refine Stop.un ?_)))
local macro_rules | `(tactic| walk_at "setItem ref int") => `(tactic| (k_here; (with_reducible show wpAny _ _ (setItem (Value.ref _) (Value.int _ _) (Value.int _ _)) _ _ _); k_dflt (refine' setH ?k1 ?k2 ?k3 ?k4 ?k5 ?k6 ?k7 ?_; (case k1 => k_asm); (case k2 => k_asm); (case k3 => assumption); (case k4 => assumption); (case k5 => omega); (case k6 => omega); (case k7 => omega); k_whole); intro h' F' N' i'))
local macro_rules | `(tactic| walk_at "getItem ref int") => `(tactic| (k_here; (with_reducible show wpAny _ _ (getItem (Value.ref _) (Value.int _ _)) _ _ _); k_dflt (refine' ksa_get ?k1 ?k2 ?k3 ?k4 ?k5 ?k6 ?_; (case k1 => k_asm); (case k2 => k_mem); (case k3 => assumption); (case k4 => omega); (case k5 => omega); (case k6 => omega); k_whole); intro t'))
local macro_rules | `(tactic| walk_at "call builtin:list.pop") => `(tactic| (k_here; (with_reducible show wpAny _ _ (call (Value.builtin _) [Value.ref _]) _ _ _); k_dflt (refine' popH ?k1 ?k2 ?k3 ?k4 ?k5 ?_; (case k1 => k_asm); (case k2 => k_asm); (case k3 => assumption); (case k4 => assumption); (case k5 => (rw [PySem.sizeLine_eq]; omega)); k_whole); intro h' us' t' i' F' N'))
local macro_rules | `(tactic| walk_at "eval Name") => `(tactic| (k_here; (with_reducible show wpAny _ _ (eval (Expr.Name _ _) (envOf _ _ _ _ _)) _ _ _); k_dflt (refine' ld ?k1 ?k2 ?_; (case k1 => k_asm); (case k2 => ((try dsimp only); (repeat (refine' fr_skip ?frh ?_; (case frh => decide +kernel))); first | with_reducible assumption | (refine' fr_hit ?fra ?frb; (case fra => rfl); (case frb => rfl)))); k_whole)))
local macro_rules | `(tactic| walk_at "eval Name") => `(tactic| (k_here; (with_reducible show wpAny _ _ (eval (Expr.Name _ _) (envOfC _ _ _ _ _)) _ _ _); k_dflt (refine' nameX_L ?F ?v ?_ ?a ?b; (case F => k_asm); (case a => rfl); (case b => rfl); (case v => ((try dsimp only); (repeat (refine' fr_skip ?frh ?_; (case frh => decide +kernel))); first | with_reducible assumption | (refine' fr_hit ?fra ?frb; (case fra => rfl); (case frb => rfl)))); k_whole)))
--BODY
set_option maxHeartbeats 8000000 in
theorem mk_specT (w : World) (S : Addr → Prop) (lc lm : Addr) (cvs mvs : List Value) (cs ms : List Int) (nc nm : Nat) (p : Int) (tp : Tok) (hc : IntsAre cvs cs) (hm : IntsAre mvs ms) (hl : cs.length = ms.length) (h1 : 2 ≤ ms.length) (h4 : ms.length ≤ 4) (hp : 2 ≤ p) (hp2 : p ≤ 5) (hms : ∀ c ∈ ms, 0 ≤ c ∧ c < 8) :
    SpecG w 156 [.ref lc, .ref lm, .int p tp] 5 (fun news => (lc, listOf cvs.toArray nc) ∈ news ∧ (lm, tupO mvs nm) ∈ news ∧ ∀ a, S a → ∃ o, (a, o) ∈ news) (fun led r => ∃ x, r = .ref x ∧ FQ w S led x p ms (cs.map (·.fmod p))) := by
  unfold SpecG
  intro mean mg mb dp un gd cn cs' a ccd cl outer A₀ base h₀ L m ps news s Q E B F X TP GB N h44 T hk hP hdp hun hret
  obtain ⟨hP1, hP2, hS⟩ := hP
  w_on
  k_dflt ((refine' call_cls ?k1 ?k2 ?k3 ?k4 ?k5 ?k6 ?_; (case k1 => k_asm); (case k2 => k_asm); (case k3 => k_asm); (case k4 => k_is); (case k5 => k_is); (case k6 => k_is); k_whole; intro x9 d9 h9 F9 N9 l8 l7; (try k_lt l8); (try k_lt2 l7); (try k_sweep); k_enter))
  k_steps
  rename_i g9 L9 h8 tk9 FG9 B9 X9 T9 l9 o9 d1 h7 F8 N8 I9 h6 S9 R9 lL9 l6 off9 F7 N7
  have hlen : mvs.length = ms.length := hm.length
  have hcl : cvs.length = ms.length := hc.length.trans hl
  obtain ⟨c0, t0, hc0⟩ : ∃ (c0 : Int) (t0 : Tok), cvs[0]? = some (.int c0 t0) := by
    have h0 : 0 < cvs.length := by omega
    obtain ⟨k, t, e, _⟩ := hc.at 0 _ (List.getElem?_eq_getElem h0)
    exact ⟨k, t, by rw [List.getElem?_eq_getElem h0, e]⟩
  refine ⟨_, _, _, _, _, _, _, rfl, rfl, S9, (by rw [PySem.sizeLine_eq]; omega), F7, N7, off9, ⟨by k_mem, trivial⟩, ⟨[], rfl, .nil, fun _ _ _ h => nomatch h⟩, mc_turn rfl rfl rfl hm (by k_mem), ?_⟩
  intro ys led hkeep hJ
  obtain ⟨tl, rfl, hpa, hord⟩ := hJ
  intro D h5 tk5 F5 N5 o5
  clear F7 N7 S9 l6
  have hne : ∀ p ∈ tl ++ (44, TabO ps) :: news, p.1 ≠ d9 := by
    intro p hp
    rcases List.mem_append.mp hp with hp | hp
    · exact Nat.ne_of_gt (hord (d9, _) (.tail _ (.tail _ (.head _))) p hp)
    · rcases List.mem_cons.mp hp with rfl | hp
      · exact Nat.ne_of_lt l8.1
      · exact Nat.ne_of_lt (ktn_ltOf l8.2 p hp)
  have N6 := kst_newsOf N5 led_mv3
  have h0D : @Ne Nat D 44 := ne_cls N5 (.head _) (by k_mem) (by simp)
  have htl : ∀ p ∈ tl, p.1 ≠ 44 := fun p hp => Nat.ne_of_gt (hord (44, _) (.tail _ (.tail _ (.tail _ (.head _)))) p hp)
  clear N5 hkeep off9
  have hD : @Ne Nat D d9 := ne_cls N6 (.head _) (.tail _ (.tail _ (.tail _ (.head _)))) (by simp)
  k_steps
  rename_i h4 F4 N4 tk3 tk2
  have N3 := kst_newsOf N4 led44
  clear N4
  have hoff := offs N3 (by
    intro p hp
    simp only [List.mem_cons, List.mem_append] at hp
    rcases hp with rfl | rfl | rfl | rfl | hp | hp
    · exact h0D
    · exact Nat.ne_of_gt (Nat.lt_succ_of_lt l9.2.2.1)
    · exact Nat.ne_of_gt (Nat.lt_trans l8.1 l7)
    · exact Nat.ne_of_gt l8.1
    · exact htl p hp
    · exact h44 p hp)
  have hlimit := T9.nolimit
  obtain ⟨bm, ob, hb1, hb2, hb3, hb4, hb5, hb6⟩ := T9.bmain
  refine genexp_tab (l := lc) (vs := cvs) (k := nc) (fun i y => ∃ t c, cs[i]? = some c ∧ y = .int (c.fmod p) t) (row44 X9) ⟨T9.g, hb1, hb2, hb3, hb4, hb5, hb6⟩ rfl hlimit F4 N3 TP GB (by k_mem) hoff rfl rfl rfl (by decide) rfl rfl rfl (by ktr_room) ?_ ?_ ?_
  · intro Q' hQ'
    k_steps
    exact hQ'
  · intro code C A' E' i v t m₂ hA' hd' hu' hv hC hns hm₂ hkeep
    have F2 : Fr g9 C t.heap m₂ := ⟨hns, fun b o e => hkeep b o (fun q => by rw [q, (N3 _ (.head _)).2.2] at e; cases e) (F4.keep b o e), Nat.le_trans (Nat.le_trans F4.above (Nat.le_of_lt F4.ns.lt)) hC⟩
    have N2 := news_into N3 hoff hkeep hC
    clear N3 F4
    obtain ⟨c, tc, rfl, hck⟩ := hc.at i v hv
    refine wpAny_BinOp (wpAny_Name (wpAny_loadName_local rfl rfl hns hm₂ ?_))
    refine Attribute_name (ldFreeG (c := L9 + 1) (v := .ref x9) rfl ⟨o9, (N2 (L9 + 1, o9) (.tail _ (.head _))).1, d1⟩ ?_)
    refine get_own F2 X9 (by k_inst) (by k_is) (by k_is) (by k_is) (by k_is) (by k_get) rfl ?_
    refine mod_int (by omega) ?_
    exact ⟨⟨_, _, hck, rfl⟩, ⟨t.heap, _, rfl, fun _ _ e => e⟩⟩
  intro a9 Kb ps' h2 g2 tk2 TP2 F2 N2 GB2 X2 hK1 hK2 hK3
  have hK6 := leK_cons N2 hK3 hK2
  have hne2 : ∀ p ∈ tl ++ news, p.1 ≠ d9 := fun p hp => hne p ((List.mem_append.mp hp).elim (fun h => List.mem_append_left _ h) fun h => List.mem_append_right _ (.tail _ h))
  have hd44 : @Ne Nat 44 d9 := Nat.ne_of_lt l8.1
  k_steps
  rename_i D2 h3 g3 tk3 zs hz1 hz2 F3 N3 GB3 l3
  have hD2 : @Ne Nat D2 d9 := Nat.ne_of_gt (l3 (d9, _) (by k_mem))
  k_steps
  rename_i kF kN kT kX
  have hpm : List.take mvs.length ms = ms := by rw [hlen, List.take_length]
  rw [hpm] at hpa
  refine hret (.ref x9) ps' _ _ _ _ TP2 GB3 kF (kst_newsOf kN led_ret5) ?_ ?_ ?_
  · intro q hq p hp
    have hq2 : q.1 < d9 := ktn_ltOf l8.2 q hq
    simp only [List.mem_cons, List.mem_append, List.cons_append, List.nil_append] at hp
    rcases hp with rfl | rfl | rfl | rfl | rfl | hp
    · exact Nat.ne_of_gt (l3 q (by k_mem))
    · exact (Ne.symm (off1 o5 q (by k_mem)))
    · exact Nat.ne_of_gt (Nat.lt_trans hq2 (Nat.lt_succ_of_lt l9.2.1))
    · exact Nat.ne_of_gt (Nat.lt_trans hq2 l7)
    · exact Nat.ne_of_gt hq2
    · exact Nat.ne_of_gt (hord q (by k_mem) p hp)
  · intro p hp
    simp only [List.mem_cons, List.mem_append, List.cons_append, List.nil_append] at hp
    rcases hp with rfl | rfl | rfl | rfl | rfl | hp
    · exact Nat.ne_of_gt (l3 (44, _) (by k_mem))
    · exact h0D
    · exact Nat.ne_of_gt (Nat.lt_succ_of_lt l9.2.2.1)
    · exact Nat.ne_of_gt (Nat.lt_trans l8.1 l7)
    · exact Nat.ne_of_gt l8.1
    · exact htl p hp
  · have hzs := intsAre_gen hc hz1 hz2
    refine ⟨x9, rfl, d9, D, D2, lm, _, _, _, _, _, _, _, ys, zs, mvs, _, by k_mem, by k_mem, by k_mem, ?_, by k_mem, by k_mem, hzs, hm, by rw [List.length_map, hl], fmod_small hp hp2 _, hms, fun hs => ?_⟩
    rotate_left
    · obtain ⟨o, ho⟩ := hS D hs
      exact off1 o5 (D, o) (by k_mem) rfl
    refine hpa.monoT fun T us k hm => ?_
    simp only [List.mem_cons, List.mem_append, List.cons_append, List.nil_append, Prod.mk.injEq] at hm ⊢
    rcases hm with h | h | h | h | h | h
    · simp [h]
    · simp [h]
    · exact absurd (congrArg Obj.cls h.2) (by simp)
    · exact absurd (congrArg Obj.cls h.2) (by simp)
    · exact absurd (congrArg Obj.cls h.2) (by simp)
    · simp [h]

end Mine
end

section
open PySem PySem.W PyProof.Rows PySem.Spec PySem.Calls PyProof.Rows.LCg
set_option Elab.async false
set_option maxRecDepth 100000
set_option maxHeartbeats 1000000
namespace Mine
local macro_rules | `(tactic| k_room) => `(tactic| ktr_room)
local macro_rules | `(tactic| k_units) => `(tactic| ktr_units)
local macro_rules | `(tactic| ktr_enter) => `(tactic| (refine' code_defC ?k1 ?k2 ?k3 ?k4 ?k5 ?kA ?kF ?kK ?k6 ?k7 ?k8 ?k9 ?kB ?kD ?_ ?c2 ?c3 ?c4; (case kA => exact rfl); (case kF => exact rfl); (case kK => first | assumption | exact rfl); (case k1 => k_asm); (case k2 => k_asm); (case k3 => k_asm); (case k4 => k_asm); (case k5 => k_asm); (case k6 => k_is); (case k7 => k_is); (case k8 => ktr_room); (case k9 => exact BindsTo.of_eq rfl); (case kB => exact rfl); (case kD => decide +kernel); (case c2 => exact rfl); (case c3 => exact rfl); (case c4 => exact rfl); k_whole; intro g' L' h' tk' cells' FG' F' N' Y' B' X' T' l1; (try k_lt l1); k_cells Y'; (try simp only [List.cons_append, List.nil_append] at N'); (try dsimp only)))
theorem fill_C3 (w : World) : hd.heap_39 w.params = hd.heap_39 w.params ∧ PySem.Challenge.rw_bb0062_01 = PySem.Challenge.rw_bb0062_01 := by
  k_fill
  exact ⟨rfl, rfl⟩
local macro_rules | `(tactic| k_enter) => `(tactic| first
  | (refine' code_def ?k1 ?k2 ?k3 ?k4 ?k5 ?kA ?kF ?kK ?k6 ?k7 ?k8 ?k9 ?kB ?_ ?c2 ?c3 ?c4 ?c5; (case kA => exact rfl); (case kF => exact rfl); (case kK => first | assumption | exact rfl); (case k1 => k_asm); (case k2 => k_asm); (case k3 => k_asm); (case k4 => k_asm); (case k5 => k_asm); (case k6 => k_is); (case k7 => k_is); (case k8 => ktr_room); (case k9 => first | exact BindsTo.of_eq rfl | exact binds_K (by k_in) rfl (by k_is) rfl rfl rfl | fail "k_enter: no rule for these arguments"); (case c5 => decide); (case kB => exact locs rfl); (case c2 => exact rfl); (case c3 => exact rfl); (case c4 => exact rfl); k_whole; intro g' L' h' FG' F' N' B' X' T'; (try dsimp only); (try k_lift B'); (try k_fold))
  | (refine' code_defC ?k1 ?k2 ?k3 ?k4 ?k5 ?kA ?kF ?kK ?k6 ?k7 ?k8 ?k9 ?kB ?kD ?_ ?c2 ?c3 ?c4; (case kA => exact rfl); (case kF => exact rfl); (case kK => first | assumption | exact rfl); (case k1 => k_asm); (case k2 => k_asm); (case k3 => k_asm); (case k4 => k_asm); (case k5 => k_asm); (case k6 => k_is); (case k7 => k_is); (case k8 => ktr_room); (case k9 => first | exact BindsTo.of_eq rfl | exact binds_K (by k_in) rfl (by k_is) rfl rfl rfl | fail "k_enter: no rule for these arguments"); (case kB => exact rfl); (case kD => decide +kernel); (case c2 => exact rfl); (case c3 => exact rfl); (case c4 => exact rfl); k_whole; intro g' L' h' tk' cells' FG' F' N' Y' B' X' T' l1; (try k_lt l1); k_cells Y'; (try simp only [List.cons_append, List.nil_append] at N'); (try dsimp only); (try k_lift B'); (try k_fold)))
local macro_rules | `(tactic| k_mem) => `(tactic| first | with_reducible_and_instances assumption | with_reducible_and_instances exact List.Mem.head _ | (with_reducible_and_instances refine List.Mem.tail _ ?_; k_mem) | (with_reducible_and_instances refine memL ?_; k_mem) | (with_reducible_and_instances refine memR ?_; k_mem))
local macro_rules | `(tactic| k_all) => `(tactic| assumption)
local macro_rules | `(tactic| walk_at "eval ListComp") => `(tactic| (k_here; (with_reducible show wpAny _ _ (eval (Expr.ListComp _ [⟨Expr.Tuple _ _ _, _, _, _⟩] _ _) _) _ _ _); k_dflt (refine' ListComp_pair ?k1 ?k2 ?k3 ?k4 ?k5 ?k6 ?k7 ?k8 ?_; (case k1 => k_asm); (case k2 => exact rfl); (case k3 => decide); (case k4 => exact rfl); (case k5 => decide); (case k6 => exact rfl); (case k7 => exact rfl); (case k8 => decide); k_whole)))
local macro_rules | `(tactic| walk_at "call type:enumerate") => `(tactic| (k_here; (with_reducible show wpAny _ _ (call (Value.type _) [Value.ref _]) _ _ _); k_dflt (first
  | ((refine' enum_list ?k1 ?k2 ?k3 ?k4 ?k5 ?k6 ?_; (case k1 => exact rfl); (case k2 => k_asm); (case k3 => k_asm); (case k4 => k_mem); (case k5 => exact rfl); (case k6 => exact rfl); k_whole); intro I' h' S' l1 off' F' N')
  | ((refine' enum_tup ?k1 ?k2 ?k3 ?k4 ?k5 ?k6 ?_; (case k1 => exact rfl); (case k2 => k_asm); (case k3 => k_asm); (case k4 => k_mem); (case k5 => exact rfl); (case k6 => exact rfl); k_whole); intro I' h' S' R' lL' l1 off' F' N')); (try dsimp only)))
local macro_rules | `(tactic| walk_at "call type:list") => `(tactic| (k_here; (with_reducible show wpAny _ _ (call (Value.type _) [Value.ref _]) _ _ _); k_dflt (refine' list_enumT ?k1 ?k2 ?k3 ?k4 ?k5 ?k6 ?k7 ?k8 ?_; (case k1 => exact rfl); (case k2 => k_asm); (case k3 => k_asm); (case k4 => assumption); (case k5 => assumption); (case k6 => assumption); (case k7 => assumption); (case k8 => (rw [PySem.sizeLine_eq]; omega)); k_whole); intro D' h' tk' ys' c' tl' F' N' p' l1 l2; (try dsimp only)))
local macro_rules | `(tactic| walk_at "call builtin:len") => `(tactic| (k_here; (with_reducible show wpAny _ _ (call (Value.builtin "len") [Value.ref _]) _ _ _); k_dflt (first
  | (refine' kst_len ?k1 ?k2 ?k3 ?k4 ?_; (case k1 => k_asm); (case k2 => k_mem); (case k3 => assumption); (case k4 => omega); k_whole)
  | (refine' len_T ?k1 ?k2 ?k3 ?k4 ?_; (case k1 => k_asm); (case k2 => k_mem); (case k3 => assumption); (case k4 => omega); k_whole))))
local macro_rules | `(tactic| walk_at "subscriptTail") => `(tactic| (k_here; (with_reducible show wpAny _ _ (subscriptTail _ _ (Value.ref _) (Value.int _ _)) _ _ _); k_dflt (
   (refine' item_L ?k1 ?k2 ?k3 ?k4 ?k5 ?_; (case k1 => k_asm); (case k2 => k_mem); (case k3 => omega); (case k4 => omega); (case k5 => assumption); k_whole))))
local macro_rules | `(tactic| walk_at "exec If") => `(tactic| refine wpAny_If ?_)
local macro_rules | `(tactic| walk_at "isTrue Call") => `(tactic| refine isTrue_plain ?_)
local macro_rules | `(tactic| walk_at "exec If Call cons cons") => `(tactic| refine wpAny_If ?_)
local macro_rules | `(tactic| walk_at "exec If Call cons nil") => `(tactic| refine wpAny_If ?_)
local macro_rules | `(tactic| walk_at "exec If Compare cons nil") => `(tactic| refine wpAny_If ?_)
local macro_rules | `(tactic| walk_at "exec If UnaryOp cons nil") => `(tactic| refine wpAny_If ?_)
local macro_rules | `(tactic| walk_at "ite") => `(tactic| first | rw [if_neg (by first | (simp; done) | omega | (simp; omega))] | rw [if_pos (by first | (simp; done) | omega | (simp; omega))])
local macro_rules | `(tactic| walk_at "call type:tuple") => `(tactic| (k_here; (with_reducible show wpAny _ _ (call (Value.type _) [Value.ref _]) _ _ _); k_dflt (first
  | (refine' tuple_tup_N ?k1 ?k2 ?_; (case k1 => k_asm); (case k2 => k_mem); k_whole)
  | (refine' tuple_list_N ?k1 ?k2 ?k3 ?k4 ?_; (case k1 => k_asm); (case k2 => k_asm); (case k3 => k_mem); (case k4 => (rw [PySem.sizeLine_eq]; omega)); k_whole; intro D' h' tk' F' N' l1)
  | (refine' tuple_Gen ?k1 ?k2 ?k3 ?k4 ?k5 ?k6 ?k7 ?_; (case k1 => k_asm); (case k2 => k_asm); (case k3 => assumption); (case k4 => assumption); (case k5 => assumption); (case k6 => assumption); (case k7 => (rw [PySem.sizeLine_eq]; omega)); k_whole; intro D' h' g' tk' ys' e1 e2 F' N' G' l1))))
local macro_rules | `(tactic| walk_at "call ref") => `(tactic| (k_here; (with_reducible show wpAny _ _ (call (Value.ref 156) _) _ _ _); refine Stop.un ?_))
local macro_rules | `(tactic| walk_at "call type:zip") => `(tactic| (k_here; (with_reducible show wpAny _ _ (call (Value.type _) [Value.ref _, Value.ref _]) _ _ _); k_dflt (refine' zip_tup ?k1 ?k2 ?k3 ?k4 ?k5 ?k6 ?k7 ?k8 ?k9 ?_; (case k1 => exact rfl); (case k2 => k_asm); (case k3 => k_asm); (case k4 => k_mem); (case k5 => exact rfl); (case k6 => exact rfl); (case k7 => k_mem); (case k8 => exact rfl); (case k9 => exact rfl); k_whole); intro I' h' S' l1 off' F' N'; (try dsimp only)))
local macro_rules | `(tactic| walk_at "eval Name") => `(tactic| (k_here; (with_reducible show wpAny _ _ (eval (Expr.Name _ _) (compEnvC _ _ _ _)) _ _ _); k_dflt (first
  | (refine' wpAny_Name (wpAny_loadName_local ?k1 ?k2 ?k3 ?k4 ?_); (case k1 => exact rfl); (case k2 => exact rfl); (case k3 => assumption); (case k4 => assumption); k_whole)
  | (refine' ldFreeK ?k1 ?k2 ?_; (case k1 => exact rfl); (case k2 => assumption); k_whole))))
local macro_rules | `(tactic| walk_at "pyIter ref") => `(tactic| (k_here; k_dflt (refine' PSrc.self ?k1 ?_; (case k1 => assumption); k_whole)))
local macro_rules | `(tactic| walk_at "call ref") => `(tactic| (k_here; first
  | ((with_reducible show wpAny _ _ (call (Value.ref 59) _) _ _ _); refine Stop.un ?_)
  | ((with_reducible show wpAny _ _ (call (Value.ref 76) _) _ _ _); refine Stop.un ?_)
  | ((with_reducible show wpAny _ _ (call (Value.ref 95) _) _ _ _); refine Stop.un ?_)
  | ((with_reducible show wpAny _ _ (call (Value.ref 119) _) _ _ _); refine Stop.un ?_)
  | ((with_reducible show wpAny _ _ (call (Value.ref 126) _) _ _ _); refine Stop.un ?_)
  | ((with_reducible show wpAny _ _ (call (Value.ref 153) _) _ _ _); refine Stop.un ?_)
  | ((with_reducible show wpAny _ _ (call (Value.ref 172) _) _ _ _); refine Stop.un ?_)
  | ((with_reducible show wpAny _ _ (call (Value.ref 177) _) _ _ _); refine Stop.un ?_)
  | ((with_reducible show wpAny _ _ (call (Value.ref 184) _) _ _ _); refine Stop.un ?_)))
local macro_rules | `(tactic| walk_at "exec For Tuple Call cons nil") => `(tactic| (k_here; (rename Fr _ _ _ _ => lF'); (with_unfolding_all refine' For_gens lF' ?_; k_whole); skip))
local macro_rules | `(tactic| walk_at "exec For Tuple Call") => `(tactic| (k_here; (rename Fr _ _ _ _ => lF'); (with_unfolding_all refine' For_gens lF' ?_; k_whole); skip))
local macro_rules | `(tactic| walk_at "exec For Tuple Call cons cons") => `(tactic| (k_here; (rename Fr _ _ _ _ => lF'); (with_unfolding_all refine' For_gens lF' ?_; k_whole); skip))
local macro_rules | `(tactic| walk_at "exec For Tuple Attribute cons nil") => `(tactic| (k_here; (rename Fr _ _ _ _ => lF'); (with_unfolding_all refine' For_gens lF' ?_; k_whole); skip))
local macro_rules | `(tactic| walk_at "exec For Tuple Attribute") => `(tactic| (k_here; (rename Fr _ _ _ _ => lF'); (with_unfolding_all refine' For_gens lF' ?_; k_whole); skip))
local macro_rules | `(tactic| walk_at "exec For Tuple Attribute cons cons") => `(tactic| (k_here; (rename Fr _ _ _ _ => lF'); (with_unfolding_all refine' For_gens lF' ?_; k_whole); skip))
local macro_rules | `(tactic| walk_at "exec For Tuple Name cons nil") => `(tactic| (k_here; (rename Fr _ _ _ _ => lF'); (with_unfolding_all refine' For_gens lF' ?_; k_whole); skip))
local macro_rules | `(tactic| walk_at "exec For Tuple Name") => `(tactic| (k_here; (rename Fr _ _ _ _ => lF'); (with_unfolding_all refine' For_gens lF' ?_; k_whole); skip))
local macro_rules | `(tactic| walk_at "exec For Tuple Name cons cons") => `(tactic| (k_here; (rename Fr _ _ _ _ => lF'); (with_unfolding_all refine' For_gens lF' ?_; k_whole); skip))
local macro_rules | `(tactic| walk_at "exec For Name Call cons nil") => `(tactic| (k_here; (rename Fr _ _ _ _ => lF'); (with_unfolding_all refine' For_gens lF' ?_; k_whole); skip))
local macro_rules | `(tactic| walk_at "exec For Name Call") => `(tactic| (k_here; (rename Fr _ _ _ _ => lF'); (with_unfolding_all refine' For_gens lF' ?_; k_whole); skip))
local macro_rules | `(tactic| walk_at "exec For Name Call cons cons") => `(tactic| (k_here; (rename Fr _ _ _ _ => lF'); (with_unfolding_all refine' For_gens lF' ?_; k_whole); skip))
local macro_rules | `(tactic| walk_at "exec For Name Name cons nil") => `(tactic| (k_here; (rename Fr _ _ _ _ => lF'); (with_unfolding_all refine' For_gens lF' ?_; k_whole); skip))
local macro_rules | `(tactic| walk_at "exec For Name Name") => `(tactic| (k_here; (rename Fr _ _ _ _ => lF'); (with_unfolding_all refine' For_gens lF' ?_; k_whole); skip))
local macro_rules | `(tactic| walk_at "exec For Name Name cons cons") => `(tactic| (k_here; (rename Fr _ _ _ _ => lF'); (with_unfolding_all refine' For_gens lF' ?_; k_whole); skip))
local macro_rules | `(tactic| walk_at "exec For Name Subscript cons nil") => `(tactic| (k_here; (rename Fr _ _ _ _ => lF'); (with_unfolding_all refine' For_gens lF' ?_; k_whole); skip))
local macro_rules | `(tactic| walk_at "exec For Name Subscript") => `(tactic| (k_here; (rename Fr _ _ _ _ => lF'); (with_unfolding_all refine' For_gens lF' ?_; k_whole); skip))
local macro_rules | `(tactic| walk_at "exec For Name Subscript cons cons") => `(tactic| (k_here; (rename Fr _ _ _ _ => lF'); (with_unfolding_all refine' For_gens lF' ?_; k_whole); skip))
local macro_rules | `(tactic| walk_at "call type:range") => `(tactic| (k_here; (with_reducible show wpAny _ _ (call (Value.type _) _) (fun xv s₁ => wpAny _ _ (pyIter xv) (fun it s₂ => TurnsG _ _ _ _ _ _ _ _ _ it s₂) _ s₁) _ _); k_dflt (first
  | ((refine' range_1 ?k1 ?k2 ?_; (case k1 => k_asm); (case k2 => k_asm); k_whole); intro r' h' t' u' tk' R' F' N')
  | ((refine' range_3 ?k3 ?k1 ?k2 ?k4 ?_; (case k3 => decide); (case k1 => k_asm); (case k2 => k_asm); (case k4 => first | decide +kernel | (exact PyProof.noPylong_small (by omega))); k_whole); intro r' h' R' F' N'))))
local macro_rules | `(tactic| walk_at "pyIter ref") => `(tactic| (k_here; (with_reducible show wpAny _ _ (pyIter _) (fun it s₂ => TurnsG _ _ _ _ _ _ _ _ _ it s₂) _ _); k_dflt (first | (refine' PSrc.self ?k1 ?_; (case k1 => assumption); k_whole) | refine Stop.un ?_)))
local macro_rules | `(tactic| walk_at "setItem ref int") => `(tactic| (k_here; (with_reducible show wpAny _ _ (setItem (Value.ref _) (Value.int _ _) (Value.int _ _)) _ _ _); k_dflt (refine' setH ?k1 ?k2 ?k3 ?k4 ?k5 ?k6 ?k7 ?_; (case k1 => k_asm); (case k2 => k_asm); (case k3 => assumption); (case k4 => assumption); (case k5 => omega); (case k6 => omega); (case k7 => omega); k_whole); intro h' F' N' i'))
local macro_rules | `(tactic| walk_at "getItem ref int") => `(tactic| (k_here; (with_reducible show wpAny _ _ (getItem (Value.ref _) (Value.int _ _)) _ _ _); k_dflt (refine' ksa_get ?k1 ?k2 ?k3 ?k4 ?k5 ?k6 ?_; (case k1 => k_asm); (case k2 => k_mem); (case k3 => assumption); (case k4 => omega); (case k5 => omega); (case k6 => omega); k_whole); intro t'))
local macro_rules | `(tactic| walk_at "call builtin:list.pop") => `(tactic| (k_here; (with_reducible show wpAny _ _ (call (Value.builtin _) [Value.ref _]) _ _ _); k_dflt (refine' popH ?k1 ?k2 ?k3 ?k4 ?k5 ?_; (case k1 => k_asm); (case k2 => k_asm); (case k3 => assumption); (case k4 => assumption); (case k5 => (rw [PySem.sizeLine_eq]; omega)); k_whole); intro h' us' t' i' F' N'))
local macro_rules | `(tactic| walk_at "eval Name") => `(tactic| (k_here; (with_reducible show wpAny _ _ (eval (Expr.Name _ _) (envOf _ _ _ _ _)) _ _ _); k_dflt (refine' ld ?k1 ?k2 ?_; (case k1 => k_asm); (case k2 => ((try dsimp only); (repeat (refine' fr_skip ?frh ?_; (case frh => decide +kernel))); first | with_reducible assumption | (refine' fr_hit ?fra ?frb; (case fra => rfl); (case frb => rfl)))); k_whole)))
local macro_rules | `(tactic| walk_at "eval Name") => `(tactic| (k_here; (with_reducible show wpAny _ _ (eval (Expr.Name _ _) (envOfC _ _ _ _ _)) _ _ _); k_dflt (refine' nameX_L ?F ?v ?_ ?a ?b; (case F => k_asm); (case a => rfl); (case b => rfl); (case v => ((try dsimp only); (repeat (refine' fr_skip ?frh ?_; (case frh => decide +kernel))); first | with_reducible assumption | (refine' fr_hit ?fra ?frb; (case fra => rfl); (case frb => rfl)))); k_whole)))
local macro_rules | `(tactic| walk_at "eval Name") => `(tactic| (k_here; (with_reducible show wpAny _ _ (eval (Expr.Name _ _) (envOfC _ _ _ _ _)) _ _ _); k_dflt (refine' nameX_C ?N ?c ?m ?d ?_ ?a ?b; (case b => rfl); (case a => rfl); (case N => k_asm); (case c => rfl); (case m => k_mem); (case d => k_asm); k_whole)))
local macro_rules | `(tactic| walk_at "getMethod ref") => `(tactic| (k_here; (with_reducible show wpAny _ _ (getMethod (Value.ref _) (PySem.Str.ofString "pop") _) _ _ _); k_dflt (refine' kl_method ?N ?m PySem.F.slot_list_pop PySem.F.type_list_pop ?_; (case N => k_asm); (case m => k_mem); k_whole)))
--BODY
theorem add_spec (w : World) (S : Addr → Prop) (x y : Addr) (ms cs1 cs2 : List Int) (p : Int) (h1 : 2 ≤ ms.length) (h4 : ms.length ≤ 4) (hp : 2 ≤ p) (hp2 : p ≤ 5) :
    SpecG w 59 [.ref x, .ref y] 12 (fun news => FQ w S news x p ms cs1 ∧ FQ w S news y p ms cs2 ∧ ∀ a, S a → ∃ o, (a, o) ∈ news) (fun led r => ∃ z, r = .ref z ∧ FQ w S led z p ms ((List.zipWith (fun x y => (x + y).fmod p) cs1 cs2).map (·.fmod p))) := by
  unfold SpecG
  intro mean mg mb dp un gd cn cs' a ccd cl outer A₀ base h₀ L m ps news s Q E B F X TP GB N h44 T hk hP hdp hun hret
  obtain ⟨⟨d, D, D2, D3, tp, t1, t2, t3, t4, t5, t6, ys, zs, mvs, k3, a1, a2, a3, a4, a5, a6, a7, a8, a9, a10, a11, a12⟩, ⟨d', D', D2', D3', tp', t1', t2', t3', t4', t5', t6', ys', zs', mvs', k3', b1, b2, b3, b4, b5, b6, b7, b8, b9, b10, b11, b12⟩, hS⟩ := hP
  w_on
  k_dflt (refine wpAny_call ?_; k_enter)
  k_steps
  rename_i g9 L9 h8 tk9 FG9 F8 B9 X9 T9 l9 o9 d1 N8 I9 h7 S9 l8 off9 F7 N7
  have hl1 := a7.length
  have hl2 := b7.length
  refine ⟨_, _, _, _, _, _, fun i ys led => led = (L9 + 1, o9) :: (44, TabO ps) :: news ∧ IntsAre ys (List.take i (List.zipWith (fun x y => (x + y).fmod p) cs1 cs2)), rfl, rfl, S9, (by rw [PySem.sizeLine_eq]; omega), F7, N7, off9, ⟨by k_mem, by k_mem, trivial⟩, ⟨rfl, .nil⟩, ?_, ?_⟩
  · intro i v₁ v₂ C oC D m₂ ys its news₁ h tk E' hin hV hJ hkeep hits hoC hx hx₂ F N off ne
    obtain ⟨rfl, hys⟩ := hJ
    obtain ⟨hv1, hv2⟩ := hV
    obtain ⟨c1, u1, rfl, hc1⟩ := a7.at i v₁ hv1
    obtain ⟨c2, u2, rfl, hc2⟩ := b7.at i v₂ hv2
    refine wpAny_tests_nil ?_
    dsimp only
    rw [if_pos rfl]
    have hns : h.Ns C m₂ := hoC.ns (N (C, oC) (List.mem_append_right _ (.head _))).1
    have hcell : h.IsCell (L9 + 1) (some (.ref x)) := ⟨o9, (N (L9 + 1, o9) (by k_mem)).1, d1⟩
    k_steps
    exact ⟨h, _, _, rfl, F, N, off, hkeep, rfl, intsAre_snoc hys (by simp [List.getElem?_zipWith, hc1, hc2])⟩
  · intro ys1 led hkeep hJ
    obtain ⟨rfl, hys⟩ := hJ
    intro D5 h5 tk5 F5 N5 o5
    clear F8 N8 F7 N7 S9 off9
    k_steps
    rename_i N6 qk ek tk
    have hlz : (List.zipWith (fun x y => (x + y).fmod p) cs1 cs2).length = ms.length := by rw [List.length_zipWith]; omega
    rw [show min zs.length zs'.length = ms.length by omega, ← hlz, List.take_length] at hys
    have h0D : D5 ≠ 44 := fun e => off1 o5 (44, _) (by k_mem) e.symm
    have hoff : ∀ p ∈ (D5, lst ys1) :: (L9 + 1, o9) :: news, p.1 ≠ 44 := by
      intro p hp
      simp only [List.mem_cons] at hp
      rcases hp with rfl | rfl | hp
      · exact h0D
      · exact Nat.ne_of_gt (Nat.lt_succ_of_lt l9.1)
      · exact h44 p hp
    refine Stop.go ?_
    refine specG_use (mk_specT w S D5 D3 ys1 mvs _ ms _ k3 p tp hys a8 hlz h1 h4 hp hp2 a11) (by k_asm) (by k_asm) (by k_asm) TP GB (kst_newsOf (by k_asm) led_t2) hoff (by k_asm) (by first | rfl | assumption) ⟨by k_mem, by k_mem, fun a h => (hS a h).imp fun o ho => by k_mem⟩ (by ktr_room) (by ktr_units) ?_
    intro r ps' tl h2 g2 tk2 TP2 GB2 F2 N2 hord2 htl2 ho
    obtain ⟨z, rfl, hz⟩ := ho
    k_steps
    rename_i kF kN kT kX
    refine hret (.ref z) ps' _ _ _ _ TP2 GB2 kF (kst_newsOf kN led_a2) ?_ ?_ ⟨z, rfl, hz.mono led_m2⟩
    · intro q hq p hp
      simp only [List.mem_cons] at hp
      rcases hp with rfl | rfl | hp
      · exact Ne.symm (off1 o5 q (by k_mem))
      · exact Nat.ne_of_gt (Nat.lt_succ_of_lt (ktn_ltOf l9.2 q hq))
      · exact hord2 q (by k_mem) p hp
    · intro p hp
      simp only [List.mem_cons] at hp
      rcases hp with rfl | rfl | hp
      · exact h0D
      · exact Nat.ne_of_gt (Nat.lt_succ_of_lt l9.1)
      · exact htl2 p hp

end Mine
end

section
open PySem PySem.W PyProof.Rows PySem.Spec PySem.Calls PyProof.Rows.LCg
set_option Elab.async false
set_option maxRecDepth 100000
set_option maxHeartbeats 1000000
namespace Mine
local macro_rules | `(tactic| k_room) => `(tactic| ktr_room)
local macro_rules | `(tactic| k_units) => `(tactic| ktr_units)
local macro_rules | `(tactic| ktr_enter) => `(tactic| (refine' code_defC ?k1 ?k2 ?k3 ?k4 ?k5 ?kA ?kF ?kK ?k6 ?k7 ?k8 ?k9 ?kB ?kD ?_ ?c2 ?c3 ?c4; (case kA => exact rfl); (case kF => exact rfl); (case kK => first | assumption | exact rfl); (case k1 => k_asm); (case k2 => k_asm); (case k3 => k_asm); (case k4 => k_asm); (case k5 => k_asm); (case k6 => k_is); (case k7 => k_is); (case k8 => ktr_room); (case k9 => exact BindsTo.of_eq rfl); (case kB => exact rfl); (case kD => decide +kernel); (case c2 => exact rfl); (case c3 => exact rfl); (case c4 => exact rfl); k_whole; intro g' L' h' tk' cells' FG' F' N' Y' B' X' T' l1; (try k_lt l1); k_cells Y'; (try simp only [List.cons_append, List.nil_append] at N'); (try dsimp only)))
theorem fill_C4 (w : World) : hd.heap_39 w.params = hd.heap_39 w.params ∧ PySem.Challenge.rw_bb0062_01 = PySem.Challenge.rw_bb0062_01 := by
  k_fill
  exact ⟨rfl, rfl⟩
local macro_rules | `(tactic| k_enter) => `(tactic| first
  | (refine' code_def ?k1 ?k2 ?k3 ?k4 ?k5 ?kA ?kF ?kK ?k6 ?k7 ?k8 ?k9 ?kB ?_ ?c2 ?c3 ?c4 ?c5; (case kA => exact rfl); (case kF => exact rfl); (case kK => first | assumption | exact rfl); (case k1 => k_asm); (case k2 => k_asm); (case k3 => k_asm); (case k4 => k_asm); (case k5 => k_asm); (case k6 => k_is); (case k7 => k_is); (case k8 => ktr_room); (case k9 => first | exact BindsTo.of_eq rfl | exact binds_K (by k_in) rfl (by k_is) rfl rfl rfl | fail "k_enter: no rule for these arguments"); (case c5 => decide); (case kB => exact locs rfl); (case c2 => exact rfl); (case c3 => exact rfl); (case c4 => exact rfl); k_whole; intro g' L' h' FG' F' N' B' X' T'; (try dsimp only); (try k_lift B'); (try k_fold))
  | (refine' code_defC ?k1 ?k2 ?k3 ?k4 ?k5 ?kA ?kF ?kK ?k6 ?k7 ?k8 ?k9 ?kB ?kD ?_ ?c2 ?c3 ?c4; (case kA => exact rfl); (case kF => exact rfl); (case kK => first | assumption | exact rfl); (case k1 => k_asm); (case k2 => k_asm); (case k3 => k_asm); (case k4 => k_asm); (case k5 => k_asm); (case k6 => k_is); (case k7 => k_is); (case k8 => ktr_room); (case k9 => first | exact BindsTo.of_eq rfl | exact binds_K (by k_in) rfl (by k_is) rfl rfl rfl | fail "k_enter: no rule for these arguments"); (case kB => exact rfl); (case kD => decide +kernel); (case c2 => exact rfl); (case c3 => exact rfl); (case c4 => exact rfl); k_whole; intro g' L' h' tk' cells' FG' F' N' Y' B' X' T' l1; (try k_lt l1); k_cells Y'; (try simp only [List.cons_append, List.nil_append] at N'); (try dsimp only); (try k_lift B'); (try k_fold)))
local macro_rules | `(tactic| k_mem) => `(tactic| first | with_reducible_and_instances assumption | with_reducible_and_instances exact List.Mem.head _ | (with_reducible_and_instances refine List.Mem.tail _ ?_; k_mem) | (with_reducible_and_instances refine memL ?_; k_mem) | (with_reducible_and_instances refine memR ?_; k_mem))
local macro_rules | `(tactic| k_all) => `(tactic| assumption)
local macro_rules | `(tactic| walk_at "eval ListComp") => `(tactic| (k_here; (with_reducible show wpAny _ _ (eval (Expr.ListComp _ [⟨Expr.Tuple _ _ _, _, _, _⟩] _ _) _) _ _ _); k_dflt (refine' ListComp_pair ?k1 ?k2 ?k3 ?k4 ?k5 ?k6 ?k7 ?k8 ?_; (case k1 => k_asm); (case k2 => exact rfl); (case k3 => decide); (case k4 => exact rfl); (case k5 => decide); (case k6 => exact rfl); (case k7 => exact rfl); (case k8 => decide); k_whole)))
local macro_rules | `(tactic| walk_at "call type:enumerate") => `(tactic| (k_here; (with_reducible show wpAny _ _ (call (Value.type _) [Value.ref _]) _ _ _); k_dflt (first
  | ((refine' enum_list ?k1 ?k2 ?k3 ?k4 ?k5 ?k6 ?_; (case k1 => exact rfl); (case k2 => k_asm); (case k3 => k_asm); (case k4 => k_mem); (case k5 => exact rfl); (case k6 => exact rfl); k_whole); intro I' h' S' l1 off' F' N')
  | ((refine' enum_tup ?k1 ?k2 ?k3 ?k4 ?k5 ?k6 ?_; (case k1 => exact rfl); (case k2 => k_asm); (case k3 => k_asm); (case k4 => k_mem); (case k5 => exact rfl); (case k6 => exact rfl); k_whole); intro I' h' S' R' lL' l1 off' F' N')); (try dsimp only)))
local macro_rules | `(tactic| walk_at "call type:list") => `(tactic| (k_here; (with_reducible show wpAny _ _ (call (Value.type _) [Value.ref _]) _ _ _); k_dflt (refine' list_enumT ?k1 ?k2 ?k3 ?k4 ?k5 ?k6 ?k7 ?k8 ?_; (case k1 => exact rfl); (case k2 => k_asm); (case k3 => k_asm); (case k4 => assumption); (case k5 => assumption); (case k6 => assumption); (case k7 => assumption); (case k8 => (rw [PySem.sizeLine_eq]; omega)); k_whole); intro D' h' tk' ys' c' tl' F' N' p' l1 l2; (try dsimp only)))
local macro_rules | `(tactic| walk_at "call builtin:len") => `(tactic| (k_here; (with_reducible show wpAny _ _ (call (Value.builtin "len") [Value.ref _]) _ _ _); k_dflt (first
  | (refine' kst_len ?k1 ?k2 ?k3 ?k4 ?_; (case k1 => k_asm); (case k2 => k_mem); (case k3 => assumption); (case k4 => omega); k_whole)
  | (refine' len_T ?k1 ?k2 ?k3 ?k4 ?_; (case k1 => k_asm); (case k2 => k_mem); (case k3 => assumption); (case k4 => omega); k_whole))))
local macro_rules | `(tactic| walk_at "subscriptTail") => `(tactic| (k_here; (with_reducible show wpAny _ _ (subscriptTail _ _ (Value.ref _) (Value.int _ _)) _ _ _); k_dflt (
   (refine' item_L ?k1 ?k2 ?k3 ?k4 ?k5 ?_; (case k1 => k_asm); (case k2 => k_mem); (case k3 => omega); (case k4 => omega); (case k5 => assumption); k_whole))))
local macro_rules | `(tactic| walk_at "exec If") => `(tactic| refine wpAny_If ?_)
local macro_rules | `(tactic| walk_at "isTrue Call") => `(tactic| refine isTrue_plain ?_)
local macro_rules | `(tactic| walk_at "exec If Call cons cons") => `(tactic| refine wpAny_If ?_)
local macro_rules | `(tactic| walk_at "exec If Call cons nil") => `(tactic| refine wpAny_If ?_)
local macro_rules | `(tactic| walk_at "exec If Compare cons nil") => `(tactic| refine wpAny_If ?_)
local macro_rules | `(tactic| walk_at "exec If UnaryOp cons nil") => `(tactic| refine wpAny_If ?_)
local macro_rules | `(tactic| walk_at "ite") => `(tactic| first | rw [if_neg (by first | (simp; done) | omega | (simp; omega))] | rw [if_pos (by first | (simp; done) | omega | (simp; omega))])
local macro_rules | `(tactic| walk_at "call type:tuple") => `(tactic| (k_here; (with_reducible show wpAny _ _ (call (Value.type _) [Value.ref _]) _ _ _); k_dflt (first
  | (refine' tuple_tup_N ?k1 ?k2 ?_; (case k1 => k_asm); (case k2 => k_mem); k_whole)
  | (refine' tuple_list_N ?k1 ?k2 ?k3 ?k4 ?_; (case k1 => k_asm); (case k2 => k_asm); (case k3 => k_mem); (case k4 => (rw [PySem.sizeLine_eq]; omega)); k_whole; intro D' h' tk' F' N' l1)
  | (refine' tuple_Gen ?k1 ?k2 ?k3 ?k4 ?k5 ?k6 ?k7 ?_; (case k1 => k_asm); (case k2 => k_asm); (case k3 => assumption); (case k4 => assumption); (case k5 => assumption); (case k6 => assumption); (case k7 => (rw [PySem.sizeLine_eq]; omega)); k_whole; intro D' h' g' tk' ys' e1 e2 F' N' G' l1))))
local macro_rules | `(tactic| walk_at "call ref") => `(tactic| (k_here; (with_reducible show wpAny _ _ (call (Value.ref 156) _) _ _ _); refine Stop.un ?_))
local macro_rules | `(tactic| walk_at "call type:zip") => `(tactic| (k_here; (with_reducible show wpAny _ _ (call (Value.type _) [Value.ref _, Value.ref _]) _ _ _); k_dflt (refine' zip_tup ?k1 ?k2 ?k3 ?k4 ?k5 ?k6 ?k7 ?k8 ?k9 ?_; (case k1 => exact rfl); (case k2 => k_asm); (case k3 => k_asm); (case k4 => k_mem); (case k5 => exact rfl); (case k6 => exact rfl); (case k7 => k_mem); (case k8 => exact rfl); (case k9 => exact rfl); k_whole); intro I' h' S' l1 off' F' N'; (try dsimp only)))
local macro_rules | `(tactic| walk_at "eval Name") => `(tactic| (k_here; (with_reducible show wpAny _ _ (eval (Expr.Name _ _) (compEnvC _ _ _ _)) _ _ _); k_dflt (first
  | (refine' wpAny_Name (wpAny_loadName_local ?k1 ?k2 ?k3 ?k4 ?_); (case k1 => exact rfl); (case k2 => exact rfl); (case k3 => assumption); (case k4 => assumption); k_whole)
  | (refine' ldFreeK ?k1 ?k2 ?_; (case k1 => exact rfl); (case k2 => assumption); k_whole))))
local macro_rules | `(tactic| walk_at "pyIter ref") => `(tactic| (k_here; k_dflt (refine' PSrc.self ?k1 ?_; (case k1 => assumption); k_whole)))
local macro_rules | `(tactic| walk_at "call ref") => `(tactic| (k_here; first
  | ((with_reducible show wpAny _ _ (call (Value.ref 59) _) _ _ _); refine Stop.un ?_)
  | ((with_reducible show wpAny _ _ (call (Value.ref 76) _) _ _ _); refine Stop.un ?_)
  | ((with_reducible show wpAny _ _ (call (Value.ref 95) _) _ _ _); refine Stop.un ?_)
  | ((with_reducible show wpAny _ _ (call (Value.ref 119) _) _ _ _); refine Stop.un ?_)
  | ((with_reducible show wpAny _ _ (call (Value.ref 126) _) _ _ _); refine Stop.un ?_)
  | ((with_reducible show wpAny _ _ (call (Value.ref 153) _) _ _ _); refine Stop.un ?_)
  | ((with_reducible show wpAny _ _ (call (Value.ref 172) _) _ _ _); refine Stop.un ?_)
  | ((with_reducible show wpAny _ _ (call (Value.ref 177) _) _ _ _); refine Stop.un ?_)
  | ((with_reducible show wpAny _ _ (call (Value.ref 184) _) _ _ _); refine Stop.un ?_)))
local macro_rules | `(tactic| walk_at "exec For Tuple Call cons nil") => `(tactic| (k_here; (rename Fr _ _ _ _ => lF'); (with_unfolding_all refine' For_gens lF' ?_; k_whole); skip))
local macro_rules | `(tactic| walk_at "exec For Tuple Call") => `(tactic| (k_here; (rename Fr _ _ _ _ => lF'); (with_unfolding_all refine' For_gens lF' ?_; k_whole); skip))
local macro_rules | `(tactic| walk_at "exec For Tuple Call cons cons") => `(tactic| (k_here; (rename Fr _ _ _ _ => lF'); (with_unfolding_all refine' For_gens lF' ?_; k_whole); skip))
local macro_rules | `(tactic| walk_at "exec For Tuple Attribute cons nil") => `(tactic| (k_here; (rename Fr _ _ _ _ => lF'); (with_unfolding_all refine' For_gens lF' ?_; k_whole); skip))
local macro_rules | `(tactic| walk_at "exec For Tuple Attribute") => `(tactic| (k_here; (rename Fr _ _ _ _ => lF'); (with_unfolding_all refine' For_gens lF' ?_; k_whole); skip))
local macro_rules | `(tactic| walk_at "exec For Tuple Attribute cons cons") => `(tactic| (k_here; (rename Fr _ _ _ _ => lF'); (with_unfolding_all refine' For_gens lF' ?_; k_whole); skip))
local macro_rules | `(tactic| walk_at "exec For Tuple Name cons nil") => `(tactic| (k_here; (rename Fr _ _ _ _ => lF'); (with_unfolding_all refine' For_gens lF' ?_; k_whole); skip))
local macro_rules | `(tactic| walk_at "exec For Tuple Name") => `(tactic| (k_here; (rename Fr _ _ _ _ => lF'); (with_unfolding_all refine' For_gens lF' ?_; k_whole); skip))
local macro_rules | `(tactic| walk_at "exec For Tuple Name cons cons") => `(tactic| (k_here; (rename Fr _ _ _ _ => lF'); (with_unfolding_all refine' For_gens lF' ?_; k_whole); skip))
local macro_rules | `(tactic| walk_at "exec For Name Call cons nil") => `(tactic| (k_here; (rename Fr _ _ _ _ => lF'); (with_unfolding_all refine' For_gens lF' ?_; k_whole); skip))
local macro_rules | `(tactic| walk_at "exec For Name Call") => `(tactic| (k_here; (rename Fr _ _ _ _ => lF'); (with_unfolding_all refine' For_gens lF' ?_; k_whole); skip))
local macro_rules | `(tactic| walk_at "exec For Name Call cons cons") => `(tactic| (k_here; (rename Fr _ _ _ _ => lF'); (with_unfolding_all refine' For_gens lF' ?_; k_whole); skip))
local macro_rules | `(tactic| walk_at "exec For Name Name cons nil") => `(tactic| (k_here; (rename Fr _ _ _ _ => lF'); (with_unfolding_all refine' For_gens lF' ?_; k_whole); skip))
local macro_rules | `(tactic| walk_at "exec For Name Name") => `(tactic| (k_here; (rename Fr _ _ _ _ => lF'); (with_unfolding_all refine' For_gens lF' ?_; k_whole); skip))
local macro_rules | `(tactic| walk_at "exec For Name Name cons cons") => `(tactic| (k_here; (rename Fr _ _ _ _ => lF'); (with_unfolding_all refine' For_gens lF' ?_; k_whole); skip))
local macro_rules | `(tactic| walk_at "exec For Name Subscript cons nil") => `(tactic| (k_here; (rename Fr _ _ _ _ => lF'); (with_unfolding_all refine' For_gens lF' ?_; k_whole); skip))
local macro_rules | `(tactic| walk_at "exec For Name Subscript") => `(tactic| (k_here; (rename Fr _ _ _ _ => lF'); (with_unfolding_all refine' For_gens lF' ?_; k_whole); skip))
local macro_rules | `(tactic| walk_at "exec For Name Subscript cons cons") => `(tactic| (k_here; (rename Fr _ _ _ _ => lF'); (with_unfolding_all refine' For_gens lF' ?_; k_whole); skip))
local macro_rules | `(tactic| walk_at "call type:range") => `(tactic| (k_here; (with_reducible show wpAny _ _ (call (Value.type _) _) (fun xv s₁ => wpAny _ _ (pyIter xv) (fun it s₂ => TurnsG _ _ _ _ _ _ _ _ _ it s₂) _ s₁) _ _); k_dflt (first
  | ((refine' range_1 ?k1 ?k2 ?_; (case k1 => k_asm); (case k2 => k_asm); k_whole); intro r' h' t' u' tk' R' F' N')
  | ((refine' range_3 ?k3 ?k1 ?k2 ?k4 ?_; (case k3 => decide); (case k1 => k_asm); (case k2 => k_asm); (case k4 => first | decide +kernel | (exact PyProof.noPylong_small (by omega))); k_whole); intro r' h' R' F' N'))))
local macro_rules | `(tactic| walk_at "pyIter ref") => `(tactic| (k_here; (with_reducible show wpAny _ _ (pyIter _) (fun it s₂ => TurnsG _ _ _ _ _ _ _ _ _ it s₂) _ _); k_dflt (first | (refine' PSrc.self ?k1 ?_; (case k1 => assumption); k_whole) | refine Stop.un ?_)))
local macro_rules | `(tactic| walk_at "setItem ref int") => `(tactic| (k_here; (with_reducible show wpAny _ _ (setItem (Value.ref _) (Value.int _ _) (Value.int _ _)) _ _ _); k_dflt (refine' setH ?k1 ?k2 ?k3 ?k4 ?k5 ?k6 ?k7 ?_; (case k1 => k_asm); (case k2 => k_asm); (case k3 => assumption); (case k4 => assumption); (case k5 => omega); (case k6 => omega); (case k7 => omega); k_whole); intro h' F' N' i'))
local macro_rules | `(tactic| walk_at "getItem ref int") => `(tactic| (k_here; (with_reducible show wpAny _ _ (getItem (Value.ref _) (Value.int _ _)) _ _ _); k_dflt (refine' ksa_get ?k1 ?k2 ?k3 ?k4 ?k5 ?k6 ?_; (case k1 => k_asm); (case k2 => k_mem); (case k3 => assumption); (case k4 => omega); (case k5 => omega); (case k6 => omega); k_whole); intro t'))
local macro_rules | `(tactic| walk_at "call builtin:list.pop") => `(tactic| (k_here; (with_reducible show wpAny _ _ (call (Value.builtin _) [Value.ref _]) _ _ _); k_dflt (refine' popH ?k1 ?k2 ?k3 ?k4 ?k5 ?_; (case k1 => k_asm); (case k2 => k_asm); (case k3 => assumption); (case k4 => assumption); (case k5 => (rw [PySem.sizeLine_eq]; omega)); k_whole); intro h' us' t' i' F' N'))
local macro_rules | `(tactic| walk_at "eval Name") => `(tactic| (k_here; (with_reducible show wpAny _ _ (eval (Expr.Name _ _) (envOf _ _ _ _ _)) _ _ _); k_dflt (refine' ld ?k1 ?k2 ?_; (case k1 => k_asm); (case k2 => ((try dsimp only); (repeat (refine' fr_skip ?frh ?_; (case frh => decide +kernel))); first | with_reducible assumption | (refine' fr_hit ?fra ?frb; (case fra => rfl); (case frb => rfl)))); k_whole)))
local macro_rules | `(tactic| walk_at "eval Name") => `(tactic| (k_here; (with_reducible show wpAny _ _ (eval (Expr.Name _ _) (envOfC _ _ _ _ _)) _ _ _); k_dflt (refine' nameX_L ?F ?v ?_ ?a ?b; (case F => k_asm); (case a => rfl); (case b => rfl); (case v => ((try dsimp only); (repeat (refine' fr_skip ?frh ?_; (case frh => decide +kernel))); first | with_reducible assumption | (refine' fr_hit ?fra ?frb; (case fra => rfl); (case frb => rfl)))); k_whole)))
local macro_rules | `(tactic| walk_at "eval Name") => `(tactic| (k_here; (with_reducible show wpAny _ _ (eval (Expr.Name _ _) (envOfC _ _ _ _ _)) _ _ _); k_dflt (refine' nameX_C ?N ?c ?m ?d ?_ ?a ?b; (case b => rfl); (case a => rfl); (case N => k_asm); (case c => rfl); (case m => k_mem); (case d => k_asm); k_whole)))
local macro_rules | `(tactic| walk_at "getMethod ref") => `(tactic| (k_here; (with_reducible show wpAny _ _ (getMethod (Value.ref _) (PySem.Str.ofString "pop") _) _ _ _); k_dflt (refine' kl_method ?N ?m PySem.F.slot_list_pop PySem.F.type_list_pop ?_; (case N => k_asm); (case m => k_mem); k_whole)))
--BODY
theorem zero_spec (w : World) (S : Addr → Prop) (x : Addr) (ms cs1 : List Int) (p : Int) (h1 : 2 ≤ ms.length) (h4 : ms.length ≤ 4) (hp : 2 ≤ p) (hp2 : p ≤ 5) :
    SpecG w 153 [.ref x] 12 (fun news => FQ w S news x p ms cs1 ∧ ∀ a, S a → ∃ o, (a, o) ∈ news) (fun led r => ∃ z, r = .ref z ∧ FQ w S led z p ms ((List.replicate ms.length (0 : Int)).map (·.fmod p))) := by
  unfold SpecG
  intro mean mg mb dp un gd cn cs' a ccd cl outer A₀ base h₀ L m ps news s Q E B F X TP GB N h44 T hk hP hdp hun hret
  obtain ⟨⟨d, D, D2, D3, tp, t1, t2, t3, t4, t5, t6, ys, zs, mvs, k3, a1, a2, a3, a4, a5, a6, a7, a8, a9, a10, a11, a12⟩, hS⟩ := hP
  w_on
  k_dflt (refine wpAny_call ?_; k_enter)
  k_steps
  rename_i g8 L8 h8 FG8 B8 X8 T8 qk8 ek8 tk8 l8 h7 F7 N7 m8 D8 h6 F6 N6 i8 n8 s8 e8 e7 e6 m7 g9 L9 h9 FG9 F9 N9 B9 X9 T9
  rw [show (List.replicate (Int.toNat ms.length) [(0 : Int)]).flatten = List.replicate ms.length 0 by simp] at i8
  have hN := kst_newsOf N9 led_t2
  have hoff := offs hN (by
    intro p hp
    simp only [List.mem_cons] at hp
    rcases hp with rfl | rfl | hp
    · exact Nat.ne_of_gt m7.2.1
    · exact Nat.ne_of_gt m8.1
    · exact h44 p hp)
  refine Stop.go ?_
  refine specG_use (mk_specT w S D8 D3 _ mvs _ ms _ k3 p tp i8 a8 (by simp) h1 h4 hp hp2 a11) (by k_asm) (by k_asm) (by k_asm) TP GB hN hoff (by k_asm) (by first | rfl | assumption) ⟨by k_mem, by k_mem, fun a h => (hS a h).imp fun o ho => by k_mem⟩ (by ktr_room) (by ktr_units) ?_
  intro r ps' tl h2 g2 tk2 TP2 GB2 F2 N2 hord2 htl2 ho
  obtain ⟨z, rfl, hz⟩ := ho
  k_steps
  rename_i kF kN kT kX
  refine hret (.ref z) ps' _ _ _ _ TP2 GB2 kF (kst_newsOf kN led_a2) ?_ ?_ ⟨z, rfl, hz.mono led_m2⟩
  · intro q hq p hp
    simp only [List.mem_cons] at hp
    rcases hp with rfl | rfl | hp
    · exact Nat.ne_of_gt (ktn_ltOf m7.2.2 q hq)
    · exact Nat.ne_of_gt (ktn_ltOf m8.2 q hq)
    · exact hord2 q (by k_mem) p hp
  · intro p hp
    simp only [List.mem_cons] at hp
    rcases hp with rfl | rfl | hp
    · exact Nat.ne_of_gt m7.2.1
    · exact Nat.ne_of_gt m8.1
    · exact htl2 p hp

end Mine
end

section
open PySem PySem.W PyProof.Rows PySem.Spec PySem.Calls PyProof.Rows.LCg
set_option Elab.async false
set_option maxRecDepth 100000
set_option maxHeartbeats 1000000
namespace Mine
local macro_rules | `(tactic| k_room) => `(tactic| ktr_room)
local macro_rules | `(tactic| k_units) => `(tactic| ktr_units)
local macro_rules | `(tactic| ktr_enter) => `(tactic| (refine' code_defC ?k1 ?k2 ?k3 ?k4 ?k5 ?kA ?kF ?kK ?k6 ?k7 ?k8 ?k9 ?kB ?kD ?_ ?c2 ?c3 ?c4; (case kA => exact rfl); (case kF => exact rfl); (case kK => first | assumption | exact rfl); (case k1 => k_asm); (case k2 => k_asm); (case k3 => k_asm); (case k4 => k_asm); (case k5 => k_asm); (case k6 => k_is); (case k7 => k_is); (case k8 => ktr_room); (case k9 => exact BindsTo.of_eq rfl); (case kB => exact rfl); (case kD => decide +kernel); (case c2 => exact rfl); (case c3 => exact rfl); (case c4 => exact rfl); k_whole; intro g' L' h' tk' cells' FG' F' N' Y' B' X' T' l1; (try k_lt l1); k_cells Y'; (try simp only [List.cons_append, List.nil_append] at N'); (try dsimp only)))
theorem fill_C5 (w : World) : hd.heap_39 w.params = hd.heap_39 w.params ∧ PySem.Challenge.rw_bb0062_01 = PySem.Challenge.rw_bb0062_01 := by
  k_fill
  exact ⟨rfl, rfl⟩
local macro_rules | `(tactic| k_enter) => `(tactic| first
  | (refine' code_def ?k1 ?k2 ?k3 ?k4 ?k5 ?kA ?kF ?kK ?k6 ?k7 ?k8 ?k9 ?kB ?_ ?c2 ?c3 ?c4 ?c5; (case kA => exact rfl); (case kF => exact rfl); (case kK => first | assumption | exact rfl); (case k1 => k_asm); (case k2 => k_asm); (case k3 => k_asm); (case k4 => k_asm); (case k5 => k_asm); (case k6 => k_is); (case k7 => k_is); (case k8 => ktr_room); (case k9 => first | exact BindsTo.of_eq rfl | exact binds_K (by k_in) rfl (by k_is) rfl rfl rfl | fail "k_enter: no rule for these arguments"); (case c5 => decide); (case kB => exact locs rfl); (case c2 => exact rfl); (case c3 => exact rfl); (case c4 => exact rfl); k_whole; intro g' L' h' FG' F' N' B' X' T'; (try dsimp only); (try k_lift B'); (try k_fold))
  | (refine' code_defC ?k1 ?k2 ?k3 ?k4 ?k5 ?kA ?kF ?kK ?k6 ?k7 ?k8 ?k9 ?kB ?kD ?_ ?c2 ?c3 ?c4; (case kA => exact rfl); (case kF => exact rfl); (case kK => first | assumption | exact rfl); (case k1 => k_asm); (case k2 => k_asm); (case k3 => k_asm); (case k4 => k_asm); (case k5 => k_asm); (case k6 => k_is); (case k7 => k_is); (case k8 => ktr_room); (case k9 => first | exact BindsTo.of_eq rfl | exact binds_K (by k_in) rfl (by k_is) rfl rfl rfl | fail "k_enter: no rule for these arguments"); (case kB => exact rfl); (case kD => decide +kernel); (case c2 => exact rfl); (case c3 => exact rfl); (case c4 => exact rfl); k_whole; intro g' L' h' tk' cells' FG' F' N' Y' B' X' T' l1; (try k_lt l1); k_cells Y'; (try simp only [List.cons_append, List.nil_append] at N'); (try dsimp only); (try k_lift B'); (try k_fold)))
local macro_rules | `(tactic| k_mem) => `(tactic| first | with_reducible_and_instances assumption | with_reducible_and_instances exact List.Mem.head _ | (with_reducible_and_instances refine List.Mem.tail _ ?_; k_mem) | (with_reducible_and_instances refine memL ?_; k_mem) | (with_reducible_and_instances refine memR ?_; k_mem))
local macro_rules | `(tactic| k_all) => `(tactic| assumption)
local macro_rules | `(tactic| walk_at "eval ListComp") => `(tactic| (k_here; (with_reducible show wpAny _ _ (eval (Expr.ListComp _ [⟨Expr.Tuple _ _ _, _, _, _⟩] _ _) _) _ _ _); k_dflt (refine' ListComp_pair ?k1 ?k2 ?k3 ?k4 ?k5 ?k6 ?k7 ?k8 ?_; (case k1 => k_asm); (case k2 => exact rfl); (case k3 => decide); (case k4 => exact rfl); (case k5 => decide); (case k6 => exact rfl); (case k7 => exact rfl); (case k8 => decide); k_whole)))
local macro_rules | `(tactic| walk_at "call type:enumerate") => `(tactic| (k_here; (with_reducible show wpAny _ _ (call (Value.type _) [Value.ref _]) _ _ _); k_dflt (first
  | ((refine' enum_list ?k1 ?k2 ?k3 ?k4 ?k5 ?k6 ?_; (case k1 => exact rfl); (case k2 => k_asm); (case k3 => k_asm); (case k4 => k_mem); (case k5 => exact rfl); (case k6 => exact rfl); k_whole); intro I' h' S' l1 off' F' N')
  | ((refine' enum_tup ?k1 ?k2 ?k3 ?k4 ?k5 ?k6 ?_; (case k1 => exact rfl); (case k2 => k_asm); (case k3 => k_asm); (case k4 => k_mem); (case k5 => exact rfl); (case k6 => exact rfl); k_whole); intro I' h' S' R' lL' l1 off' F' N')); (try dsimp only)))
local macro_rules | `(tactic| walk_at "call type:list") => `(tactic| (k_here; (with_reducible show wpAny _ _ (call (Value.type _) [Value.ref _]) _ _ _); k_dflt (refine' list_enumT ?k1 ?k2 ?k3 ?k4 ?k5 ?k6 ?k7 ?k8 ?_; (case k1 => exact rfl); (case k2 => k_asm); (case k3 => k_asm); (case k4 => assumption); (case k5 => assumption); (case k6 => assumption); (case k7 => assumption); (case k8 => (rw [PySem.sizeLine_eq]; omega)); k_whole); intro D' h' tk' ys' c' tl' F' N' p' l1 l2; (try dsimp only)))
local macro_rules | `(tactic| walk_at "call builtin:len") => `(tactic| (k_here; (with_reducible show wpAny _ _ (call (Value.builtin "len") [Value.ref _]) _ _ _); k_dflt (first
  | (refine' kst_len ?k1 ?k2 ?k3 ?k4 ?_; (case k1 => k_asm); (case k2 => k_mem); (case k3 => assumption); (case k4 => omega); k_whole)
  | (refine' len_T ?k1 ?k2 ?k3 ?k4 ?_; (case k1 => k_asm); (case k2 => k_mem); (case k3 => assumption); (case k4 => omega); k_whole))))
local macro_rules | `(tactic| walk_at "subscriptTail") => `(tactic| (k_here; (with_reducible show wpAny _ _ (subscriptTail _ _ (Value.ref _) (Value.int _ _)) _ _ _); k_dflt (
   (refine' item_L ?k1 ?k2 ?k3 ?k4 ?k5 ?_; (case k1 => k_asm); (case k2 => k_mem); (case k3 => omega); (case k4 => omega); (case k5 => assumption); k_whole))))
local macro_rules | `(tactic| walk_at "exec If") => `(tactic| refine wpAny_If ?_)
local macro_rules | `(tactic| walk_at "isTrue Call") => `(tactic| refine isTrue_plain ?_)
local macro_rules | `(tactic| walk_at "exec If Call cons cons") => `(tactic| refine wpAny_If ?_)
local macro_rules | `(tactic| walk_at "exec If Call cons nil") => `(tactic| refine wpAny_If ?_)
local macro_rules | `(tactic| walk_at "exec If Compare cons nil") => `(tactic| refine wpAny_If ?_)
local macro_rules | `(tactic| walk_at "exec If UnaryOp cons nil") => `(tactic| refine wpAny_If ?_)
local macro_rules | `(tactic| walk_at "ite") => `(tactic| first | rw [if_neg (by first | (simp; done) | omega | (simp; omega))] | rw [if_pos (by first | (simp; done) | omega | (simp; omega))])
local macro_rules | `(tactic| walk_at "call type:tuple") => `(tactic| (k_here; (with_reducible show wpAny _ _ (call (Value.type _) [Value.ref _]) _ _ _); k_dflt (first
  | (refine' tuple_tup_N ?k1 ?k2 ?_; (case k1 => k_asm); (case k2 => k_mem); k_whole)
  | (refine' tuple_list_N ?k1 ?k2 ?k3 ?k4 ?_; (case k1 => k_asm); (case k2 => k_asm); (case k3 => k_mem); (case k4 => (rw [PySem.sizeLine_eq]; omega)); k_whole; intro D' h' tk' F' N' l1)
  | (refine' tuple_Gen ?k1 ?k2 ?k3 ?k4 ?k5 ?k6 ?k7 ?_; (case k1 => k_asm); (case k2 => k_asm); (case k3 => assumption); (case k4 => assumption); (case k5 => assumption); (case k6 => assumption); (case k7 => (rw [PySem.sizeLine_eq]; omega)); k_whole; intro D' h' g' tk' ys' e1 e2 F' N' G' l1))))
local macro_rules | `(tactic| walk_at "call ref") => `(tactic| (k_here; (with_reducible show wpAny _ _ (call (Value.ref 156) _) _ _ _); refine Stop.un ?_))
local macro_rules | `(tactic| walk_at "call type:zip") => `(tactic| (k_here; (with_reducible show wpAny _ _ (call (Value.type _) [Value.ref _, Value.ref _]) _ _ _); k_dflt (refine' zip_tup ?k1 ?k2 ?k3 ?k4 ?k5 ?k6 ?k7 ?k8 ?k9 ?_; (case k1 => exact rfl); (case k2 => k_asm); (case k3 => k_asm); (case k4 => k_mem); (case k5 => exact rfl); (case k6 => exact rfl); (case k7 => k_mem); (case k8 => exact rfl); (case k9 => exact rfl); k_whole); intro I' h' S' l1 off' F' N'; (try dsimp only)))
local macro_rules | `(tactic| walk_at "eval Name") => `(tactic| (k_here; (with_reducible show wpAny _ _ (eval (Expr.Name _ _) (compEnvC _ _ _ _)) _ _ _); k_dflt (first
  | (refine' wpAny_Name (wpAny_loadName_local ?k1 ?k2 ?k3 ?k4 ?_); (case k1 => exact rfl); (case k2 => exact rfl); (case k3 => assumption); (case k4 => assumption); k_whole)
  | (refine' ldFreeK ?k1 ?k2 ?_; (case k1 => exact rfl); (case k2 => assumption); k_whole))))
local macro_rules | `(tactic| walk_at "pyIter ref") => `(tactic| (k_here; k_dflt (refine' PSrc.self ?k1 ?_; (case k1 => assumption); k_whole)))
local macro_rules | `(tactic| walk_at "call ref") => `(tactic| (k_here; first
  | ((with_reducible show wpAny _ _ (call (Value.ref 59) _) _ _ _); refine Stop.un ?_)
  | ((with_reducible show wpAny _ _ (call (Value.ref 76) _) _ _ _); refine Stop.un ?_)
  | ((with_reducible show wpAny _ _ (call (Value.ref 95) _) _ _ _); refine Stop.un ?_)
  | ((with_reducible show wpAny _ _ (call (Value.ref 119) _) _ _ _); refine Stop.un ?_)
  | ((with_reducible show wpAny _ _ (call (Value.ref 126) _) _ _ _); refine Stop.un ?_)
  | ((with_reducible show wpAny _ _ (call (Value.ref 153) _) _ _ _); refine Stop.un ?_)
  | ((with_reducible show wpAny _ _ (call (Value.ref 172) _) _ _ _); refine Stop.un ?_)
  | ((with_reducible show wpAny _ _ (call (Value.ref 177) _) _ _ _); refine Stop.un ?_)
  | ((with_reducible show wpAny _ _ (call (Value.ref 184) _) _ _ _); refine Stop.un ?_)))
local macro_rules | `(tactic| walk_at "exec For Tuple Call cons nil") => `(tactic| (k_here; (rename Fr _ _ _ _ => lF'); (with_unfolding_all refine' For_gens lF' ?_; k_whole); skip))
local macro_rules | `(tactic| walk_at "exec For Tuple Call") => `(tactic| (k_here; (rename Fr _ _ _ _ => lF'); (with_unfolding_all refine' For_gens lF' ?_; k_whole); skip))
local macro_rules | `(tactic| walk_at "exec For Tuple Call cons cons") => `(tactic| (k_here; (rename Fr _ _ _ _ => lF'); (with_unfolding_all refine' For_gens lF' ?_; k_whole); skip))
local macro_rules | `(tactic| walk_at "exec For Tuple Attribute cons nil") => `(tactic| (k_here; (rename Fr _ _ _ _ => lF'); (with_unfolding_all refine' For_gens lF' ?_; k_whole); skip))
local macro_rules | `(tactic| walk_at "exec For Tuple Attribute") => `(tactic| (k_here; (rename Fr _ _ _ _ => lF'); (with_unfolding_all refine' For_gens lF' ?_; k_whole); skip))
local macro_rules | `(tactic| walk_at "exec For Tuple Attribute cons cons") => `(tactic| (k_here; (rename Fr _ _ _ _ => lF'); (with_unfolding_all refine' For_gens lF' ?_; k_whole); skip))
local macro_rules | `(tactic| walk_at "exec For Tuple Name cons nil") => `(tactic| (k_here; (rename Fr _ _ _ _ => lF'); (with_unfolding_all refine' For_gens lF' ?_; k_whole); skip))
local macro_rules | `(tactic| walk_at "exec For Tuple Name") => `(tactic| (k_here; (rename Fr _ _ _ _ => lF'); (with_unfolding_all refine' For_gens lF' ?_; k_whole); skip))
local macro_rules | `(tactic| walk_at "exec For Tuple Name cons cons") => `(tactic| (k_here; (rename Fr _ _ _ _ => lF'); (with_unfolding_all refine' For_gens lF' ?_; k_whole); skip))
local macro_rules | `(tactic| walk_at "exec For Name Call cons nil") => `(tactic| (k_here; (rename Fr _ _ _ _ => lF'); (with_unfolding_all refine' For_gens lF' ?_; k_whole); skip))
local macro_rules | `(tactic| walk_at "exec For Name Call") => `(tactic| (k_here; (rename Fr _ _ _ _ => lF'); (with_unfolding_all refine' For_gens lF' ?_; k_whole); skip))
local macro_rules | `(tactic| walk_at "exec For Name Call cons cons") => `(tactic| (k_here; (rename Fr _ _ _ _ => lF'); (with_unfolding_all refine' For_gens lF' ?_; k_whole); skip))
local macro_rules | `(tactic| walk_at "exec For Name Name cons nil") => `(tactic| (k_here; (rename Fr _ _ _ _ => lF'); (with_unfolding_all refine' For_gens lF' ?_; k_whole); skip))
local macro_rules | `(tactic| walk_at "exec For Name Name") => `(tactic| (k_here; (rename Fr _ _ _ _ => lF'); (with_unfolding_all refine' For_gens lF' ?_; k_whole); skip))
local macro_rules | `(tactic| walk_at "exec For Name Name cons cons") => `(tactic| (k_here; (rename Fr _ _ _ _ => lF'); (with_unfolding_all refine' For_gens lF' ?_; k_whole); skip))
local macro_rules | `(tactic| walk_at "exec For Name Subscript cons nil") => `(tactic| (k_here; (rename Fr _ _ _ _ => lF'); (with_unfolding_all refine' For_gens lF' ?_; k_whole); skip))
local macro_rules | `(tactic| walk_at "exec For Name Subscript") => `(tactic| (k_here; (rename Fr _ _ _ _ => lF'); (with_unfolding_all refine' For_gens lF' ?_; k_whole); skip))
local macro_rules | `(tactic| walk_at "exec For Name Subscript cons cons") => `(tactic| (k_here; (rename Fr _ _ _ _ => lF'); (with_unfolding_all refine' For_gens lF' ?_; k_whole); skip))
local macro_rules | `(tactic| walk_at "call type:range") => `(tactic| (k_here; (with_reducible show wpAny _ _ (call (Value.type _) _) (fun xv s₁ => wpAny _ _ (pyIter xv) (fun it s₂ => TurnsG _ _ _ _ _ _ _ _ _ it s₂) _ s₁) _ _); k_dflt (first
  | ((refine' range_1 ?k1 ?k2 ?_; (case k1 => k_asm); (case k2 => k_asm); k_whole); intro r' h' t' u' tk' R' F' N')
  | ((refine' range_3 ?k3 ?k1 ?k2 ?k4 ?_; (case k3 => decide); (case k1 => k_asm); (case k2 => k_asm); (case k4 => first | decide +kernel | (exact PyProof.noPylong_small (by omega))); k_whole); intro r' h' R' F' N'))))
local macro_rules | `(tactic| walk_at "pyIter ref") => `(tactic| (k_here; (with_reducible show wpAny _ _ (pyIter _) (fun it s₂ => TurnsG _ _ _ _ _ _ _ _ _ it s₂) _ _); k_dflt (first | (refine' PSrc.self ?k1 ?_; (case k1 => assumption); k_whole) | refine Stop.un ?_)))
local macro_rules | `(tactic| walk_at "setItem ref int") => `(tactic| (k_here; (with_reducible show wpAny _ _ (setItem (Value.ref _) (Value.int _ _) (Value.int _ _)) _ _ _); k_dflt (refine' setH ?k1 ?k2 ?k3 ?k4 ?k5 ?k6 ?k7 ?_; (case k1 => k_asm); (case k2 => k_asm); (case k3 => assumption); (case k4 => assumption); (case k5 => omega); (case k6 => omega); (case k7 => omega); k_whole); intro h' F' N' i'))
local macro_rules | `(tactic| walk_at "getItem ref int") => `(tactic| (k_here; (with_reducible show wpAny _ _ (getItem (Value.ref _) (Value.int _ _)) _ _ _); k_dflt (refine' ksa_get ?k1 ?k2 ?k3 ?k4 ?k5 ?k6 ?_; (case k1 => k_asm); (case k2 => k_mem); (case k3 => assumption); (case k4 => omega); (case k5 => omega); (case k6 => omega); k_whole); intro t'))
local macro_rules | `(tactic| walk_at "call builtin:list.pop") => `(tactic| (k_here; (with_reducible show wpAny _ _ (call (Value.builtin _) [Value.ref _]) _ _ _); k_dflt (refine' popH ?k1 ?k2 ?k3 ?k4 ?k5 ?_; (case k1 => k_asm); (case k2 => k_asm); (case k3 => assumption); (case k4 => assumption); (case k5 => (rw [PySem.sizeLine_eq]; omega)); k_whole); intro h' us' t' i' F' N'))
local macro_rules | `(tactic| walk_at "eval Name") => `(tactic| (k_here; (with_reducible show wpAny _ _ (eval (Expr.Name _ _) (envOf _ _ _ _ _)) _ _ _); k_dflt (refine' ld ?k1 ?k2 ?_; (case k1 => k_asm); (case k2 => ((try dsimp only); (repeat (refine' fr_skip ?frh ?_; (case frh => decide +kernel))); first | with_reducible assumption | (refine' fr_hit ?fra ?frb; (case fra => rfl); (case frb => rfl)))); k_whole)))
local macro_rules | `(tactic| walk_at "eval Name") => `(tactic| (k_here; (with_reducible show wpAny _ _ (eval (Expr.Name _ _) (envOfC _ _ _ _ _)) _ _ _); k_dflt (refine' nameX_L ?F ?v ?_ ?a ?b; (case F => k_asm); (case a => rfl); (case b => rfl); (case v => ((try dsimp only); (repeat (refine' fr_skip ?frh ?_; (case frh => decide +kernel))); first | with_reducible assumption | (refine' fr_hit ?fra ?frb; (case fra => rfl); (case frb => rfl)))); k_whole)))
local macro_rules | `(tactic| walk_at "eval Name") => `(tactic| (k_here; (with_reducible show wpAny _ _ (eval (Expr.Name _ _) (envOfC _ _ _ _ _)) _ _ _); k_dflt (refine' nameX_C ?N ?c ?m ?d ?_ ?a ?b; (case b => rfl); (case a => rfl); (case N => k_asm); (case c => rfl); (case m => k_mem); (case d => k_asm); k_whole)))
local macro_rules | `(tactic| walk_at "getMethod ref") => `(tactic| (k_here; (with_reducible show wpAny _ _ (getMethod (Value.ref _) (PySem.Str.ofString "pop") _) _ _ _); k_dflt (refine' kl_method ?N ?m PySem.F.slot_list_pop PySem.F.type_list_pop ?_; (case N => k_asm); (case m => k_mem); k_whole)))
--BODY
theorem eq_spec (w : World) (S : Addr → Prop) (x y : Addr) (ms cs1 cs2 : List Int) (p : Int) (h1 : 2 ≤ ms.length) (h4 : ms.length ≤ 4) (hp : 2 ≤ p) (hp2 : p ≤ 5) :
    Spec w 119 [.ref x, .ref y] 12 (fun news => FQ w S news x p ms cs1 ∧ FQ w S news y p ms cs2) (fun _ r => r = .bool (decide (cs1 = cs2))) := by
  unfold Spec
  intro mean mg mb dp un gd cn cs' a ccd cl outer A₀ base h₀ L m news s Q E B F X N T hk hP hdp hun hret
  obtain ⟨⟨d, D, D2, D3, tp, t1, t2, t3, t4, t5, t6, ys, zs, mvs, k3, a1, a2, a3, a4, a5, a6, a7, a8, a9, a10, a11, a12⟩, ⟨d', D', D2', D3', tp', t1', t2', t3', t4', t5', t6', ys', zs', mvs', k3', b1, b2, b3, b4, b5, b6, b7, b8, b9, b10, b11, b12⟩⟩ := hP
  w_on
  k_dflt (refine wpAny_call ?_; k_enter)
  k_steps
  rename_i g9 L9 h8 FG9 B9 X9 T9 I9 h7 S9 l8 off9 F7 N7
  have hl1 := a7.length
  have hl2 := b7.length
  refine pairsG (fun i g m₁ led => g = s.gens ∧ led = news ∧ cs1.take i = cs2.take i) S9 off9 F7 N7 ⟨by k_mem, by k_mem, trivial⟩ ⟨rfl, rfl, rfl⟩ ?_ ?_
  · intro i T v₁ v₂ m₁ news₁ its h g tk hin hT hV hJ hkeep hits F N ho
    obtain ⟨rfl, rfl, he⟩ := hJ
    obtain ⟨hv1, hv2⟩ := hV
    obtain ⟨c1, u1, rfl, hc1⟩ := a7.at i v₁ hv1
    obtain ⟨c2, u2, rfl, hc2⟩ := b7.at i v₂ hv2
    have hlt1 : i < cs1.length := by omega
    have hlt2 : i < cs2.length := by omega
    k_steps
    · unfold PostG
      dsimp only
      k_steps
      rename_i hcc kF kN kT kX
      refine hret _ [] _ _ kF (fun p hp => kN p (List.mem_append_right _ hp)) (fun _ _ p hp => nomatch hp) ?_
      have hne : cs1 ≠ cs2 := fun e => hcc (by
        rw [e, hc2] at hc1
        exact (Option.some.inj hc1).symm)
      rw [decide_eq_false hne]
    · rename_i F7 N7 hcc
      show EndG _ _ _ _ _ _
      refine ⟨_, _, _, _, _, rfl, F7, N7, ho, hkeep, rfl, rfl, ?_⟩
      rw [List.take_add_one, List.take_add_one, hc1, hc2, he, hcc]
  · intro m₁ led h g tk hJ hkeep F N
    obtain ⟨rfl, rfl, he⟩ := hJ
    k_steps
    rename_i kF kN kT kX
    refine hret _ [] _ _ kF kN (fun _ _ p hp => nomatch hp) ?_
    have he2 : cs1 = cs2 := by
      rw [hl1, hl2, a9, b9, Nat.min_self, ← a9, List.take_length, a9, ← b9, List.take_length] at he
      exact he
    rw [decide_eq_true he2]

end Mine
end

section
open PySem PySem.W PyProof.Rows PySem.Spec PySem.Calls PyProof.Rows.LCg
set_option Elab.async false
set_option maxRecDepth 100000
set_option maxHeartbeats 1000000
namespace Mine
local macro_rules | `(tactic| k_room) => `(tactic| ktr_room)
local macro_rules | `(tactic| k_units) => `(tactic| ktr_units)
local macro_rules | `(tactic| ktr_enter) => `(tactic| (refine' code_defC ?k1 ?k2 ?k3 ?k4 ?k5 ?kA ?kF ?kK ?k6 ?k7 ?k8 ?k9 ?kB ?kD ?_ ?c2 ?c3 ?c4; (case kA => exact rfl); (case kF => exact rfl); (case kK => first | assumption | exact rfl); (case k1 => k_asm); (case k2 => k_asm); (case k3 => k_asm); (case k4 => k_asm); (case k5 => k_asm); (case k6 => k_is); (case k7 => k_is); (case k8 => ktr_room); (case k9 => exact BindsTo.of_eq rfl); (case kB => exact rfl); (case kD => decide +kernel); (case c2 => exact rfl); (case c3 => exact rfl); (case c4 => exact rfl); k_whole; intro g' L' h' tk' cells' FG' F' N' Y' B' X' T' l1; (try k_lt l1); k_cells Y'; (try simp only [List.cons_append, List.nil_append] at N'); (try dsimp only)))
theorem fill_C6 (w : World) : hd.heap_39 w.params = hd.heap_39 w.params ∧ PySem.Challenge.rw_bb0062_01 = PySem.Challenge.rw_bb0062_01 := by
  k_fill
  exact ⟨rfl, rfl⟩
local macro_rules | `(tactic| k_enter) => `(tactic| first
  | (refine' code_def ?k1 ?k2 ?k3 ?k4 ?k5 ?kA ?kF ?kK ?k6 ?k7 ?k8 ?k9 ?kB ?_ ?c2 ?c3 ?c4 ?c5; (case kA => exact rfl); (case kF => exact rfl); (case kK => first | assumption | exact rfl); (case k1 => k_asm); (case k2 => k_asm); (case k3 => k_asm); (case k4 => k_asm); (case k5 => k_asm); (case k6 => k_is); (case k7 => k_is); (case k8 => ktr_room); (case k9 => first | exact BindsTo.of_eq rfl | exact binds_K (by k_in) rfl (by k_is) rfl rfl rfl | fail "k_enter: no rule for these arguments"); (case c5 => decide); (case kB => exact locs rfl); (case c2 => exact rfl); (case c3 => exact rfl); (case c4 => exact rfl); k_whole; intro g' L' h' FG' F' N' B' X' T'; (try dsimp only); (try k_lift B'); (try k_fold))
  | (refine' code_defC ?k1 ?k2 ?k3 ?k4 ?k5 ?kA ?kF ?kK ?k6 ?k7 ?k8 ?k9 ?kB ?kD ?_ ?c2 ?c3 ?c4; (case kA => exact rfl); (case kF => exact rfl); (case kK => first | assumption | exact rfl); (case k1 => k_asm); (case k2 => k_asm); (case k3 => k_asm); (case k4 => k_asm); (case k5 => k_asm); (case k6 => k_is); (case k7 => k_is); (case k8 => ktr_room); (case k9 => first | exact BindsTo.of_eq rfl | exact binds_K (by k_in) rfl (by k_is) rfl rfl rfl | fail "k_enter: no rule for these arguments"); (case kB => exact rfl); (case kD => decide +kernel); (case c2 => exact rfl); (case c3 => exact rfl); (case c4 => exact rfl); k_whole; intro g' L' h' tk' cells' FG' F' N' Y' B' X' T' l1; (try k_lt l1); k_cells Y'; (try simp only [List.cons_append, List.nil_append] at N'); (try dsimp only); (try k_lift B'); (try k_fold)))
local macro_rules | `(tactic| k_mem) => `(tactic| first | with_reducible_and_instances assumption | with_reducible_and_instances exact List.Mem.head _ | (with_reducible_and_instances refine List.Mem.tail _ ?_; k_mem) | (with_reducible_and_instances refine memL ?_; k_mem) | (with_reducible_and_instances refine memR ?_; k_mem))
local macro_rules | `(tactic| k_all) => `(tactic| assumption)
local macro_rules | `(tactic| walk_at "eval ListComp") => `(tactic| (k_here; (with_reducible show wpAny _ _ (eval (Expr.ListComp _ [⟨Expr.Tuple _ _ _, _, _, _⟩] _ _) _) _ _ _); k_dflt (refine' ListComp_pair ?k1 ?k2 ?k3 ?k4 ?k5 ?k6 ?k7 ?k8 ?_; (case k1 => k_asm); (case k2 => exact rfl); (case k3 => decide); (case k4 => exact rfl); (case k5 => decide); (case k6 => exact rfl); (case k7 => exact rfl); (case k8 => decide); k_whole)))
local macro_rules | `(tactic| walk_at "call type:enumerate") => `(tactic| (k_here; (with_reducible show wpAny _ _ (call (Value.type _) [Value.ref _]) _ _ _); k_dflt (first
  | ((refine' enum_list ?k1 ?k2 ?k3 ?k4 ?k5 ?k6 ?_; (case k1 => exact rfl); (case k2 => k_asm); (case k3 => k_asm); (case k4 => k_mem); (case k5 => exact rfl); (case k6 => exact rfl); k_whole); intro I' h' S' l1 off' F' N')
  | ((refine' enum_tup ?k1 ?k2 ?k3 ?k4 ?k5 ?k6 ?_; (case k1 => exact rfl); (case k2 => k_asm); (case k3 => k_asm); (case k4 => k_mem); (case k5 => exact rfl); (case k6 => exact rfl); k_whole); intro I' h' S' R' lL' l1 off' F' N')); (try dsimp only)))
local macro_rules | `(tactic| walk_at "call type:list") => `(tactic| (k_here; (with_reducible show wpAny _ _ (call (Value.type _) [Value.ref _]) _ _ _); k_dflt (refine' list_enumT ?k1 ?k2 ?k3 ?k4 ?k5 ?k6 ?k7 ?k8 ?_; (case k1 => exact rfl); (case k2 => k_asm); (case k3 => k_asm); (case k4 => assumption); (case k5 => assumption); (case k6 => assumption); (case k7 => assumption); (case k8 => (rw [PySem.sizeLine_eq]; omega)); k_whole); intro D' h' tk' ys' c' tl' F' N' p' l1 l2; (try dsimp only)))
local macro_rules | `(tactic| walk_at "call builtin:len") => `(tactic| (k_here; (with_reducible show wpAny _ _ (call (Value.builtin "len") [Value.ref _]) _ _ _); k_dflt (first
  | (refine' kst_len ?k1 ?k2 ?k3 ?k4 ?_; (case k1 => k_asm); (case k2 => k_mem); (case k3 => assumption); (case k4 => omega); k_whole)
  | (refine' len_T ?k1 ?k2 ?k3 ?k4 ?_; (case k1 => k_asm); (case k2 => k_mem); (case k3 => assumption); (case k4 => omega); k_whole))))
local macro_rules | `(tactic| walk_at "subscriptTail") => `(tactic| (k_here; (with_reducible show wpAny _ _ (subscriptTail _ _ (Value.ref _) (Value.int _ _)) _ _ _); k_dflt (
   (refine' item_L ?k1 ?k2 ?k3 ?k4 ?k5 ?_; (case k1 => k_asm); (case k2 => k_mem); (case k3 => omega); (case k4 => omega); (case k5 => assumption); k_whole))))
local macro_rules | `(tactic| walk_at "exec If") => `(tactic| refine wpAny_If ?_)
local macro_rules | `(tactic| walk_at "isTrue Call") => `(tactic| refine isTrue_plain ?_)
local macro_rules | `(tactic| walk_at "exec If Call cons cons") => `(tactic| refine wpAny_If ?_)
local macro_rules | `(tactic| walk_at "exec If Call cons nil") => `(tactic| refine wpAny_If ?_)
local macro_rules | `(tactic| walk_at "exec If Compare cons nil") => `(tactic| refine wpAny_If ?_)
local macro_rules | `(tactic| walk_at "exec If UnaryOp cons nil") => `(tactic| refine wpAny_If ?_)
local macro_rules | `(tactic| walk_at "ite") => `(tactic| first | rw [if_neg (by first | (simp; done) | omega | (simp; omega))] | rw [if_pos (by first | (simp; done) | omega | (simp; omega))])
local macro_rules | `(tactic| walk_at "call type:tuple") => `(tactic| (k_here; (with_reducible show wpAny _ _ (call (Value.type _) [Value.ref _]) _ _ _); k_dflt (first
  | (refine' tuple_tup_N ?k1 ?k2 ?_; (case k1 => k_asm); (case k2 => k_mem); k_whole)
  | (refine' tuple_list_N ?k1 ?k2 ?k3 ?k4 ?_; (case k1 => k_asm); (case k2 => k_asm); (case k3 => k_mem); (case k4 => (rw [PySem.sizeLine_eq]; omega)); k_whole; intro D' h' tk' F' N' l1)
  | (refine' tuple_Gen ?k1 ?k2 ?k3 ?k4 ?k5 ?k6 ?k7 ?_; (case k1 => k_asm); (case k2 => k_asm); (case k3 => assumption); (case k4 => assumption); (case k5 => assumption); (case k6 => assumption); (case k7 => (rw [PySem.sizeLine_eq]; omega)); k_whole; intro D' h' g' tk' ys' e1 e2 F' N' G' l1))))
local macro_rules | `(tactic| walk_at "call ref") => `(tactic| (k_here; (with_reducible show wpAny _ _ (call (Value.ref 156) _) _ _ _); refine Stop.un ?_))
local macro_rules | `(tactic| walk_at "call type:zip") => `(tactic| (k_here; (with_reducible show wpAny _ _ (call (Value.type _) [Value.ref _, Value.ref _]) _ _ _); k_dflt (refine' zip_tup ?k1 ?k2 ?k3 ?k4 ?k5 ?k6 ?k7 ?k8 ?k9 ?_; (case k1 => exact rfl); (case k2 => k_asm); (case k3 => k_asm); (case k4 => k_mem); (case k5 => exact rfl); (case k6 => exact rfl); (case k7 => k_mem); (case k8 => exact rfl); (case k9 => exact rfl); k_whole); intro I' h' S' l1 off' F' N'; (try dsimp only)))
local macro_rules | `(tactic| walk_at "eval Name") => `(tactic| (k_here; (with_reducible show wpAny _ _ (eval (Expr.Name _ _) (compEnvC _ _ _ _)) _ _ _); k_dflt (first
  | (refine' wpAny_Name (wpAny_loadName_local ?k1 ?k2 ?k3 ?k4 ?_); (case k1 => exact rfl); (case k2 => exact rfl); (case k3 => assumption); (case k4 => assumption); k_whole)
  | (refine' ldFreeK ?k1 ?k2 ?_; (case k1 => exact rfl); (case k2 => assumption); k_whole))))
local macro_rules | `(tactic| walk_at "pyIter ref") => `(tactic| (k_here; k_dflt (refine' PSrc.self ?k1 ?_; (case k1 => assumption); k_whole)))
local macro_rules | `(tactic| walk_at "call ref") => `(tactic| (k_here; first
  | ((with_reducible show wpAny _ _ (call (Value.ref 59) _) _ _ _); refine Stop.un ?_)
  | ((with_reducible show wpAny _ _ (call (Value.ref 76) _) _ _ _); refine Stop.un ?_)
  | ((with_reducible show wpAny _ _ (call (Value.ref 95) _) _ _ _); refine Stop.un ?_)
  | ((with_reducible show wpAny _ _ (call (Value.ref 119) _) _ _ _); refine Stop.un ?_)
  | ((with_reducible show wpAny _ _ (call (Value.ref 126) _) _ _ _); refine Stop.un ?_)
  | ((with_reducible show wpAny _ _ (call (Value.ref 153) _) _ _ _); refine Stop.un ?_)
  | ((with_reducible show wpAny _ _ (call (Value.ref 172) _) _ _ _); refine Stop.un ?_)
  | ((with_reducible show wpAny _ _ (call (Value.ref 177) _) _ _ _); refine Stop.un ?_)
  | ((with_reducible show wpAny _ _ (call (Value.ref 184) _) _ _ _); refine Stop.un ?_)))
local macro_rules | `(tactic| walk_at "exec For Tuple Call cons nil") => `(tactic| (k_here; (rename Fr _ _ _ _ => lF'); (with_unfolding_all refine' For_gens lF' ?_; k_whole); skip))
local macro_rules | `(tactic| walk_at "exec For Tuple Call") => `(tactic| (k_here; (rename Fr _ _ _ _ => lF'); (with_unfolding_all refine' For_gens lF' ?_; k_whole); skip))
local macro_rules | `(tactic| walk_at "exec For Tuple Call cons cons") => `(tactic| (k_here; (rename Fr _ _ _ _ => lF'); (with_unfolding_all refine' For_gens lF' ?_; k_whole); skip))
local macro_rules | `(tactic| walk_at "exec For Tuple Attribute cons nil") => `(tactic| (k_here; (rename Fr _ _ _ _ => lF'); (with_unfolding_all refine' For_gens lF' ?_; k_whole); skip))
local macro_rules | `(tactic| walk_at "exec For Tuple Attribute") => `(tactic| (k_here; (rename Fr _ _ _ _ => lF'); (with_unfolding_all refine' For_gens lF' ?_; k_whole); skip))
local macro_rules | `(tactic| walk_at "exec For Tuple Attribute cons cons") => `(tactic| (k_here; (rename Fr _ _ _ _ => lF'); (with_unfolding_all refine' For_gens lF' ?_; k_whole); skip))
local macro_rules | `(tactic| walk_at "exec For Tuple Name cons nil") => `(tactic| (k_here; (rename Fr _ _ _ _ => lF'); (with_unfolding_all refine' For_gens lF' ?_; k_whole); skip))
local macro_rules | `(tactic| walk_at "exec For Tuple Name") => `(tactic| (k_here; (rename Fr _ _ _ _ => lF'); (with_unfolding_all refine' For_gens lF' ?_; k_whole); skip))
local macro_rules | `(tactic| walk_at "exec For Tuple Name cons cons") => `(tactic| (k_here; (rename Fr _ _ _ _ => lF'); (with_unfolding_all refine' For_gens lF' ?_; k_whole); skip))
local macro_rules | `(tactic| walk_at "exec For Name Call cons nil") => `(tactic| (k_here; (rename Fr _ _ _ _ => lF'); (with_unfolding_all refine' For_gens lF' ?_; k_whole); skip))
local macro_rules | `(tactic| walk_at "exec For Name Call") => `(tactic| (k_here; (rename Fr _ _ _ _ => lF'); (with_unfolding_all refine' For_gens lF' ?_; k_whole); skip))
local macro_rules | `(tactic| walk_at "exec For Name Call cons cons") => `(tactic| (k_here; (rename Fr _ _ _ _ => lF'); (with_unfolding_all refine' For_gens lF' ?_; k_whole); skip))
local macro_rules | `(tactic| walk_at "exec For Name Name cons nil") => `(tactic| (k_here; (rename Fr _ _ _ _ => lF'); (with_unfolding_all refine' For_gens lF' ?_; k_whole); skip))
local macro_rules | `(tactic| walk_at "exec For Name Name") => `(tactic| (k_here; (rename Fr _ _ _ _ => lF'); (with_unfolding_all refine' For_gens lF' ?_; k_whole); skip))
local macro_rules | `(tactic| walk_at "exec For Name Name cons cons") => `(tactic| (k_here; (rename Fr _ _ _ _ => lF'); (with_unfolding_all refine' For_gens lF' ?_; k_whole); skip))
local macro_rules | `(tactic| walk_at "exec For Name Subscript cons nil") => `(tactic| (k_here; (rename Fr _ _ _ _ => lF'); (with_unfolding_all refine' For_gens lF' ?_; k_whole); skip))
local macro_rules | `(tactic| walk_at "exec For Name Subscript") => `(tactic| (k_here; (rename Fr _ _ _ _ => lF'); (with_unfolding_all refine' For_gens lF' ?_; k_whole); skip))
local macro_rules | `(tactic| walk_at "exec For Name Subscript cons cons") => `(tactic| (k_here; (rename Fr _ _ _ _ => lF'); (with_unfolding_all refine' For_gens lF' ?_; k_whole); skip))
local macro_rules | `(tactic| walk_at "call type:range") => `(tactic| (k_here; (with_reducible show wpAny _ _ (call (Value.type _) _) (fun xv s₁ => wpAny _ _ (pyIter xv) (fun it s₂ => TurnsG _ _ _ _ _ _ _ _ _ it s₂) _ s₁) _ _); k_dflt (first
  | ((refine' range_1 ?k1 ?k2 ?_; (case k1 => k_asm); (case k2 => k_asm); k_whole); intro r' h' t' u' tk' R' F' N')
  | ((refine' range_3 ?k3 ?k1 ?k2 ?k4 ?_; (case k3 => decide); (case k1 => k_asm); (case k2 => k_asm); (case k4 => first | decide +kernel | (exact PyProof.noPylong_small (by omega))); k_whole); intro r' h' R' F' N'))))
local macro_rules | `(tactic| walk_at "pyIter ref") => `(tactic| (k_here; (with_reducible show wpAny _ _ (pyIter _) (fun it s₂ => TurnsG _ _ _ _ _ _ _ _ _ it s₂) _ _); k_dflt (first | (refine' PSrc.self ?k1 ?_; (case k1 => assumption); k_whole) | refine Stop.un ?_)))
local macro_rules | `(tactic| walk_at "setItem ref int") => `(tactic| (k_here; (with_reducible show wpAny _ _ (setItem (Value.ref _) (Value.int _ _) (Value.int _ _)) _ _ _); k_dflt (refine' setH ?k1 ?k2 ?k3 ?k4 ?k5 ?k6 ?k7 ?_; (case k1 => k_asm); (case k2 => k_asm); (case k3 => assumption); (case k4 => assumption); (case k5 => omega); (case k6 => omega); (case k7 => omega); k_whole); intro h' F' N' i'))
local macro_rules | `(tactic| walk_at "getItem ref int") => `(tactic| (k_here; (with_reducible show wpAny _ _ (getItem (Value.ref _) (Value.int _ _)) _ _ _); k_dflt (refine' ksa_get ?k1 ?k2 ?k3 ?k4 ?k5 ?k6 ?_; (case k1 => k_asm); (case k2 => k_mem); (case k3 => assumption); (case k4 => omega); (case k5 => omega); (case k6 => omega); k_whole); intro t'))
local macro_rules | `(tactic| walk_at "call builtin:list.pop") => `(tactic| (k_here; (with_reducible show wpAny _ _ (call (Value.builtin _) [Value.ref _]) _ _ _); k_dflt (refine' popH ?k1 ?k2 ?k3 ?k4 ?k5 ?_; (case k1 => k_asm); (case k2 => k_asm); (case k3 => assumption); (case k4 => assumption); (case k5 => (rw [PySem.sizeLine_eq]; omega)); k_whole); intro h' us' t' i' F' N'))
local macro_rules | `(tactic| walk_at "eval Name") => `(tactic| (k_here; (with_reducible show wpAny _ _ (eval (Expr.Name _ _) (envOf _ _ _ _ _)) _ _ _); k_dflt (refine' ld ?k1 ?k2 ?_; (case k1 => k_asm); (case k2 => ((try dsimp only); (repeat (refine' fr_skip ?frh ?_; (case frh => decide +kernel))); first | with_reducible assumption | (refine' fr_hit ?fra ?frb; (case fra => rfl); (case frb => rfl)))); k_whole)))
local macro_rules | `(tactic| walk_at "eval Name") => `(tactic| (k_here; (with_reducible show wpAny _ _ (eval (Expr.Name _ _) (envOfC _ _ _ _ _)) _ _ _); k_dflt (refine' nameX_L ?F ?v ?_ ?a ?b; (case F => k_asm); (case a => rfl); (case b => rfl); (case v => ((try dsimp only); (repeat (refine' fr_skip ?frh ?_; (case frh => decide +kernel))); first | with_reducible assumption | (refine' fr_hit ?fra ?frb; (case fra => rfl); (case frb => rfl)))); k_whole)))
local macro_rules | `(tactic| walk_at "eval Name") => `(tactic| (k_here; (with_reducible show wpAny _ _ (eval (Expr.Name _ _) (envOfC _ _ _ _ _)) _ _ _); k_dflt (refine' nameX_C ?N ?c ?m ?d ?_ ?a ?b; (case b => rfl); (case a => rfl); (case N => k_asm); (case c => rfl); (case m => k_mem); (case d => k_asm); k_whole)))
local macro_rules | `(tactic| walk_at "getMethod ref") => `(tactic| (k_here; (with_reducible show wpAny _ _ (getMethod (Value.ref _) (PySem.Str.ofString "pop") _) _ _ _); k_dflt (refine' kl_method ?N ?m PySem.F.slot_list_pop PySem.F.type_list_pop ?_; (case N => k_asm); (case m => k_mem); k_whole)))
local macro_rules | `(tactic| walk_at "execs cons Assign cons") => `(tactic| (k_here; (with_reducible show wpAny _ _ (execs (Stmt.Assign _ _ _ :: Stmt.For _ _ _ _ _ :: _) _) _ _ _); (with_reducible refine wpAny_execs_cons ?_); try dsimp only))
--BODY
set_option maxHeartbeats 4000000 in
theorem mul_spec (w : World) (S : Addr → Prop) (x y : Addr) (ms cs1 cs2 : List Int) (p : Int) (h1 : 2 ≤ ms.length) (h4 : ms.length ≤ 4) (hp : 2 ≤ p) (hp2 : p ≤ 5) :
    SpecG w 76 [.ref x, .ref y] 12 (fun news => FQ w S news x p ms cs1 ∧ FQ w S news y p ms cs2 ∧ ∀ a, S a → ∃ o, (a, o) ∈ news) (fun led r => ∃ z, r = .ref z ∧ FQ w S led z p ms ((mulF p (mcs ms) ms.length (enumP cs1) (enumP cs2)).map (·.fmod p))) := by
  unfold SpecG
  intro mean mg mb dp un gd cn cs' a ccd cl outer A₀ base h₀ L m ps news s Q E B F X TP GB N h44 T hk hP hdp hun hret
  obtain ⟨⟨d, D, D2, D3, tp, t1, t2, t3, t4, t5, t6, ys, zs, mvs, k3, a1, a2, a3, a4, a5, a6, a7, a8, a9, a10, a11, a12⟩, ⟨d', D', D2', D3', tp', t1', t2', t3', t4', t5', t6', ys', zs', mvs', k3', b1, b2, b3, b4, b5, b6, b7, b8, b9, b10, b11, b12⟩, hS⟩ := hP
  w_on
  have hl1 := a7.length
  have hl2 := b7.length
  k_dflt (refine wpAny_call ?_; k_enter)
  k_steps
  rename_i g9 L9 ha tka FG9 B9 X9 T9 l9 o9 o8 d9 d8 tkb lz hb lz1 Db hc iB n1 s1 e1 e2 e3 lDb hd I1 he S1 R1 lL1 l12 off1 Dl hf tkc yl c2 tl2 p2 lDl ltl hg lF N1 I9 h7 S9 R9 lL9 l19 off9 F7 N7
  clear N1 lF S1 R1 lL1 l12 off1 R9 lL9 e1 e2 e3 s1
  rw [show (List.replicate (Int.toNat ((ms.length : Int) * 2 - 1)) [(0 : Int)]).flatten = List.replicate (2 * ms.length - 1) 0 by
    rw [show Int.toNat ((ms.length : Int) * 2 - 1) = 2 * ms.length - 1 by omega]; simp] at iB
  have mv : ∀ {a b c : Addr × Obj} {t r : List (Addr × Obj)}, ∀ q ∈ b :: (a :: (t ++ c :: r)), q ∈ a :: (t ++ b :: c :: r) := by
    intro a b c t r q hq
    simp only [List.mem_append, List.mem_cons] at hq ⊢
    rcases hq with h | h | h | h | h <;> simp [h]
  have N8 := kst_newsOf N7 mv
  have off8 := fun p hp => off9 p (mv p hp)
  obtain ⟨rest, hrest⟩ := name_tail N8
  have mDl : (Dl, listOf yl.toArray c2) ∈ rest := by rw [hrest]; exact .head _
  have mtl : ∀ p ∈ tl2, p ∈ rest := fun p hp => by rw [hrest]; exact .tail _ (List.mem_append_left _ hp)
  have mnw : ∀ p ∈ (L9 + 1 + 1, o9) :: (L9 + 1, o8) :: (44, TabO ps) :: news, p ∈ rest := fun p hp => by rw [hrest]; exact .tail _ (List.mem_append_right _ (.tail _ hp))
  have offR : ∀ p ∈ rest, p.1 ≠ Db := by
    intro p hp
    rw [hrest] at hp
    simp only [List.mem_cons, List.mem_append] at hp
    have hDl : Db < Dl := lDl (Db, _) (.head _)
    rcases hp with rfl | hp | rfl | rfl | rfl | rfl | hp
    · exact Nat.ne_of_gt hDl
    · exact Nat.ne_of_gt (Nat.lt_trans hDl (ltl p hp))
    · exact Nat.ne_of_lt lDb.1
    · exact Nat.ne_of_lt lDb.2.1
    · exact Nat.ne_of_lt lDb.2.2.1
    · exact Nat.ne_of_lt lDb.2.2.2.1
    · exact Nat.ne_of_lt (ktn_ltOf lDb.2.2.2.2 p hp)
  rw [← hrest] at N8 off8
  have hnew : ∀ p : Addr, (p = Dl ∨ (∃ o, (p, o) ∈ tl2) ∨ p = lz ∨ p = L9 + 1 + 1 ∨ p = L9 + 1 ∨ p = Db) → @Ne Nat p 44 ∧ ∀ q ∈ news, @Ne Nat p q.1 := by
    intro p hp
    have hDl : Db < Dl := lDl (Db, _) (.head _)
    have big : ∀ x : Addr, x < p → (44 < x ∧ ∀ q ∈ news, q.1 < x) → @Ne Nat p 44 ∧ ∀ q ∈ news, @Ne Nat p q.1 := fun x hx h => ⟨Nat.ne_of_gt (Nat.lt_trans h.1 hx), fun q hq => Nat.ne_of_gt (Nat.lt_trans (h.2 q hq) hx)⟩
    have hL9 : 44 < L9 ∧ ∀ q ∈ news, q.1 < L9 := ⟨l9.1, ktn_ltOf l9.2⟩
    have hDb : 44 < Db ∧ ∀ q ∈ news, q.1 < Db := ⟨lDb.2.2.2.1, ktn_ltOf lDb.2.2.2.2⟩
    rcases hp with rfl | ⟨o, ho⟩ | rfl | rfl | rfl | rfl
    · exact big Db hDl hDb
    · exact big Db (Nat.lt_trans hDl (ltl _ ho)) hDb
    · exact ⟨Nat.ne_of_gt lz1.2.2.1, fun q hq => Nat.ne_of_gt (ktn_ltOf lz1.2.2.2 q hq)⟩
    · exact big L9 (Nat.lt_succ_of_lt (Nat.lt_succ_self _)) hL9
    · exact big L9 (Nat.lt_succ_self _) hL9
    · exact ⟨Nat.ne_of_gt hDb.1, fun q hq => Nat.ne_of_gt (hDb.2 q hq)⟩
  clear N7 off9 lDl ltl l19
  refine pairsG (fun i g m₁ led => g = s.gens ∧ m₁ (Str.ofString "b") = some (.ref Db) ∧ m₁ (Str.ofString "inner_enumerate") = some (.ref Dl) ∧ ∃ vs c, led = (Db, listOf vs.toArray c) :: rest ∧ IntsAre vs (mulOut (List.replicate (2 * ms.length - 1) 0) ((enumP cs1).take i) (enumP cs2)))
    S9 off8 F7 N8 ⟨.tail _ (mnw _ (by k_mem)), trivial⟩ ⟨rfl, rfl, rfl, _, _, rfl, iB⟩ ?_ ?_
  · intro i T v₁ v₂ m₁ news₁ its h g tk hin hT hV hJ hkeep hits F N ho
    obtain ⟨rfl, mb, me, vs, c, rfl, hvs⟩ := hJ
    obtain ⟨⟨u1, rfl⟩, hv2⟩ := hV
    obtain ⟨c1, t1, rfl, hc1⟩ := a7.at i v₂ hv2
    k_steps
    rename_i hq1 F1' N1' hq2 hq3 lF1 N1
    have hi1 : i < ms.length := by omega
    refine Stop.go ?_
    refine iter_pairsZ rfl lF1 N1 (memR (.tail _ mDl)) p2 (fun p hp => memR (.tail _ (mtl p hp))) ?_
    intro Ij hj Sj lj offj Fj Nj
    clear F1' N1' lF1 N1
    have offj2 := fun p hp => offj p (mvA p hp)
    refine pairsG (fun j g m₂ led => g = s.gens ∧ m₂ (Str.ofString "b") = some (.ref Db) ∧ m₂ (Str.ofString "inner_enumerate") = some (.ref Dl) ∧ m₂ (Str.ofString "i") = some (.int i u1) ∧ m₂ (Str.ofString "eli") = some (.int c1 t1) ∧
        ∃ vs c, led = (Db, listOf vs.toArray c) :: (its ++ rest) ∧ IntsAre vs (mulIn (mulOut (List.replicate (2 * ms.length - 1) 0) ((enumP cs1).take i) (enumP cs2)) i c1 ((enumP cs2).take j)))
      Sj offj2 Fj (kst_newsOf Nj mvA) (subL_of fun p hp => .tail _ (List.mem_append_right _ ((List.mem_cons.mp hp).elim (fun e => e ▸ mDl) (mtl p)))) ⟨rfl, fr_skip (by decide +kernel) (fr_skip (by decide +kernel) mb), fr_skip (by decide +kernel) (fr_skip (by decide +kernel) me), fr_skip (by decide +kernel) (fr_hit rfl rfl), fr_hit rfl rfl, vs, c, rfl, hvs⟩ ?_ ?_
    · intro j T2 w1 w2 m₂ news₂ its2 h2 g2 tk2 hjn hT2 hV2 hJ2 hkeep2 hits2 F2 N2 ho2
      obtain ⟨rfl, mb2, me2, mi2, ml2, vs2, c2', rfl, hvs2⟩ := hJ2
      obtain ⟨x2, y2, t2', u2', hps, rfl, rfl⟩ := hV2
      obtain ⟨rfl, hc2⟩ := enumP_inv hps
      have hj1 : j < ms.length := by
        have := p2.length
        rw [enumP_length] at this
        omega
      have hbl : (mulIn (mulOut (List.replicate (2 * ms.length - 1) 0) ((enumP cs1).take i) (enumP cs2)) i c1 ((enumP cs2).take j)).length = 2 * ms.length - 1 := by
        rw [mulIn_length, mulOut_length, List.length_replicate]
      have N3 := kst_newsOf N2 mvA
      have off3 : ∀ p ∈ its2 ++ (its ++ rest), p.1 ≠ Db := by
        intro p hp
        rcases List.mem_append.mp hp with hp | hp
        · exact Ne.symm (ho2 (Db, _) (.head _) p hp)
        · rcases List.mem_append.mp hp with hp | hp
          · exact Ne.symm (ho (Db, _) (.head _) p hp)
          · exact offR p hp
      clear N2
      have hb1 := small_at a10 hc1
      k_steps
      rename_i hS FS NS iS
      show EndG _ _ _ _ _ _
      refine ⟨_, _, _, _, _, rfl, FS, kst_newsOf NS mvB, ?_, subL_of fun p hp => .tail _ (List.mem_append_right _ ((List.mem_cons.mp hp).elim (fun e => e ▸ mDl) (mtl p))), rfl, fr_skip (by decide +kernel) (fr_skip (by decide +kernel) mb2), fr_skip (by decide +kernel) (fr_skip (by decide +kernel) me2), fr_skip (by decide +kernel) (fr_skip (by decide +kernel) mi2), fr_skip (by decide +kernel) (fr_skip (by decide +kernel) ml2), _, _, rfl, ?_⟩
      · intro p hp q hq
        rcases List.mem_cons.mp hp with rfl | hp
        · exact ho2 (Db, _) (.head _) q hq
        · exact ho2 p (.tail _ hp) q hq
      · rw [List.take_add_one, hps]
        show IntsAre _ (mulIn _ i c1 (_ ++ [_]))
        rw [mulIn_snoc]
        have e : ((i : Int) + (j : Int)).toNat = i + (j : Int).toNat := by omega
        rw [e] at iS
        rw [e]
        exact iS
    · intro m₂ led2 h2 g2 tk2 hJ2 hkeep2 F2 N2
      obtain ⟨rfl, mb2, me2, mi2, ml2, vs2, c2', rfl, hvs2⟩ := hJ2
      k_steps
      show EndG _ _ _ _ _ _
      refine ⟨_, _, _, _, _, rfl, F2, kst_newsOf N2 mvB, ?_, ⟨.tail _ (mnw _ (by k_mem)), trivial⟩, rfl, mb2, me2, _, _, rfl, ?_⟩
      · intro p hp q hq
        rcases List.mem_cons.mp hp with rfl | hp
        · exact ho (Db, _) (.head _) q hq
        · exact ho p (.tail _ hp) q hq
      · have e := p2.length
        rw [e, List.take_length] at hvs2
        rw [List.take_add_one, enumP_at hc1]
        show IntsAre _ (mulOut _ (_ ++ [_]) _)
        rw [mulOut_snoc]
        exact hvs2
  · intro m₁ led h g tk hJ hkeep F N
    obtain ⟨rfl, mb, me, vs, c, rfl, hvs⟩ := hJ
    have e := a7.length
    rw [e, ← enumP_length cs1, List.take_length] at hvs
    generalize hB : mulOut (List.replicate (2 * ms.length - 1) 0) (enumP cs1) (enumP cs2) = B at hvs
    have m9 := mnw (L9 + 1 + 1, o9) (.head _)
    have m8 := mnw (L9 + 1, o8) (.tail _ (.head _))
    have r1 := mnw _ (.tail _ (.tail _ (.tail _ a1)))
    have r2 := mnw _ (.tail _ (.tail _ (.tail _ a2)))
    have r3 := mnw _ (.tail _ (.tail _ (.tail _ a3)))
    have hBl : B.length = 2 * ms.length - 1 := by rw [← hB, mulOut_length, List.length_replicate]
    have hd3 : ms.length = 2 ∨ ms.length = 3 ∨ ms.length = 4 := by omega
    have hsm : Builtin.Range.small ((ms.length : Int) - 2) (-1) (-1) = true := by rcases hd3 with h | h | h <;> rw [h] <;> decide
    have hrs : Builtin.Range.rangeSize ((ms.length : Int) - 2) (-1) (-1) = ((ms.length - 1 : Nat) : Int) := by rcases hd3 with h | h | h <;> rw [h] <;> decide
    k_steps
    rename_i lFx rx hx Rx Fx Nx
    clear lFx
    refine Stop.go ?_
    refine iter_range rfl Fx Nx Rx hsm hrs ?_
    intro Ie hE Se lE offE FE NE
    clear Fx Nx Rx
    refine singlesG (fun i g m₁ led => g = s.gens ∧ m₁ (Str.ofString "b") = some (.ref Db) ∧ ∃ vs c bs, led = (Db, listOf vs.toArray c) :: rest ∧ IntsAre vs bs ∧ redOut bs (mcs ms) (ms.length - 1 - i) = redOut B (mcs ms) (ms.length - 1) ∧ bs.length = 2 * ms.length - 1 - i)
      Se offE FE NE trivial ⟨rfl, mb, vs, c, B, rfl, hvs, rfl, hBl⟩ ?_ ?_
    · intro i v m₂ news₂ its h2 g2 tk2 hin hV hJ2 hkeep2 hits2 F2 N2 ho2
      obtain ⟨rfl, mb2, vs2, c2', bs, rfl, hvs2, hred, hbl⟩ := hJ2
      obtain ⟨te, hve⟩ := hV
      obtain ⟨e, hee⟩ : ∃ e : Nat, e = ms.length - 2 - i := ⟨_, rfl⟩
      have he : (ms.length : Int) - 2 + (i : Int) * -1 = (e : Int) := by omega
      rw [he] at hve
      subst hve
      obtain ⟨b', y, rfl⟩ := snoc_of (b := bs) (by omega)
      have hbl' : b'.length = 2 * ms.length - 2 - i := by rw [List.length_append] at hbl; simp at hbl; omega
      have hred' : redOut (redIn b' e y (mcs ms)) (mcs ms) e = redOut B (mcs ms) (ms.length - 1) := by
        rw [← hred, show ms.length - 1 - i = e + 1 by omega]
        simp [redOut]
      have hvl : vs2.length = 2 * ms.length - 1 - i := hvs2.length.trans hbl
      have N3 := kst_newsOf N2 mvA
      have off3 : ∀ p ∈ its ++ rest, p.1 ≠ Db := by
        intro p hp
        rcases List.mem_append.mp hp with hp | hp
        · exact Ne.symm (ho2 (Db, _) (.head _) p hp)
        · exact offR p hp
      clear N2
      k_steps
      rename_i hp1 hp2' us tu iU hp3 lFp Np
      refine Stop.go ?_
      refine iter_pairsZ rfl lFp Np (.tail _ (memR r3)) a4 (fun p hp => .tail _ (memR (mnw _ (.tail _ (.tail _ (.tail _ hp)))))) ?_
      intro Ij hj Sj lj offj Fj Nj
      clear lFp Np
      refine pairsG (fun j g m₃ led => g = s.gens ∧ m₃ (Str.ofString "b") = some (.ref Db) ∧ m₃ (Str.ofString "exp") = some (.int (e : Int) te) ∧ m₃ (Str.ofString "top") = some (.int y tu) ∧
          ∃ vs c, led = (Db, listOf vs.toArray c) :: (its ++ rest) ∧ IntsAre vs (redIn b' e y ((mcs ms).take j)))
        Sj offj Fj Nj (subL_of fun p hp => .tail _ (List.mem_append_right _ ((List.mem_cons.mp hp).elim (fun e => e ▸ r3) fun hp => mnw _ (.tail _ (.tail _ (.tail _ hp)))))) ⟨rfl, fr_skip (by decide +kernel) (fr_skip (by decide +kernel) mb2), fr_skip (by decide +kernel) (fr_hit rfl rfl), fr_hit rfl rfl, us, _, rfl, iU⟩ ?_ ?_
      · intro j T2 w1 w2 m₃ news₃ its2 h3 g3 tk3 hjn hT2 hV3 hJ3 hkeep3 hits3 F3 N3 ho3
        obtain ⟨rfl, mb3, me3, mt3, vs3, c3', rfl, hvs3⟩ := hJ3
        obtain ⟨x2, y2, t2', u2', hps, rfl, rfl⟩ := hV3
        obtain ⟨k2, rfl, hk2⟩ := mcs_at hps
        have hb2 := small_at a11 hk2
        have hk2l : k2 < ms.length := (List.getElem?_eq_some_iff.mp hk2).1
        have hbl3 : (redIn b' e y ((mcs ms).take j)).length = 2 * ms.length - 2 - i := by rw [redIn_length, hbl']
        have N4 := kst_newsOf N3 mvA
        have off4 : ∀ p ∈ its2 ++ (its ++ rest), p.1 ≠ Db := by
          intro p hp
          rcases List.mem_append.mp hp with hp | hp
          · exact Ne.symm (ho3 (Db, _) (.head _) p hp)
          · exact off3 p hp
        clear N3
        k_steps
        rename_i hS FS NS iS
        show EndG _ _ _ _ _ _
        refine ⟨_, _, _, _, _, rfl, FS, kst_newsOf NS mvB, ?_, subL_of fun p hp => .tail _ (List.mem_append_right _ ((List.mem_cons.mp hp).elim (fun e => e ▸ r3) fun hp => mnw _ (.tail _ (.tail _ (.tail _ hp))))), rfl, fr_skip (by decide +kernel) (fr_skip (by decide +kernel) mb3), fr_skip (by decide +kernel) (fr_skip (by decide +kernel) me3), fr_skip (by decide +kernel) (fr_skip (by decide +kernel) mt3), _, _, rfl, ?_⟩
        · intro p hp q hq
          rcases List.mem_cons.mp hp with rfl | hp
          · exact ho3 (Db, _) (.head _) q hq
          · exact ho3 p (.tail _ hp) q hq
        · rw [List.take_add_one, hps]
          show IntsAre _ (redIn _ _ _ (_ ++ [_]))
          rw [redIn_snoc]
          have e' : ((e : Int) + (k2 : Int)).toNat = e + (k2 : Int).toNat := by omega
          rw [e'] at iS
          rw [e']
          exact iS
      · intro m₃ led3 h3 g3 tk3 hJ3 hkeep3 F3 N3
        obtain ⟨rfl, mb3, me3, mt3, vs3, c3', rfl, hvs3⟩ := hJ3
        k_steps
        show EndG _ _ _ _ _ _
        have e2 := a4.length
        rw [e2, List.take_length] at hvs3
        refine ⟨_, _, _, _, _, rfl, F3, kst_newsOf N3 mvB, ?_, trivial, rfl, mb3, _, _, _, rfl, hvs3, ?_, ?_⟩
        · intro p hp q hq
          rcases List.mem_cons.mp hp with rfl | hp
          · exact ho2 (Db, _) (.head _) q hq
          · exact ho2 p (.tail _ hp) q hq
        · rw [show ms.length - 1 - (i + 1) = e by omega]
          exact hred'
        · rw [redIn_length, hbl']
          omega
    · intro m₂ led2 h2 g2 tk2 hJ2 hkeep2 F2 N2
      obtain ⟨rfl, mb2, vs2, c2', bs, rfl, hvs2, hred, hbl⟩ := hJ2
      rw [Nat.sub_self] at hred
      have hred' : bs = redOut B (mcs ms) (ms.length - 1) := hred
      k_steps
      rename_i gc hI hLI De hde tke FFe NNe oe g7 L7 h7 FG7 F7' N7' B7 X7 T7'
      rw [hrest] at N7' oe
      have hI' : IntsAre ys (mulF p (mcs ms) ms.length (enumP cs1) (enumP cs2)) := by
        unfold mulF
        rw [hB, ← hred']
        exact hI
      have hlz : (mulF p (mcs ms) ms.length (enumP cs1) (enumP cs2)).length = ms.length := by
        rw [← hI'.length, hLI, List.length_map]
        omega
      have N5 := kst_newsOf N7' led_mul
      have hD44 : @Ne Nat De 44 := fun e => off1 oe.2 (44, _) (by k_mem) e.symm
      have hoff := offs N5 (by
        intro p hp
        simp only [List.mem_cons, List.mem_append] at hp
        rcases hp with rfl | rfl | rfl | hp | rfl | rfl | rfl | hp
        · exact hD44
        · exact (hnew _ (by simp)).1
        · exact (hnew _ (by simp)).1
        · exact (hnew _ (.inr (.inl ⟨_, hp⟩))).1
        · exact (hnew _ (by simp)).1
        · exact (hnew _ (by simp)).1
        · exact (hnew _ (by simp)).1
        · exact h44 p hp)
      refine Stop.go ?_
      refine specG_use (mk_specT w S De D3 _ mvs _ ms _ k3 p tp hI' a8 hlz h1 h4 hp hp2 a11) (by k_asm) (by k_asm) (by k_asm) TP GB N5 hoff (by k_asm) (by first | rfl | assumption) ⟨by k_mem, by k_mem, fun a h => (hS a h).imp fun o ho => by k_mem⟩ (by ktr_room) (by ktr_units) ?_
      intro r ps' tl h2 g2 tk2 TP2 GB2 F2 N2 hord2 htl2 ho
      obtain ⟨z, rfl, hz⟩ := ho
      k_steps
      rename_i kF kN kT kX
      refine hret (.ref z) ps' _ _ _ _ TP2 GB2 kF (kst_newsOf kN led_fin) ?_ ?_ ⟨z, rfl, hz.mono led_fin'⟩
      · intro q hq p hp
        simp only [List.mem_cons, List.mem_append, List.not_mem_nil, or_false] at hp
        rcases hp with hp | rfl | rfl | rfl | hp | rfl | rfl | rfl
        · exact hord2 q (by k_mem) p hp
        · exact Ne.symm (off1 oe.2 q (by k_mem))
        · exact (hnew _ (by simp)).2 q hq
        · exact (hnew _ (by simp)).2 q hq
        · exact (hnew _ (.inr (.inl ⟨_, hp⟩))).2 q hq
        · exact (hnew _ (by simp)).2 q hq
        · exact (hnew _ (by simp)).2 q hq
        · exact (hnew _ (by simp)).2 q hq
      · intro p hp
        simp only [List.mem_cons, List.mem_append, List.not_mem_nil, or_false] at hp
        rcases hp with hp | rfl | rfl | rfl | hp | rfl | rfl | rfl
        · exact htl2 p hp
        · exact hD44
        · exact (hnew _ (by simp)).1
        · exact (hnew _ (by simp)).1
        · exact (hnew _ (.inr (.inl ⟨_, hp⟩))).1
        · exact (hnew _ (by simp)).1
        · exact (hnew _ (by simp)).1
        · exact (hnew _ (by simp)).1

end Mine
end

section
open PySem PySem.W PyProof.Rows PySem.Spec PySem.Calls PyProof.Rows.LCg
set_option Elab.async false
set_option maxRecDepth 100000
set_option maxHeartbeats 1000000
namespace Mine
local macro_rules | `(tactic| k_room) => `(tactic| ktr_room)
local macro_rules | `(tactic| k_units) => `(tactic| ktr_units)
local macro_rules | `(tactic| ktr_enter) => `(tactic| (refine' code_defC ?k1 ?k2 ?k3 ?k4 ?k5 ?kA ?kF ?kK ?k6 ?k7 ?k8 ?k9 ?kB ?kD ?_ ?c2 ?c3 ?c4; (case kA => exact rfl); (case kF => exact rfl); (case kK => first | assumption | exact rfl); (case k1 => k_asm); (case k2 => k_asm); (case k3 => k_asm); (case k4 => k_asm); (case k5 => k_asm); (case k6 => k_is); (case k7 => k_is); (case k8 => ktr_room); (case k9 => exact BindsTo.of_eq rfl); (case kB => exact rfl); (case kD => decide +kernel); (case c2 => exact rfl); (case c3 => exact rfl); (case c4 => exact rfl); k_whole; intro g' L' h' tk' cells' FG' F' N' Y' B' X' T' l1; (try k_lt l1); k_cells Y'; (try simp only [List.cons_append, List.nil_append] at N'); (try dsimp only)))
theorem fill_C7 (w : World) : hd.heap_39 w.params = hd.heap_39 w.params ∧ PySem.Challenge.rw_bb0062_01 = PySem.Challenge.rw_bb0062_01 := by
  k_fill
  exact ⟨rfl, rfl⟩
local macro_rules | `(tactic| k_enter) => `(tactic| first
  | (refine' code_def ?k1 ?k2 ?k3 ?k4 ?k5 ?kA ?kF ?kK ?k6 ?k7 ?k8 ?k9 ?kB ?_ ?c2 ?c3 ?c4 ?c5; (case kA => exact rfl); (case kF => exact rfl); (case kK => first | assumption | exact rfl); (case k1 => k_asm); (case k2 => k_asm); (case k3 => k_asm); (case k4 => k_asm); (case k5 => k_asm); (case k6 => k_is); (case k7 => k_is); (case k8 => ktr_room); (case k9 => first | exact BindsTo.of_eq rfl | exact binds_K (by k_in) rfl (by k_is) rfl rfl rfl | fail "k_enter: no rule for these arguments"); (case c5 => decide); (case kB => exact locs rfl); (case c2 => exact rfl); (case c3 => exact rfl); (case c4 => exact rfl); k_whole; intro g' L' h' FG' F' N' B' X' T'; (try dsimp only); (try k_lift B'); (try k_fold))
  | (refine' code_defC ?k1 ?k2 ?k3 ?k4 ?k5 ?kA ?kF ?kK ?k6 ?k7 ?k8 ?k9 ?kB ?kD ?_ ?c2 ?c3 ?c4; (case kA => exact rfl); (case kF => exact rfl); (case kK => first | assumption | exact rfl); (case k1 => k_asm); (case k2 => k_asm); (case k3 => k_asm); (case k4 => k_asm); (case k5 => k_asm); (case k6 => k_is); (case k7 => k_is); (case k8 => ktr_room); (case k9 => first | exact BindsTo.of_eq rfl | exact binds_K (by k_in) rfl (by k_is) rfl rfl rfl | fail "k_enter: no rule for these arguments"); (case kB => exact rfl); (case kD => decide +kernel); (case c2 => exact rfl); (case c3 => exact rfl); (case c4 => exact rfl); k_whole; intro g' L' h' tk' cells' FG' F' N' Y' B' X' T' l1; (try k_lt l1); k_cells Y'; (try simp only [List.cons_append, List.nil_append] at N'); (try dsimp only); (try k_lift B'); (try k_fold)))
local macro_rules | `(tactic| k_mem) => `(tactic| first | with_reducible_and_instances assumption | with_reducible_and_instances exact List.Mem.head _ | (with_reducible_and_instances refine List.Mem.tail _ ?_; k_mem) | (with_reducible_and_instances refine memL ?_; k_mem) | (with_reducible_and_instances refine memR ?_; k_mem))
local macro_rules | `(tactic| k_all) => `(tactic| assumption)
local macro_rules | `(tactic| walk_at "eval ListComp") => `(tactic| (k_here; (with_reducible show wpAny _ _ (eval (Expr.ListComp _ [⟨Expr.Tuple _ _ _, _, _, _⟩] _ _) _) _ _ _); k_dflt (refine' ListComp_pair ?k1 ?k2 ?k3 ?k4 ?k5 ?k6 ?k7 ?k8 ?_; (case k1 => k_asm); (case k2 => exact rfl); (case k3 => decide); (case k4 => exact rfl); (case k5 => decide); (case k6 => exact rfl); (case k7 => exact rfl); (case k8 => decide); k_whole)))
local macro_rules | `(tactic| walk_at "call type:enumerate") => `(tactic| (k_here; (with_reducible show wpAny _ _ (call (Value.type _) [Value.ref _]) _ _ _); k_dflt (first
  | ((refine' enum_list ?k1 ?k2 ?k3 ?k4 ?k5 ?k6 ?_; (case k1 => exact rfl); (case k2 => k_asm); (case k3 => k_asm); (case k4 => k_mem); (case k5 => exact rfl); (case k6 => exact rfl); k_whole); intro I' h' S' l1 off' F' N')
  | ((refine' enum_tup ?k1 ?k2 ?k3 ?k4 ?k5 ?k6 ?_; (case k1 => exact rfl); (case k2 => k_asm); (case k3 => k_asm); (case k4 => k_mem); (case k5 => exact rfl); (case k6 => exact rfl); k_whole); intro I' h' S' R' lL' l1 off' F' N')); (try dsimp only)))
local macro_rules | `(tactic| walk_at "call type:list") => `(tactic| (k_here; (with_reducible show wpAny _ _ (call (Value.type _) [Value.ref _]) _ _ _); k_dflt (refine' list_enumT ?k1 ?k2 ?k3 ?k4 ?k5 ?k6 ?k7 ?k8 ?_; (case k1 => exact rfl); (case k2 => k_asm); (case k3 => k_asm); (case k4 => assumption); (case k5 => assumption); (case k6 => assumption); (case k7 => assumption); (case k8 => (rw [PySem.sizeLine_eq]; omega)); k_whole); intro D' h' tk' ys' c' tl' F' N' p' l1 l2; (try dsimp only)))
local macro_rules | `(tactic| walk_at "call builtin:len") => `(tactic| (k_here; (with_reducible show wpAny _ _ (call (Value.builtin "len") [Value.ref _]) _ _ _); k_dflt (first
  | (refine' kst_len ?k1 ?k2 ?k3 ?k4 ?_; (case k1 => k_asm); (case k2 => k_mem); (case k3 => assumption); (case k4 => omega); k_whole)
  | (refine' len_T ?k1 ?k2 ?k3 ?k4 ?_; (case k1 => k_asm); (case k2 => k_mem); (case k3 => assumption); (case k4 => omega); k_whole))))
local macro_rules | `(tactic| walk_at "subscriptTail") => `(tactic| (k_here; (with_reducible show wpAny _ _ (subscriptTail _ _ (Value.ref _) (Value.int _ _)) _ _ _); k_dflt (
   (refine' item_L ?k1 ?k2 ?k3 ?k4 ?k5 ?_; (case k1 => k_asm); (case k2 => k_mem); (case k3 => omega); (case k4 => omega); (case k5 => assumption); k_whole))))
local macro_rules | `(tactic| walk_at "exec If") => `(tactic| refine wpAny_If ?_)
local macro_rules | `(tactic| walk_at "isTrue Call") => `(tactic| refine isTrue_plain ?_)
local macro_rules | `(tactic| walk_at "exec If Call cons cons") => `(tactic| refine wpAny_If ?_)
local macro_rules | `(tactic| walk_at "exec If Call cons nil") => `(tactic| refine wpAny_If ?_)
local macro_rules | `(tactic| walk_at "exec If Compare cons nil") => `(tactic| refine wpAny_If ?_)
local macro_rules | `(tactic| walk_at "exec If UnaryOp cons nil") => `(tactic| refine wpAny_If ?_)
local macro_rules | `(tactic| walk_at "ite") => `(tactic| first | rw [if_neg (by first | (simp; done) | omega | (simp; omega))] | rw [if_pos (by first | (simp; done) | omega | (simp; omega))])
local macro_rules | `(tactic| walk_at "call type:tuple") => `(tactic| (k_here; (with_reducible show wpAny _ _ (call (Value.type _) [Value.ref _]) _ _ _); k_dflt (first
  | (refine' tuple_tup_N ?k1 ?k2 ?_; (case k1 => k_asm); (case k2 => k_mem); k_whole)
  | (refine' tuple_list_N ?k1 ?k2 ?k3 ?k4 ?_; (case k1 => k_asm); (case k2 => k_asm); (case k3 => k_mem); (case k4 => (rw [PySem.sizeLine_eq]; omega)); k_whole; intro D' h' tk' F' N' l1)
  | (refine' tuple_Gen ?k1 ?k2 ?k3 ?k4 ?k5 ?k6 ?k7 ?_; (case k1 => k_asm); (case k2 => k_asm); (case k3 => assumption); (case k4 => assumption); (case k5 => assumption); (case k6 => assumption); (case k7 => (rw [PySem.sizeLine_eq]; omega)); k_whole; intro D' h' g' tk' ys' e1 e2 F' N' G' l1))))
local macro_rules | `(tactic| walk_at "call ref") => `(tactic| (k_here; (with_reducible show wpAny _ _ (call (Value.ref 156) _) _ _ _); refine Stop.un ?_))
local macro_rules | `(tactic| walk_at "call type:zip") => `(tactic| (k_here; (with_reducible show wpAny _ _ (call (Value.type _) [Value.ref _, Value.ref _]) _ _ _); k_dflt (refine' zip_tup ?k1 ?k2 ?k3 ?k4 ?k5 ?k6 ?k7 ?k8 ?k9 ?_; (case k1 => exact rfl); (case k2 => k_asm); (case k3 => k_asm); (case k4 => k_mem); (case k5 => exact rfl); (case k6 => exact rfl); (case k7 => k_mem); (case k8 => exact rfl); (case k9 => exact rfl); k_whole); intro I' h' S' l1 off' F' N'; (try dsimp only)))
local macro_rules | `(tactic| walk_at "eval Name") => `(tactic| (k_here; (with_reducible show wpAny _ _ (eval (Expr.Name _ _) (compEnvC _ _ _ _)) _ _ _); k_dflt (first
  | (refine' wpAny_Name (wpAny_loadName_local ?k1 ?k2 ?k3 ?k4 ?_); (case k1 => exact rfl); (case k2 => exact rfl); (case k3 => assumption); (case k4 => assumption); k_whole)
  | (refine' ldFreeK ?k1 ?k2 ?_; (case k1 => exact rfl); (case k2 => assumption); k_whole))))
local macro_rules | `(tactic| walk_at "pyIter ref") => `(tactic| (k_here; k_dflt (refine' PSrc.self ?k1 ?_; (case k1 => assumption); k_whole)))
local macro_rules | `(tactic| walk_at "call ref") => `(tactic| (k_here; first
  | ((with_reducible show wpAny _ _ (call (Value.ref 59) _) _ _ _); refine Stop.un ?_)
  | ((with_reducible show wpAny _ _ (call (Value.ref 76) _) _ _ _); refine Stop.un ?_)
  | ((with_reducible show wpAny _ _ (call (Value.ref 95) _) _ _ _); refine Stop.un ?_)
  | ((with_reducible show wpAny _ _ (call (Value.ref 119) _) _ _ _); refine Stop.un ?_)
  | ((with_reducible show wpAny _ _ (call (Value.ref 126) _) _ _ _); refine Stop.un ?_)
  | ((with_reducible show wpAny _ _ (call (Value.ref 153) _) _ _ _); refine Stop.un ?_)
  | ((with_reducible show wpAny _ _ (call (Value.ref 172) _) _ _ _); refine Stop.un ?_)
  | ((with_reducible show wpAny _ _ (call (Value.ref 177) _) _ _ _); refine Stop.un ?_)
  | ((with_reducible show wpAny _ _ (call (Value.ref 184) _) _ _ _); refine Stop.un ?_)))
local macro_rules | `(tactic| walk_at "exec For Tuple Call cons nil") => `(tactic| (k_here; (rename Fr _ _ _ _ => lF'); (with_unfolding_all refine' For_gens lF' ?_; k_whole); skip))
local macro_rules | `(tactic| walk_at "exec For Tuple Call") => `(tactic| (k_here; (rename Fr _ _ _ _ => lF'); (with_unfolding_all refine' For_gens lF' ?_; k_whole); skip))
local macro_rules | `(tactic| walk_at "exec For Tuple Call cons cons") => `(tactic| (k_here; (rename Fr _ _ _ _ => lF'); (with_unfolding_all refine' For_gens lF' ?_; k_whole); skip))
local macro_rules | `(tactic| walk_at "exec For Tuple Attribute cons nil") => `(tactic| (k_here; (rename Fr _ _ _ _ => lF'); (with_unfolding_all refine' For_gens lF' ?_; k_whole); skip))
local macro_rules | `(tactic| walk_at "exec For Tuple Attribute") => `(tactic| (k_here; (rename Fr _ _ _ _ => lF'); (with_unfolding_all refine' For_gens lF' ?_; k_whole); skip))
local macro_rules | `(tactic| walk_at "exec For Tuple Attribute cons cons") => `(tactic| (k_here; (rename Fr _ _ _ _ => lF'); (with_unfolding_all refine' For_gens lF' ?_; k_whole); skip))
local macro_rules | `(tactic| walk_at "exec For Tuple Name cons nil") => `(tactic| (k_here; (rename Fr _ _ _ _ => lF'); (with_unfolding_all refine' For_gens lF' ?_; k_whole); skip))
local macro_rules | `(tactic| walk_at "exec For Tuple Name") => `(tactic| (k_here; (rename Fr _ _ _ _ => lF'); (with_unfolding_all refine' For_gens lF' ?_; k_whole); skip))
local macro_rules | `(tactic| walk_at "exec For Tuple Name cons cons") => `(tactic| (k_here; (rename Fr _ _ _ _ => lF'); (with_unfolding_all refine' For_gens lF' ?_; k_whole); skip))
local macro_rules | `(tactic| walk_at "exec For Name Call cons nil") => `(tactic| (k_here; (rename Fr _ _ _ _ => lF'); (with_unfolding_all refine' For_gens lF' ?_; k_whole); skip))
local macro_rules | `(tactic| walk_at "exec For Name Call") => `(tactic| (k_here; (rename Fr _ _ _ _ => lF'); (with_unfolding_all refine' For_gens lF' ?_; k_whole); skip))
local macro_rules | `(tactic| walk_at "exec For Name Call cons cons") => `(tactic| (k_here; (rename Fr _ _ _ _ => lF'); (with_unfolding_all refine' For_gens lF' ?_; k_whole); skip))
local macro_rules | `(tactic| walk_at "exec For Name Name cons nil") => `(tactic| (k_here; (rename Fr _ _ _ _ => lF'); (with_unfolding_all refine' For_gens lF' ?_; k_whole); skip))
local macro_rules | `(tactic| walk_at "exec For Name Name") => `(tactic| (k_here; (rename Fr _ _ _ _ => lF'); (with_unfolding_all refine' For_gens lF' ?_; k_whole); skip))
local macro_rules | `(tactic| walk_at "exec For Name Name cons cons") => `(tactic| (k_here; (rename Fr _ _ _ _ => lF'); (with_unfolding_all refine' For_gens lF' ?_; k_whole); skip))
local macro_rules | `(tactic| walk_at "exec For Name Subscript cons nil") => `(tactic| (k_here; (rename Fr _ _ _ _ => lF'); (with_unfolding_all refine' For_gens lF' ?_; k_whole); skip))
local macro_rules | `(tactic| walk_at "exec For Name Subscript") => `(tactic| (k_here; (rename Fr _ _ _ _ => lF'); (with_unfolding_all refine' For_gens lF' ?_; k_whole); skip))
local macro_rules | `(tactic| walk_at "exec For Name Subscript cons cons") => `(tactic| (k_here; (rename Fr _ _ _ _ => lF'); (with_unfolding_all refine' For_gens lF' ?_; k_whole); skip))
local macro_rules | `(tactic| walk_at "call type:range") => `(tactic| (k_here; (with_reducible show wpAny _ _ (call (Value.type _) _) (fun xv s₁ => wpAny _ _ (pyIter xv) (fun it s₂ => TurnsG _ _ _ _ _ _ _ _ _ it s₂) _ s₁) _ _); k_dflt (first
  | ((refine' range_1 ?k1 ?k2 ?_; (case k1 => k_asm); (case k2 => k_asm); k_whole); intro r' h' t' u' tk' R' F' N')
  | ((refine' range_3 ?k3 ?k1 ?k2 ?k4 ?_; (case k3 => decide); (case k1 => k_asm); (case k2 => k_asm); (case k4 => first | decide +kernel | (exact PyProof.noPylong_small (by omega))); k_whole); intro r' h' R' F' N'))))
local macro_rules | `(tactic| walk_at "pyIter ref") => `(tactic| (k_here; (with_reducible show wpAny _ _ (pyIter _) (fun it s₂ => TurnsG _ _ _ _ _ _ _ _ _ it s₂) _ _); k_dflt (first | (refine' PSrc.self ?k1 ?_; (case k1 => assumption); k_whole) | refine Stop.un ?_)))
local macro_rules | `(tactic| walk_at "setItem ref int") => `(tactic| (k_here; (with_reducible show wpAny _ _ (setItem (Value.ref _) (Value.int _ _) (Value.int _ _)) _ _ _); k_dflt (refine' setH ?k1 ?k2 ?k3 ?k4 ?k5 ?k6 ?k7 ?_; (case k1 => k_asm); (case k2 => k_asm); (case k3 => assumption); (case k4 => assumption); (case k5 => omega); (case k6 => omega); (case k7 => omega); k_whole); intro h' F' N' i'))
local macro_rules | `(tactic| walk_at "getItem ref int") => `(tactic| (k_here; (with_reducible show wpAny _ _ (getItem (Value.ref _) (Value.int _ _)) _ _ _); k_dflt (refine' ksa_get ?k1 ?k2 ?k3 ?k4 ?k5 ?k6 ?_; (case k1 => k_asm); (case k2 => k_mem); (case k3 => assumption); (case k4 => omega); (case k5 => omega); (case k6 => omega); k_whole); intro t'))
local macro_rules | `(tactic| walk_at "call builtin:list.pop") => `(tactic| (k_here; (with_reducible show wpAny _ _ (call (Value.builtin _) [Value.ref _]) _ _ _); k_dflt (refine' popH ?k1 ?k2 ?k3 ?k4 ?k5 ?_; (case k1 => k_asm); (case k2 => k_asm); (case k3 => assumption); (case k4 => assumption); (case k5 => (rw [PySem.sizeLine_eq]; omega)); k_whole); intro h' us' t' i' F' N'))
local macro_rules | `(tactic| walk_at "eval Name") => `(tactic| (k_here; (with_reducible show wpAny _ _ (eval (Expr.Name _ _) (envOf _ _ _ _ _)) _ _ _); k_dflt (refine' ld ?k1 ?k2 ?_; (case k1 => k_asm); (case k2 => ((try dsimp only); (repeat (refine' fr_skip ?frh ?_; (case frh => decide +kernel))); first | with_reducible assumption | (refine' fr_hit ?fra ?frb; (case fra => rfl); (case frb => rfl)))); k_whole)))
local macro_rules | `(tactic| walk_at "eval Name") => `(tactic| (k_here; (with_reducible show wpAny _ _ (eval (Expr.Name _ _) (envOfC _ _ _ _ _)) _ _ _); k_dflt (refine' nameX_L ?F ?v ?_ ?a ?b; (case F => k_asm); (case a => rfl); (case b => rfl); (case v => ((try dsimp only); (repeat (refine' fr_skip ?frh ?_; (case frh => decide +kernel))); first | with_reducible assumption | (refine' fr_hit ?fra ?frb; (case fra => rfl); (case frb => rfl)))); k_whole)))
local macro_rules | `(tactic| walk_at "eval Name") => `(tactic| (k_here; (with_reducible show wpAny _ _ (eval (Expr.Name _ _) (envOfC _ _ _ _ _)) _ _ _); k_dflt (refine' nameX_C ?N ?c ?m ?d ?_ ?a ?b; (case b => rfl); (case a => rfl); (case N => k_asm); (case c => rfl); (case m => k_mem); (case d => k_asm); k_whole)))
local macro_rules | `(tactic| walk_at "getMethod ref") => `(tactic| (k_here; (with_reducible show wpAny _ _ (getMethod (Value.ref _) (PySem.Str.ofString "pop") _) _ _ _); k_dflt (refine' kl_method ?N ?m PySem.F.slot_list_pop PySem.F.type_list_pop ?_; (case N => k_asm); (case m => k_mem); k_whole)))
--BODY
theorem ne_spec (w : World) (S : Addr → Prop) (x y : Addr) (ms cs1 cs2 : List Int) (p : Int) (h1 : 2 ≤ ms.length) (h4 : ms.length ≤ 4) (hp : 2 ≤ p) (hp2 : p ≤ 5) :
    Spec w 126 [.ref x, .ref y] 24 (fun news => FQ w S news x p ms cs1 ∧ FQ w S news y p ms cs2) (fun _ r => r = .bool (!decide (cs1 = cs2))) := by
  unfold Spec
  intro mean mg mb dp un gd cn cs' a ccd cl outer A₀ base h₀ L m news s Q E B F X N T hk hP hdp hun hret
  obtain ⟨P1, P2⟩ := hP
  obtain ⟨d, D, D2, D3, tp, t1, t2, t3, t4, t5, t6, ys, zs, mvs, k3, a1, a2, a3, a4, a5, a6, a7, a8, a9, a10, a11, a12⟩ := id P1
  obtain ⟨d', D', D2', D3', tp', t1', t2', t3', t4', t5', t6', ys', zs', mvs', k3', b1, b2, b3, b4, b5, b6, b7, b8, b9, b10, b11, b12⟩ := id P2
  w_on
  k_dflt (refine wpAny_call ?_; k_enter)
  k_steps
  refine Stop.go ?_
  refine spec_use (eq_spec w S x y ms cs1 cs2 p h1 h4 hp hp2) (by k_asm) (by k_asm) (by k_asm) (by k_asm) (by k_asm) (by first | rfl | assumption) ⟨P1, P2⟩ (by ktr_room) (by ktr_units) ?_
  intro r tl h2 tk2 F2 N2 hord2 ho
  subst ho
  dsimp only [PySem.W.CmpBack]
  k_steps
  rename_i kF kN kT kX
  exact hret _ tl _ _ kF kN hord2 rfl

end Mine
end

section
open PySem PySem.W PyProof.Rows PySem.Spec PySem.Calls PyProof.Rows.LCg
set_option Elab.async false
set_option maxRecDepth 100000
set_option maxHeartbeats 1000000
namespace Mine
local macro_rules | `(tactic| k_room) => `(tactic| ktr_room)
local macro_rules | `(tactic| k_units) => `(tactic| ktr_units)
local macro_rules | `(tactic| ktr_enter) => `(tactic| (refine' code_defC ?k1 ?k2 ?k3 ?k4 ?k5 ?kA ?kF ?kK ?k6 ?k7 ?k8 ?k9 ?kB ?kD ?_ ?c2 ?c3 ?c4; (case kA => exact rfl); (case kF => exact rfl); (case kK => first | assumption | exact rfl); (case k1 => k_asm); (case k2 => k_asm); (case k3 => k_asm); (case k4 => k_asm); (case k5 => k_asm); (case k6 => k_is); (case k7 => k_is); (case k8 => ktr_room); (case k9 => exact BindsTo.of_eq rfl); (case kB => exact rfl); (case kD => decide +kernel); (case c2 => exact rfl); (case c3 => exact rfl); (case c4 => exact rfl); k_whole; intro g' L' h' tk' cells' FG' F' N' Y' B' X' T' l1; (try k_lt l1); k_cells Y'; (try simp only [List.cons_append, List.nil_append] at N'); (try dsimp only)))
theorem fill_C8 (w : World) : hd.heap_39 w.params = hd.heap_39 w.params ∧ PySem.Challenge.rw_bb0062_01 = PySem.Challenge.rw_bb0062_01 := by
  k_fill
  exact ⟨rfl, rfl⟩
local macro_rules | `(tactic| k_enter) => `(tactic| first
  | (refine' code_def ?k1 ?k2 ?k3 ?k4 ?k5 ?kA ?kF ?kK ?k6 ?k7 ?k8 ?k9 ?kB ?_ ?c2 ?c3 ?c4 ?c5; (case kA => exact rfl); (case kF => exact rfl); (case kK => first | assumption | exact rfl); (case k1 => k_asm); (case k2 => k_asm); (case k3 => k_asm); (case k4 => k_asm); (case k5 => k_asm); (case k6 => k_is); (case k7 => k_is); (case k8 => ktr_room); (case k9 => first | exact BindsTo.of_eq rfl | exact binds_K (by k_in) rfl (by k_is) rfl rfl rfl | fail "k_enter: no rule for these arguments"); (case c5 => decide); (case kB => exact locs rfl); (case c2 => exact rfl); (case c3 => exact rfl); (case c4 => exact rfl); k_whole; intro g' L' h' FG' F' N' B' X' T'; (try dsimp only); (try k_lift B'); (try k_fold))
  | (refine' code_defC ?k1 ?k2 ?k3 ?k4 ?k5 ?kA ?kF ?kK ?k6 ?k7 ?k8 ?k9 ?kB ?kD ?_ ?c2 ?c3 ?c4; (case kA => exact rfl); (case kF => exact rfl); (case kK => first | assumption | exact rfl); (case k1 => k_asm); (case k2 => k_asm); (case k3 => k_asm); (case k4 => k_asm); (case k5 => k_asm); (case k6 => k_is); (case k7 => k_is); (case k8 => ktr_room); (case k9 => first | exact BindsTo.of_eq rfl | exact binds_K (by k_in) rfl (by k_is) rfl rfl rfl | fail "k_enter: no rule for these arguments"); (case kB => exact rfl); (case kD => decide +kernel); (case c2 => exact rfl); (case c3 => exact rfl); (case c4 => exact rfl); k_whole; intro g' L' h' tk' cells' FG' F' N' Y' B' X' T' l1; (try k_lt l1); k_cells Y'; (try simp only [List.cons_append, List.nil_append] at N'); (try dsimp only); (try k_lift B'); (try k_fold)))
local macro_rules | `(tactic| k_mem) => `(tactic| first | with_reducible_and_instances assumption | with_reducible_and_instances exact List.Mem.head _ | (with_reducible_and_instances refine List.Mem.tail _ ?_; k_mem) | (with_reducible_and_instances refine memL ?_; k_mem) | (with_reducible_and_instances refine memR ?_; k_mem))
local macro_rules | `(tactic| k_all) => `(tactic| assumption)
local macro_rules | `(tactic| walk_at "eval ListComp") => `(tactic| (k_here; (with_reducible show wpAny _ _ (eval (Expr.ListComp _ [⟨Expr.Tuple _ _ _, _, _, _⟩] _ _) _) _ _ _); k_dflt (refine' ListComp_pair ?k1 ?k2 ?k3 ?k4 ?k5 ?k6 ?k7 ?k8 ?_; (case k1 => k_asm); (case k2 => exact rfl); (case k3 => decide); (case k4 => exact rfl); (case k5 => decide); (case k6 => exact rfl); (case k7 => exact rfl); (case k8 => decide); k_whole)))
local macro_rules | `(tactic| walk_at "call type:enumerate") => `(tactic| (k_here; (with_reducible show wpAny _ _ (call (Value.type _) [Value.ref _]) _ _ _); k_dflt (first
  | ((refine' enum_list ?k1 ?k2 ?k3 ?k4 ?k5 ?k6 ?_; (case k1 => exact rfl); (case k2 => k_asm); (case k3 => k_asm); (case k4 => k_mem); (case k5 => exact rfl); (case k6 => exact rfl); k_whole); intro I' h' S' l1 off' F' N')
  | ((refine' enum_tup ?k1 ?k2 ?k3 ?k4 ?k5 ?k6 ?_; (case k1 => exact rfl); (case k2 => k_asm); (case k3 => k_asm); (case k4 => k_mem); (case k5 => exact rfl); (case k6 => exact rfl); k_whole); intro I' h' S' R' lL' l1 off' F' N')); (try dsimp only)))
local macro_rules | `(tactic| walk_at "call type:list") => `(tactic| (k_here; (with_reducible show wpAny _ _ (call (Value.type _) [Value.ref _]) _ _ _); k_dflt (refine' list_enumT ?k1 ?k2 ?k3 ?k4 ?k5 ?k6 ?k7 ?k8 ?_; (case k1 => exact rfl); (case k2 => k_asm); (case k3 => k_asm); (case k4 => assumption); (case k5 => assumption); (case k6 => assumption); (case k7 => assumption); (case k8 => (rw [PySem.sizeLine_eq]; omega)); k_whole); intro D' h' tk' ys' c' tl' F' N' p' l1 l2; (try dsimp only)))
local macro_rules | `(tactic| walk_at "call builtin:len") => `(tactic| (k_here; (with_reducible show wpAny _ _ (call (Value.builtin "len") [Value.ref _]) _ _ _); k_dflt (first
  | (refine' kst_len ?k1 ?k2 ?k3 ?k4 ?_; (case k1 => k_asm); (case k2 => k_mem); (case k3 => assumption); (case k4 => omega); k_whole)
  | (refine' len_T ?k1 ?k2 ?k3 ?k4 ?_; (case k1 => k_asm); (case k2 => k_mem); (case k3 => assumption); (case k4 => omega); k_whole))))
local macro_rules | `(tactic| walk_at "subscriptTail") => `(tactic| (k_here; (with_reducible show wpAny _ _ (subscriptTail _ _ (Value.ref _) (Value.int _ _)) _ _ _); k_dflt (
   (refine' item_L ?k1 ?k2 ?k3 ?k4 ?k5 ?_; (case k1 => k_asm); (case k2 => k_mem); (case k3 => omega); (case k4 => omega); (case k5 => assumption); k_whole))))
local macro_rules | `(tactic| walk_at "exec If") => `(tactic| refine wpAny_If ?_)
local macro_rules | `(tactic| walk_at "isTrue Call") => `(tactic| refine isTrue_plain ?_)
local macro_rules | `(tactic| walk_at "exec If Call cons cons") => `(tactic| refine wpAny_If ?_)
local macro_rules | `(tactic| walk_at "exec If Call cons nil") => `(tactic| refine wpAny_If ?_)
local macro_rules | `(tactic| walk_at "exec If Compare cons nil") => `(tactic| refine wpAny_If ?_)
local macro_rules | `(tactic| walk_at "exec If UnaryOp cons nil") => `(tactic| refine wpAny_If ?_)
local macro_rules | `(tactic| walk_at "ite") => `(tactic| first | rw [if_neg (by first | (simp; done) | omega | (simp; omega))] | rw [if_pos (by first | (simp; done) | omega | (simp; omega))])
local macro_rules | `(tactic| walk_at "call type:tuple") => `(tactic| (k_here; (with_reducible show wpAny _ _ (call (Value.type _) [Value.ref _]) _ _ _); k_dflt (first
  | (refine' tuple_tup_N ?k1 ?k2 ?_; (case k1 => k_asm); (case k2 => k_mem); k_whole)
  | (refine' tuple_list_N ?k1 ?k2 ?k3 ?k4 ?_; (case k1 => k_asm); (case k2 => k_asm); (case k3 => k_mem); (case k4 => (rw [PySem.sizeLine_eq]; omega)); k_whole; intro D' h' tk' F' N' l1)
  | (refine' tuple_Gen ?k1 ?k2 ?k3 ?k4 ?k5 ?k6 ?k7 ?_; (case k1 => k_asm); (case k2 => k_asm); (case k3 => assumption); (case k4 => assumption); (case k5 => assumption); (case k6 => assumption); (case k7 => (rw [PySem.sizeLine_eq]; omega)); k_whole; intro D' h' g' tk' ys' e1 e2 F' N' G' l1))))
local macro_rules | `(tactic| walk_at "call ref") => `(tactic| (k_here; (with_reducible show wpAny _ _ (call (Value.ref 156) _) _ _ _); refine Stop.un ?_))
local macro_rules | `(tactic| walk_at "call type:zip") => `(tactic| (k_here; (with_reducible show wpAny _ _ (call (Value.type _) [Value.ref _, Value.ref _]) _ _ _); k_dflt (refine' zip_tup ?k1 ?k2 ?k3 ?k4 ?k5 ?k6 ?k7 ?k8 ?k9 ?_; (case k1 => exact rfl); (case k2 => k_asm); (case k3 => k_asm); (case k4 => k_mem); (case k5 => exact rfl); (case k6 => exact rfl); (case k7 => k_mem); (case k8 => exact rfl); (case k9 => exact rfl); k_whole); intro I' h' S' l1 off' F' N'; (try dsimp only)))
local macro_rules | `(tactic| walk_at "eval Name") => `(tactic| (k_here; (with_reducible show wpAny _ _ (eval (Expr.Name _ _) (compEnvC _ _ _ _)) _ _ _); k_dflt (first
  | (refine' wpAny_Name (wpAny_loadName_local ?k1 ?k2 ?k3 ?k4 ?_); (case k1 => exact rfl); (case k2 => exact rfl); (case k3 => assumption); (case k4 => assumption); k_whole)
  | (refine' ldFreeK ?k1 ?k2 ?_; (case k1 => exact rfl); (case k2 => assumption); k_whole))))
local macro_rules | `(tactic| walk_at "pyIter ref") => `(tactic| (k_here; k_dflt (refine' PSrc.self ?k1 ?_; (case k1 => assumption); k_whole)))
local macro_rules | `(tactic| walk_at "call ref") => `(tactic| (k_here; first
  | ((with_reducible show wpAny _ _ (call (Value.ref 59) _) _ _ _); refine Stop.un ?_)
  | ((with_reducible show wpAny _ _ (call (Value.ref 76) _) _ _ _); refine Stop.un ?_)
  | ((with_reducible show wpAny _ _ (call (Value.ref 95) _) _ _ _); refine Stop.un ?_)
  | ((with_reducible show wpAny _ _ (call (Value.ref 119) _) _ _ _); refine Stop.un ?_)
  | ((with_reducible show wpAny _ _ (call (Value.ref 126) _) _ _ _); refine Stop.un ?_)
  | ((with_reducible show wpAny _ _ (call (Value.ref 153) _) _ _ _); refine Stop.un ?_)
  | ((with_reducible show wpAny _ _ (call (Value.ref 172) _) _ _ _); refine Stop.un ?_)
  | ((with_reducible show wpAny _ _ (call (Value.ref 177) _) _ _ _); refine Stop.un ?_)
  | ((with_reducible show wpAny _ _ (call (Value.ref 184) _) _ _ _); refine Stop.un ?_)))
local macro_rules | `(tactic| walk_at "exec For Tuple Call cons nil") => `(tactic| (k_here; (rename Fr _ _ _ _ => lF'); (with_unfolding_all refine' For_gens lF' ?_; k_whole); skip))
local macro_rules | `(tactic| walk_at "exec For Tuple Call") => `(tactic| (k_here; (rename Fr _ _ _ _ => lF'); (with_unfolding_all refine' For_gens lF' ?_; k_whole); skip))
local macro_rules | `(tactic| walk_at "exec For Tuple Call cons cons") => `(tactic| (k_here; (rename Fr _ _ _ _ => lF'); (with_unfolding_all refine' For_gens lF' ?_; k_whole); skip))
local macro_rules | `(tactic| walk_at "exec For Tuple Attribute cons nil") => `(tactic| (k_here; (rename Fr _ _ _ _ => lF'); (with_unfolding_all refine' For_gens lF' ?_; k_whole); skip))
local macro_rules | `(tactic| walk_at "exec For Tuple Attribute") => `(tactic| (k_here; (rename Fr _ _ _ _ => lF'); (with_unfolding_all refine' For_gens lF' ?_; k_whole); skip))
local macro_rules | `(tactic| walk_at "exec For Tuple Attribute cons cons") => `(tactic| (k_here; (rename Fr _ _ _ _ => lF'); (with_unfolding_all refine' For_gens lF' ?_; k_whole); skip))
local macro_rules | `(tactic| walk_at "exec For Tuple Name cons nil") => `(tactic| (k_here; (rename Fr _ _ _ _ => lF'); (with_unfolding_all refine' For_gens lF' ?_; k_whole); skip))
local macro_rules | `(tactic| walk_at "exec For Tuple Name") => `(tactic| (k_here; (rename Fr _ _ _ _ => lF'); (with_unfolding_all refine' For_gens lF' ?_; k_whole); skip))
local macro_rules | `(tactic| walk_at "exec For Tuple Name cons cons") => `(tactic| (k_here; (rename Fr _ _ _ _ => lF'); (with_unfolding_all refine' For_gens lF' ?_; k_whole); skip))
local macro_rules | `(tactic| walk_at "exec For Name Call cons nil") => `(tactic| (k_here; (rename Fr _ _ _ _ => lF'); (with_unfolding_all refine' For_gens lF' ?_; k_whole); skip))
local macro_rules | `(tactic| walk_at "exec For Name Call") => `(tactic| (k_here; (rename Fr _ _ _ _ => lF'); (with_unfolding_all refine' For_gens lF' ?_; k_whole); skip))
local macro_rules | `(tactic| walk_at "exec For Name Call cons cons") => `(tactic| (k_here; (rename Fr _ _ _ _ => lF'); (with_unfolding_all refine' For_gens lF' ?_; k_whole); skip))
local macro_rules | `(tactic| walk_at "exec For Name Name cons nil") => `(tactic| (k_here; (rename Fr _ _ _ _ => lF'); (with_unfolding_all refine' For_gens lF' ?_; k_whole); skip))
local macro_rules | `(tactic| walk_at "exec For Name Name") => `(tactic| (k_here; (rename Fr _ _ _ _ => lF'); (with_unfolding_all refine' For_gens lF' ?_; k_whole); skip))
local macro_rules | `(tactic| walk_at "exec For Name Name cons cons") => `(tactic| (k_here; (rename Fr _ _ _ _ => lF'); (with_unfolding_all refine' For_gens lF' ?_; k_whole); skip))
local macro_rules | `(tactic| walk_at "exec For Name Subscript cons nil") => `(tactic| (k_here; (rename Fr _ _ _ _ => lF'); (with_unfolding_all refine' For_gens lF' ?_; k_whole); skip))
local macro_rules | `(tactic| walk_at "exec For Name Subscript") => `(tactic| (k_here; (rename Fr _ _ _ _ => lF'); (with_unfolding_all refine' For_gens lF' ?_; k_whole); skip))
local macro_rules | `(tactic| walk_at "exec For Name Subscript cons cons") => `(tactic| (k_here; (rename Fr _ _ _ _ => lF'); (with_unfolding_all refine' For_gens lF' ?_; k_whole); skip))
local macro_rules | `(tactic| walk_at "call type:range") => `(tactic| (k_here; (with_reducible show wpAny _ _ (call (Value.type _) _) (fun xv s₁ => wpAny _ _ (pyIter xv) (fun it s₂ => TurnsG _ _ _ _ _ _ _ _ _ it s₂) _ s₁) _ _); k_dflt (first
  | ((refine' range_1 ?k1 ?k2 ?_; (case k1 => k_asm); (case k2 => k_asm); k_whole); intro r' h' t' u' tk' R' F' N')
  | ((refine' range_3 ?k3 ?k1 ?k2 ?k4 ?_; (case k3 => decide); (case k1 => k_asm); (case k2 => k_asm); (case k4 => first | decide +kernel | (exact PyProof.noPylong_small (by omega))); k_whole); intro r' h' R' F' N'))))
local macro_rules | `(tactic| walk_at "pyIter ref") => `(tactic| (k_here; (with_reducible show wpAny _ _ (pyIter _) (fun it s₂ => TurnsG _ _ _ _ _ _ _ _ _ it s₂) _ _); k_dflt (first | (refine' PSrc.self ?k1 ?_; (case k1 => assumption); k_whole) | refine Stop.un ?_)))
local macro_rules | `(tactic| walk_at "setItem ref int") => `(tactic| (k_here; (with_reducible show wpAny _ _ (setItem (Value.ref _) (Value.int _ _) (Value.int _ _)) _ _ _); k_dflt (refine' setH ?k1 ?k2 ?k3 ?k4 ?k5 ?k6 ?k7 ?_; (case k1 => k_asm); (case k2 => k_asm); (case k3 => assumption); (case k4 => assumption); (case k5 => omega); (case k6 => omega); (case k7 => omega); k_whole); intro h' F' N' i'))
local macro_rules | `(tactic| walk_at "getItem ref int") => `(tactic| (k_here; (with_reducible show wpAny _ _ (getItem (Value.ref _) (Value.int _ _)) _ _ _); k_dflt (refine' ksa_get ?k1 ?k2 ?k3 ?k4 ?k5 ?k6 ?_; (case k1 => k_asm); (case k2 => k_mem); (case k3 => assumption); (case k4 => omega); (case k5 => omega); (case k6 => omega); k_whole); intro t'))
local macro_rules | `(tactic| walk_at "call builtin:list.pop") => `(tactic| (k_here; (with_reducible show wpAny _ _ (call (Value.builtin _) [Value.ref _]) _ _ _); k_dflt (refine' popH ?k1 ?k2 ?k3 ?k4 ?k5 ?_; (case k1 => k_asm); (case k2 => k_asm); (case k3 => assumption); (case k4 => assumption); (case k5 => (rw [PySem.sizeLine_eq]; omega)); k_whole); intro h' us' t' i' F' N'))
local macro_rules | `(tactic| walk_at "eval Name") => `(tactic| (k_here; (with_reducible show wpAny _ _ (eval (Expr.Name _ _) (envOf _ _ _ _ _)) _ _ _); k_dflt (refine' ld ?k1 ?k2 ?_; (case k1 => k_asm); (case k2 => ((try dsimp only); (repeat (refine' fr_skip ?frh ?_; (case frh => decide +kernel))); first | with_reducible assumption | (refine' fr_hit ?fra ?frb; (case fra => rfl); (case frb => rfl)))); k_whole)))
local macro_rules | `(tactic| walk_at "eval Name") => `(tactic| (k_here; (with_reducible show wpAny _ _ (eval (Expr.Name _ _) (envOfC _ _ _ _ _)) _ _ _); k_dflt (refine' nameX_L ?F ?v ?_ ?a ?b; (case F => k_asm); (case a => rfl); (case b => rfl); (case v => ((try dsimp only); (repeat (refine' fr_skip ?frh ?_; (case frh => decide +kernel))); first | with_reducible assumption | (refine' fr_hit ?fra ?frb; (case fra => rfl); (case frb => rfl)))); k_whole)))
local macro_rules | `(tactic| walk_at "eval Name") => `(tactic| (k_here; (with_reducible show wpAny _ _ (eval (Expr.Name _ _) (envOfC _ _ _ _ _)) _ _ _); k_dflt (refine' nameX_C ?N ?c ?m ?d ?_ ?a ?b; (case b => rfl); (case a => rfl); (case N => k_asm); (case c => rfl); (case m => k_mem); (case d => k_asm); k_whole)))
local macro_rules | `(tactic| walk_at "getMethod ref") => `(tactic| (k_here; (with_reducible show wpAny _ _ (getMethod (Value.ref _) (PySem.Str.ofString "pop") _) _ _ _); k_dflt (refine' kl_method ?N ?m PySem.F.slot_list_pop PySem.F.type_list_pop ?_; (case N => k_asm); (case m => k_mem); k_whole)))
--BODY
theorem pow_spec (w : World) (S : Addr → Prop) (x : Addr) (ms cs1 : List Int) (p q : Int) (tq : Tok) (hq : q = 2 ∨ q = 3 ∨ q = 5) (h1 : 2 ≤ ms.length) (h4 : ms.length ≤ 4) (hp : 2 ≤ p) (hp2 : p ≤ 5) :
    SpecG w 95 [.ref x, .int q tq] 40 (fun news => FQ w S news x p ms cs1 ∧ ∀ a, S a → ∃ o, (a, o) ∈ news) (fun led r => ∃ z, r = .ref z ∧ FQ w S led z p ms (powM p ms cs1 q)) := by
  unfold SpecG
  intro mean mg mb dp un gd cn cs' a ccd cl outer A₀ base h₀ L m ps news s Q E B F X TP GB N h44 T hk hP hdp hun hret
  obtain ⟨hP, hS⟩ := hP
  obtain ⟨d, D, D2, D3, tp, t1, t2, t3, t4, t5, t6, ys, zs, mvs, k3, a1, a2, a3, a4, a5, a6, a7, a8, a9, a10, a11, a12⟩ := id hP
  w_on
  k_dflt (refine wpAny_call ?_; k_enter)
  k_steps
  rename_i g8 L8 ha FG8 B8 X8 T8 qk8 ek8 tk8 la hb lla lb hc llb Da hd iA n1 s1 e1 e2 e3 lDa Db wsb he Fe' NNe iB lDb g9 L9 h9 FG9 F9 N9 B9 X9 T9
  rw [show ([1] ++ (List.replicate (Int.toNat ((ms.length : Int) - 1)) [(0 : Int)]).flatten) = (1 : Int) :: List.replicate (ms.length - 1) 0 by
    rw [show Int.toNat ((ms.length : Int) - 1) = ms.length - 1 by omega]; simp] at iB
  have N10 := kst_newsOf N9 led_t4
  obtain ⟨led0, hled⟩ := name_tail N10
  have X0 : Ext news led0 := by
    rw [hled]
    exact ((((Ext.refl _).cons_lt lla).cons_lt llb.2).cons_lt lDa.2.2).cons_lt lDb.2.2.2
  have mDb : (Db, listOf wsb.toArray 0) ∈ led0 := by rw [hled]; exact .head _
  have m6 := X0.sub _ a6
  rw [← hled] at N10
  clear NNe N9 hled
  refine Stop.go ?_
  refine specG_use (mk_specT w S Db D3 _ mvs _ ms _ k3 p tp iB a8 (by simp; omega) h1 h4 hp hp2 a11) (by k_asm) (by k_asm) (by k_asm) TP GB N10 (X0.off h44) (by k_asm) (by first | rfl | assumption) ⟨mDb, m6, fun a h => (hS a h).imp fun o ho => X0.sub _ ho⟩ (by ktr_room) (by ktr_units) (RetG.mk ?_)
  intro r ps1 led1 h1' g1 tk1 X1 TP1 GB1 F1 N1 ho
  obtain ⟨z1, rfl, hz1⟩ := ho
  obtain ⟨d1, es1, i1, i1'⟩ := hz1.inst
  have XX1 := X0.trans X1
  have hx1 := hP.mono XX1.sub
  obtain ⟨dx, esx, j1, j1'⟩ := hx1.inst
  rcases hq with rfl | rfl | rfl
  · have hzo1 : FQ w S led1 z1 p ms (oneM p ms) := hz1
    have hzt1 := hx1
    k_steps
    refine Stop.go ?_
    refine specG_use (mul_spec w S x x ms cs1 cs1 p h1 h4 hp hp2) (by k_asm) (by k_asm) (by k_asm) TP1 GB1 (by k_asm) (XX1.off h44) (by k_asm) (by first | rfl | assumption) ⟨hzt1, hzt1, fun a h => (hS a h).imp fun o ho => XX1.sub _ ho⟩ (by ktr_room) (by ktr_units) (RetG.mk ?_)
    intro r ps2 led2 h2' g2 tk2 X2 TP2 GB2 F2 N2 ho2
    obtain ⟨z2, rfl, hz2⟩ := ho2
    have XX2 := XX1.trans X2
    have hzo2 := hzo1.mono X2.sub
    have hzt2 : FQ w S led2 z2 p ms (mulM p ms cs1 cs1) := hz2
    obtain ⟨do2, eso2, io2, io2'⟩ := hzo2.inst
    obtain ⟨dt2, est2, it2, it2'⟩ := hzt2.inst
    dsimp only [PySem.W.CmpBack]
    k_steps
    refine Stop.go ?_
    refine specG_use (mul_spec w S z1 z2 ms (oneM p ms) (mulM p ms cs1 cs1) p h1 h4 hp hp2) (by k_asm) (by k_asm) (by k_asm) TP2 GB2 (by k_asm) (XX2.off h44) (by k_asm) (by first | rfl | assumption) ⟨hzo2, hzt2, fun a h => (hS a h).imp fun o ho => XX2.sub _ ho⟩ (by ktr_room) (by ktr_units) (RetG.mk ?_)
    intro r ps3 led3 h3' g3 tk3 X3 TP3 GB3 F3 N3 ho3
    obtain ⟨z3, rfl, hz3⟩ := ho3
    have XX3 := XX2.trans X3
    have hzt3 := hzt2.mono X3.sub
    have hzo3 : FQ w S led3 z3 p ms (mulM p ms (oneM p ms) (mulM p ms cs1 cs1)) := hz3
    obtain ⟨do3, eso3, io3, io3'⟩ := hzo3.inst
    obtain ⟨dt3, est3, it3, it3'⟩ := hzt3.inst
    dsimp only [PySem.W.CmpBack]
    k_steps
    refine Stop.go ?_
    refine specG_use (mul_spec w S z2 z2 ms (mulM p ms cs1 cs1) (mulM p ms cs1 cs1) p h1 h4 hp hp2) (by k_asm) (by k_asm) (by k_asm) TP3 GB3 (by k_asm) (XX3.off h44) (by k_asm) (by first | rfl | assumption) ⟨hzt3, hzt3, fun a h => (hS a h).imp fun o ho => XX3.sub _ ho⟩ (by ktr_room) (by ktr_units) (RetG.mk ?_)
    intro r ps4 led4 h4' g4 tk4 X4 TP4 GB4 F4 N4 ho4
    obtain ⟨z4, rfl, hz4⟩ := ho4
    have XX4 := XX3.trans X4
    have hzo4 := hzo3.mono X4.sub
    have hzt4 : FQ w S led4 z4 p ms (mulM p ms (mulM p ms cs1 cs1) (mulM p ms cs1 cs1)) := hz4
    obtain ⟨do4, eso4, io4, io4'⟩ := hzo4.inst
    obtain ⟨dt4, est4, it4, it4'⟩ := hzt4.inst
    dsimp only [PySem.W.CmpBack]
    k_steps
    rename_i kF kN kT kX
    exact hret.fin XX4 TP4 GB4 kF kN ⟨_, rfl, hzo4⟩
  · have hzo1 : FQ w S led1 z1 p ms (oneM p ms) := hz1
    have hzt1 := hx1
    k_steps
    refine Stop.go ?_
    refine specG_use (mul_spec w S z1 x ms (oneM p ms) cs1 p h1 h4 hp hp2) (by k_asm) (by k_asm) (by k_asm) TP1 GB1 (by k_asm) (XX1.off h44) (by k_asm) (by first | rfl | assumption) ⟨hzo1, hzt1, fun a h => (hS a h).imp fun o ho => XX1.sub _ ho⟩ (by ktr_room) (by ktr_units) (RetG.mk ?_)
    intro r ps2 led2 h2' g2 tk2 X2 TP2 GB2 F2 N2 ho2
    obtain ⟨z2, rfl, hz2⟩ := ho2
    have XX2 := XX1.trans X2
    have hzt2 := hzt1.mono X2.sub
    have hzo2 : FQ w S led2 z2 p ms (mulM p ms (oneM p ms) cs1) := hz2
    obtain ⟨do2, eso2, io2, io2'⟩ := hzo2.inst
    obtain ⟨dt2, est2, it2, it2'⟩ := hzt2.inst
    dsimp only [PySem.W.CmpBack]
    k_steps
    refine Stop.go ?_
    refine specG_use (mul_spec w S x x ms cs1 cs1 p h1 h4 hp hp2) (by k_asm) (by k_asm) (by k_asm) TP2 GB2 (by k_asm) (XX2.off h44) (by k_asm) (by first | rfl | assumption) ⟨hzt2, hzt2, fun a h => (hS a h).imp fun o ho => XX2.sub _ ho⟩ (by ktr_room) (by ktr_units) (RetG.mk ?_)
    intro r ps3 led3 h3' g3 tk3 X3 TP3 GB3 F3 N3 ho3
    obtain ⟨z3, rfl, hz3⟩ := ho3
    have XX3 := XX2.trans X3
    have hzo3 := hzo2.mono X3.sub
    have hzt3 : FQ w S led3 z3 p ms (mulM p ms cs1 cs1) := hz3
    obtain ⟨do3, eso3, io3, io3'⟩ := hzo3.inst
    obtain ⟨dt3, est3, it3, it3'⟩ := hzt3.inst
    dsimp only [PySem.W.CmpBack]
    k_steps
    refine Stop.go ?_
    refine specG_use (mul_spec w S z2 z3 ms (mulM p ms (oneM p ms) cs1) (mulM p ms cs1 cs1) p h1 h4 hp hp2) (by k_asm) (by k_asm) (by k_asm) TP3 GB3 (by k_asm) (XX3.off h44) (by k_asm) (by first | rfl | assumption) ⟨hzo3, hzt3, fun a h => (hS a h).imp fun o ho => XX3.sub _ ho⟩ (by ktr_room) (by ktr_units) (RetG.mk ?_)
    intro r ps4 led4 h4' g4 tk4 X4 TP4 GB4 F4 N4 ho4
    obtain ⟨z4, rfl, hz4⟩ := ho4
    have XX4 := XX3.trans X4
    have hzt4 := hzt3.mono X4.sub
    have hzo4 : FQ w S led4 z4 p ms (mulM p ms (mulM p ms (oneM p ms) cs1) (mulM p ms cs1 cs1)) := hz4
    obtain ⟨do4, eso4, io4, io4'⟩ := hzo4.inst
    obtain ⟨dt4, est4, it4, it4'⟩ := hzt4.inst
    dsimp only [PySem.W.CmpBack]
    k_steps
    refine Stop.go ?_
    refine specG_use (mul_spec w S z3 z3 ms (mulM p ms cs1 cs1) (mulM p ms cs1 cs1) p h1 h4 hp hp2) (by k_asm) (by k_asm) (by k_asm) TP4 GB4 (by k_asm) (XX4.off h44) (by k_asm) (by first | rfl | assumption) ⟨hzt4, hzt4, fun a h => (hS a h).imp fun o ho => XX4.sub _ ho⟩ (by ktr_room) (by ktr_units) (RetG.mk ?_)
    intro r ps5 led5 h5' g5 tk5 X5 TP5 GB5 F5 N5 ho5
    obtain ⟨z5, rfl, hz5⟩ := ho5
    have XX5 := XX4.trans X5
    have hzo5 := hzo4.mono X5.sub
    have hzt5 : FQ w S led5 z5 p ms (mulM p ms (mulM p ms cs1 cs1) (mulM p ms cs1 cs1)) := hz5
    obtain ⟨do5, eso5, io5, io5'⟩ := hzo5.inst
    obtain ⟨dt5, est5, it5, it5'⟩ := hzt5.inst
    dsimp only [PySem.W.CmpBack]
    k_steps
    rename_i kF kN kT kX
    exact hret.fin XX5 TP5 GB5 kF kN ⟨_, rfl, hzo5⟩
  · have hzo1 : FQ w S led1 z1 p ms (oneM p ms) := hz1
    have hzt1 := hx1
    k_steps
    refine Stop.go ?_
    refine specG_use (mul_spec w S z1 x ms (oneM p ms) cs1 p h1 h4 hp hp2) (by k_asm) (by k_asm) (by k_asm) TP1 GB1 (by k_asm) (XX1.off h44) (by k_asm) (by first | rfl | assumption) ⟨hzo1, hzt1, fun a h => (hS a h).imp fun o ho => XX1.sub _ ho⟩ (by ktr_room) (by ktr_units) (RetG.mk ?_)
    intro r ps2 led2 h2' g2 tk2 X2 TP2 GB2 F2 N2 ho2
    obtain ⟨z2, rfl, hz2⟩ := ho2
    have XX2 := XX1.trans X2
    have hzt2 := hzt1.mono X2.sub
    have hzo2 : FQ w S led2 z2 p ms (mulM p ms (oneM p ms) cs1) := hz2
    obtain ⟨do2, eso2, io2, io2'⟩ := hzo2.inst
    obtain ⟨dt2, est2, it2, it2'⟩ := hzt2.inst
    dsimp only [PySem.W.CmpBack]
    k_steps
    refine Stop.go ?_
    refine specG_use (mul_spec w S x x ms cs1 cs1 p h1 h4 hp hp2) (by k_asm) (by k_asm) (by k_asm) TP2 GB2 (by k_asm) (XX2.off h44) (by k_asm) (by first | rfl | assumption) ⟨hzt2, hzt2, fun a h => (hS a h).imp fun o ho => XX2.sub _ ho⟩ (by ktr_room) (by ktr_units) (RetG.mk ?_)
    intro r ps3 led3 h3' g3 tk3 X3 TP3 GB3 F3 N3 ho3
    obtain ⟨z3, rfl, hz3⟩ := ho3
    have XX3 := XX2.trans X3
    have hzo3 := hzo2.mono X3.sub
    have hzt3 : FQ w S led3 z3 p ms (mulM p ms cs1 cs1) := hz3
    obtain ⟨do3, eso3, io3, io3'⟩ := hzo3.inst
    obtain ⟨dt3, est3, it3, it3'⟩ := hzt3.inst
    dsimp only [PySem.W.CmpBack]
    k_steps
    refine Stop.go ?_
    refine specG_use (mul_spec w S z3 z3 ms (mulM p ms cs1 cs1) (mulM p ms cs1 cs1) p h1 h4 hp hp2) (by k_asm) (by k_asm) (by k_asm) TP3 GB3 (by k_asm) (XX3.off h44) (by k_asm) (by first | rfl | assumption) ⟨hzt3, hzt3, fun a h => (hS a h).imp fun o ho => XX3.sub _ ho⟩ (by ktr_room) (by ktr_units) (RetG.mk ?_)
    intro r ps4 led4 h4' g4 tk4 X4 TP4 GB4 F4 N4 ho4
    obtain ⟨z4, rfl, hz4⟩ := ho4
    have XX4 := XX3.trans X4
    have hzo4 := hzo3.mono X4.sub
    have hzt4 : FQ w S led4 z4 p ms (mulM p ms (mulM p ms cs1 cs1) (mulM p ms cs1 cs1)) := hz4
    obtain ⟨do4, eso4, io4, io4'⟩ := hzo4.inst
    obtain ⟨dt4, est4, it4, it4'⟩ := hzt4.inst
    dsimp only [PySem.W.CmpBack]
    k_steps
    refine Stop.go ?_
    refine specG_use (mul_spec w S z2 z4 ms (mulM p ms (oneM p ms) cs1) (mulM p ms (mulM p ms cs1 cs1) (mulM p ms cs1 cs1)) p h1 h4 hp hp2) (by k_asm) (by k_asm) (by k_asm) TP4 GB4 (by k_asm) (XX4.off h44) (by k_asm) (by first | rfl | assumption) ⟨hzo4, hzt4, fun a h => (hS a h).imp fun o ho => XX4.sub _ ho⟩ (by ktr_room) (by ktr_units) (RetG.mk ?_)
    intro r ps5 led5 h5' g5 tk5 X5 TP5 GB5 F5 N5 ho5
    obtain ⟨z5, rfl, hz5⟩ := ho5
    have XX5 := XX4.trans X5
    have hzt5 := hzt4.mono X5.sub
    have hzo5 : FQ w S led5 z5 p ms (mulM p ms (mulM p ms (oneM p ms) cs1) (mulM p ms (mulM p ms cs1 cs1) (mulM p ms cs1 cs1))) := hz5
    obtain ⟨do5, eso5, io5, io5'⟩ := hzo5.inst
    obtain ⟨dt5, est5, it5, it5'⟩ := hzt5.inst
    dsimp only [PySem.W.CmpBack]
    k_steps
    refine Stop.go ?_
    refine specG_use (mul_spec w S z4 z4 ms (mulM p ms (mulM p ms cs1 cs1) (mulM p ms cs1 cs1)) (mulM p ms (mulM p ms cs1 cs1) (mulM p ms cs1 cs1)) p h1 h4 hp hp2) (by k_asm) (by k_asm) (by k_asm) TP5 GB5 (by k_asm) (XX5.off h44) (by k_asm) (by first | rfl | assumption) ⟨hzt5, hzt5, fun a h => (hS a h).imp fun o ho => XX5.sub _ ho⟩ (by ktr_room) (by ktr_units) (RetG.mk ?_)
    intro r ps6 led6 h6' g6 tk6 X6 TP6 GB6 F6 N6 ho6
    obtain ⟨z6, rfl, hz6⟩ := ho6
    have XX6 := XX5.trans X6
    have hzo6 := hzo5.mono X6.sub
    have hzt6 : FQ w S led6 z6 p ms (mulM p ms (mulM p ms (mulM p ms cs1 cs1) (mulM p ms cs1 cs1)) (mulM p ms (mulM p ms cs1 cs1) (mulM p ms cs1 cs1))) := hz6
    obtain ⟨do6, eso6, io6, io6'⟩ := hzo6.inst
    obtain ⟨dt6, est6, it6, it6'⟩ := hzt6.inst
    dsimp only [PySem.W.CmpBack]
    k_steps
    rename_i kF kN kT kX
    exact hret.fin XX6 TP6 GB6 kF kN ⟨_, rfl, hzo6⟩

end Mine
end

section
open PySem PySem.W PyProof.Rows PySem.Spec PySem.Calls PyProof.Rows.LCg
set_option Elab.async false
set_option maxRecDepth 100000
set_option maxHeartbeats 1000000
namespace Mine
local macro_rules | `(tactic| k_room) => `(tactic| ktr_room)
local macro_rules | `(tactic| k_units) => `(tactic| ktr_units)
local macro_rules | `(tactic| ktr_enter) => `(tactic| (refine' code_defC ?k1 ?k2 ?k3 ?k4 ?k5 ?kA ?kF ?kK ?k6 ?k7 ?k8 ?k9 ?kB ?kD ?_ ?c2 ?c3 ?c4; (case kA => exact rfl); (case kF => exact rfl); (case kK => first | assumption | exact rfl); (case k1 => k_asm); (case k2 => k_asm); (case k3 => k_asm); (case k4 => k_asm); (case k5 => k_asm); (case k6 => k_is); (case k7 => k_is); (case k8 => ktr_room); (case k9 => exact BindsTo.of_eq rfl); (case kB => exact rfl); (case kD => decide +kernel); (case c2 => exact rfl); (case c3 => exact rfl); (case c4 => exact rfl); k_whole; intro g' L' h' tk' cells' FG' F' N' Y' B' X' T' l1; (try k_lt l1); k_cells Y'; (try simp only [List.cons_append, List.nil_append] at N'); (try dsimp only)))
theorem fill_C9 (w : World) : hd.heap_39 w.params = hd.heap_39 w.params ∧ PySem.Challenge.rw_bb0062_01 = PySem.Challenge.rw_bb0062_01 := by
  k_fill
  exact ⟨rfl, rfl⟩
local macro_rules | `(tactic| k_enter) => `(tactic| first
  | (refine' code_def ?k1 ?k2 ?k3 ?k4 ?k5 ?kA ?kF ?kK ?k6 ?k7 ?k8 ?k9 ?kB ?_ ?c2 ?c3 ?c4 ?c5; (case kA => exact rfl); (case kF => exact rfl); (case kK => first | assumption | exact rfl); (case k1 => k_asm); (case k2 => k_asm); (case k3 => k_asm); (case k4 => k_asm); (case k5 => k_asm); (case k6 => k_is); (case k7 => k_is); (case k8 => ktr_room); (case k9 => first | exact BindsTo.of_eq rfl | exact binds_K (by k_in) rfl (by k_is) rfl rfl rfl | fail "k_enter: no rule for these arguments"); (case c5 => decide); (case kB => exact locs rfl); (case c2 => exact rfl); (case c3 => exact rfl); (case c4 => exact rfl); k_whole; intro g' L' h' FG' F' N' B' X' T'; (try dsimp only); (try k_lift B'); (try k_fold))
  | (refine' code_defC ?k1 ?k2 ?k3 ?k4 ?k5 ?kA ?kF ?kK ?k6 ?k7 ?k8 ?k9 ?kB ?kD ?_ ?c2 ?c3 ?c4; (case kA => exact rfl); (case kF => exact rfl); (case kK => first | assumption | exact rfl); (case k1 => k_asm); (case k2 => k_asm); (case k3 => k_asm); (case k4 => k_asm); (case k5 => k_asm); (case k6 => k_is); (case k7 => k_is); (case k8 => ktr_room); (case k9 => first | exact BindsTo.of_eq rfl | exact binds_K (by k_in) rfl (by k_is) rfl rfl rfl | fail "k_enter: no rule for these arguments"); (case kB => exact rfl); (case kD => decide +kernel); (case c2 => exact rfl); (case c3 => exact rfl); (case c4 => exact rfl); k_whole; intro g' L' h' tk' cells' FG' F' N' Y' B' X' T' l1; (try k_lt l1); k_cells Y'; (try simp only [List.cons_append, List.nil_append] at N'); (try dsimp only); (try k_lift B'); (try k_fold)))
local macro_rules | `(tactic| k_mem) => `(tactic| first | with_reducible_and_instances assumption | with_reducible_and_instances exact List.Mem.head _ | (with_reducible_and_instances refine List.Mem.tail _ ?_; k_mem) | (with_reducible_and_instances refine memL ?_; k_mem) | (with_reducible_and_instances refine memR ?_; k_mem))
local macro_rules | `(tactic| k_all) => `(tactic| assumption)
local macro_rules | `(tactic| walk_at "eval ListComp") => `(tactic| (k_here; (with_reducible show wpAny _ _ (eval (Expr.ListComp _ [⟨Expr.Tuple _ _ _, _, _, _⟩] _ _) _) _ _ _); k_dflt (refine' ListComp_pair ?k1 ?k2 ?k3 ?k4 ?k5 ?k6 ?k7 ?k8 ?_; (case k1 => k_asm); (case k2 => exact rfl); (case k3 => decide); (case k4 => exact rfl); (case k5 => decide); (case k6 => exact rfl); (case k7 => exact rfl); (case k8 => decide); k_whole)))
local macro_rules | `(tactic| walk_at "call type:enumerate") => `(tactic| (k_here; (with_reducible show wpAny _ _ (call (Value.type _) [Value.ref _]) _ _ _); k_dflt (first
  | ((refine' enum_list ?k1 ?k2 ?k3 ?k4 ?k5 ?k6 ?_; (case k1 => exact rfl); (case k2 => k_asm); (case k3 => k_asm); (case k4 => k_mem); (case k5 => exact rfl); (case k6 => exact rfl); k_whole); intro I' h' S' l1 off' F' N')
  | ((refine' enum_tup ?k1 ?k2 ?k3 ?k4 ?k5 ?k6 ?_; (case k1 => exact rfl); (case k2 => k_asm); (case k3 => k_asm); (case k4 => k_mem); (case k5 => exact rfl); (case k6 => exact rfl); k_whole); intro I' h' S' R' lL' l1 off' F' N')); (try dsimp only)))
local macro_rules | `(tactic| walk_at "call type:list") => `(tactic| (k_here; (with_reducible show wpAny _ _ (call (Value.type _) [Value.ref _]) _ _ _); k_dflt (refine' list_enumT ?k1 ?k2 ?k3 ?k4 ?k5 ?k6 ?k7 ?k8 ?_; (case k1 => exact rfl); (case k2 => k_asm); (case k3 => k_asm); (case k4 => assumption); (case k5 => assumption); (case k6 => assumption); (case k7 => assumption); (case k8 => (rw [PySem.sizeLine_eq]; omega)); k_whole); intro D' h' tk' ys' c' tl' F' N' p' l1 l2; (try dsimp only)))
local macro_rules | `(tactic| walk_at "call builtin:len") => `(tactic| (k_here; (with_reducible show wpAny _ _ (call (Value.builtin "len") [Value.ref _]) _ _ _); k_dflt (first
  | (refine' kst_len ?k1 ?k2 ?k3 ?k4 ?_; (case k1 => k_asm); (case k2 => k_mem); (case k3 => assumption); (case k4 => omega); k_whole)
  | (refine' len_T ?k1 ?k2 ?k3 ?k4 ?_; (case k1 => k_asm); (case k2 => k_mem); (case k3 => assumption); (case k4 => omega); k_whole))))
local macro_rules | `(tactic| walk_at "subscriptTail") => `(tactic| (k_here; (with_reducible show wpAny _ _ (subscriptTail _ _ (Value.ref _) (Value.int _ _)) _ _ _); k_dflt (
   (refine' item_L ?k1 ?k2 ?k3 ?k4 ?k5 ?_; (case k1 => k_asm); (case k2 => k_mem); (case k3 => omega); (case k4 => omega); (case k5 => assumption); k_whole))))
local macro_rules | `(tactic| walk_at "exec If") => `(tactic| refine wpAny_If ?_)
local macro_rules | `(tactic| walk_at "isTrue Call") => `(tactic| refine isTrue_plain ?_)
local macro_rules | `(tactic| walk_at "exec If Call cons cons") => `(tactic| refine wpAny_If ?_)
local macro_rules | `(tactic| walk_at "exec If Call cons nil") => `(tactic| refine wpAny_If ?_)
local macro_rules | `(tactic| walk_at "exec If Compare cons nil") => `(tactic| refine wpAny_If ?_)
local macro_rules | `(tactic| walk_at "exec If UnaryOp cons nil") => `(tactic| refine wpAny_If ?_)
local macro_rules | `(tactic| walk_at "ite") => `(tactic| first | rw [if_neg (by first | (simp; done) | omega | (simp; omega))] | rw [if_pos (by first | (simp; done) | omega | (simp; omega))])
local macro_rules | `(tactic| walk_at "call type:tuple") => `(tactic| (k_here; (with_reducible show wpAny _ _ (call (Value.type _) [Value.ref _]) _ _ _); k_dflt (first
  | (refine' tuple_tup_N ?k1 ?k2 ?_; (case k1 => k_asm); (case k2 => k_mem); k_whole)
  | (refine' tuple_list_N ?k1 ?k2 ?k3 ?k4 ?_; (case k1 => k_asm); (case k2 => k_asm); (case k3 => k_mem); (case k4 => (rw [PySem.sizeLine_eq]; omega)); k_whole; intro D' h' tk' F' N' l1)
  | (refine' tuple_Gen ?k1 ?k2 ?k3 ?k4 ?k5 ?k6 ?k7 ?_; (case k1 => k_asm); (case k2 => k_asm); (case k3 => assumption); (case k4 => assumption); (case k5 => assumption); (case k6 => assumption); (case k7 => (rw [PySem.sizeLine_eq]; omega)); k_whole; intro D' h' g' tk' ys' e1 e2 F' N' G' l1))))
local macro_rules | `(tactic| walk_at "call ref") => `(tactic| (k_here; (with_reducible show wpAny _ _ (call (Value.ref 156) _) _ _ _); refine Stop.un ?_))
local macro_rules | `(tactic| walk_at "call type:zip") => `(tactic| (k_here; (with_reducible show wpAny _ _ (call (Value.type _) [Value.ref _, Value.ref _]) _ _ _); k_dflt (refine' zip_tup ?k1 ?k2 ?k3 ?k4 ?k5 ?k6 ?k7 ?k8 ?k9 ?_; (case k1 => exact rfl); (case k2 => k_asm); (case k3 => k_asm); (case k4 => k_mem); (case k5 => exact rfl); (case k6 => exact rfl); (case k7 => k_mem); (case k8 => exact rfl); (case k9 => exact rfl); k_whole); intro I' h' S' l1 off' F' N'; (try dsimp only)))
local macro_rules | `(tactic| walk_at "eval Name") => `(tactic| (k_here; (with_reducible show wpAny _ _ (eval (Expr.Name _ _) (compEnvC _ _ _ _)) _ _ _); k_dflt (first
  | (refine' wpAny_Name (wpAny_loadName_local ?k1 ?k2 ?k3 ?k4 ?_); (case k1 => exact rfl); (case k2 => exact rfl); (case k3 => assumption); (case k4 => assumption); k_whole)
  | (refine' ldFreeK ?k1 ?k2 ?_; (case k1 => exact rfl); (case k2 => assumption); k_whole))))
local macro_rules | `(tactic| walk_at "pyIter ref") => `(tactic| (k_here; k_dflt (refine' PSrc.self ?k1 ?_; (case k1 => assumption); k_whole)))
local macro_rules | `(tactic| walk_at "call ref") => `(tactic| (k_here; first
  | ((with_reducible show wpAny _ _ (call (Value.ref 59) _) _ _ _); refine Stop.un ?_)
  | ((with_reducible show wpAny _ _ (call (Value.ref 76) _) _ _ _); refine Stop.un ?_)
  | ((with_reducible show wpAny _ _ (call (Value.ref 95) _) _ _ _); refine Stop.un ?_)
  | ((with_reducible show wpAny _ _ (call (Value.ref 119) _) _ _ _); refine Stop.un ?_)
  | ((with_reducible show wpAny _ _ (call (Value.ref 126) _) _ _ _); refine Stop.un ?_)
  | ((with_reducible show wpAny _ _ (call (Value.ref 153) _) _ _ _); refine Stop.un ?_)
  | ((with_reducible show wpAny _ _ (call (Value.ref 172) _) _ _ _); refine Stop.un ?_)
  | ((with_reducible show wpAny _ _ (call (Value.ref 177) _) _ _ _); refine Stop.un ?_)
  | ((with_reducible show wpAny _ _ (call (Value.ref 184) _) _ _ _); refine Stop.un ?_)))
local macro_rules | `(tactic| walk_at "exec For Tuple Call cons nil") => `(tactic| (k_here; (rename Fr _ _ _ _ => lF'); (with_unfolding_all refine' For_gens lF' ?_; k_whole); skip))
local macro_rules | `(tactic| walk_at "exec For Tuple Call") => `(tactic| (k_here; (rename Fr _ _ _ _ => lF'); (with_unfolding_all refine' For_gens lF' ?_; k_whole); skip))
local macro_rules | `(tactic| walk_at "exec For Tuple Call cons cons") => `(tactic| (k_here; (rename Fr _ _ _ _ => lF'); (with_unfolding_all refine' For_gens lF' ?_; k_whole); skip))
local macro_rules | `(tactic| walk_at "exec For Tuple Attribute cons nil") => `(tactic| (k_here; (rename Fr _ _ _ _ => lF'); (with_unfolding_all refine' For_gens lF' ?_; k_whole); skip))
local macro_rules | `(tactic| walk_at "exec For Tuple Attribute") => `(tactic| (k_here; (rename Fr _ _ _ _ => lF'); (with_unfolding_all refine' For_gens lF' ?_; k_whole); skip))
local macro_rules | `(tactic| walk_at "exec For Tuple Attribute cons cons") => `(tactic| (k_here; (rename Fr _ _ _ _ => lF'); (with_unfolding_all refine' For_gens lF' ?_; k_whole); skip))
local macro_rules | `(tactic| walk_at "exec For Tuple Name cons nil") => `(tactic| (k_here; (rename Fr _ _ _ _ => lF'); (with_unfolding_all refine' For_gens lF' ?_; k_whole); skip))
local macro_rules | `(tactic| walk_at "exec For Tuple Name") => `(tactic| (k_here; (rename Fr _ _ _ _ => lF'); (with_unfolding_all refine' For_gens lF' ?_; k_whole); skip))
local macro_rules | `(tactic| walk_at "exec For Tuple Name cons cons") => `(tactic| (k_here; (rename Fr _ _ _ _ => lF'); (with_unfolding_all refine' For_gens lF' ?_; k_whole); skip))
local macro_rules | `(tactic| walk_at "exec For Name Call cons nil") => `(tactic| (k_here; (rename Fr _ _ _ _ => lF'); (with_unfolding_all refine' For_gens lF' ?_; k_whole); skip))
local macro_rules | `(tactic| walk_at "exec For Name Call") => `(tactic| (k_here; (rename Fr _ _ _ _ => lF'); (with_unfolding_all refine' For_gens lF' ?_; k_whole); skip))
local macro_rules | `(tactic| walk_at "exec For Name Call cons cons") => `(tactic| (k_here; (rename Fr _ _ _ _ => lF'); (with_unfolding_all refine' For_gens lF' ?_; k_whole); skip))
local macro_rules | `(tactic| walk_at "exec For Name Name cons nil") => `(tactic| (k_here; (rename Fr _ _ _ _ => lF'); (with_unfolding_all refine' For_gens lF' ?_; k_whole); skip))
local macro_rules | `(tactic| walk_at "exec For Name Name") => `(tactic| (k_here; (rename Fr _ _ _ _ => lF'); (with_unfolding_all refine' For_gens lF' ?_; k_whole); skip))
local macro_rules | `(tactic| walk_at "exec For Name Name cons cons") => `(tactic| (k_here; (rename Fr _ _ _ _ => lF'); (with_unfolding_all refine' For_gens lF' ?_; k_whole); skip))
local macro_rules | `(tactic| walk_at "exec For Name Subscript cons nil") => `(tactic| (k_here; (rename Fr _ _ _ _ => lF'); (with_unfolding_all refine' For_gens lF' ?_; k_whole); skip))
local macro_rules | `(tactic| walk_at "exec For Name Subscript") => `(tactic| (k_here; (rename Fr _ _ _ _ => lF'); (with_unfolding_all refine' For_gens lF' ?_; k_whole); skip))
local macro_rules | `(tactic| walk_at "exec For Name Subscript cons cons") => `(tactic| (k_here; (rename Fr _ _ _ _ => lF'); (with_unfolding_all refine' For_gens lF' ?_; k_whole); skip))
local macro_rules | `(tactic| walk_at "call type:range") => `(tactic| (k_here; (with_reducible show wpAny _ _ (call (Value.type _) _) (fun xv s₁ => wpAny _ _ (pyIter xv) (fun it s₂ => TurnsG _ _ _ _ _ _ _ _ _ it s₂) _ s₁) _ _); k_dflt (first
  | ((refine' range_1 ?k1 ?k2 ?_; (case k1 => k_asm); (case k2 => k_asm); k_whole); intro r' h' t' u' tk' R' F' N')
  | ((refine' range_3 ?k3 ?k1 ?k2 ?k4 ?_; (case k3 => decide); (case k1 => k_asm); (case k2 => k_asm); (case k4 => first | decide +kernel | (exact PyProof.noPylong_small (by omega))); k_whole); intro r' h' R' F' N'))))
local macro_rules | `(tactic| walk_at "pyIter ref") => `(tactic| (k_here; (with_reducible show wpAny _ _ (pyIter _) (fun it s₂ => TurnsG _ _ _ _ _ _ _ _ _ it s₂) _ _); k_dflt (first | (refine' PSrc.self ?k1 ?_; (case k1 => assumption); k_whole) | refine Stop.un ?_)))
local macro_rules | `(tactic| walk_at "setItem ref int") => `(tactic| (k_here; (with_reducible show wpAny _ _ (setItem (Value.ref _) (Value.int _ _) (Value.int _ _)) _ _ _); k_dflt (refine' setH ?k1 ?k2 ?k3 ?k4 ?k5 ?k6 ?k7 ?_; (case k1 => k_asm); (case k2 => k_asm); (case k3 => assumption); (case k4 => assumption); (case k5 => omega); (case k6 => omega); (case k7 => omega); k_whole); intro h' F' N' i'))
local macro_rules | `(tactic| walk_at "getItem ref int") => `(tactic| (k_here; (with_reducible show wpAny _ _ (getItem (Value.ref _) (Value.int _ _)) _ _ _); k_dflt (refine' ksa_get ?k1 ?k2 ?k3 ?k4 ?k5 ?k6 ?_; (case k1 => k_asm); (case k2 => k_mem); (case k3 => assumption); (case k4 => omega); (case k5 => omega); (case k6 => omega); k_whole); intro t'))
local macro_rules | `(tactic| walk_at "call builtin:list.pop") => `(tactic| (k_here; (with_reducible show wpAny _ _ (call (Value.builtin _) [Value.ref _]) _ _ _); k_dflt (refine' popH ?k1 ?k2 ?k3 ?k4 ?k5 ?_; (case k1 => k_asm); (case k2 => k_asm); (case k3 => assumption); (case k4 => assumption); (case k5 => (rw [PySem.sizeLine_eq]; omega)); k_whole); intro h' us' t' i' F' N'))
local macro_rules | `(tactic| walk_at "eval Name") => `(tactic| (k_here; (with_reducible show wpAny _ _ (eval (Expr.Name _ _) (envOf _ _ _ _ _)) _ _ _); k_dflt (refine' ld ?k1 ?k2 ?_; (case k1 => k_asm); (case k2 => ((try dsimp only); (repeat (refine' fr_skip ?frh ?_; (case frh => decide +kernel))); first | with_reducible assumption | (refine' fr_hit ?fra ?frb; (case fra => rfl); (case frb => rfl)))); k_whole)))
local macro_rules | `(tactic| walk_at "eval Name") => `(tactic| (k_here; (with_reducible show wpAny _ _ (eval (Expr.Name _ _) (envOfC _ _ _ _ _)) _ _ _); k_dflt (refine' nameX_L ?F ?v ?_ ?a ?b; (case F => k_asm); (case a => rfl); (case b => rfl); (case v => ((try dsimp only); (repeat (refine' fr_skip ?frh ?_; (case frh => decide +kernel))); first | with_reducible assumption | (refine' fr_hit ?fra ?frb; (case fra => rfl); (case frb => rfl)))); k_whole)))
local macro_rules | `(tactic| walk_at "eval Name") => `(tactic| (k_here; (with_reducible show wpAny _ _ (eval (Expr.Name _ _) (envOfC _ _ _ _ _)) _ _ _); k_dflt (refine' nameX_C ?N ?c ?m ?d ?_ ?a ?b; (case b => rfl); (case a => rfl); (case N => k_asm); (case c => rfl); (case m => k_mem); (case d => k_asm); k_whole)))
local macro_rules | `(tactic| walk_at "getMethod ref") => `(tactic| (k_here; (with_reducible show wpAny _ _ (getMethod (Value.ref _) (PySem.Str.ofString "pop") _) _ _ _); k_dflt (refine' kl_method ?N ?m PySem.F.slot_list_pop PySem.F.type_list_pop ?_; (case N => k_asm); (case m => k_mem); k_whole)))
local macro_rules | `(tactic| walk_at "binaryOp FloorDiv int int") => `(tactic| (k_here; (with_reducible show wpAny _ _ (binaryOp _ (Value.int _ _) (Value.int (_ ^ _) _)) _ _ _); k_dflt (refine' floordiv_int ?k1 ?_ ?k2; (case k1 => exact pow_ne0 (by omega) _); (case k2 => exact Or.inl (PyProof.noPylong_small (pow_small (by omega) (by omega) (by omega)))); k_whole)))
--BODY
theorem parts_spec (w : World) (n p : Int) (d : Nat) (tn tp td : Tok) (hn : 0 ≤ n) (hn2 : n < 1000) (hp : 2 ≤ p) (hp2 : p ≤ 5) (hd : d ≤ 4) :
    Spec w 172 [.int n tn, .int p tp, .int (d : Int) td] 12 (fun _ => True) (fun led r => ∃ l vs c, r = .ref l ∧ (l, listOf vs.toArray c) ∈ led ∧ IntsAre vs (partsF n p d)) := by
  unfold Spec
  intro mean mg mb dp un gd cn cs' a ccd cl outer A₀ base h₀ L m news s Q E B F X N T hk hP hdp hun hret
  w_on
  k_dflt (refine wpAny_call ?_; k_enter)
  k_steps
  rename_i g9 L9 ha tka FG9 B9 X9 T9 l9 o9 o8 d9 d8 hb tkb t1 u1 v1 R1 N1 nD K1 gh iA lA De hc tkc FA NA oe kF kN kT kX
  have e0 : Int.toNat ((d : Int) - 0) = d := by omega
  rw [e0] at iA
  refine hret _ [(De, _), (L9 + 1 + 1, o9), (L9 + 1, o8)] _ _ kF kN ?_ ⟨De, _, _, rfl, .head _, iA⟩
  intro q hq p hp
  simp only [List.mem_cons, List.not_mem_nil, or_false] at hp
  rcases hp with rfl | rfl | rfl
  · exact Ne.symm (off1 oe.2.2 q hq)
  · exact Nat.ne_of_gt (Nat.lt_succ_of_lt (Nat.lt_succ_of_lt (l9 q hq)))
  · exact Nat.ne_of_gt (Nat.lt_succ_of_lt (l9 q hq))

end Mine
end

section
open PySem PySem.W PyProof.Rows PySem.Spec PySem.Calls PyProof.Rows.LCg
set_option Elab.async false
set_option maxRecDepth 100000
set_option maxHeartbeats 1000000
namespace Mine
local macro_rules | `(tactic| k_room) => `(tactic| ktr_room)
local macro_rules | `(tactic| k_units) => `(tactic| ktr_units)
local macro_rules | `(tactic| ktr_enter) => `(tactic| (refine' code_defC ?k1 ?k2 ?k3 ?k4 ?k5 ?kA ?kF ?kK ?k6 ?k7 ?k8 ?k9 ?kB ?kD ?_ ?c2 ?c3 ?c4; (case kA => exact rfl); (case kF => exact rfl); (case kK => first | assumption | exact rfl); (case k1 => k_asm); (case k2 => k_asm); (case k3 => k_asm); (case k4 => k_asm); (case k5 => k_asm); (case k6 => k_is); (case k7 => k_is); (case k8 => ktr_room); (case k9 => exact BindsTo.of_eq rfl); (case kB => exact rfl); (case kD => decide +kernel); (case c2 => exact rfl); (case c3 => exact rfl); (case c4 => exact rfl); k_whole; intro g' L' h' tk' cells' FG' F' N' Y' B' X' T' l1; (try k_lt l1); k_cells Y'; (try simp only [List.cons_append, List.nil_append] at N'); (try dsimp only)))
theorem fill_C10 (w : World) : hd.heap_39 w.params = hd.heap_39 w.params ∧ PySem.Challenge.rw_bb0062_01 = PySem.Challenge.rw_bb0062_01 := by
  k_fill
  exact ⟨rfl, rfl⟩
local macro_rules | `(tactic| k_enter) => `(tactic| first
  | (refine' code_def ?k1 ?k2 ?k3 ?k4 ?k5 ?kA ?kF ?kK ?k6 ?k7 ?k8 ?k9 ?kB ?_ ?c2 ?c3 ?c4 ?c5; (case kA => exact rfl); (case kF => exact rfl); (case kK => first | assumption | exact rfl); (case k1 => k_asm); (case k2 => k_asm); (case k3 => k_asm); (case k4 => k_asm); (case k5 => k_asm); (case k6 => k_is); (case k7 => k_is); (case k8 => ktr_room); (case k9 => first | exact BindsTo.of_eq rfl | exact binds_K (by k_in) rfl (by k_is) rfl rfl rfl | fail "k_enter: no rule for these arguments"); (case c5 => decide); (case kB => exact locs rfl); (case c2 => exact rfl); (case c3 => exact rfl); (case c4 => exact rfl); k_whole; intro g' L' h' FG' F' N' B' X' T'; (try dsimp only); (try k_lift B'); (try k_fold))
  | (refine' code_defC ?k1 ?k2 ?k3 ?k4 ?k5 ?kA ?kF ?kK ?k6 ?k7 ?k8 ?k9 ?kB ?kD ?_ ?c2 ?c3 ?c4; (case kA => exact rfl); (case kF => exact rfl); (case kK => first | assumption | exact rfl); (case k1 => k_asm); (case k2 => k_asm); (case k3 => k_asm); (case k4 => k_asm); (case k5 => k_asm); (case k6 => k_is); (case k7 => k_is); (case k8 => ktr_room); (case k9 => first | exact BindsTo.of_eq rfl | exact binds_K (by k_in) rfl (by k_is) rfl rfl rfl | fail "k_enter: no rule for these arguments"); (case kB => exact rfl); (case kD => decide +kernel); (case c2 => exact rfl); (case c3 => exact rfl); (case c4 => exact rfl); k_whole; intro g' L' h' tk' cells' FG' F' N' Y' B' X' T' l1; (try k_lt l1); k_cells Y'; (try simp only [List.cons_append, List.nil_append] at N'); (try dsimp only); (try k_lift B'); (try k_fold)))
local macro_rules | `(tactic| k_mem) => `(tactic| first | with_reducible_and_instances assumption | with_reducible_and_instances exact List.Mem.head _ | (with_reducible_and_instances refine List.Mem.tail _ ?_; k_mem) | (with_reducible_and_instances refine memL ?_; k_mem) | (with_reducible_and_instances refine memR ?_; k_mem))
local macro_rules | `(tactic| k_all) => `(tactic| assumption)
local macro_rules | `(tactic| walk_at "eval ListComp") => `(tactic| (k_here; (with_reducible show wpAny _ _ (eval (Expr.ListComp _ [⟨Expr.Tuple _ _ _, _, _, _⟩] _ _) _) _ _ _); k_dflt (refine' ListComp_pair ?k1 ?k2 ?k3 ?k4 ?k5 ?k6 ?k7 ?k8 ?_; (case k1 => k_asm); (case k2 => exact rfl); (case k3 => decide); (case k4 => exact rfl); (case k5 => decide); (case k6 => exact rfl); (case k7 => exact rfl); (case k8 => decide); k_whole)))
local macro_rules | `(tactic| walk_at "call type:enumerate") => `(tactic| (k_here; (with_reducible show wpAny _ _ (call (Value.type _) [Value.ref _]) _ _ _); k_dflt (first
  | ((refine' enum_list ?k1 ?k2 ?k3 ?k4 ?k5 ?k6 ?_; (case k1 => exact rfl); (case k2 => k_asm); (case k3 => k_asm); (case k4 => k_mem); (case k5 => exact rfl); (case k6 => exact rfl); k_whole); intro I' h' S' l1 off' F' N')
  | ((refine' enum_tup ?k1 ?k2 ?k3 ?k4 ?k5 ?k6 ?_; (case k1 => exact rfl); (case k2 => k_asm); (case k3 => k_asm); (case k4 => k_mem); (case k5 => exact rfl); (case k6 => exact rfl); k_whole); intro I' h' S' R' lL' l1 off' F' N')); (try dsimp only)))
local macro_rules | `(tactic| walk_at "call type:list") => `(tactic| (k_here; (with_reducible show wpAny _ _ (call (Value.type _) [Value.ref _]) _ _ _); k_dflt (refine' list_enumT ?k1 ?k2 ?k3 ?k4 ?k5 ?k6 ?k7 ?k8 ?_; (case k1 => exact rfl); (case k2 => k_asm); (case k3 => k_asm); (case k4 => assumption); (case k5 => assumption); (case k6 => assumption); (case k7 => assumption); (case k8 => (rw [PySem.sizeLine_eq]; omega)); k_whole); intro D' h' tk' ys' c' tl' F' N' p' l1 l2; (try dsimp only)))
local macro_rules | `(tactic| walk_at "call builtin:len") => `(tactic| (k_here; (with_reducible show wpAny _ _ (call (Value.builtin "len") [Value.ref _]) _ _ _); k_dflt (first
  | (refine' kst_len ?k1 ?k2 ?k3 ?k4 ?_; (case k1 => k_asm); (case k2 => k_mem); (case k3 => assumption); (case k4 => omega); k_whole)
  | (refine' len_T ?k1 ?k2 ?k3 ?k4 ?_; (case k1 => k_asm); (case k2 => k_mem); (case k3 => assumption); (case k4 => omega); k_whole))))
local macro_rules | `(tactic| walk_at "subscriptTail") => `(tactic| (k_here; (with_reducible show wpAny _ _ (subscriptTail _ _ (Value.ref _) (Value.int _ _)) _ _ _); k_dflt (
   (refine' item_L ?k1 ?k2 ?k3 ?k4 ?k5 ?_; (case k1 => k_asm); (case k2 => k_mem); (case k3 => omega); (case k4 => omega); (case k5 => assumption); k_whole))))
local macro_rules | `(tactic| walk_at "exec If") => `(tactic| refine wpAny_If ?_)
local macro_rules | `(tactic| walk_at "isTrue Call") => `(tactic| refine isTrue_plain ?_)
local macro_rules | `(tactic| walk_at "exec If Call cons cons") => `(tactic| refine wpAny_If ?_)
local macro_rules | `(tactic| walk_at "exec If Call cons nil") => `(tactic| refine wpAny_If ?_)
local macro_rules | `(tactic| walk_at "exec If Compare cons nil") => `(tactic| refine wpAny_If ?_)
local macro_rules | `(tactic| walk_at "exec If UnaryOp cons nil") => `(tactic| refine wpAny_If ?_)
local macro_rules | `(tactic| walk_at "ite") => `(tactic| first | rw [if_neg (by first | (simp; done) | omega | (simp; omega))] | rw [if_pos (by first | (simp; done) | omega | (simp; omega))])
local macro_rules | `(tactic| walk_at "call type:tuple") => `(tactic| (k_here; (with_reducible show wpAny _ _ (call (Value.type _) [Value.ref _]) _ _ _); k_dflt (first
  | (refine' tuple_tup_N ?k1 ?k2 ?_; (case k1 => k_asm); (case k2 => k_mem); k_whole)
  | (refine' tuple_list_N ?k1 ?k2 ?k3 ?k4 ?_; (case k1 => k_asm); (case k2 => k_asm); (case k3 => k_mem); (case k4 => (rw [PySem.sizeLine_eq]; omega)); k_whole; intro D' h' tk' F' N' l1)
  | (refine' tuple_Gen ?k1 ?k2 ?k3 ?k4 ?k5 ?k6 ?k7 ?_; (case k1 => k_asm); (case k2 => k_asm); (case k3 => assumption); (case k4 => assumption); (case k5 => assumption); (case k6 => assumption); (case k7 => (rw [PySem.sizeLine_eq]; omega)); k_whole; intro D' h' g' tk' ys' e1 e2 F' N' G' l1))))
local macro_rules | `(tactic| walk_at "call ref") => `(tactic| (k_here; (with_reducible show wpAny _ _ (call (Value.ref 156) _) _ _ _); refine Stop.un ?_))
local macro_rules | `(tactic| walk_at "call type:zip") => `(tactic| (k_here; (with_reducible show wpAny _ _ (call (Value.type _) [Value.ref _, Value.ref _]) _ _ _); k_dflt (refine' zip_tup ?k1 ?k2 ?k3 ?k4 ?k5 ?k6 ?k7 ?k8 ?k9 ?_; (case k1 => exact rfl); (case k2 => k_asm); (case k3 => k_asm); (case k4 => k_mem); (case k5 => exact rfl); (case k6 => exact rfl); (case k7 => k_mem); (case k8 => exact rfl); (case k9 => exact rfl); k_whole); intro I' h' S' l1 off' F' N'; (try dsimp only)))
local macro_rules | `(tactic| walk_at "eval Name") => `(tactic| (k_here; (with_reducible show wpAny _ _ (eval (Expr.Name _ _) (compEnvC _ _ _ _)) _ _ _); k_dflt (first
  | (refine' wpAny_Name (wpAny_loadName_local ?k1 ?k2 ?k3 ?k4 ?_); (case k1 => exact rfl); (case k2 => exact rfl); (case k3 => assumption); (case k4 => assumption); k_whole)
  | (refine' ldFreeK ?k1 ?k2 ?_; (case k1 => exact rfl); (case k2 => assumption); k_whole))))
local macro_rules | `(tactic| walk_at "pyIter ref") => `(tactic| (k_here; k_dflt (refine' PSrc.self ?k1 ?_; (case k1 => assumption); k_whole)))
local macro_rules | `(tactic| walk_at "call ref") => `(tactic| (k_here; first
  | ((with_reducible show wpAny _ _ (call (Value.ref 59) _) _ _ _); refine Stop.un ?_)
  | ((with_reducible show wpAny _ _ (call (Value.ref 76) _) _ _ _); refine Stop.un ?_)
  | ((with_reducible show wpAny _ _ (call (Value.ref 95) _) _ _ _); refine Stop.un ?_)
  | ((with_reducible show wpAny _ _ (call (Value.ref 119) _) _ _ _); refine Stop.un ?_)
  | ((with_reducible show wpAny _ _ (call (Value.ref 126) _) _ _ _); refine Stop.un ?_)
  | ((with_reducible show wpAny _ _ (call (Value.ref 153) _) _ _ _); refine Stop.un ?_)
  | ((with_reducible show wpAny _ _ (call (Value.ref 172) _) _ _ _); refine Stop.un ?_)
  | ((with_reducible show wpAny _ _ (call (Value.ref 177) _) _ _ _); refine Stop.un ?_)
  | ((with_reducible show wpAny _ _ (call (Value.ref 184) _) _ _ _); refine Stop.un ?_)))
local macro_rules | `(tactic| walk_at "exec For Tuple Call cons nil") => `(tactic| (k_here; (rename Fr _ _ _ _ => lF'); (with_unfolding_all refine' For_gens lF' ?_; k_whole); skip))
local macro_rules | `(tactic| walk_at "exec For Tuple Call") => `(tactic| (k_here; (rename Fr _ _ _ _ => lF'); (with_unfolding_all refine' For_gens lF' ?_; k_whole); skip))
local macro_rules | `(tactic| walk_at "exec For Tuple Call cons cons") => `(tactic| (k_here; (rename Fr _ _ _ _ => lF'); (with_unfolding_all refine' For_gens lF' ?_; k_whole); skip))
local macro_rules | `(tactic| walk_at "exec For Tuple Attribute cons nil") => `(tactic| (k_here; (rename Fr _ _ _ _ => lF'); (with_unfolding_all refine' For_gens lF' ?_; k_whole); skip))
local macro_rules | `(tactic| walk_at "exec For Tuple Attribute") => `(tactic| (k_here; (rename Fr _ _ _ _ => lF'); (with_unfolding_all refine' For_gens lF' ?_; k_whole); skip))
local macro_rules | `(tactic| walk_at "exec For Tuple Attribute cons cons") => `(tactic| (k_here; (rename Fr _ _ _ _ => lF'); (with_unfolding_all refine' For_gens lF' ?_; k_whole); skip))
local macro_rules | `(tactic| walk_at "exec For Tuple Name cons nil") => `(tactic| (k_here; (rename Fr _ _ _ _ => lF'); (with_unfolding_all refine' For_gens lF' ?_; k_whole); skip))
local macro_rules | `(tactic| walk_at "exec For Tuple Name") => `(tactic| (k_here; (rename Fr _ _ _ _ => lF'); (with_unfolding_all refine' For_gens lF' ?_; k_whole); skip))
local macro_rules | `(tactic| walk_at "exec For Tuple Name cons cons") => `(tactic| (k_here; (rename Fr _ _ _ _ => lF'); (with_unfolding_all refine' For_gens lF' ?_; k_whole); skip))
local macro_rules | `(tactic| walk_at "exec For Name Call cons nil") => `(tactic| (k_here; (rename Fr _ _ _ _ => lF'); (with_unfolding_all refine' For_gens lF' ?_; k_whole); skip))
local macro_rules | `(tactic| walk_at "exec For Name Call") => `(tactic| (k_here; (rename Fr _ _ _ _ => lF'); (with_unfolding_all refine' For_gens lF' ?_; k_whole); skip))
local macro_rules | `(tactic| walk_at "exec For Name Call cons cons") => `(tactic| (k_here; (rename Fr _ _ _ _ => lF'); (with_unfolding_all refine' For_gens lF' ?_; k_whole); skip))
local macro_rules | `(tactic| walk_at "exec For Name Name cons nil") => `(tactic| (k_here; (rename Fr _ _ _ _ => lF'); (with_unfolding_all refine' For_gens lF' ?_; k_whole); skip))
local macro_rules | `(tactic| walk_at "exec For Name Name") => `(tactic| (k_here; (rename Fr _ _ _ _ => lF'); (with_unfolding_all refine' For_gens lF' ?_; k_whole); skip))
local macro_rules | `(tactic| walk_at "exec For Name Name cons cons") => `(tactic| (k_here; (rename Fr _ _ _ _ => lF'); (with_unfolding_all refine' For_gens lF' ?_; k_whole); skip))
local macro_rules | `(tactic| walk_at "exec For Name Subscript cons nil") => `(tactic| (k_here; (rename Fr _ _ _ _ => lF'); (with_unfolding_all refine' For_gens lF' ?_; k_whole); skip))
local macro_rules | `(tactic| walk_at "exec For Name Subscript") => `(tactic| (k_here; (rename Fr _ _ _ _ => lF'); (with_unfolding_all refine' For_gens lF' ?_; k_whole); skip))
local macro_rules | `(tactic| walk_at "exec For Name Subscript cons cons") => `(tactic| (k_here; (rename Fr _ _ _ _ => lF'); (with_unfolding_all refine' For_gens lF' ?_; k_whole); skip))
local macro_rules | `(tactic| walk_at "call type:range") => `(tactic| (k_here; (with_reducible show wpAny _ _ (call (Value.type _) _) (fun xv s₁ => wpAny _ _ (pyIter xv) (fun it s₂ => TurnsG _ _ _ _ _ _ _ _ _ it s₂) _ s₁) _ _); k_dflt (first
  | ((refine' range_1 ?k1 ?k2 ?_; (case k1 => k_asm); (case k2 => k_asm); k_whole); intro r' h' t' u' tk' R' F' N')
  | ((refine' range_3 ?k3 ?k1 ?k2 ?k4 ?_; (case k3 => decide); (case k1 => k_asm); (case k2 => k_asm); (case k4 => first | decide +kernel | (exact PyProof.noPylong_small (by omega))); k_whole); intro r' h' R' F' N'))))
local macro_rules | `(tactic| walk_at "pyIter ref") => `(tactic| (k_here; (with_reducible show wpAny _ _ (pyIter _) (fun it s₂ => TurnsG _ _ _ _ _ _ _ _ _ it s₂) _ _); k_dflt (first | (refine' PSrc.self ?k1 ?_; (case k1 => assumption); k_whole) | refine Stop.un ?_)))
local macro_rules | `(tactic| walk_at "setItem ref int") => `(tactic| (k_here; (with_reducible show wpAny _ _ (setItem (Value.ref _) (Value.int _ _) (Value.int _ _)) _ _ _); k_dflt (refine' setH ?k1 ?k2 ?k3 ?k4 ?k5 ?k6 ?k7 ?_; (case k1 => k_asm); (case k2 => k_asm); (case k3 => assumption); (case k4 => assumption); (case k5 => omega); (case k6 => omega); (case k7 => omega); k_whole); intro h' F' N' i'))
local macro_rules | `(tactic| walk_at "getItem ref int") => `(tactic| (k_here; (with_reducible show wpAny _ _ (getItem (Value.ref _) (Value.int _ _)) _ _ _); k_dflt (refine' ksa_get ?k1 ?k2 ?k3 ?k4 ?k5 ?k6 ?_; (case k1 => k_asm); (case k2 => k_mem); (case k3 => assumption); (case k4 => omega); (case k5 => omega); (case k6 => omega); k_whole); intro t'))
local macro_rules | `(tactic| walk_at "call builtin:list.pop") => `(tactic| (k_here; (with_reducible show wpAny _ _ (call (Value.builtin _) [Value.ref _]) _ _ _); k_dflt (refine' popH ?k1 ?k2 ?k3 ?k4 ?k5 ?_; (case k1 => k_asm); (case k2 => k_asm); (case k3 => assumption); (case k4 => assumption); (case k5 => (rw [PySem.sizeLine_eq]; omega)); k_whole); intro h' us' t' i' F' N'))
local macro_rules | `(tactic| walk_at "eval Name") => `(tactic| (k_here; (with_reducible show wpAny _ _ (eval (Expr.Name _ _) (envOf _ _ _ _ _)) _ _ _); k_dflt (refine' ld ?k1 ?k2 ?_; (case k1 => k_asm); (case k2 => ((try dsimp only); (repeat (refine' fr_skip ?frh ?_; (case frh => decide +kernel))); first | with_reducible assumption | (refine' fr_hit ?fra ?frb; (case fra => rfl); (case frb => rfl)))); k_whole)))
local macro_rules | `(tactic| walk_at "eval Name") => `(tactic| (k_here; (with_reducible show wpAny _ _ (eval (Expr.Name _ _) (envOfC _ _ _ _ _)) _ _ _); k_dflt (refine' nameX_L ?F ?v ?_ ?a ?b; (case F => k_asm); (case a => rfl); (case b => rfl); (case v => ((try dsimp only); (repeat (refine' fr_skip ?frh ?_; (case frh => decide +kernel))); first | with_reducible assumption | (refine' fr_hit ?fra ?frb; (case fra => rfl); (case frb => rfl)))); k_whole)))
local macro_rules | `(tactic| walk_at "eval Name") => `(tactic| (k_here; (with_reducible show wpAny _ _ (eval (Expr.Name _ _) (envOfC _ _ _ _ _)) _ _ _); k_dflt (refine' nameX_C ?N ?c ?m ?d ?_ ?a ?b; (case b => rfl); (case a => rfl); (case N => k_asm); (case c => rfl); (case m => k_mem); (case d => k_asm); k_whole)))
local macro_rules | `(tactic| walk_at "getMethod ref") => `(tactic| (k_here; (with_reducible show wpAny _ _ (getMethod (Value.ref _) (PySem.Str.ofString "pop") _) _ _ _); k_dflt (refine' kl_method ?N ?m PySem.F.slot_list_pop PySem.F.type_list_pop ?_; (case N => k_asm); (case m => k_mem); k_whole)))
local macro_rules | `(tactic| walk_at "binaryOp FloorDiv int int") => `(tactic| (k_here; (with_reducible show wpAny _ _ (binaryOp _ (Value.int _ _) (Value.int (_ ^ _) _)) _ _ _); k_dflt (refine' floordiv_int ?k1 ?_ ?k2; (case k1 => exact pow_ne0 (by omega) _); (case k2 => exact Or.inl (PyProof.noPylong_small (pow_small (by omega) (by omega) (by omega)))); k_whole)))
local macro_rules | `(tactic| walk_at "exec While") => `(tactic| (k_here; refine Stop.un ?_))
local macro_rules | `(tactic| walk_at "exec While Compare") => `(tactic| (k_here; refine Stop.un ?_))
local macro_rules | `(tactic| walk_at "call type:list") => `(tactic| (k_here; (with_reducible show wpAny _ _ (call (Value.type _) [Value.ref _]) _ _ _); k_dflt (refine' list_copy_N ?k2 ?k3 ?k4 ?k8 ?_; (case k2 => k_asm); (case k3 => k_asm); (case k4 => k_mem); (case k8 => (rw [PySem.sizeLine_eq]; omega)); k_whole); intro D' h' c' F' N' l1; (try dsimp only)))
--BODY
theorem last_getD : ∀ (l : List Int), 1 ≤ l.length → l.getD (Int.toNat (-1 + (l.length : Int))) 0 = l.getLastD 0 := by
  intro l h
  rw [show Int.toNat (-1 + (l.length : Int)) = l.length - 1 by omega, List.getD_eq_getElem?_getD, List.getLastD_eq_getLast?, List.getLast?_eq_getElem?]
theorem divLoop_step {p : Int} {ls Lf Of : List Int} {n : Nat} (h : ls.length ≤ Lf.length) : divLoop p ls (n + 1) Lf Of = divLoop p ls n (divIn Lf (Lf.length - ls.length) ((Lf.getLastD 0).fmod p) ls ls.length).dropLast (((Lf.getLastD 0).fmod p) :: Of) := by
  rw [divLoop, if_neg (by omega)]
theorem divLoop_exit {p : Int} {ls Lf Of : List Int} {n : Nat} (h : Lf.length < ls.length) : divLoop p ls (n + 1) Lf Of = (Lf, Of) := by
  rw [divLoop, if_pos h]
/-- None, or a list of the ledger -/
def OptL (led : List (Addr × Obj)) (r : Value) : Option (List Int) → Prop
  | some qs => ∃ l vs c, r = .ref l ∧ (l, listOf vs.toArray c) ∈ led ∧ IntsAre vs qs
  | none => r = .none
theorem divided_spec (w : World) (lh ll : Addr) (hvs lvs : List Value) (hs ls : List Int) (kh kl : Nat) (p : Int) (tp : Tok) (hhs : IntsAre hvs hs) (hls : IntsAre lvs ls) (h1 : 1 ≤ ls.length) (h2 : ls.length ≤ 5) (h3 : hs.length ≤ 5) (hp : 2 ≤ p) (hp2 : p ≤ 5) (hb : ∀ c ∈ ls, 0 ≤ c ∧ c < 8) :
    Spec w 177 [.ref lh, .ref ll, .int p tp] 12 (fun news => (lh, listOf hvs.toArray kh) ∈ news ∧ (ll, listOf lvs.toArray kl) ∈ news) (fun led r => OptL led r (divF p hs ls)) := by
  unfold Spec
  intro mean mg mb dp un gd cn cs' a ccd cl outer A₀ base h₀ L m news s Q E B F X N T hk hP hdp hun hret
  obtain ⟨hP1, hP2⟩ := hP
  have hlh := hhs.length
  have hll := hls.length
  w_on
  k_dflt (refine wpAny_call ?_; k_enter)
  k_steps
  rename_i g9 L9 ha tka FG9 B9 X9 T9 l9 o9 d9 Dl hb cl l8 Do hc l7 Dp hd l6 he hf hg F9 N9
  refine Stop.go ?_
  refine While_inv2 (fun n m₁ led => ∃ (Dl Do : Addr) (lv ov : List Value) (Lf Of : List Int) (c c' : Nat) (rest : List (Addr × Obj)), led = (Dl, listOf lv.toArray c) :: rest ∧ (∀ q ∈ rest, q.1 ≠ Dl) ∧ (Do, listOf ov.toArray c') ∈ rest ∧ (∀ q ∈ (L9 + 1, o9) :: news, q ∈ rest) ∧ (∀ q ∈ news, Do ≠ q.1) ∧
      m₁ (Str.ofString "left") = some (.ref Dl) ∧ m₁ (Str.ofString "out") = some (.ref Do) ∧ m₁ (Str.ofString "low") = some (.ref ll) ∧ IntsAre lv Lf ∧ IntsAre ov Of ∧ n = Lf.length ∧ Lf.length + Of.length = hs.length ∧ divLoop p ls (Lf.length + 1) Lf Of = divLoop p ls (hs.length + 1) hs []) (n₀ := hs.length) F9 (kst_newsOf N9 led_l3) ?_ ?_
  · refine ⟨Dl, Do, hvs, [], hs, [], cl, 0, _, rfl, ?_, ?_, ?_, ?_, fr_hit rfl rfl, fr_skip (by decide +kernel) (fr_hit rfl rfl), fr_skip (by decide +kernel) (fr_skip (by decide +kernel) rfl), hhs, .nil, rfl, rfl, rfl⟩
    · intro q hq
      simp only [List.mem_cons] at hq
      rcases hq with rfl | rfl | hq
      · exact Nat.ne_of_gt l6.2.1
      · exact Nat.ne_of_gt l7.1
      · exact Nat.ne_of_lt (l8 q (List.mem_cons.mpr hq))
    · exact .tail _ (.head _)
    · intro q hq
      exact .tail _ (.tail _ hq)
    · intro q hq
      exact Nat.ne_of_gt (ktn_ltOf l7.2.2 q hq)
  · intro n m₁ led h1' tk1 F1 N1 hJ
    obtain ⟨Dl1, Do1, lv, ov, Lf, Of, c, c', rest, rfl, offR, mDo, mrest, hDo, ml, mo, mlow, hlv, hov, rfl, hlen, hdiv⟩ := hJ
    have hlvl := hlv.length
    have m9 := mrest _ (.head _)
    have mll := mrest _ (.tail _ hP2)
    have F2 := fr_known (x := Str.ofString "low") (fr_known (x := Str.ofString "out") (fr_known F1 ml) (fr_skip (by decide +kernel) mo)) (fr_skip (by decide +kernel) (fr_skip (by decide +kernel) mlow))
    clear F1
    k_steps
    · rename_i ha1 tk8 t8 h8 lS h7 lSl Dn wsn h6 hIn lDn h5 lFx Nx rx hx t7 u7 tk7 Rx Fx N8
      clear lFx Nx
      have N9' := kst_newsOf N8 led_l3
      obtain ⟨rest2, hrest2⟩ := name_tail N9'
      have mr : ∀ q ∈ rest, q ∈ rest2 := fun q hq => by rw [hrest2]; exact .tail _ (.tail _ hq)
      have mDn : (Dn, listOf wsn.toArray 0) ∈ rest2 := by rw [hrest2]; exact .head _
      have offR2 : ∀ q ∈ rest2, q.1 ≠ Dl1 := by
        intro q hq
        rw [hrest2] at hq
        simp only [List.mem_cons] at hq
        rcases hq with rfl | rfl | hq
        · exact Nat.ne_of_gt lDn.2.1
        · exact Nat.ne_of_gt lSl.1
        · exact offR q hq
      rw [← hrest2] at N9'
      refine Stop.go ?_
      refine iter_range rfl Fx N9' Rx (small_one (by omega) (by omega) (by omega) (by omega)) (n := ls.length) (by rw [rangeSize_one]; split <;> omega) ?_
      intro Ik hk2 Sk lk offk Fk Nk
      obtain ⟨sh, hsh⟩ : ∃ sh, sh = Int.fmod (Lf.getD (Int.toNat (-1 + (Lf.length : Int))) 0) p := ⟨_, rfl⟩
      rw [← hsh] at Fk hIn
      refine singlesG (fun k g m₂ led => g = s.gens ∧ m₂ (Str.ofString "left") = some (.ref Dl1) ∧ m₂ (Str.ofString "out") = some (.ref Dn) ∧ m₂ (Str.ofString "low") = some (.ref ll) ∧ (∃ t, m₂ (Str.ofString "share") = some (.int sh t)) ∧
          ∃ v c, led = (Dl1, listOf v.toArray c) :: rest2 ∧ IntsAre v (divIn Lf (Lf.length - ls.length) sh ls k))
        Sk offk Fk Nk trivial ⟨rfl, fr_skip (by decide +kernel) (fr_skip (by decide +kernel) (fr_skip (by decide +kernel) (fr_skip (by decide +kernel) (fr_hit rfl rfl)))), fr_hit rfl rfl, fr_skip (by decide +kernel) (fr_skip (by decide +kernel) (fr_hit rfl rfl)), ⟨_, fr_skip (by decide +kernel) (fr_hit rfl rfl)⟩, lv, c, rfl, hlv⟩ ?_ ?_
      · intro k v m₂ news₂ its h2 g2 tk2 hkn hV hJ2 hkeep2 hits2 F3 N3 ho2
        obtain ⟨rfl, ml2, mo2, mw2, ⟨ts, ms2⟩, v2, c2, rfl, hv2⟩ := hJ2
        obtain ⟨tv, rfl⟩ := hV
        rw [show (0 : Int) + (k : Int) * 1 = (k : Int) by omega]
        have N4 := kst_newsOf N3 mvA
        have off4 : ∀ p ∈ its ++ rest2, p.1 ≠ Dl1 := by
          intro p hp
          rcases List.mem_append.mp hp with hp | hp
          · exact Ne.symm (ho2 (Dl1, _) (.head _) p hp)
          · exact offR2 p hp
        have mll2 := mr _ mll
        have m92 := mr _ m9
        have F4 := fr_known (x := Str.ofString "share") (fr_known (x := Str.ofString "low") (fr_known F3 ml2) (fr_skip (by decide +kernel) mw2)) (fr_skip (by decide +kernel) (fr_skip (by decide +kernel) ms2))
        clear F3 N3
        have hdl : (divIn Lf (Lf.length - ls.length) sh ls k).length = Lf.length := divIn_length ..
        have hvl2 : v2.length = Lf.length := hv2.length.trans hdl
        have hlk : 0 ≤ ls.getD k 0 ∧ ls.getD k 0 < 8 := by
          rw [List.getD_eq_getElem?_getD, List.getElem?_eq_getElem hkn]
          exact ‹∀ c ∈ ls, 0 ≤ c ∧ c < 8› _ (List.getElem_mem hkn)
        have hlk' : 0 ≤ ls.getD (Int.toNat (k : Int)) 0 ∧ ls.getD (Int.toNat (k : Int)) 0 < 8 := by rw [Int.toNat_natCast]; exact hlk
        k_steps
        rename_i hS FS NS iS
        show EndG _ _ _ _ _ _
        refine ⟨_, _, _, _, _, rfl, FS, kst_newsOf NS mvB, ?_, trivial, rfl, ?_⟩
        · intro p hp q hq
          rcases List.mem_cons.mp hp with rfl | hp
          · exact ho2 (Dl1, _) (.head _) q hq
          · exact ho2 p (.tail _ hp) q hq
        · refine ⟨fr_skip (by decide +kernel) (fr_skip (by decide +kernel) (fr_skip (by decide +kernel) (fr_hit rfl rfl))), fr_skip (by decide +kernel) (fr_skip (by decide +kernel) (fr_skip (by decide +kernel) (fr_skip (by decide +kernel) mo2))), fr_skip (by decide +kernel) (fr_skip (by decide +kernel) (fr_hit rfl rfl)), ⟨_, fr_skip (by decide +kernel) (fr_hit rfl rfl)⟩, _, _, rfl, ?_⟩
          rw [divIn_succ]
          have e1 : Int.toNat ((Lf.length : Int) - (ls.length : Int) + (k : Int)) = Lf.length - ls.length + k := by omega
          rw [e1, Int.toNat_natCast] at iS
          rw [e1, Int.toNat_natCast]
          exact iS
      · intro m₂ led2 h2 g2 tk2 hJ2 hkeep2 F3 N3
        obtain ⟨rfl, ml2, mo2, mw2, ⟨ts, ms2⟩, v2, c2, rfl, hv2⟩ := hJ2
        have hdl : (divIn Lf (Lf.length - ls.length) sh ls ls.length).length = Lf.length := divIn_length ..
        have hvl2 : v2.length = Lf.length := hv2.length.trans hdl
        have F4 := fr_known (x := Str.ofString "out") (fr_known F3 ml2) (fr_skip (by decide +kernel) mo2)
        clear F3
        k_steps
        rename_i Dm wsm hm lFm Nm hIm e1 e2 lDm hn2 Fn2 Nn2
        have hsz : (divIn Lf (Lf.length - ls.length) sh ls ls.length).dropLast.length = Lf.length - 1 := by rw [List.length_dropLast, hdl]
        rw [← List.dropLast_eq_take] at hIm
        refine ⟨_, _, _, _, Lf.length - 1, rfl, Fn2, Nn2, by omega, Dm, Dn, wsm, wsn, _, _, 0, 0, _, rfl, ?_, .tail _ mDn, ?_, ?_, fr_hit rfl rfl, fr_skip (by decide +kernel) (fr_hit rfl rfl), fr_skip (by decide +kernel) (fr_skip (by decide +kernel) (fr_skip (by decide +kernel) mw2)), hIm, hIn, hsz.symm, ?_, ?_⟩
        · intro q hq
          rcases List.mem_cons.mp hq with rfl | hq
          · exact Nat.ne_of_lt lDm.1
          · exact Nat.ne_of_lt (ktn_ltOf lDm.2 q hq)
        · intro q hq
          exact .tail _ (mr q (mrest q hq))
        · intro q hq
          exact Nat.ne_of_gt (ktn_ltOf lDn.2.2 q (mrest q (.tail _ hq)))
        · rw [hsz, List.length_append]
          show _ + (1 + _) = _
          omega
        · have hge : ls.length ≤ Lf.length := by omega
          rw [hsz, ← hdiv, divLoop_step (Lf := Lf) hge, show Lf.length - 1 + 1 = Lf.length by omega]
          rw [last_getD _ (by omega)] at hsh
          rw [← hsh]
          rfl
    all_goals first | exact Str.empty | exact (0 : Nat) | exact Value.none | skip
    · rename_i a4 D ys h5 tk5 a3 a2 a1 gN gA gI l5 h6 F6 N6 l61 a0 kF kN kT kX
      have hx := divLoop_exit (p := p) (Of := Of) (n := Lf.length) (Int.not_le.mp (fun h => a4 (by omega)) |> fun (h : (Lf.length : Int) < ls.length) => (by omega : Lf.length < ls.length))
      rw [hx] at hdiv
      refine hret _ [(Do1, listOf ov.toArray c')] _ _ kF (kst_newsOf kN ?_) ?_ ?_
      · intro q hq
        rcases List.mem_cons.mp hq with rfl | hq
        · exact .tail _ (.tail _ (.tail _ mDo))
        · exact .tail _ (.tail _ (.tail _ (mrest q (.tail _ hq))))
      · intro q hq p hp
        rw [List.mem_singleton.mp hp]
        exact hDo q hq
      · have e : divF p hs ls = some Of := by
          unfold divF
          rw [← hdiv]
          simpa using a0
        rw [e]
        exact ⟨Do1, ov, c', rfl, .head _, hov⟩
    · rename_i a4 D ys h5 tk5 a3 a2 a1 gN gA gI l5 h6 F6 N6 l61 a0 kF kN kT kX
      have hx := divLoop_exit (p := p) (Of := Of) (n := Lf.length) (Int.not_le.mp (fun h => a4 (by omega)) |> fun (h : (Lf.length : Int) < ls.length) => (by omega : Lf.length < ls.length))
      rw [hx] at hdiv
      refine hret _ [] _ _ kF (kst_newsOf kN ?_) ?_ ?_
      · intro q hq
        exact .tail _ (.tail _ (.tail _ (mrest q (.tail _ hq))))
      · intro q hq p hp
        exact nomatch hp
      · have e : divF p hs ls = none := by
          unfold divF
          rw [← hdiv]
          simpa using a0
        rw [e]
        exact rfl

end Mine
end

section
open PySem PySem.W PyProof.Rows PySem.Spec PySem.Calls PyProof.Rows.LCg
set_option Elab.async false
set_option maxRecDepth 100000
set_option maxHeartbeats 1000000
namespace Mine
/-- led is news with newer objects before it -/
def Ext2 (news led : List (Addr × Obj)) : Prop := ∃ tl, led = tl ++ news ∧ ∀ q ∈ news, ∀ p ∈ tl, p.1 ≠ q.1
theorem Ext2.refl (news : List (Addr × Obj)) : Ext2 news news := ⟨[], rfl, fun _ _ _ h => nomatch h⟩
theorem Ext2.sub {news led : List (Addr × Obj)} (x : Ext2 news led) : ∀ p ∈ news, p ∈ led := fun p hp => by
  obtain ⟨tl, rfl, _⟩ := x
  exact List.mem_append_right _ hp
theorem Ext2.trans {a b c : List (Addr × Obj)} (x : Ext2 a b) (y : Ext2 b c) : Ext2 a c := by
  have s := x.sub
  obtain ⟨t1, rfl, h1⟩ := x
  obtain ⟨t2, rfl, h2⟩ := y
  refine ⟨t2 ++ t1, by rw [List.append_assoc], fun q hq p hp => ?_⟩
  rcases List.mem_append.mp hp with hp | hp
  · exact h2 q (s q hq) p hp
  · exact h1 q hq p hp
theorem Ext2.of {news tl : List (Addr × Obj)} (h : ∀ q ∈ news, ∀ p ∈ tl, p.1 ≠ q.1) : Ext2 news (tl ++ news) := ⟨tl, rfl, h⟩
theorem Ext2.cons {news led : List (Addr × Obj)} {a : Addr} {o : Obj} (x : Ext2 news led) (h : ∀ q ∈ news, a ≠ q.1) : Ext2 news ((a, o) :: led) := by
  obtain ⟨tl, rfl, h1⟩ := x
  refine ⟨(a, o) :: tl, rfl, fun q hq p hp => ?_⟩
  rcases List.mem_cons.mp hp with rfl | hp
  · exact h q hq
  · exact h1 q hq p hp
theorem Ext2.lt {news led : List (Addr × Obj)} {a : Addr} {o : Obj} (x : Ext2 news led) (h : ∀ q ∈ led, q.1 < a) : Ext2 news ((a, o) :: led) :=
  x.cons fun q hq => Nat.ne_of_gt (h q (x.sub q hq))
theorem Ext2.alt {news led : List (Addr × Obj)} {a : Addr} {o : Obj} (x : Ext2 news led) (h : AllLt a news) : Ext2 news ((a, o) :: led) :=
  x.cons fun q hq => Nat.ne_of_gt (ktn_ltOf h q hq)
theorem Ret.mk {h₀ : Heap} {L : Addr} {m : Str → Option Value} {news : List (Addr × Obj)} {s : Shared} {Q : Value → Shared → Prop} {Out : List (Addr × Obj) → Value → Prop}
    (R : ∀ r led h' tk', Ext2 news led → Fr h₀ L h' m → News h₀ L h' led → Out led r → Q r { s with heap := h', toks := tk' }) : Ret h₀ L m news s Q Out :=
  fun r tl h' tk' F N h O => R r (tl ++ news) h' tk' (Ext2.of h) F N O
theorem Ret.fin {h₀ : Heap} {L : Addr} {m : Str → Option Value} {news led : List (Addr × Obj)} {s : Shared} {Q : Value → Shared → Prop} {Out : List (Addr × Obj) → Value → Prop} (R : Ret h₀ L m news s Q Out) {r : Value} {h' : Heap} {tk' : Nat}
    (x : Ext2 news led) (F : Fr h₀ L h' m) (N : News h₀ L h' led) (O : Out led r) : Q r { s with heap := h', toks := tk' } := by
  obtain ⟨tl, rfl, h⟩ := x
  exact R r tl h' tk' F N h O
/-- the ledger after a turn: what is new goes under the loop's own objects -/
theorem Ext2.split {its led ledF : List (Addr × Obj)} {c : String} (x : Ext2 (its ++ led) ledF) (ho : ∀ p ∈ led, ∀ q ∈ its, p.1 ≠ q.1) (hc : ∀ q ∈ its, q.2.cls = .type c) :
    ∃ led3, (∀ q ∈ its ++ led3, q ∈ ledF) ∧ (∀ p ∈ led3, ∀ q ∈ its, p.1 ≠ q.1) ∧ Ext2 led led3 ∧ ∀ q ∈ ledF, q.2.cls ≠ .type c → q ∈ led3 := by
  obtain ⟨tl, rfl, h⟩ := x
  refine ⟨tl ++ led, fun q hq => ?_, fun p hp q hq => ?_, Ext2.of fun q hq p hp => h q (List.mem_append_right _ hq) p hp, fun q hq hn => ?_⟩
  · simp only [List.mem_append] at hq ⊢
    rcases hq with hq | hq | hq <;> simp [hq]
  · rcases List.mem_append.mp hp with hp | hp
    · exact h q (List.mem_append_left _ hq) p hp
    · exact ho p hp q hq
  · simp only [List.mem_append] at hq ⊢
    rcases hq with hq | hq | hq
    · exact .inl hq
    · exact absurd (hc q hq) hn
    · exact .inr hq
theorem cls_ne {a b : String} (h : a ≠ b) : Value.type a ≠ Value.type b := fun e => h (Value.type.inj e)
theorem name_all {h₀ h : Heap} {L : Addr} {R : List (Addr × Obj)} (_N : News h₀ L h R) : ∃ r, r = R := ⟨_, rfl⟩
theorem objs_cls {I : Addr} {c : String} {its : List (Addr × Obj)} (h : Objs [(I, c)] its) : ∀ q ∈ its, q.2.cls = .type c := by
  cases its with
  | nil => exact h.elim
  | cons a r =>
    cases r with
    | nil =>
      intro q hq
      rw [List.mem_singleton.mp hq]
      exact h.1.2
    | cons b r => exact h.2.elim
end Mine
end

section
open PySem PySem.W PyProof.Rows
set_option Elab.async false
namespace Mine
theorem divLoop_len (p : Int) (ls : List Int) : ∀ (n : Nat) (L O : List Int), 1 ≤ ls.length → (divLoop p ls n L O).1.length + (divLoop p ls n L O).2.length = L.length + O.length
  | 0, _, _, _ => rfl
  | n + 1, L, O, h => by
    by_cases hl : L.length < ls.length
    · rw [divLoop_exit hl]
    · rw [divLoop_step (by omega), divLoop_len p ls n _ _ h, List.length_dropLast, divIn_length, List.length_cons]
      omega
theorem divLoop_low (p : Int) (ls : List Int) : ∀ (n : Nat) (L O : List Int), ls.length ≤ L.length + 1 → ls.length ≤ (divLoop p ls n L O).1.length + 1
  | 0, _, _, h => h
  | n + 1, L, O, h => by
    by_cases hl : L.length < ls.length
    · rw [divLoop_exit hl]
      exact h
    · rw [divLoop_step (by omega)]
      refine divLoop_low p ls n _ _ ?_
      rw [List.length_dropLast, divIn_length]
      omega
theorem divF_len {p : Int} {hs ls qs : List Int} (h : 2 ≤ ls.length) (h2 : ls.length ≤ hs.length) (e : divF p hs ls = some qs) : qs.length + 1 ≤ hs.length := by
  unfold divF at e
  have a := divLoop_len p ls (hs.length + 1) hs [] (by omega)
  have b := divLoop_low p ls (hs.length + 1) hs [] (by omega)
  dsimp only at e
  split at e
  · rw [Option.some.inj e] at a
    simp only [List.length_nil] at a
    omega
  · cases e
def quotF (p : Int) (m low : List Int) : Option (List Int) := if low.length ≤ m.length then divF p m low else none
theorem quotF_len {p : Int} {m low q : List Int} (h : 2 ≤ low.length) (e : quotF p m low = some q) : q.length + 1 ≤ m.length := by
  unfold quotF at e
  split at e
  · exact divF_len h ‹_› e
  · cases e
/-- the while loop over the quotients -/
def dropAll (p : Int) (low : List Int) : Nat → List Int → Option (List Int) → List Int
  | 0, m, _ => m
  | _ + 1, m, none => m
  | n + 1, _, some q => dropAll p low n q (quotF p q low)
theorem dropAll_none (p : Int) (low m : List Int) : ∀ n, dropAll p low n m none = m
  | 0 => rfl
  | _ + 1 => rfl
theorem dropAll_len {p : Int} {low : List Int} (h : 2 ≤ low.length) : ∀ (n : Nat) (m : List Int) (o : Option (List Int)), (∀ q, o = some q → q.length ≤ m.length) → (dropAll p low n m o).length ≤ m.length
  | 0, _, _, _ => Nat.le_refl _
  | n + 1, m, none, _ => Nat.le_refl _
  | n + 1, m, some q, hq => by
    have a := hq q rfl
    have b := dropAll_len (p := p) h n q (quotF p q low) fun q' e => by have := quotF_len h e; omega
    show (dropAll p low n q (quotF p q low)).length ≤ _
    omega
structure FSt where
  m : List Int
  many : Int
  deg : Int
def lowF (p : Int) (size : Nat) (k : Nat) : List Int := partsF (k : Int) p size ++ [1]
theorem lowF_length (p : Int) (size k : Nat) : (lowF p size k).length = size + 1 := by
  unfold lowF partsF
  rw [List.length_append, List.length_map, rangeKs_length]
  simp
def factIn (p : Int) (size : Nat) (st : FSt) (k : Nat) : FSt :=
  match quotF p st.m (lowF p size k) with
  | none => st
  | some q => ⟨dropAll p (lowF p size k) 6 st.m (some q), st.many + 1, st.deg + size⟩
def factSize (p : Int) (size : Nat) (n : Nat) (st : FSt) : FSt := (List.range n).foldl (factIn p size) st
theorem factSize_succ (p : Int) (size n : Nat) (st : FSt) : factSize p size (n + 1) st = factIn p size (factSize p size n st) n := by simp [factSize, List.range_succ]
/-- the number of unlike factors, and the sum of their degrees -/
def factLoop (p : Int) : Nat → Nat → FSt → Option (Int × Int)
  | 0, _, st => if st.m.length ≤ 1 then some (st.many, st.deg) else none
  | f + 1, size, st => if st.m.length ≤ 1 then some (st.many, st.deg) else factLoop p f (size + 1) (factSize p size (p ^ size).toNat st)
def factF (p : Int) (m : List Int) : Option (Int × Int) := factLoop p 4 1 ⟨m, 0, 0⟩
theorem factIn_len {p : Int} {size : Nat} {st : FSt} {k : Nat} (h : 1 ≤ size) : (factIn p size st k).m.length ≤ st.m.length := by
  unfold factIn
  cases e : quotF p st.m (lowF p size k) with
  | none => exact Nat.le_refl _
  | some q =>
    have hl : 2 ≤ (lowF p size k).length := by rw [lowF_length]; omega
    exact dropAll_len hl 6 _ _ fun q' e' => by cases e'; have := quotF_len hl e; omega
theorem factSize_len {p : Int} {size : Nat} (h : 1 ≤ size) (st : FSt) : ∀ n, (factSize p size n st).m.length ≤ st.m.length
  | 0 => Nat.le_refl _
  | n + 1 => by
    rw [factSize_succ]
    exact Nat.le_trans (factIn_len h) (factSize_len h st n)
end Mine
end

section
open PySem PySem.W PyProof.Rows PySem.Spec PySem.Calls PyProof.Rows.LCg
set_option Elab.async false
set_option maxRecDepth 100000
set_option maxHeartbeats 1000000
namespace Mine
local macro_rules | `(tactic| k_room) => `(tactic| ktr_room)
local macro_rules | `(tactic| k_units) => `(tactic| ktr_units)
local macro_rules | `(tactic| ktr_enter) => `(tactic| (refine' code_defC ?k1 ?k2 ?k3 ?k4 ?k5 ?kA ?kF ?kK ?k6 ?k7 ?k8 ?k9 ?kB ?kD ?_ ?c2 ?c3 ?c4; (case kA => exact rfl); (case kF => exact rfl); (case kK => first | assumption | exact rfl); (case k1 => k_asm); (case k2 => k_asm); (case k3 => k_asm); (case k4 => k_asm); (case k5 => k_asm); (case k6 => k_is); (case k7 => k_is); (case k8 => ktr_room); (case k9 => exact BindsTo.of_eq rfl); (case kB => exact rfl); (case kD => decide +kernel); (case c2 => exact rfl); (case c3 => exact rfl); (case c4 => exact rfl); k_whole; intro g' L' h' tk' cells' FG' F' N' Y' B' X' T' l1; (try k_lt l1); k_cells Y'; (try simp only [List.cons_append, List.nil_append] at N'); (try dsimp only)))
theorem fill_C11 (w : World) : hd.heap_39 w.params = hd.heap_39 w.params ∧ PySem.Challenge.rw_bb0062_01 = PySem.Challenge.rw_bb0062_01 := by
  k_fill
  exact ⟨rfl, rfl⟩
local macro_rules | `(tactic| k_enter) => `(tactic| first
  | (refine' code_def ?k1 ?k2 ?k3 ?k4 ?k5 ?kA ?kF ?kK ?k6 ?k7 ?k8 ?k9 ?kB ?_ ?c2 ?c3 ?c4 ?c5; (case kA => exact rfl); (case kF => exact rfl); (case kK => first | assumption | exact rfl); (case k1 => k_asm); (case k2 => k_asm); (case k3 => k_asm); (case k4 => k_asm); (case k5 => k_asm); (case k6 => k_is); (case k7 => k_is); (case k8 => ktr_room); (case k9 => first | exact BindsTo.of_eq rfl | exact binds_K (by k_in) rfl (by k_is) rfl rfl rfl | fail "k_enter: no rule for these arguments"); (case c5 => decide); (case kB => exact locs rfl); (case c2 => exact rfl); (case c3 => exact rfl); (case c4 => exact rfl); k_whole; intro g' L' h' FG' F' N' B' X' T'; (try dsimp only); (try k_lift B'); (try k_fold))
  | (refine' code_defC ?k1 ?k2 ?k3 ?k4 ?k5 ?kA ?kF ?kK ?k6 ?k7 ?k8 ?k9 ?kB ?kD ?_ ?c2 ?c3 ?c4; (case kA => exact rfl); (case kF => exact rfl); (case kK => first | assumption | exact rfl); (case k1 => k_asm); (case k2 => k_asm); (case k3 => k_asm); (case k4 => k_asm); (case k5 => k_asm); (case k6 => k_is); (case k7 => k_is); (case k8 => ktr_room); (case k9 => first | exact BindsTo.of_eq rfl | exact binds_K (by k_in) rfl (by k_is) rfl rfl rfl | fail "k_enter: no rule for these arguments"); (case kB => exact rfl); (case kD => decide +kernel); (case c2 => exact rfl); (case c3 => exact rfl); (case c4 => exact rfl); k_whole; intro g' L' h' tk' cells' FG' F' N' Y' B' X' T' l1; (try k_lt l1); k_cells Y'; (try simp only [List.cons_append, List.nil_append] at N'); (try dsimp only); (try k_lift B'); (try k_fold)))
local macro_rules | `(tactic| k_mem) => `(tactic| first | with_reducible_and_instances assumption | with_reducible_and_instances exact List.Mem.head _ | (with_reducible_and_instances refine List.Mem.tail _ ?_; k_mem) | (with_reducible_and_instances refine memL ?_; k_mem) | (with_reducible_and_instances refine memR ?_; k_mem))
local macro_rules | `(tactic| k_all) => `(tactic| assumption)
local macro_rules | `(tactic| walk_at "eval ListComp") => `(tactic| (k_here; (with_reducible show wpAny _ _ (eval (Expr.ListComp _ [⟨Expr.Tuple _ _ _, _, _, _⟩] _ _) _) _ _ _); k_dflt (refine' ListComp_pair ?k1 ?k2 ?k3 ?k4 ?k5 ?k6 ?k7 ?k8 ?_; (case k1 => k_asm); (case k2 => exact rfl); (case k3 => decide); (case k4 => exact rfl); (case k5 => decide); (case k6 => exact rfl); (case k7 => exact rfl); (case k8 => decide); k_whole)))
local macro_rules | `(tactic| walk_at "call type:enumerate") => `(tactic| (k_here; (with_reducible show wpAny _ _ (call (Value.type _) [Value.ref _]) _ _ _); k_dflt (first
  | ((refine' enum_list ?k1 ?k2 ?k3 ?k4 ?k5 ?k6 ?_; (case k1 => exact rfl); (case k2 => k_asm); (case k3 => k_asm); (case k4 => k_mem); (case k5 => exact rfl); (case k6 => exact rfl); k_whole); intro I' h' S' l1 off' F' N')
  | ((refine' enum_tup ?k1 ?k2 ?k3 ?k4 ?k5 ?k6 ?_; (case k1 => exact rfl); (case k2 => k_asm); (case k3 => k_asm); (case k4 => k_mem); (case k5 => exact rfl); (case k6 => exact rfl); k_whole); intro I' h' S' R' lL' l1 off' F' N')); (try dsimp only)))
local macro_rules | `(tactic| walk_at "call type:list") => `(tactic| (k_here; (with_reducible show wpAny _ _ (call (Value.type _) [Value.ref _]) _ _ _); k_dflt (refine' list_enumT ?k1 ?k2 ?k3 ?k4 ?k5 ?k6 ?k7 ?k8 ?_; (case k1 => exact rfl); (case k2 => k_asm); (case k3 => k_asm); (case k4 => assumption); (case k5 => assumption); (case k6 => assumption); (case k7 => assumption); (case k8 => (rw [PySem.sizeLine_eq]; omega)); k_whole); intro D' h' tk' ys' c' tl' F' N' p' l1 l2; (try dsimp only)))
local macro_rules | `(tactic| walk_at "call builtin:len") => `(tactic| (k_here; (with_reducible show wpAny _ _ (call (Value.builtin "len") [Value.ref _]) _ _ _); k_dflt (first
  | (refine' kst_len ?k1 ?k2 ?k3 ?k4 ?_; (case k1 => k_asm); (case k2 => k_mem); (case k3 => assumption); (case k4 => omega); k_whole)
  | (refine' len_T ?k1 ?k2 ?k3 ?k4 ?_; (case k1 => k_asm); (case k2 => k_mem); (case k3 => assumption); (case k4 => omega); k_whole))))
local macro_rules | `(tactic| walk_at "subscriptTail") => `(tactic| (k_here; (with_reducible show wpAny _ _ (subscriptTail _ _ (Value.ref _) (Value.int _ _)) _ _ _); k_dflt (
   (refine' item_L ?k1 ?k2 ?k3 ?k4 ?k5 ?_; (case k1 => k_asm); (case k2 => k_mem); (case k3 => omega); (case k4 => omega); (case k5 => assumption); k_whole))))
local macro_rules | `(tactic| walk_at "exec If") => `(tactic| refine wpAny_If ?_)
local macro_rules | `(tactic| walk_at "isTrue Call") => `(tactic| refine isTrue_plain ?_)
local macro_rules | `(tactic| walk_at "exec If Call cons cons") => `(tactic| refine wpAny_If ?_)
local macro_rules | `(tactic| walk_at "exec If Call cons nil") => `(tactic| refine wpAny_If ?_)
local macro_rules | `(tactic| walk_at "exec If Compare cons nil") => `(tactic| refine wpAny_If ?_)
local macro_rules | `(tactic| walk_at "exec If UnaryOp cons nil") => `(tactic| refine wpAny_If ?_)
local macro_rules | `(tactic| walk_at "ite") => `(tactic| first | rw [if_neg (by first | (simp; done) | omega | (simp; omega))] | rw [if_pos (by first | (simp; done) | omega | (simp; omega))])
local macro_rules | `(tactic| walk_at "call type:tuple") => `(tactic| (k_here; (with_reducible show wpAny _ _ (call (Value.type _) [Value.ref _]) _ _ _); k_dflt (first
  | (refine' tuple_tup_N ?k1 ?k2 ?_; (case k1 => k_asm); (case k2 => k_mem); k_whole)
  | (refine' tuple_list_N ?k1 ?k2 ?k3 ?k4 ?_; (case k1 => k_asm); (case k2 => k_asm); (case k3 => k_mem); (case k4 => (rw [PySem.sizeLine_eq]; omega)); k_whole; intro D' h' tk' F' N' l1)
  | (refine' tuple_Gen ?k1 ?k2 ?k3 ?k4 ?k5 ?k6 ?k7 ?_; (case k1 => k_asm); (case k2 => k_asm); (case k3 => assumption); (case k4 => assumption); (case k5 => assumption); (case k6 => assumption); (case k7 => (rw [PySem.sizeLine_eq]; omega)); k_whole; intro D' h' g' tk' ys' e1 e2 F' N' G' l1))))
local macro_rules | `(tactic| walk_at "call ref") => `(tactic| (k_here; (with_reducible show wpAny _ _ (call (Value.ref 156) _) _ _ _); refine Stop.un ?_))
local macro_rules | `(tactic| walk_at "call type:zip") => `(tactic| (k_here; (with_reducible show wpAny _ _ (call (Value.type _) [Value.ref _, Value.ref _]) _ _ _); k_dflt (refine' zip_tup ?k1 ?k2 ?k3 ?k4 ?k5 ?k6 ?k7 ?k8 ?k9 ?_; (case k1 => exact rfl); (case k2 => k_asm); (case k3 => k_asm); (case k4 => k_mem); (case k5 => exact rfl); (case k6 => exact rfl); (case k7 => k_mem); (case k8 => exact rfl); (case k9 => exact rfl); k_whole); intro I' h' S' l1 off' F' N'; (try dsimp only)))
local macro_rules | `(tactic| walk_at "eval Name") => `(tactic| (k_here; (with_reducible show wpAny _ _ (eval (Expr.Name _ _) (compEnvC _ _ _ _)) _ _ _); k_dflt (first
  | (refine' wpAny_Name (wpAny_loadName_local ?k1 ?k2 ?k3 ?k4 ?_); (case k1 => exact rfl); (case k2 => exact rfl); (case k3 => assumption); (case k4 => assumption); k_whole)
  | (refine' ldFreeK ?k1 ?k2 ?_; (case k1 => exact rfl); (case k2 => assumption); k_whole))))
local macro_rules | `(tactic| walk_at "pyIter ref") => `(tactic| (k_here; k_dflt (refine' PSrc.self ?k1 ?_; (case k1 => assumption); k_whole)))
local macro_rules | `(tactic| walk_at "call ref") => `(tactic| (k_here; first
  | ((with_reducible show wpAny _ _ (call (Value.ref 59) _) _ _ _); refine Stop.un ?_)
  | ((with_reducible show wpAny _ _ (call (Value.ref 76) _) _ _ _); refine Stop.un ?_)
  | ((with_reducible show wpAny _ _ (call (Value.ref 95) _) _ _ _); refine Stop.un ?_)
  | ((with_reducible show wpAny _ _ (call (Value.ref 119) _) _ _ _); refine Stop.un ?_)
  | ((with_reducible show wpAny _ _ (call (Value.ref 126) _) _ _ _); refine Stop.un ?_)
  | ((with_reducible show wpAny _ _ (call (Value.ref 153) _) _ _ _); refine Stop.un ?_)
  | ((with_reducible show wpAny _ _ (call (Value.ref 172) _) _ _ _); refine Stop.un ?_)
  | ((with_reducible show wpAny _ _ (call (Value.ref 177) _) _ _ _); refine Stop.un ?_)
  | ((with_reducible show wpAny _ _ (call (Value.ref 184) _) _ _ _); refine Stop.un ?_)))
local macro_rules | `(tactic| walk_at "exec For Tuple Call cons nil") => `(tactic| (k_here; (rename Fr _ _ _ _ => lF'); (with_unfolding_all refine' For_gens lF' ?_; k_whole); skip))
local macro_rules | `(tactic| walk_at "exec For Tuple Call") => `(tactic| (k_here; (rename Fr _ _ _ _ => lF'); (with_unfolding_all refine' For_gens lF' ?_; k_whole); skip))
local macro_rules | `(tactic| walk_at "exec For Tuple Call cons cons") => `(tactic| (k_here; (rename Fr _ _ _ _ => lF'); (with_unfolding_all refine' For_gens lF' ?_; k_whole); skip))
local macro_rules | `(tactic| walk_at "exec For Tuple Attribute cons nil") => `(tactic| (k_here; (rename Fr _ _ _ _ => lF'); (with_unfolding_all refine' For_gens lF' ?_; k_whole); skip))
local macro_rules | `(tactic| walk_at "exec For Tuple Attribute") => `(tactic| (k_here; (rename Fr _ _ _ _ => lF'); (with_unfolding_all refine' For_gens lF' ?_; k_whole); skip))
local macro_rules | `(tactic| walk_at "exec For Tuple Attribute cons cons") => `(tactic| (k_here; (rename Fr _ _ _ _ => lF'); (with_unfolding_all refine' For_gens lF' ?_; k_whole); skip))
local macro_rules | `(tactic| walk_at "exec For Tuple Name cons nil") => `(tactic| (k_here; (rename Fr _ _ _ _ => lF'); (with_unfolding_all refine' For_gens lF' ?_; k_whole); skip))
local macro_rules | `(tactic| walk_at "exec For Tuple Name") => `(tactic| (k_here; (rename Fr _ _ _ _ => lF'); (with_unfolding_all refine' For_gens lF' ?_; k_whole); skip))
local macro_rules | `(tactic| walk_at "exec For Tuple Name cons cons") => `(tactic| (k_here; (rename Fr _ _ _ _ => lF'); (with_unfolding_all refine' For_gens lF' ?_; k_whole); skip))
local macro_rules | `(tactic| walk_at "exec For Name Call cons nil") => `(tactic| (k_here; (rename Fr _ _ _ _ => lF'); (with_unfolding_all refine' For_gens lF' ?_; k_whole); skip))
local macro_rules | `(tactic| walk_at "exec For Name Call") => `(tactic| (k_here; (rename Fr _ _ _ _ => lF'); (with_unfolding_all refine' For_gens lF' ?_; k_whole); skip))
local macro_rules | `(tactic| walk_at "exec For Name Call cons cons") => `(tactic| (k_here; (rename Fr _ _ _ _ => lF'); (with_unfolding_all refine' For_gens lF' ?_; k_whole); skip))
local macro_rules | `(tactic| walk_at "exec For Name Name cons nil") => `(tactic| (k_here; (rename Fr _ _ _ _ => lF'); (with_unfolding_all refine' For_gens lF' ?_; k_whole); skip))
local macro_rules | `(tactic| walk_at "exec For Name Name") => `(tactic| (k_here; (rename Fr _ _ _ _ => lF'); (with_unfolding_all refine' For_gens lF' ?_; k_whole); skip))
local macro_rules | `(tactic| walk_at "exec For Name Name cons cons") => `(tactic| (k_here; (rename Fr _ _ _ _ => lF'); (with_unfolding_all refine' For_gens lF' ?_; k_whole); skip))
local macro_rules | `(tactic| walk_at "exec For Name Subscript cons nil") => `(tactic| (k_here; (rename Fr _ _ _ _ => lF'); (with_unfolding_all refine' For_gens lF' ?_; k_whole); skip))
local macro_rules | `(tactic| walk_at "exec For Name Subscript") => `(tactic| (k_here; (rename Fr _ _ _ _ => lF'); (with_unfolding_all refine' For_gens lF' ?_; k_whole); skip))
local macro_rules | `(tactic| walk_at "exec For Name Subscript cons cons") => `(tactic| (k_here; (rename Fr _ _ _ _ => lF'); (with_unfolding_all refine' For_gens lF' ?_; k_whole); skip))
local macro_rules | `(tactic| walk_at "call type:range") => `(tactic| (k_here; (with_reducible show wpAny _ _ (call (Value.type _) _) (fun xv s₁ => wpAny _ _ (pyIter xv) (fun it s₂ => TurnsG _ _ _ _ _ _ _ _ _ it s₂) _ s₁) _ _); k_dflt (first
  | ((refine' range_1 ?k1 ?k2 ?_; (case k1 => k_asm); (case k2 => k_asm); k_whole); intro r' h' t' u' tk' R' F' N')
  | ((refine' range_3 ?k3 ?k1 ?k2 ?k4 ?_; (case k3 => decide); (case k1 => k_asm); (case k2 => k_asm); (case k4 => first | decide +kernel | (exact PyProof.noPylong_small (by omega))); k_whole); intro r' h' R' F' N'))))
local macro_rules | `(tactic| walk_at "pyIter ref") => `(tactic| (k_here; (with_reducible show wpAny _ _ (pyIter _) (fun it s₂ => TurnsG _ _ _ _ _ _ _ _ _ it s₂) _ _); k_dflt (first | (refine' PSrc.self ?k1 ?_; (case k1 => assumption); k_whole) | refine Stop.un ?_)))
local macro_rules | `(tactic| walk_at "setItem ref int") => `(tactic| (k_here; (with_reducible show wpAny _ _ (setItem (Value.ref _) (Value.int _ _) (Value.int _ _)) _ _ _); k_dflt (refine' setH ?k1 ?k2 ?k3 ?k4 ?k5 ?k6 ?k7 ?_; (case k1 => k_asm); (case k2 => k_asm); (case k3 => assumption); (case k4 => assumption); (case k5 => omega); (case k6 => omega); (case k7 => omega); k_whole); intro h' F' N' i'))
local macro_rules | `(tactic| walk_at "getItem ref int") => `(tactic| (k_here; (with_reducible show wpAny _ _ (getItem (Value.ref _) (Value.int _ _)) _ _ _); k_dflt (refine' ksa_get ?k1 ?k2 ?k3 ?k4 ?k5 ?k6 ?_; (case k1 => k_asm); (case k2 => k_mem); (case k3 => assumption); (case k4 => omega); (case k5 => omega); (case k6 => omega); k_whole); intro t'))
local macro_rules | `(tactic| walk_at "call builtin:list.pop") => `(tactic| (k_here; (with_reducible show wpAny _ _ (call (Value.builtin _) [Value.ref _]) _ _ _); k_dflt (refine' popH ?k1 ?k2 ?k3 ?k4 ?k5 ?_; (case k1 => k_asm); (case k2 => k_asm); (case k3 => assumption); (case k4 => assumption); (case k5 => (rw [PySem.sizeLine_eq]; omega)); k_whole); intro h' us' t' i' F' N'))
local macro_rules | `(tactic| walk_at "eval Name") => `(tactic| (k_here; (with_reducible show wpAny _ _ (eval (Expr.Name _ _) (envOf _ _ _ _ _)) _ _ _); k_dflt (refine' ld ?k1 ?k2 ?_; (case k1 => k_asm); (case k2 => ((try dsimp only); (repeat (refine' fr_skip ?frh ?_; (case frh => decide +kernel))); first | with_reducible assumption | (refine' fr_hit ?fra ?frb; (case fra => rfl); (case frb => rfl)))); k_whole)))
local macro_rules | `(tactic| walk_at "eval Name") => `(tactic| (k_here; (with_reducible show wpAny _ _ (eval (Expr.Name _ _) (envOfC _ _ _ _ _)) _ _ _); k_dflt (refine' nameX_L ?F ?v ?_ ?a ?b; (case F => k_asm); (case a => rfl); (case b => rfl); (case v => ((try dsimp only); (repeat (refine' fr_skip ?frh ?_; (case frh => decide +kernel))); first | with_reducible assumption | (refine' fr_hit ?fra ?frb; (case fra => rfl); (case frb => rfl)))); k_whole)))
local macro_rules | `(tactic| walk_at "eval Name") => `(tactic| (k_here; (with_reducible show wpAny _ _ (eval (Expr.Name _ _) (envOfC _ _ _ _ _)) _ _ _); k_dflt (refine' nameX_C ?N ?c ?m ?d ?_ ?a ?b; (case b => rfl); (case a => rfl); (case N => k_asm); (case c => rfl); (case m => k_mem); (case d => k_asm); k_whole)))
local macro_rules | `(tactic| walk_at "getMethod ref") => `(tactic| (k_here; (with_reducible show wpAny _ _ (getMethod (Value.ref _) (PySem.Str.ofString "pop") _) _ _ _); k_dflt (refine' kl_method ?N ?m PySem.F.slot_list_pop PySem.F.type_list_pop ?_; (case N => k_asm); (case m => k_mem); k_whole)))
local macro_rules | `(tactic| walk_at "binaryOp FloorDiv int int") => `(tactic| (k_here; (with_reducible show wpAny _ _ (binaryOp _ (Value.int _ _) (Value.int (_ ^ _) _)) _ _ _); k_dflt (refine' floordiv_int ?k1 ?_ ?k2; (case k1 => exact pow_ne0 (by omega) _); (case k2 => exact Or.inl (PyProof.noPylong_small (pow_small (by omega) (by omega) (by omega)))); k_whole)))
local macro_rules | `(tactic| walk_at "exec While") => `(tactic| (k_here; refine Stop.un ?_))
local macro_rules | `(tactic| walk_at "exec While Compare") => `(tactic| (k_here; refine Stop.un ?_))
local macro_rules | `(tactic| walk_at "call type:list") => `(tactic| (k_here; (with_reducible show wpAny _ _ (call (Value.type _) [Value.ref _]) _ _ _); k_dflt (refine' list_copy_N ?k2 ?k3 ?k4 ?k8 ?_; (case k2 => k_asm); (case k3 => k_asm); (case k4 => k_mem); (case k8 => (rw [PySem.sizeLine_eq]; omega)); k_whole); intro D' h' c' F' N' l1; (try dsimp only)))
--BODY
theorem lowF_small {p : Int} (h : 2 ≤ p) (h2 : p ≤ 5) (s k : Nat) : ∀ c ∈ lowF p s k, 0 ≤ c ∧ c < 8 := by
  intro c hc
  rcases List.mem_append.mp hc with hc | hc
  · obtain ⟨a, _, rfl⟩ := List.mem_map.mp hc
    have h1 := Int.fmod_nonneg_of_pos ((k : Int).fdiv (p ^ a.toNat)) (by omega : 0 < p)
    have h3 := Int.fmod_lt_of_pos ((k : Int).fdiv (p ^ a.toNat)) (by omega : 0 < p)
    omega
  · rw [List.mem_singleton.mp hc]
    decide
theorem powNat {p : Int} (h : 2 ≤ p) (h2 : p ≤ 5) {s : Nat} (hs : s ≤ 4) : p ^ s = ((p ^ s).toNat : Int) ∧ (p ^ s).toNat ≤ 625 := by
  have hp : p = 2 ∨ p = 3 ∨ p = 4 ∨ p = 5 := by omega
  have hk' : s = 0 ∨ s = 1 ∨ s = 2 ∨ s = 3 ∨ s = 4 := by omega
  rcases hp with rfl | rfl | rfl | rfl <;> rcases hk' with rfl | rfl | rfl | rfl | rfl <;> decide
theorem factLoop_exit {p : Int} {M : List Int} {a b : Int} (h : M.length ≤ 1) : ∀ (n s : Nat), factLoop p n s ⟨M, a, b⟩ = some (a, b)
  | 0, _ => by simp [factLoop, h]
  | n + 1, _ => by simp [factLoop, h]
theorem factLoop_go {p : Int} {st : FSt} {r : Int × Int} (h : 1 < st.m.length) : ∀ {n s : Nat}, factLoop p n s st = some r → ∃ n', n = n' + 1 ∧ factLoop p n' (s + 1) (factSize p s (p ^ s).toNat st) = some r
  | 0, _, e => by
    rw [factLoop, if_neg (by omega)] at e
    cases e
  | n + 1, _, e => by
    rw [factLoop, if_neg (by omega)] at e
    exact ⟨n, rfl, e⟩
theorem factors_spec (w : World) (lm : Addr) (mvs : List Value) (ms : List Int) (km : Nat) (p A C : Int) (tp : Tok) (hms : IntsAre mvs ms) (h5 : ms.length ≤ 5) (hp : 2 ≤ p) (hp2 : p ≤ 5) (hf : factF p ms = some (A, C)) :
    Spec w 184 [.ref lm, .int p tp] 30 (fun news => (lm, listOf mvs.toArray km) ∈ news) (fun led r => ∃ T ta tb k, r = .ref T ∧ (T, tupO [.int A ta, .int C tb] k) ∈ led) := by
  unfold Spec
  intro mean mg mb dp un gd cn cs' a ccd cl outer A₀ base h₀ L m news s Q E B F X N T hk hP hdp hun hret
  have hml := hms.length
  w_on
  k_dflt (refine wpAny_call ?_; k_enter)
  k_steps
  rename_i g9 L9 ha FG9 B9 X9 T9 D9 hb l9 hc hd he hh F9 N9
  refine Stop.go ?_
  refine While_inv2 (fun n m₁ led => ∃ (size c1 : Nat) (lm1 : Addr) (mv1 : List Value) (M : List Int) (many deg : Int), (∀ q ∈ news, q ∈ led) ∧ (lm1, listOf mv1.toArray c1) ∈ led ∧ IntsAre mv1 M ∧ M.length ≤ 5 ∧
      m₁ (Str.ofString "m") = some (.ref lm1) ∧ m₁ (Str.ofString "p") = some (.int p tp) ∧ (∃ t, m₁ (Str.ofString "size") = some (.int (size : Int) t)) ∧ (∃ t, m₁ (Str.ofString "many") = some (.int many t)) ∧ (∃ t, m₁ (Str.ofString "degrees") = some (.int deg t)) ∧
      size + n = 5 ∧ 1 ≤ size ∧ factLoop p n size ⟨M, many, deg⟩ = some (A, C)) (n₀ := 4) F9 N9 ?_ ?_
  · exact ⟨1, km, lm, mvs, ms, 0, 0, fun q hq => .tail _ hq, .tail _ hP, hms, h5, fr_skip (by decide +kernel) (fr_skip (by decide +kernel) (fr_skip (by decide +kernel) rfl)), fr_skip (by decide +kernel) (fr_skip (by decide +kernel) (fr_skip (by decide +kernel) rfl)), ⟨_, fr_hit rfl rfl⟩, ⟨_, fr_skip (by decide +kernel) (fr_skip (by decide +kernel) (fr_hit rfl rfl))⟩, ⟨_, fr_skip (by decide +kernel) (fr_hit rfl rfl)⟩, rfl, by omega, hf⟩
  · intro n m₁ led h1' tk1 F1 N1 hJ
    obtain ⟨size, c1, lm1, mv1, M, many, deg, hnews, hm1, hM, hM5, mm, mp, ⟨tsz, msz⟩, ⟨tmn, mmn⟩, ⟨tdg, mdg⟩, hsn, hs1, hfl⟩ := hJ
    have hMl := hM.length
    have F2 := fr_known (x := Str.ofString "degrees") (fr_known (x := Str.ofString "many") (fr_known (x := Str.ofString "size") (fr_known (x := Str.ofString "p") (fr_known F1 mm) (fr_skip (by decide +kernel) mp)) (fr_skip (by decide +kernel) (fr_skip (by decide +kernel) msz))) (fr_skip (by decide +kernel) (fr_skip (by decide +kernel) (fr_skip (by decide +kernel) mmn)))) (fr_skip (by decide +kernel) (fr_skip (by decide +kernel) (fr_skip (by decide +kernel) (fr_skip (by decide +kernel) mdg))))
    clear F1
    k_steps
    · rename_i lFz hM1 r1 h1 t1 u1 tk1' R1 Fr1 Nr1
      obtain ⟨n', rfl, hfl'⟩ := factLoop_go (by show 1 < M.length; omega) hfl
      have hsz : Int.toNat (size : Int) = size := Int.toNat_natCast size
      have hpw := powNat hp hp2 (s := size) (by omega)
      rw [hsz] at R1
      refine Stop.go ?_
      refine iter_range rfl Fr1 Nr1 R1 (small_one (by omega) (by omega) (by omega) (by omega)) (n := (p ^ size).toNat) (by rw [rangeSize_one]; split <;> omega) ?_
      intro Ik hk2 Sk lk offk Fk Nk
      refine singlesG (fun k g m₂ led2 => g = s.gens ∧ ∃ (c2 : Nat) (lm2 : Addr) (mv2 : List Value) (M2 : List Int) (many2 deg2 : Int), Ext2 led led2 ∧ (lm2, listOf mv2.toArray c2) ∈ led2 ∧ IntsAre mv2 M2 ∧ 
          m₂ (Str.ofString "m") = some (.ref lm2) ∧ m₂ (Str.ofString "p") = some (.int p tp) ∧ (∃ t, m₂ (Str.ofString "size") = some (.int (size : Int) t)) ∧ (∃ t, m₂ (Str.ofString "many") = some (.int many2 t)) ∧ (∃ t, m₂ (Str.ofString "degrees") = some (.int deg2 t)) ∧
          factSize p size k ⟨M, many, deg⟩ = ⟨M2, many2, deg2⟩)
        Sk offk Fk Nk trivial ⟨rfl, c1, lm1, mv1, M, many, deg, Ext2.refl _, hm1, hM, fr_skip (by decide +kernel) (fr_skip (by decide +kernel) (fr_skip (by decide +kernel) (fr_skip (by decide +kernel) (fr_hit rfl rfl)))), fr_skip (by decide +kernel) (fr_skip (by decide +kernel) (fr_skip (by decide +kernel) (fr_hit rfl rfl))), ⟨_, fr_skip (by decide +kernel) (fr_skip (by decide +kernel) (fr_hit rfl rfl))⟩, ⟨_, fr_skip (by decide +kernel) (fr_hit rfl rfl)⟩, ⟨_, fr_hit rfl rfl⟩, rfl⟩ ?_ ?_
      · intro k v m₂ led2 its h2 g2 tk2 hkn hV hJ2 hkeep2 hits2 F3 N3 ho2
        obtain ⟨rfl, c2, lm2, mv2, M2, many2, deg2, X2, hm2, hM2, mm2, mp2, ⟨tsz2, msz2⟩, ⟨tmn2, mmn2⟩, ⟨tdg2, mdg2⟩, hfs⟩ := hJ2
        obtain ⟨tv, rfl⟩ := hV
        rw [show (0 : Int) + (k : Int) * 1 = (k : Int) by omega]
        have hM2l := hM2.length
        have hM25 : M2.length ≤ 5 := by
          have := factSize_len hs1 (p := p) ⟨M, many, deg⟩ k
          rw [hfs] at this
          exact Nat.le_trans this hM5
        have F4 := fr_known (x := Str.ofString "degrees") (fr_known (x := Str.ofString "many") (fr_known (x := Str.ofString "size") (fr_known (x := Str.ofString "p") (fr_known F3 mm2) (fr_skip (by decide +kernel) mp2)) (fr_skip (by decide +kernel) (fr_skip (by decide +kernel) msz2))) (fr_skip (by decide +kernel) (fr_skip (by decide +kernel) (fr_skip (by decide +kernel) mmn2)))) (fr_skip (by decide +kernel) (fr_skip (by decide +kernel) (fr_skip (by decide +kernel) (fr_skip (by decide +kernel) mdg2))))
        clear F3
        k_steps
        refine Stop.go ?_
        refine spec_use (parts_spec w (k : Int) p size tv tp tsz2 (by omega) (by omega) hp hp2 (by omega)) (by k_asm) (by k_asm) (by k_asm) (by k_asm) (by k_asm) (by first | rfl | assumption) trivial (by ktr_room) (by ktr_units) (Ret.mk ?_)
        intro r led3 h3 tk3 X3 F3 N3' ho3
        obtain ⟨lp, pv, cp, rfl, hmp, hip⟩ := ho3
        have hpl : (partsF (k : Int) p size).length = size := by
          have := lowF_length p size k
          unfold lowF at this
          rw [List.length_append] at this
          simp at this
          exact this
        have hpl2 : pv.length = size := hip.length.trans hpl
        k_steps
        rename_i l4 h4 l4l Dw wsw h5 hIw lDw h6 F5 N5
        obtain ⟨Lw, hLw⟩ : ∃ Lw, Lw = lowF p size k := ⟨_, rfl⟩
        have hIw2 : IntsAre wsw Lw := hLw ▸ hIw
        have hLl : Lw.length = size + 1 := by rw [hLw, lowF_length]
        have hwl : wsw.length = size + 1 := hIw2.length.trans hLl
        have hLs : ∀ c ∈ Lw, 0 ≤ c ∧ c < 8 := by rw [hLw]; exact lowF_small hp hp2 size k
        have hfin : factSize p size (k + 1) ⟨M, many, deg⟩ = match quotF p M2 Lw with
            | none => ⟨M2, many2, deg2⟩
            | some q => ⟨dropAll p Lw 6 M2 (some q), many2 + 1, deg2 + size⟩ := by rw [factSize_succ, hfs, hLw]; rfl
        obtain ⟨led5, hled5⟩ := name_all N5
        have X5 : Ext2 (its ++ led2) led5 := by
          rw [hled5]
          refine Ext2.lt (X3.lt l4l) ?_
          intro q hq
          rcases List.mem_cons.mp hq with rfl | hq
          · exact lDw.1
          · exact ktn_ltOf lDw.2 q hq
        rw [← hled5] at N5
        have hm5 : (lm2, listOf mv2.toArray c2) ∈ led5 := X5.sub _ (List.mem_append_right its hm2)
        have hDw5 : (Dw, listOf wsw.toArray 0) ∈ led5 := by rw [hled5]; exact .head _
        clear hIw hled5 lDw l4l
        k_steps
        · rename_i hge
          have hge' : Lw.length ≤ M2.length := by omega
          refine Stop.go ?_
          refine spec_use (divided_spec w lm2 Dw mv2 wsw M2 Lw c2 0 p tp hM2 hIw2 (by omega) (by omega) hM25 hp hp2 hLs) (by k_asm) (by k_asm) (by k_asm) (by k_asm) (by k_asm) (by first | rfl | assumption) ⟨hm5, hDw5⟩ (by ktr_room) (by ktr_units) (Ret.mk ?_)
          intro r led7 h7 tk7 X7 F7 N7 ho7
          have hqf : quotF p M2 Lw = divF p M2 Lw := by unfold quotF; rw [if_pos hge']
          have hm7 := X7.sub _ hm5
          have hDw7 := X7.sub _ hDw5
          have X57 := X5.trans X7
          cases hdf : divF p M2 Lw with
          | none =>
            rw [hdf] at ho7
            have ho7' : r = .none := ho7
            subst ho7'
            k_steps
            rename_i h8 F8 N8
            refine Stop.go ?_
            refine While_inv2 (fun n mm ld => n = 0 ∧ ld = led7 ∧ mm (Str.ofString "quotient") = some .none ∧ mm (Str.ofString "m") = some (.ref lm2) ∧ mm (Str.ofString "p") = some (.int p tp) ∧ (∃ t, mm (Str.ofString "size") = some (.int (size : Int) t)) ∧ (∃ t, mm (Str.ofString "many") = some (.int many2 t)) ∧ (∃ t, mm (Str.ofString "degrees") = some (.int deg2 t))) (n₀ := 0) F8 N8 ⟨rfl, rfl, fr_hit rfl rfl, fr_skip (by decide +kernel) (fr_skip (by decide +kernel) (fr_skip (by decide +kernel) (fr_skip (by decide +kernel) (fr_skip (by decide +kernel) (fr_skip (by decide +kernel) (fr_skip (by decide +kernel) (fr_hit rfl rfl))))))), fr_skip (by decide +kernel) (fr_skip (by decide +kernel) (fr_skip (by decide +kernel) (fr_skip (by decide +kernel) (fr_skip (by decide +kernel) (fr_skip (by decide +kernel) (fr_hit rfl rfl)))))), ⟨_, fr_skip (by decide +kernel) (fr_skip (by decide +kernel) (fr_skip (by decide +kernel) (fr_skip (by decide +kernel) (fr_skip (by decide +kernel) (fr_hit rfl rfl)))))⟩, ⟨_, fr_skip (by decide +kernel) (fr_skip (by decide +kernel) (fr_skip (by decide +kernel) (fr_skip (by decide +kernel) (fr_hit rfl rfl))))⟩, ⟨_, fr_skip (by decide +kernel) (fr_skip (by decide +kernel) (fr_skip (by decide +kernel) (fr_hit rfl rfl)))⟩⟩ ?_
            intro n mm ld hq tkq Fq Nq hJq
            obtain ⟨rfl, rfl, mq, qm, qp, qsz, qmn, qdg⟩ := hJq
            have Fq2 := fr_known Fq mq
            clear Fq
            k_steps
            show EndG _ _ _ _ _ _
            obtain ⟨led6, s1, s2, s3, s4⟩ := (X57).split ho2 (objs_cls hits2)
            refine ⟨_, _, _, _, led6, rfl, Fq2, kst_newsOf Nq s1, s2, trivial, rfl, c2, lm2, mv2, M2, many2, deg2, X2.trans s3, s4 _ (hm7) (cls_ne (by decide)), hM2, fr_skip (by decide +kernel) qm, fr_skip (by decide +kernel) qp, ?_, ?_, ?_, ?_⟩
            · obtain ⟨t, e⟩ := qsz
              exact ⟨t, fr_skip (by decide +kernel) e⟩
            · obtain ⟨t, e⟩ := qmn
              exact ⟨t, fr_skip (by decide +kernel) e⟩
            · obtain ⟨t, e⟩ := qdg
              exact ⟨t, fr_skip (by decide +kernel) e⟩
            · rw [hfin, hqf, hdf]
          | some q =>
            rw [hdf] at ho7
            obtain ⟨lq, vq, cq, rfl, hmq, hiq⟩ := ho7
            k_steps
            rename_i h8 g8 D8 h9 l8 h10 h11 h12 F8 N8
            obtain ⟨led8, hled8⟩ := name_all N8
            have X8 : Ext2 (its ++ led2) led8 := by
              rw [hled8]
              exact X57.lt l8
            have hm8 : (lm2, listOf mv2.toArray c2) ∈ led8 := X8.sub _ (List.mem_append_right its hm2)
            have hDw8 : (Dw, listOf wsw.toArray 0) ∈ led8 := by rw [hled8]; exact .tail _ hDw7
            have hmq8 : (lq, listOf vq.toArray cq) ∈ led8 := by rw [hled8]; exact .tail _ hmq
            rw [← hled8] at N8
            clear hled8
            have hql := quotF_len (p := p) (m := M2) (low := Lw) (q := q) (by omega) (hqf.trans hdf)
            have hfin2 : factSize p size (k + 1) ⟨M, many, deg⟩ = ⟨dropAll p Lw 6 M2 (some q), many2 + 1, deg2 + size⟩ := by rw [hfin, hqf, hdf]
            clear hfin hfs
            refine Stop.go ?_
            refine While_inv2 (fun n mm ld => ∃ (c' : Nat) (lm' : Addr) (mv' : List Value) (M' : List Int) (o' : Option (List Int)), Ext2 (its ++ led2) ld ∧ (lm', listOf mv'.toArray c') ∈ ld ∧ (Dw, listOf wsw.toArray 0) ∈ ld ∧ IntsAre mv' M' ∧ (∃ r, mm (Str.ofString "quotient") = some r ∧ OptL ld r o') ∧
                mm (Str.ofString "m") = some (.ref lm') ∧ mm (Str.ofString "low") = some (.ref Dw) ∧ mm (Str.ofString "p") = some (.int p tp) ∧ (∃ t, mm (Str.ofString "size") = some (.int (size : Int) t)) ∧ (∃ t, mm (Str.ofString "many") = some (.int (many2 + 1) t)) ∧ (∃ t, mm (Str.ofString "degrees") = some (.int (deg2 + size) t)) ∧
                dropAll p Lw n M' o' = dropAll p Lw 6 M2 (some q) ∧ n ≤ 6 ∧ ∀ q', o' = some q' → q'.length + 1 ≤ n) (n₀ := 6) F8 N8
              ⟨c2, lm2, mv2, M2, some q, X8, hm8, hDw8, hM2, ⟨_, fr_skip (by decide +kernel) (fr_skip (by decide +kernel) (fr_hit rfl rfl)), lq, vq, cq, rfl, hmq8, hiq⟩, fr_skip (by decide +kernel) (fr_skip (by decide +kernel) (fr_skip (by decide +kernel) (fr_skip (by decide +kernel) (fr_skip (by decide +kernel) (fr_skip (by decide +kernel) (fr_skip (by decide +kernel) (fr_skip (by decide +kernel) (fr_skip (by decide +kernel) (fr_hit rfl rfl))))))))), fr_skip (by decide +kernel) (fr_skip (by decide +kernel) (fr_skip (by decide +kernel) (fr_hit rfl rfl))), fr_skip (by decide +kernel) (fr_skip (by decide +kernel) (fr_skip (by decide +kernel) (fr_skip (by decide +kernel) (fr_skip (by decide +kernel) (fr_skip (by decide +kernel) (fr_skip (by decide +kernel) (fr_skip (by decide +kernel) (fr_hit rfl rfl)))))))), ⟨_, fr_skip (by decide +kernel) (fr_skip (by decide +kernel) (fr_skip (by decide +kernel) (fr_skip (by decide +kernel) (fr_skip (by decide +kernel) (fr_skip (by decide +kernel) (fr_skip (by decide +kernel) (fr_hit rfl rfl)))))))⟩, ⟨_, fr_hit rfl rfl⟩, ⟨_, fr_skip (by decide +kernel) (fr_hit rfl rfl)⟩, rfl, Nat.le_refl _, fun q' e => by cases e; omega⟩ ?_
            intro n mm ld hq tkq Fq Nq hJq
            obtain ⟨cm, lmm, mvm, Mm, om, Xm, hmm, hDm, hMm, ⟨r, mq, hor⟩, qm, qlow, qp, ⟨tq1, qsz⟩, ⟨tq2, qmn⟩, ⟨tq3, qdg⟩, hdr, hn6, hlen⟩ := hJq
            cases om with
            | none =>
              have hor' : r = .none := hor
              subst hor'
              have Fq2 := fr_known Fq mq
              clear Fq
              k_steps
              show EndG _ _ _ _ _ _
              obtain ⟨led6, s1, s2, s3, s4⟩ := Xm.split ho2 (objs_cls hits2)
              refine ⟨_, _, _, _, led6, rfl, Fq2, kst_newsOf Nq s1, s2, trivial, rfl, cm, lmm, mvm, Mm, many2 + 1, deg2 + size, X2.trans s3, s4 _ hmm (cls_ne (by decide)), hMm, fr_skip (by decide +kernel) qm, fr_skip (by decide +kernel) qp, ⟨tq1, fr_skip (by decide +kernel) qsz⟩, ⟨tq2, fr_skip (by decide +kernel) qmn⟩, ⟨tq3, fr_skip (by decide +kernel) qdg⟩, ?_⟩
              rw [hfin2, ← hdr, dropAll_none]
            | some q' =>
              obtain ⟨lq', vq', cq', rfl, hmq', hiq'⟩ := hor
              have hn1 := hlen q' rfl
              obtain ⟨n1, rfl⟩ : ∃ n1, n = n1 + 1 := ⟨n - 1, by omega⟩
              have hvl' := hiq'.length
              have Fq2 := fr_known (x := Str.ofString "quotient") (fr_known (x := Str.ofString "low") (fr_known Fq qp) (fr_skip (by decide +kernel) qlow)) (fr_skip (by decide +kernel) (fr_skip (by decide +kernel) mq))
              clear Fq
              k_steps
              · rename_i hge2
                have hql2 : q'.length ≤ 5 := by omega
                refine Stop.go ?_
                refine spec_use (divided_spec w lq' Dw vq' wsw q' Lw cq' 0 p tp hiq' hIw2 (by omega) (by omega) hql2 hp hp2 hLs) (by k_asm) (by k_asm) (by k_asm) (by k_asm) (by k_asm) (by first | rfl | assumption) ⟨hmq', hDm⟩ (by ktr_room) (by ktr_units) (Ret.mk ?_)
                intro r led9 h9 tk9 X9' F9' N9' ho9
                k_steps
                rename_i hz Fz Nz
                refine ⟨_, _, _, _, n1, rfl, Fz, Nz, by omega, cq', lq', vq', q', quotF p q' Lw, Xm.trans X9', X9'.sub _ hmq', X9'.sub _ hDm, hiq', ⟨_, fr_hit rfl rfl, ?_⟩, fr_skip (by decide +kernel) (fr_hit rfl rfl), fr_skip (by decide +kernel) (fr_skip (by decide +kernel) (fr_skip (by decide +kernel) (fr_hit rfl rfl))), fr_skip (by decide +kernel) (fr_skip (by decide +kernel) (fr_skip (by decide +kernel) (fr_skip (by decide +kernel) (fr_hit rfl rfl)))), ⟨_, fr_skip (by decide +kernel) (fr_skip (by decide +kernel) (fr_skip (by decide +kernel) (fr_skip (by decide +kernel) (fr_skip (by decide +kernel) (qsz)))))⟩, ⟨_, fr_skip (by decide +kernel) (fr_skip (by decide +kernel) (fr_skip (by decide +kernel) (fr_skip (by decide +kernel) (fr_skip (by decide +kernel) (qmn)))))⟩, ⟨_, fr_skip (by decide +kernel) (fr_skip (by decide +kernel) (fr_skip (by decide +kernel) (fr_skip (by decide +kernel) (fr_skip (by decide +kernel) (qdg)))))⟩, hdr, by omega, ?_⟩
                · unfold quotF
                  rw [if_pos (by omega)]
                  exact ho9
                · intro q'' e
                  have := quotF_len (by omega) e
                  omega
              · rename_i hlt2 hz Fz Nz
                refine ⟨_, _, _, _, n1, rfl, Fz, Nz, by omega, cq', lq', vq', q', quotF p q' Lw, Xm, hmq', hDm, hiq', ⟨_, fr_hit rfl rfl, ?_⟩, fr_skip (by decide +kernel) (fr_hit rfl rfl), fr_skip (by decide +kernel) (fr_skip (by decide +kernel) (fr_skip (by decide +kernel) (fr_hit rfl rfl))), fr_skip (by decide +kernel) (fr_skip (by decide +kernel) (fr_skip (by decide +kernel) (fr_skip (by decide +kernel) (fr_hit rfl rfl)))), ⟨_, fr_skip (by decide +kernel) (fr_skip (by decide +kernel) (fr_skip (by decide +kernel) (fr_skip (by decide +kernel) (fr_skip (by decide +kernel) (qsz)))))⟩, ⟨_, fr_skip (by decide +kernel) (fr_skip (by decide +kernel) (fr_skip (by decide +kernel) (fr_skip (by decide +kernel) (fr_skip (by decide +kernel) (qmn)))))⟩, ⟨_, fr_skip (by decide +kernel) (fr_skip (by decide +kernel) (fr_skip (by decide +kernel) (fr_skip (by decide +kernel) (fr_skip (by decide +kernel) (qdg)))))⟩, hdr, by omega, ?_⟩
                · unfold quotF
                  rw [if_neg (by omega)]
                  exact rfl
                · intro q'' e
                  have := quotF_len (by omega) e
                  omega
        · rename_i hlt h8 F8 N8
          have hqf : quotF p M2 Lw = none := by unfold quotF; rw [if_neg (by omega)]
          refine Stop.go ?_
          refine While_inv2 (fun n mm ld => n = 0 ∧ ld = led5 ∧ mm (Str.ofString "quotient") = some .none ∧ mm (Str.ofString "m") = some (.ref lm2) ∧ mm (Str.ofString "p") = some (.int p tp) ∧ (∃ t, mm (Str.ofString "size") = some (.int (size : Int) t)) ∧ (∃ t, mm (Str.ofString "many") = some (.int many2 t)) ∧ (∃ t, mm (Str.ofString "degrees") = some (.int deg2 t))) (n₀ := 0) F8 N8 ⟨rfl, rfl, fr_hit rfl rfl, fr_skip (by decide +kernel) (fr_skip (by decide +kernel) (fr_skip (by decide +kernel) (fr_skip (by decide +kernel) (fr_skip (by decide +kernel) (fr_skip (by decide +kernel) (fr_skip (by decide +kernel) (fr_hit rfl rfl))))))), fr_skip (by decide +kernel) (fr_skip (by decide +kernel) (fr_skip (by decide +kernel) (fr_skip (by decide +kernel) (fr_skip (by decide +kernel) (fr_skip (by decide +kernel) (fr_hit rfl rfl)))))), ⟨_, fr_skip (by decide +kernel) (fr_skip (by decide +kernel) (fr_skip (by decide +kernel) (fr_skip (by decide +kernel) (fr_skip (by decide +kernel) (fr_hit rfl rfl)))))⟩, ⟨_, fr_skip (by decide +kernel) (fr_skip (by decide +kernel) (fr_skip (by decide +kernel) (fr_skip (by decide +kernel) (fr_hit rfl rfl))))⟩, ⟨_, fr_skip (by decide +kernel) (fr_skip (by decide +kernel) (fr_skip (by decide +kernel) (fr_hit rfl rfl)))⟩⟩ ?_
          intro n mm ld hq tkq Fq Nq hJq
          obtain ⟨rfl, rfl, mq, qm, qp, qsz, qmn, qdg⟩ := hJq
          have Fq2 := fr_known Fq mq
          clear Fq
          k_steps
          show EndG _ _ _ _ _ _
          obtain ⟨led6, s1, s2, s3, s4⟩ := (X5).split ho2 (objs_cls hits2)
          refine ⟨_, _, _, _, led6, rfl, Fq2, kst_newsOf Nq s1, s2, trivial, rfl, c2, lm2, mv2, M2, many2, deg2, X2.trans s3, s4 _ (hm5) (cls_ne (by decide)), hM2, fr_skip (by decide +kernel) qm, fr_skip (by decide +kernel) qp, ?_, ?_, ?_, ?_⟩
          · obtain ⟨t, e⟩ := qsz
            exact ⟨t, fr_skip (by decide +kernel) e⟩
          · obtain ⟨t, e⟩ := qmn
            exact ⟨t, fr_skip (by decide +kernel) e⟩
          · obtain ⟨t, e⟩ := qdg
            exact ⟨t, fr_skip (by decide +kernel) e⟩
          · rw [hfin, hqf]
      · intro mz ledz hz gz tkz hJz hkeepz Fz Nz
        obtain ⟨rfl, cz, lmz, mvz, Mz, manyz, degz, Xz, hmz, hMz, qm, qp, ⟨tq1, qsz⟩, ⟨tq2, qmn⟩, ⟨tq3, qdg⟩, hfs⟩ := hJz
        have Fz2 := fr_known (x := Str.ofString "size") Fz qsz
        clear Fz
        k_steps
        rename_i hy Fy Ny
        refine ⟨_, _, _, _, n', rfl, Fy, Ny, by omega, size + 1, cz, lmz, mvz, Mz, manyz, degz, fun q hq => Xz.sub _ (hnews q hq), hmz, hMz, ?_, fr_skip (by decide +kernel) (fr_skip (by decide +kernel) (qm)), fr_skip (by decide +kernel) (fr_skip (by decide +kernel) (qp)), ⟨_, fr_hit rfl rfl⟩, ⟨_, fr_skip (by decide +kernel) (fr_skip (by decide +kernel) (qmn))⟩, ⟨_, fr_skip (by decide +kernel) (fr_skip (by decide +kernel) (qdg))⟩, by omega, by omega, ?_⟩
        · have := factSize_len hs1 (p := p) ⟨M, many, deg⟩ (p ^ size).toNat
          rw [hfs] at this
          exact Nat.le_trans this hM5
        · rw [← hfs]
          exact hfl'
    · rename_i hM1 Dz hz Fz Nz lz kF kN kT kX
      have e := factLoop_exit (p := p) (M := M) (a := many) (b := deg) (by omega) n size
      rw [e] at hfl
      cases hfl
      refine hret (.ref Dz) [(Dz, tupO [.int A tmn, .int C tdg] 0)] _ _ kF (kst_newsOf kN ?_) ?_ ⟨Dz, _, _, 0, rfl, .head _⟩
      · intro q hq
        rcases List.mem_cons.mp hq with rfl | hq
        · exact .head _
        · exact .tail _ (hnews q hq)
      · intro q hq p hp
        rw [List.mem_singleton.mp hp]
        exact Nat.ne_of_gt (lz q (hnews q hq))

end Mine
end

section
open PySem PySem.W PyProof.Rows PySem.Spec PySem.Calls PyProof.Rows.LCg
set_option Elab.async false
set_option maxRecDepth 100000
set_option maxHeartbeats 1000000
namespace Mine
section
variable {prog : Program} {w : World} {A : Around} {E : Value → Shared → Prop} {s : Shared} {h₀ : Heap} {L : Addr} {m : Str → Option Value} {news : List (Addr × Obj)}
theorem slice_V {value slice : Expr} {l : Addr} {its : List Value} {lo hi : Option Int} {vl vu : Value} {Q : Value → Shared → Prop} (F : Fr h₀ L s.heap m) (N : News h₀ L s.heap news) (hl : s.heap.IsList l its.toArray) (pl : IsPart vl lo) (pu : IsPart vu hi) (hz : its.length ≤ 1000)
    (h : ∀ D h', Fr h₀ L h' m → News h₀ L h' ((D, listOf (kms_pick its lo hi).toArray 0) :: news) → (∀ p ∈ news, p.1 < D) → Q (.ref D) { s with heap := h' })
    (hs : subscripted slice false (.ref l) (.ref s.heap.objs.size) = operate [.ref s.heap.objs.size, .ref l] (getItem (.ref l) (.ref s.heap.objs.size)) := by with_unfolding_all rfl) (ht : ∀ r, letTemporaryGo value (.ref l) r = pure () := by intro _; with_unfolding_all rfl) :
    wpAny (model prog w) A (subscriptTail value slice (.ref l) (.ref s.heap.objs.size)) Q E { s with heap := s.heap.push { cls := .type "slice", data := .fields #[vl, vu, .none] } } :=
  kms_slice_lit F N hl pl pu rfl h hs ht (by rw [List.size_toArray, PySem.sizeLine_eq]; omega)
end
theorem pick_upto {vs : List Value} {y : Int} (h : 0 ≤ y) : kms_pick vs none (some y) = vs.take y.toNat := by
  unfold kms_pick kms_lo kms_hi
  dsimp only
  rw [if_neg (by omega), List.drop_zero, Nat.sub_zero, ← List.take_take, List.take_length]
theorem pick_from {vs : List Value} {x : Int} (h : 0 ≤ x) : kms_pick vs (some x) none = vs.drop x.toNat := by
  unfold kms_pick kms_lo kms_hi
  dsimp only
  rw [if_neg (by omega)]
  by_cases hx : x.toNat ≤ vs.length
  · rw [Nat.min_eq_left hx, ← List.length_drop, List.take_length]
  · rw [Nat.min_eq_right (by omega), List.drop_length, List.drop_eq_nil_of_le (by omega), List.take_nil]
theorem ints_lit6 {vs : List Value} {c0 c1 c2 c3 c4 c5 : Int} (h : IntsAre vs [c0, c1, c2, c3, c4, c5]) : ∃ t0 t1 t2 t3 t4 t5, vs = [.int c0 t0, .int c1 t1, .int c2 t2, .int c3 t3, .int c4 t4, .int c5 t5] := by
  cases h with | cons _ t0 h => cases h with | cons _ t1 h => cases h with | cons _ t2 h => cases h with | cons _ t3 h => cases h with | cons _ t4 h => cases h with | cons _ t5 h => cases h with | nil => exact ⟨_, _, _, _, _, _, rfl⟩
def cellsF (ns : List Int) : List Int := ns.take 6 ++ ([4, 1, 2, 0, 1, 5] : List Int).drop (ns.take 6).length
theorem cellsF_six (ns : List Int) : ∃ c0 c1 c2 c3 c4 c5, cellsF ns = [c0, c1, c2, c3, c4, c5] := by
  match ns with
  | [] => exact ⟨_, _, _, _, _, _, rfl⟩
  | [a] => exact ⟨_, _, _, _, _, _, rfl⟩
  | [a, b] => exact ⟨_, _, _, _, _, _, rfl⟩
  | [a, b, c] => exact ⟨_, _, _, _, _, _, rfl⟩
  | [a, b, c, d] => exact ⟨_, _, _, _, _, _, rfl⟩
  | [a, b, c, d, e] => exact ⟨_, _, _, _, _, _, rfl⟩
  | a :: b :: c :: d :: e :: f :: r => exact ⟨a, b, c, d, e, f, by simp [cellsF]⟩
theorem IntsAre.app {vs us : List Value} {ns ks : List Int} (h : IntsAre vs ns) (k : IntsAre us ks) : IntsAre (vs ++ us) (ns ++ ks) := h.append k
/-- one step is cut off -/
theorem cut {α : Type} {M : Model} {A : Around} {t : Sem α} {Q R : α → Shared → Prop} {E : Value → Shared → Prop} {s : Shared} (h : wpAny M A t R E s) (k : ∀ v s', R v s' → Q v s') : wpAny M A t Q E s := wpAny_mono h (fun v s' r => k v s' r) fun _ _ e => e
theorem fmod6 (c : Int) : c.fmod 6 = 0 ∨ c.fmod 6 = 1 ∨ c.fmod 6 = 2 ∨ c.fmod 6 = 3 ∨ c.fmod 6 = 4 ∨ c.fmod 6 = 5 := by
  have h1 := Int.fmod_nonneg_of_pos c (by decide : (0 : Int) < 6)
  have h2 := Int.fmod_lt_of_pos c (by decide : (0 : Int) < 6)
  omega
theorem six_abs {h₀ h : Heap} {L l : Addr} {R : List (Addr × Obj)} {k : Nat} {a b c d e f : Int} {t1 t2 t3 t4 t5 t6 : Tok} (N : News h₀ L h ((l, listOf #[.int a t1, .int b t2, .int c t3, .int d t4, .int e t5, .int f t6] k) :: R)) :
    ∃ r6 : List Value, News h₀ L h ((l, listOf r6.toArray k) :: R) ∧ IntsAre r6 [a, b, c, d, e, f] :=
  ⟨[.int a t1, .int b t2, .int c t3, .int d t4, .int e t5, .int f t6], N, .cons _ _ (.cons _ _ (.cons _ _ (.cons _ _ (.cons _ _ (.cons _ _ .nil)))))⟩
section
variable {M : Model} {A : Around} {E : Value → Shared → Prop} {s : Shared} {h₀ : Heap} {L a : Addr} {m : Str → Option Value} {cn : Str} {cs : Scope} {ccd : Value} {cl : List (Str × Addr)} {x : Str} {v : Value} {rest : List (Addr × Obj)} {c : Addr} {o : Obj} {v₀ : Option Value}
theorem storeC_H {Q : Unit → Shared → Prop} (F : Fr h₀ L s.heap m) (N : News h₀ L s.heap ((c, o) :: rest)) (off : ∀ p ∈ rest, p.1 ≠ c) (hc : cl.lookup x = some c) (hd : o.data = .cell v₀)
    (h : ∀ h' o', Fr h₀ L h' m → News h₀ L h' ((c, o') :: rest) → o'.data = .cell (some v) → Q () { s with heap := h' })
    (hk : cs.kind = .function := by rfl) (hx : (envX cn cs L a ccd cl).kindOf x = some .cell := by rfl) : wpAny M A (storeName (envX cn cs L a ccd cl) x v) Q E s := by
  have hmem := N (c, o) (.head _)
  refine wpAny_storeName_cell hk hx hc ⟨o, hmem.1, hd⟩ fun h' hv hs => ?_
  obtain ⟨o', ho', hd'⟩ := hv
  refine h h' o' ⟨F.ns.sameBut hs (Ne.symm hmem.2.1), fun b ob e => (hs.2 b (fun q => ?_)).trans (F.keep b ob e), F.above⟩ ?_ hd'
  · rw [q, hmem.2.2] at e; cases e
  · intro p hp
    rcases List.mem_cons.mp hp with rfl | hp
    · exact ⟨ho', hmem.2⟩
    · exact ⟨(hs.2 p.1 (off p hp)).trans (N p (.tail _ hp)).1, (N p (.tail _ hp)).2⟩
end
/-- the six worlds -/
def world (i : Int) : Int × Nat := if i = 0 then (2, 2) else if i = 1 then (2, 3) else if i = 2 then (2, 4) else if i = 3 then (3, 2) else if i = 4 then (3, 3) else (5, 2)
theorem world_ok (i : Int) : (2 ≤ (world i).1 ∧ (world i).1 ≤ 5) ∧ (2 ≤ (world i).2 ∧ (world i).2 ≤ 4) ∧ ((world i).1 = 2 ∨ (world i).1 = 3 ∨ (world i).1 = 5) := by
  unfold world
  split
  · decide
  split
  · decide
  split
  · decide
  split
  · decide
  split <;> decide
theorem world_cases {i : Int} {P : Prop} (h : i = 0 ∨ i = 1 ∨ i = 2 ∨ i = 3 ∨ i = 4 ∨ i = 5) (h0 : i = 0 → P) (h1 : i = 1 → P) (h2 : i = 2 → P) (h3 : i = 3 → P) (h4 : i = 4 → P) (h5 : i = 5 → P) : P := by
  rcases h with h | h | h | h | h | h
  · exact h0 h
  · exact h1 h
  · exact h2 h
  · exact h3 h
  · exact h4 h
  · exact h5 h
end Mine
end

section
open PySem PySem.W PyProof.Rows PySem.Spec PySem.Calls PyProof.Rows.LCg
set_option Elab.async false
set_option maxRecDepth 100000
set_option maxHeartbeats 1000000
namespace Mine
/-- the elements of the ring, by number -/
def el (p : Int) (d k : Nat) : List Int := (partsF (k : Int) p d).map (·.fmod p)
def sqF (p : Int) (ms : List Int) (k : Nat) : List Int := mulM p ms (el p ms.length k) (el p ms.length k)
def foF (p : Int) (ms : List Int) (k : Nat) : List Int := mulM p ms (sqF p ms k) (sqF p ms k)
def pwF (p : Int) (ms : List Int) (k : Nat) : List Int := if p = 2 then sqF p ms k else if p = 3 then mulM p ms (sqF p ms k) (el p ms.length k) else mulM p ms (foF p ms k) (el p ms.length k)
def zrF (p : Int) (ms : List Int) : List Int := (List.replicate ms.length (0 : Int)).map (·.fmod p)
def addM (p : Int) (a b : List Int) : List Int := (List.zipWith (fun x y => (x + y).fmod p) a b).map (·.fmod p)
def ownL (p : Int) (ms : List Int) (n : Nat) : List Nat := (List.range n).filter fun k => decide (sqF p ms k = el p ms.length k)
def fixL (p : Int) (ms : List Int) (n : Nat) : List Nat := (List.range n).filter fun k => decide (pwF p ms k = el p ms.length k)
def goneN (p : Int) (ms : List Int) (n : Nat) : Nat := ((List.range n).filter fun k => decide (foF p ms k = zrF p ms)).length
theorem el_length (p : Int) (d k : Nat) : (el p d k).length = d := by
  unfold el partsF
  rw [List.length_map, List.length_map, rangeKs_length]
  try simp
theorem parts_len (n p : Int) (d : Nat) : (partsF n p d).length = d := by
  unfold partsF
  rw [List.length_map, rangeKs_length]
  try simp
theorem ownL_succ (p : Int) (ms : List Int) (n : Nat) : ownL p ms (n + 1) = ownL p ms n ++ if sqF p ms n = el p ms.length n then [n] else [] := by
  unfold ownL
  rw [List.range_succ, List.filter_append]
  by_cases h : sqF p ms n = el p ms.length n <;> simp [h]
theorem fixL_succ (p : Int) (ms : List Int) (n : Nat) : fixL p ms (n + 1) = fixL p ms n ++ if pwF p ms n = el p ms.length n then [n] else [] := by
  unfold fixL
  rw [List.range_succ, List.filter_append]
  by_cases h : pwF p ms n = el p ms.length n <;> simp [h]
theorem goneN_succ (p : Int) (ms : List Int) (n : Nat) : goneN p ms (n + 1) = goneN p ms n + if foF p ms n = zrF p ms then 1 else 0 := by
  unfold goneN
  rw [List.range_succ, List.filter_append, List.length_append]
  by_cases h : foF p ms n = zrF p ms <;> simp [h]

abbrev cntF (p : Int) (ms : List Int) : Nat := (p ^ ms.length).toNat
/-- what the law asks of one polynomial -/
def POk (p : Int) (ms : List Int) : Prop := ∃ A C : Nat, factF p (ms ++ [1]) = some ((A : Int), (C : Int)) ∧ C ≤ ms.length ∧ A ≤ 4 ∧ (ownL p ms (cntF p ms)).length = 2 ^ A ∧ 2 ≤ (ownL p ms (cntF p ms)).length ∧ 2 ≤ (fixL p ms (cntF p ms)).length ∧
  ((fixL p ms (cntF p ms)).length : Int) = p ^ A ∧ (goneN p ms (cntF p ms) : Int) = p ^ (ms.length - C) ∧
  (mulM p ms (mulM p ms (el p ms.length ((ownL p ms (cntF p ms)).getD ((ownL p ms (cntF p ms)).length - 1) 0)) (el p ms.length ((ownL p ms (cntF p ms)).getD ((ownL p ms (cntF p ms)).length - 2) 0)))
      (mulM p ms (el p ms.length ((ownL p ms (cntF p ms)).getD ((ownL p ms (cntF p ms)).length - 1) 0)) (el p ms.length ((ownL p ms (cntF p ms)).getD ((ownL p ms (cntF p ms)).length - 2) 0))) =
    mulM p ms (el p ms.length ((ownL p ms (cntF p ms)).getD ((ownL p ms (cntF p ms)).length - 1) 0)) (el p ms.length ((ownL p ms (cntF p ms)).getD ((ownL p ms (cntF p ms)).length - 2) 0))) ∧
  (∀ a ∈ (fixL p ms (cntF p ms)).take 4, ∀ b ∈ (fixL p ms (cntF p ms)).drop ((fixL p ms (cntF p ms)).length - 2),
    mulM p ms (el p ms.length a) (el p ms.length b) ∈ (fixL p ms (cntF p ms)).map (el p ms.length) ∧ addM p (el p ms.length a) (el p ms.length b) ∈ (fixL p ms (cntF p ms)).map (el p ms.length)) ∧
  ∀ i < cntF p ms, powM p ms (el p ms.length i) p = pwF p ms i ∧
    powM p ms (addM p (el p ms.length i) (el p ms.length ((i + 1) % cntF p ms))) p = List.zipWith (fun x y => (x + y).fmod p) (pwF p ms i) (pwF p ms ((i + 1) % cntF p ms))

/-- values that answer to numbers -/
inductive Els (P : Value → Nat → Prop) : List Value → List Nat → Prop
  | nil : Els P [] []
  | cons {v j vs js} : P v j → Els P vs js → Els P (v :: vs) (j :: js)
theorem Els.length {P : Value → Nat → Prop} {vs : List Value} {js : List Nat} (h : Els P vs js) : vs.length = js.length := by
  induction h with
  | nil => rfl
  | cons _ _ ih => rw [List.length_cons, List.length_cons, ih]
theorem Els.snoc {P : Value → Nat → Prop} {vs : List Value} {js : List Nat} (h : Els P vs js) {v : Value} {j : Nat} (k : P v j) : Els P (vs ++ [v]) (js ++ [j]) := by
  induction h with
  | nil => exact .cons k .nil
  | cons a _ ih => exact .cons a ih
theorem Els.mono {P Q : Value → Nat → Prop} {vs : List Value} {js : List Nat} (h : Els P vs js) (k : ∀ v j, P v j → Q v j) : Els Q vs js := by
  induction h with
  | nil => exact .nil
  | cons a _ ih => exact .cons (k _ _ a) ih
theorem Els.at {P : Value → Nat → Prop} {vs : List Value} {js : List Nat} (h : Els P vs js) : ∀ {i : Nat} {v : Value}, vs[i]? = some v → ∃ j, js[i]? = some j ∧ P v j := by
  induction h with
  | nil => intro i v e; simp at e
  | cons a _ ih =>
    intro i v e
    cases i with
    | zero => simp at e; exact ⟨_, rfl, e ▸ a⟩
    | succ i => simp at e; simpa using ih e
theorem Els.get {P : Value → Nat → Prop} {vs : List Value} {js : List Nat} (h : Els P vs js) {i : Nat} (hi : i < js.length) : ∃ v, vs[i]? = some v ∧ P v (js[i]) := by
  have hv : i < vs.length := by rw [h.length]; exact hi
  obtain ⟨j, hj, hp⟩ := h.at (List.getElem?_eq_getElem hv)
  rw [List.getElem?_eq_getElem hi] at hj
  cases hj
  exact ⟨_, List.getElem?_eq_getElem hv, hp⟩
theorem Els.drop {P : Value → Nat → Prop} {vs : List Value} {js : List Nat} (h : Els P vs js) : ∀ n, Els P (vs.drop n) (js.drop n) := by
  induction h with
  | nil => intro n; cases n <;> exact .nil
  | cons a r ih =>
    intro n
    cases n with
    | zero => exact .cons a r
    | succ n => exact ih n
theorem Els.take {P : Value → Nat → Prop} {vs : List Value} {js : List Nat} (h : Els P vs js) : ∀ n, Els P (vs.take n) (js.take n) := by
  induction h with
  | nil => intro n; cases n <;> exact .nil
  | cons a r ih =>
    intro n
    cases n with
    | zero => exact .nil
    | succ n => exact .cons a (ih n)

/-- v is an FQP with the coefficients of number j -/
def IsEl (w : World) (S : Addr → Prop) (led : List (Addr × Obj)) (p : Int) (ms : List Int) (v : Value) (j : Nat) : Prop := ∃ x, v = .ref x ∧ FQ w S led x p ms (el p ms.length j)
/-- v is a tuple of the p-th power of number j -/
def IsPw (led : List (Addr × Obj)) (p : Int) (ms : List Int) (v : Value) (j : Nat) : Prop := ∃ T zs k, v = .ref T ∧ (T, tupO zs k) ∈ led ∧ IntsAre zs (pwF p ms j)

theorem FQ.to {w : World} {S : Addr → Prop} {led led' : List (Addr × Obj)} {x : Addr} {p : Int} {ms cs : List Int} {c : String} (h : FQ w S led x p ms cs) (hc : c ≠ "list" ∧ c ≠ "tuple" ∧ c ≠ "dict")
    (k : ∀ q ∈ led, (q.2.cls = .type "list" ∧ S q.1) ∨ q.2.cls = .type c ∨ q ∈ led') : FQ w S led' x p ms cs := by
  obtain ⟨d, D, D2, D3, tp, t1, t2, t3, t4, t5, t6, ys, zs, mvs, k3, h1, h2, h3, h4, h5, h6, h7, h8, h9, h10, h11, h12⟩ := h
  have tup : ∀ T us n, (T, tupO us n) ∈ led → (T, tupO us n) ∈ led' := fun T us n hm => by
    rcases k _ hm with e | e | e
    · exact absurd e.1 (cls_ne (by decide))
    · exact absurd e (cls_ne (Ne.symm hc.2.1))
    · exact e
  refine ⟨d, D, D2, D3, tp, t1, t2, t3, t4, t5, t6, ys, zs, mvs, k3, ?_, ?_, ?_, h4.monoT tup, tup _ _ _ h5, tup _ _ _ h6, h7, h8, h9, h10, h11, h12⟩
  · rcases k _ h1 with e | e | e
    · exact absurd e.1 (by nofun)
    · exact absurd e (by nofun)
    · exact e
  · rcases k _ h2 with e | e | e
    · exact absurd e.1 (cls_ne (by decide))
    · exact absurd e (cls_ne (Ne.symm hc.2.2))
    · exact e
  · rcases k _ h3 with e | e | e
    · exact absurd e.2 h12
    · exact absurd e (cls_ne (Ne.symm hc.1))
    · exact e
theorem fr_cons {h₀ h : Heap} {L : Addr} {m m' : Str → Option Value} (hm : m' = m) (F : Fr h₀ L h m') {x : Str} {v : Value} (e : m x = some v) : Fr h₀ L h (fun y => if y = x then some v else m' y) ∧ (fun y => if y = x then some v else m' y) = m := by
  subst hm
  refine ⟨fr_known F e, ?_⟩
  funext y
  by_cases hy : y = x
  · rw [if_pos hy, hy, e]
  · rw [if_neg hy]
/-- a frame that knows these names -/
def Knows (m : Str → Option Value) (l : List (Str × Value)) : Prop := ∀ p ∈ l, m p.1 = some p.2
theorem Knows.skip {m : Str → Option Value} {l : List (Str × Value)} (h : Knows m l) {x : Str} {v : Value} (n : x ∉ l.map (·.1)) : Knows (fun y => if y = x then some v else m y) l := fun p hp => by
  show (if p.1 = x then _ else _) = _
  rw [if_neg (fun e : p.1 = x => n (e ▸ List.mem_map_of_mem hp))]
  exact h p hp
/-- the tail of a call's ledger, with the table apart -/
theorem Ext2.table {o : Obj} {b led : List (Addr × Obj)} (x : Ext2 (((44 : Nat), o) :: b) led) : ∃ led', (∀ q ∈ ((44 : Nat), o) :: led', q ∈ led) ∧ Ext b led' ∧ ∀ q ∈ led, q = ((44 : Nat), o) ∨ q ∈ led' := by
  obtain ⟨tl, rfl, h⟩ := x
  refine ⟨tl ++ b, fun q hq => ?_, Ext.of (fun q hq p hp => h q (.tail _ hq) p hp) (fun p hp => h _ (.head _) p hp), fun q hq => ?_⟩
  · simp only [List.mem_cons, List.mem_append] at hq ⊢
    rcases hq with hq | hq | hq <;> simp [hq]
  · simp only [List.mem_cons, List.mem_append] at hq ⊢
    rcases hq with hq | hq | hq <;> simp [hq]
/-- the ledger of the main loop, in order again -/
theorem Ext.norm {a b c d : Addr × Obj} {its R led : List (Addr × Obj)} (x : Ext (a :: b :: c :: d :: (its ++ R)) led) (hR : ∀ q ∈ R, q.1 ≠ a.1 ∧ q.1 ≠ b.1 ∧ q.1 ≠ c.1 ∧ q.1 ≠ d.1) (ho : ∀ p ∈ R, ∀ q ∈ its, p.1 ≠ q.1) :
    ∃ R', (∀ q ∈ a :: b :: c :: d :: (its ++ R'), q ∈ led) ∧ Ext R R' ∧ (∀ q ∈ led, q = a ∨ q = b ∨ q = c ∨ q = d ∨ q ∈ its ∨ q ∈ R') ∧ (∀ q ∈ R', q.1 ≠ a.1 ∧ q.1 ≠ b.1 ∧ q.1 ≠ c.1 ∧ q.1 ≠ d.1) ∧ ∀ p ∈ R', ∀ q ∈ its, p.1 ≠ q.1 := by
  obtain ⟨tl, rfl, h, k⟩ := x
  refine ⟨tl ++ R, fun q hq => ?_, Ext.of (fun q hq p hp => h q (by simp [hq]) p hp) k, fun q hq => ?_, fun q hq => ?_, fun p hp q hq => ?_⟩
  · simp only [List.mem_cons, List.mem_append] at hq ⊢
    rcases hq with hq | hq | hq | hq | hq | hq | hq <;> simp [hq]
  · simp only [List.mem_cons, List.mem_append] at hq ⊢
    rcases hq with hq | hq | hq | hq | hq | hq | hq <;> simp [hq]
  · rcases List.mem_append.mp hq with hq | hq
    · exact ⟨h a (by simp) q hq, h b (by simp) q hq, h c (by simp) q hq, h d (by simp) q hq⟩
    · exact hR q hq
  · rcases List.mem_append.mp hp with hp | hp
    · exact h q (by simp [hq]) p hp
    · exact ho p hp q hq
def S4 (De Dp Do Df : Addr) : Addr → Prop := fun a => a = De ∨ a = Dp ∨ a = Do ∨ a = Df
theorem name_map {h₀ h : Heap} {L : Addr} {m : Str → Option Value} (_F : Fr h₀ L h m) : ∃ m', m' = m := ⟨_, rfl⟩
/-- from the loop's ledger to the calls' -/
theorem NF_in {a b c d t : Addr × Obj} {its R : List (Addr × Obj)} : ∀ q ∈ t :: a :: b :: c :: d :: (its ++ R), q ∈ its ++ a :: b :: c :: d :: t :: R := by
  intro q hq
  simp only [List.mem_append, List.mem_cons] at hq ⊢
  rcases hq with h | h | h | h | h | h | h <;> simp [h]
theorem NF_to {a b c d t : Addr × Obj} {its R : List (Addr × Obj)} : ∀ q ∈ its ++ a :: b :: c :: d :: t :: R, q ∈ t :: a :: b :: c :: d :: (its ++ R) := by
  intro q hq
  simp only [List.mem_append, List.mem_cons] at hq ⊢
  rcases hq with h | h | h | h | h | h | h <;> simp [h]
theorem NF_off {a b c d : Addr × Obj} {its R : List (Addr × Obj)} {x : Addr} (ha : a.1 ≠ x) (hb : b.1 ≠ x) (hc : c.1 ≠ x) (hd : d.1 ≠ x) (hi : ∀ q ∈ its, q.1 ≠ x) (hR : ∀ q ∈ R, q.1 ≠ x) : ∀ q ∈ a :: b :: c :: d :: (its ++ R), q.1 ≠ x := by
  intro q hq
  simp only [List.mem_append, List.mem_cons] at hq
  rcases hq with rfl | rfl | rfl | rfl | h | h
  · exact ha
  · exact hb
  · exact hc
  · exact hd
  · exact hi q h
  · exact hR q h
theorem Knows.skipN {m : Str → Option Value} {l : List (Str × Value)} {names : List Str} (h : Knows m l) (hl : l.map (·.1) = names) {x : Str} {v : Value} (n : x ∉ names) : Knows (fun y => if y = x then some v else m y) l := h.skip (hl ▸ n)
abbrev knN : List Str := [Str.ofString "d", Str.ofString "lower", Str.ofString "elements", Str.ofString "powers", Str.ofString "own", Str.ofString "fixed", Str.ofString "many", Str.ofString "degrees", Str.ofString "cells"]
theorem ownL_le (p : Int) (ms : List Int) (n : Nat) : (ownL p ms n).length ≤ n := by
  have := List.length_filter_le (fun k => decide (sqF p ms k = el p ms.length k)) (List.range n)
  rw [List.length_range] at this
  exact this
theorem fixL_le (p : Int) (ms : List Int) (n : Nat) : (fixL p ms n).length ≤ n := by
  have := List.length_filter_le (fun k => decide (pwF p ms k = el p ms.length k)) (List.range n)
  rw [List.length_range] at this
  exact this
theorem NF_44 {a b c d t : Addr × Obj} {R : List (Addr × Obj)} : ∀ q ∈ t :: a :: b :: c :: d :: R, q ∈ a :: b :: c :: d :: t :: R := by
  intro q hq
  simp only [List.mem_cons] at hq ⊢
  rcases hq with h | h | h | h | h | h <;> simp [h]
theorem IsEl.mono {w : World} {S : Addr → Prop} {led led' : List (Addr × Obj)} {p : Int} {ms : List Int} (k : ∀ q ∈ led, q ∈ led') : ∀ v j, IsEl w S led p ms v j → IsEl w S led' p ms v j := fun _ _ ⟨x, e, h⟩ => ⟨x, e, h.mono k⟩
theorem IsPw.mono {led led' : List (Addr × Obj)} {p : Int} {ms : List Int} (k : ∀ q ∈ led, q ∈ led') : ∀ v j, IsPw led p ms v j → IsPw led' p ms v j := fun _ _ ⟨T, zs, n, e, h, i⟩ => ⟨T, zs, n, e, k _ h, i⟩
theorem NF_out {a b c d t : Addr × Obj} {its R : List (Addr × Obj)} : ∀ q ∈ its ++ a :: b :: c :: d :: t :: R, q ∈ a :: b :: c :: d :: t :: (its ++ R) := by
  intro q hq
  simp only [List.mem_append, List.mem_cons] at hq ⊢
  rcases hq with h | h | h | h | h | h | h <;> simp [h]
theorem NF_mon {a b c d t : Addr × Obj} {its R : List (Addr × Obj)} : ∀ q ∈ R, q ∈ a :: b :: c :: d :: t :: (its ++ R) := by
  intro q hq
  simp only [List.mem_append, List.mem_cons]
  exact .inr (.inr (.inr (.inr (.inr (.inr hq)))))
theorem NF_mon4 {a b c d : Addr × Obj} {its R : List (Addr × Obj)} : ∀ q ∈ R, q ∈ a :: b :: c :: d :: (its ++ R) := by
  intro q hq
  simp only [List.mem_append, List.mem_cons]
  exact .inr (.inr (.inr (.inr (.inr hq))))
theorem NF_put {a b c d t : Addr × Obj} {R led : List (Addr × Obj)} (h : ∀ q ∈ a :: b :: c :: d :: R, q ∈ led) : ∀ q ∈ a :: b :: c :: d :: t :: R, q ∈ t :: led := by
  intro q hq
  simp only [List.mem_cons] at hq
  rcases hq with e | e | e | e | e | e
  · exact .tail _ (h q (by simp [e]))
  · exact .tail _ (h q (by simp [e]))
  · exact .tail _ (h q (by simp [e]))
  · exact .tail _ (h q (by simp [e]))
  · exact e ▸ .head _
  · exact .tail _ (h q (by simp [e]))
theorem NF_S4 {De Dp Do Df : Addr} {e p o f : Obj} {R : List (Addr × Obj)} : ∀ a, S4 De Dp Do Df a → ∃ x, (a, x) ∈ (De, e) :: (Dp, p) :: (Do, o) :: (Df, f) :: R := by
  rintro a (rfl | rfl | rfl | rfl)
  · exact ⟨_, .head _⟩
  · exact ⟨_, .tail _ (.head _)⟩
  · exact ⟨_, .tail _ (.tail _ (.head _))⟩
  · exact ⟨_, .tail _ (.tail _ (.tail _ (.head _)))⟩
theorem NF_toR {De Dp Do Df : Addr} {c1 c2 c3 c4 : Obj} {its R' led : List (Addr × Obj)} {c : String} (h1 : c1.cls = .type "list") (h2 : c2.cls = .type "list") (h3 : c3.cls = .type "list") (h4 : c4.cls = .type "list") (hits : ∀ q ∈ its, q.2.cls = .type c)
    (s3 : ∀ q ∈ led, q = (De, c1) ∨ q = (Dp, c2) ∨ q = (Do, c3) ∨ q = (Df, c4) ∨ q ∈ its ∨ q ∈ R') : ∀ q ∈ led, (q.2.cls = .type "list" ∧ S4 De Dp Do Df q.1) ∨ q.2.cls = .type c ∨ q ∈ R' := by
  intro q hq
  rcases s3 q hq with rfl | rfl | rfl | rfl | h | h
  · exact .inl ⟨h1, .inl rfl⟩
  · exact .inl ⟨h2, .inr (.inl rfl)⟩
  · exact .inl ⟨h3, .inr (.inr (.inl rfl))⟩
  · exact .inl ⟨h4, .inr (.inr (.inr rfl))⟩
  · exact .inr (.inl (hits q h))
  · exact .inr (.inr h)
theorem NF_m4 {a b c d : Addr × Obj} {R : List (Addr × Obj)} : ∀ q ∈ R, q ∈ a :: b :: c :: d :: R := by
  intro q hq
  simp only [List.mem_cons]
  exact .inr (.inr (.inr (.inr hq)))
theorem NF_m5 {a b c d t : Addr × Obj} {R : List (Addr × Obj)} : ∀ q ∈ R, q ∈ a :: b :: c :: d :: t :: R := by
  intro q hq
  simp only [List.mem_cons]
  exact .inr (.inr (.inr (.inr (.inr hq))))
theorem NF_off4 {a b c d : Addr × Obj} {R : List (Addr × Obj)} {x : Addr} (ha : a.1 ≠ x) (hb : b.1 ≠ x) (hc : c.1 ≠ x) (hd : d.1 ≠ x) (hR : ∀ q ∈ R, q.1 ≠ x) : ∀ q ∈ a :: b :: c :: d :: R, q.1 ≠ x := by
  intro q hq
  simp only [List.mem_cons] at hq
  rcases hq with rfl | rfl | rfl | rfl | h
  · exact ha
  · exact hb
  · exact hc
  · exact hd
  · exact hR q h
theorem getD_at {l : List Nat} {i : Nat} (h : i < l.length) : l[i] = l.getD i 0 := by
  rw [List.getD_eq_getElem?_getD, List.getElem?_eq_getElem h]
  rfl
end Mine
end

section
open PySem PySem.W PyProof.Rows PySem.Spec PySem.Calls PyProof.Rows.LCg
set_option Elab.async false
set_option maxRecDepth 100000
set_option maxHeartbeats 1000000
namespace Mine
/-- v is a tuple of the coefficients of number j -/
def IsCf (led : List (Addr × Obj)) (p : Int) (d : Nat) (v : Value) (j : Nat) : Prop := ∃ T zs k, v = .ref T ∧ (T, tupO zs k) ∈ led ∧ IntsAre zs (el p d j)
section
variable {prog : Program} {w : World} {A : Around} {E : Value → Shared → Prop} {s : Shared} {h₀ : Heap} {L : Addr} {m : Str → Option Value} {env : Env}
theorem compRest_inv {elt : Expr} {x : Str} {scope : Scope} {cl : List (Str × Addr)} {S : List (Addr × Obj) → Prop} {P : Nat → Value → Prop} {Fin : List Value → List (Addr × Obj) → Prop} {n : Nat} (J : Nat → List Value → List (Addr × Obj) → Prop)
    (fin : ∀ ys news, J n ys news → Fin ys news)
    (step : ∀ i v ys news I oI C oC D m₂ h tk (E' : Value → Shared → Prop), i < n → P i v → J i ys news → NsObj oC m₂ → m₂ x = some v → Fr h₀ L h m → News h₀ L h ((I, oI) :: (C, oC) :: (D, lst ys) :: news) → Off3 I C D news → ((@Ne Nat I C) ∧ (@Ne Nat I D) ∧ (@Ne Nat C D)) →
      wpAny (model prog w) A (eval elt (compEnvC scope cl C env)) (CompEnd h₀ L m { s with heap := h, toks := tk } I oI C oC D (lst ys) S (fun y news' => J (i + 1) (ys ++ [y]) news')) E' { s with heap := h, toks := tk }) :
    ∀ k i ys news, i + k = n → J i ys news → CompRest prog w A h₀ L m env elt x scope cl s S P Fin k i ys news
  | 0, i, ys, news, e, j => fin ys news (by have : i = n := by omega
                                            exact this ▸ j)
  | k + 1, i, ys, news, e, j => fun v I oI C oC D m₂ h tk E' hP hC hx F N off ne =>
    wpAny_mono (step i v ys news I oI C oC D m₂ h tk E' (by omega) hP j hC hx F N off ne) (fun y s₂ ⟨h', tk', news', e', F', N', off', hS, r⟩ =>
      ⟨h', tk', news', e', F', N', off', hS, compRest_inv J fin step k (i + 1) (ys ++ [y]) news' (by omega) r⟩) fun _ _ e => e
end
theorem ints_inj {vs : List Value} {a b : List Int} (h : IntsAre vs a) (k : IntsAre vs b) : a = b := by
  induction h generalizing b with
  | nil => cases k; rfl
  | cons n t _ ih => cases k with | cons _ _ k => rw [ih k]
theorem all_eq (a b : List Int) : ((List.range (min a.length b.length)).all (fun j => a.getD j 0 == b.getD j 0) && a.length == b.length) = decide (a = b) := by
  by_cases h : a = b
  · subst h
    simp
  · rw [decide_eq_false h]
    by_cases hl : a.length = b.length
    · rw [Bool.and_eq_false_iff]
      left
      rw [List.all_eq_false]
      apply Classical.byContradiction
      intro hn
      apply h
      refine List.ext_getElem hl fun i h1 h2 => ?_
      apply Classical.byContradiction
      intro hne
      apply hn
      refine ⟨i, List.mem_range.mpr (by omega), ?_⟩
      rw [List.getD_eq_getElem?_getD, List.getD_eq_getElem?_getD, List.getElem?_eq_getElem h1, List.getElem?_eq_getElem h2]
      simpa using hne
    · simp [hl]
section
variable {A : Around} {s : Shared} {h₀ : Heap} {L : Addr} {led : List (Addr × Obj)}
theorem tup_of (N : News h₀ L s.heap led) {T : Addr} {zs : List Value} {k : Nat} (h : (T, tupO zs k) ∈ led) : s.heap.IsTuple T zs.toArray := ⟨_, (N _ h).1, rfl, k, rfl⟩
/-- equality of tuples of ints -/
theorem rc_ints {T U : Addr} {zs us : List Value} {a b : List Int} (hT : s.heap.IsTuple T zs.toArray) (hU : s.heap.IsTuple U us.toArray) (ha : IntsAre zs a) (hb : IntsAre us b) (hu : A.units < cLine) : PySem.SeqAt.RcAt A s (.ref T) (.ref U) (decide (a = b)) := by
  have h := PySem.SeqAt.RcAt.tuples (A := A) (e := fun j => a.getD j 0 == b.getD j 0) hT hU hu (by
    intro j h1 h2
    have h1' : j < zs.length := by simpa using h1
    have h2' : j < us.length := by simpa using h2
    obtain ⟨x, t, hx, e1⟩ := ha.at j _ (List.getElem?_eq_getElem h1')
    obtain ⟨y, u, hy, e2⟩ := hb.at j _ (List.getElem?_eq_getElem h2')
    have e3 : zs.toArray[j] = .int x t := by simpa using hx
    have e4 : us.toArray[j] = .int y u := by simpa using hy
    rw [e3, e4, List.getD_eq_getElem?_getD, List.getD_eq_getElem?_getD, e1, e2]
    exact PySem.SeqAt.EqAt.int_int x t y u)
  rw [List.size_toArray, List.size_toArray, ha.length, hb.length, all_eq] at h
  exact h
theorem eqAt_ints {T U : Addr} {zs us : List Value} {a b : List Int} (hT : s.heap.IsTuple T zs.toArray) (hU : s.heap.IsTuple U us.toArray) (ha : IntsAre zs a) (hb : IntsAre us b) (hu : A.units < cLine) : PySem.SeqAt.EqAt A s (.ref T) (.ref U) (decide (a = b)) := by
  by_cases e : T = U
  · subst e
    have e2 : zs = us := by
      obtain ⟨o, h1, _, k, h2⟩ := hT
      obtain ⟨o', h1', _, k', h2'⟩ := hU
      rw [h1] at h1'
      cases h1'
      rw [h2] at h2'
      have := Data.seq.inj h2'
      simpa using this.1
    subst e2
    rw [decide_eq_true (ints_inj ha hb)]
    exact PySem.SeqAt.EqAt.same _
  · exact PySem.SeqAt.EqAt.of_refs e (rc_ints hT hU ha hb hu)
/-- a tuple of ints is in a list of such tuples -/
theorem notIn_rows {prog : Program} {w : World} {E : Value → Shared → Prop} {Q : Value → Shared → Prop} (N : News h₀ L s.heap led) {D T : Addr} {c kT : Nat} {ys zs : List Value} {js : List Nat} {p : Int} {d : Nat} {b : List Int} (hD : (D, listOf ys.toArray c) ∈ led) (hy : Els (IsCf led p d) ys js) (hT : (T, tupO zs kT) ∈ led) (hz : IntsAre zs b)
    (hb : b ∈ js.map (el p d)) (hu : A.in1.units < cLine) (h : Q (.bool false) s) : wpAny (model prog w) A (compareOp .NotIn (.ref T) (.ref D)) Q E s := by
  refine PySem.SeqAt.notIn_listAt (fun y => @decide (∃ U us k, y = .ref U ∧ (U, tupO us k) ∈ led ∧ IntsAre us b) (Classical.propDecidable _)) ⟨_, (N _ hD).1, rfl, c, rfl⟩ ?_ ?_
  · intro y hm
    have hm' : y ∈ ys := by simpa using hm
    obtain ⟨i, hi, rfl⟩ := List.mem_iff_getElem.mp hm'
    obtain ⟨j, _, U, us, k, e, hU, hus⟩ := hy.at (List.getElem?_eq_getElem hi)
    rw [e]
    have q := eqAt_ints (A := A.in1) (tup_of N hU) (tup_of N hT) hus hz hu
    by_cases g : el p d j = b
    · have : (∃ U us k, Value.ref U = .ref U ∧ (U, tupO us k) ∈ led ∧ IntsAre us b) := ⟨U, us, k, rfl, hU, g ▸ hus⟩
      rw [@decide_eq_true _ (Classical.propDecidable _) ⟨U, us, k, rfl, hU, g ▸ hus⟩]
      rw [decide_eq_true g] at q
      exact q
    · rw [@decide_eq_false _ (Classical.propDecidable _) (by
        rintro ⟨U', us', k', e', hU', hus'⟩
        cases e'
        have h1 := (N _ hU).1
        rw [(N _ hU').1] at h1
        have h2 := Option.some.inj h1
        have h3 : us' = us := by
          have := Data.seq.inj (congrArg Obj.data h2)
          simpa using this.1
        subst h3
        exact g (ints_inj hus hus'))]
      rw [decide_eq_false g] at q
      exact q
  · have ht : (ys.toArray.any fun y => @decide (∃ U us k, y = .ref U ∧ (U, tupO us k) ∈ led ∧ IntsAre us b) (Classical.propDecidable _)) = true := by
      obtain ⟨j, hj, e⟩ := List.mem_map.mp hb
      obtain ⟨i, hi, rfl⟩ := List.mem_iff_getElem.mp hj
      obtain ⟨v, hv, U, us, k, rfl, hU, hus⟩ := hy.get hi
      rw [Array.any_eq_true]
      have hi2 : i < ys.length := by rw [hy.length]; exact hi
      refine ⟨i, by simpa using hi2, ?_⟩
      have e1 : ys.toArray[i]'(by simpa using hi2) = .ref U := by
        rw [List.getElem?_eq_getElem hi2] at hv
        simpa using Option.some.inj hv
      rw [e1]
      exact @decide_eq_true _ (Classical.propDecidable _) ⟨U, us, k, rfl, hU, e ▸ hus⟩
    rw [ht]
    exact h
end
end Mine
end

section
open PySem PySem.W PyProof.Rows PySem.Spec PySem.Calls PyProof.Rows.LCg
set_option Elab.async false
set_option maxRecDepth 100000
set_option maxHeartbeats 1000000
namespace Mine
theorem Ext.split {its led ledF : List (Addr × Obj)} (x : Ext (its ++ led) ledF) (ho : ∀ p ∈ led, ∀ q ∈ its, p.1 ≠ q.1) :
    ∃ led3, (∀ q ∈ its ++ led3, q ∈ ledF) ∧ (∀ p ∈ led3, ∀ q ∈ its, p.1 ≠ q.1) ∧ Ext led led3 := by
  obtain ⟨tl, rfl, h, k⟩ := x
  refine ⟨tl ++ led, fun q hq => ?_, fun p hp q hq => ?_, Ext.of (fun q hq p hp => h q (List.mem_append_right _ hq) p hp) k⟩
  · simp only [List.mem_append] at hq ⊢
    rcases hq with hq | hq | hq <;> simp [hq]
  · rcases List.mem_append.mp hp with hp | hp
    · exact h q (List.mem_append_left _ hq) p hp
    · exact ho p hp q hq
theorem pick_last2 {vs : List Value} (_h : 2 ≤ vs.length) : kms_pick vs (some (-2)) none = vs.drop (vs.length - 2) := by
  unfold kms_pick kms_lo kms_hi
  dsimp only
  rw [if_pos (by decide)]
  rw [show (-(-2 : Int)).toNat = 2 from rfl, ← List.length_drop, List.take_length]
theorem IsCf.mono {led led' : List (Addr × Obj)} {p : Int} {d : Nat} (k : ∀ q ∈ led, q ∈ led') : ∀ v j, IsCf led p d v j → IsCf led' p d v j := fun _ _ ⟨T, zs, n, e, h, i⟩ => ⟨T, zs, n, e, k _ h, i⟩
theorem its_44 {t : Addr × Obj} {its R : List (Addr × Obj)} : ∀ q ∈ t :: (its ++ R), q ∈ its ++ t :: R := by
  intro q hq
  simp only [List.mem_append, List.mem_cons] at hq ⊢
  rcases hq with h | h | h <;> simp [h]
theorem its_out {t : Addr × Obj} {its R led : List (Addr × Obj)} (h : ∀ q ∈ its ++ R, q ∈ led) : ∀ q ∈ its ++ t :: R, q ∈ t :: led := by
  intro q hq
  simp only [List.mem_append, List.mem_cons] at hq
  rcases hq with e | e | e
  · exact .tail _ (h q (List.mem_append_left _ e))
  · exact e ▸ .head _
  · exact .tail _ (h q (List.mem_append_right _ e))
theorem IsCf.drop {ps : Array Value} {led : List (Addr × Obj)} {p : Int} {d : Nat} : ∀ v j, IsCf (((44 : Nat), TabO ps) :: led) p d v j → IsCf led p d v j := fun _ _ ⟨T, zs, n, e, h, i⟩ => by
  rcases List.mem_cons.mp h with h | h
  · exact absurd (congrArg (fun q => q.2.cls) h) (by nofun)
  · exact ⟨T, zs, n, e, h, i⟩
end Mine
end

section
open PySem PySem.W PyProof.Rows PySem.Spec PySem.Calls PyProof.Rows.LCg
set_option Elab.async false
set_option maxRecDepth 100000
set_option maxHeartbeats 1000000
namespace Mine
theorem redOut_length (ms : List (Int × Int)) : ∀ (n : Nat) (b : List Int), (redOut b ms n).length = b.length - n
  | 0, _ => rfl
  | n + 1, b => by
    show (redOut (redIn b.dropLast n (b.getLastD 0) ms) ms n).length = _
    rw [redOut_length ms n, redIn_length, List.length_dropLast]
    omega
theorem mulM_length (p : Int) (ms a b : List Int) (h : 1 ≤ ms.length) : (mulM p ms a b).length = ms.length := by
  unfold mulM mulF
  rw [List.length_map, List.length_map, redOut_length, mulOut_length, List.length_replicate]
  omega
theorem pwF_length (p : Int) (ms : List Int) (k : Nat) (h : 1 ≤ ms.length) : (pwF p ms k).length = ms.length := by
  unfold pwF
  split
  · exact mulM_length _ _ _ _ h
  split
  · exact mulM_length _ _ _ _ h
  · exact mulM_length _ _ _ _ h
/-- stands in the context where == is between tuples -/
def AtEnd : Prop := True
theorem cmp_tups {prog : Program} {w : World} {A : Around} {s : Shared} {h₀ : Heap} {L : Addr} {led : List (Addr × Obj)} {E : Value → Shared → Prop} {Q : Value → Shared → Prop} (N : News h₀ L s.heap led) {T U : Addr} {k1 k2 : Nat} {zs us : List Value} {a b : List Int} (h1 : (T, tupO zs k1) ∈ led) (h2 : (U, tupO us k2) ∈ led)
    (ha : IntsAre zs a) (hb : IntsAre us b) (hu : A.units < cLine) (e : a = b) (h : Q (.bool true) s) : wpAny (model prog w) A (compareOp .Eq (.ref T) (.ref U)) Q E s :=
  rc_ints (tup_of N h1) (tup_of N h2) ha hb hu prog w E Q (by rw [decide_eq_true e]; exact h)
end Mine
end

section
open PySem PySem.W PyProof.Rows
set_option Elab.async false
set_option maxRecDepth 100000
namespace Mine
/-- the product written out, degree by degree -/
def f2 (p m0 m1 a b c d : Int) : List Int := [((a*c - b*d*m0).fmod p).fmod p, ((a*d+b*c - b*d*m1).fmod p).fmod p]
theorem mul2 (p m0 m1 a b c d : Int) : mulM p [m0,m1] [a,b] [c,d] = f2 p m0 m1 a b c d := by
  unfold f2
  by_cases h0 : m0 = 0 <;> by_cases h1 : m1 = 0 <;>
  simp [mulM, mulF, mcs, enumP, mulOut, mulIn, addAt, redOut, redIn, subAt, h0, h1, List.zipIdx]
def g3 (p m0 m1 m2 c0 c1 c2 c4 t : Int) : List Int := [((c0 - t*m0).fmod p).fmod p, ((c1 - c4*m0 - t*m1).fmod p).fmod p, ((c2 - c4*m1 - t*m2).fmod p).fmod p]
def f3 (p m0 m1 m2 a b c d e f : Int) : List Int := g3 p m0 m1 m2 (a*d) (a*e+b*d) (a*f+b*e+c*d) (c*f) (b*f+c*e-c*f*m2)
theorem mul3 (p m0 m1 m2 a b c d e f : Int) : mulM p [m0,m1,m2] [a,b,c] [d,e,f] = f3 p m0 m1 m2 a b c d e f := by
  unfold f3 g3
  by_cases h0 : m0 = 0 <;> by_cases h1 : m1 = 0 <;> by_cases h2 : m2 = 0 <;>
  simp [mulM, mulF, mcs, enumP, mulOut, mulIn, addAt, redOut, redIn, subAt, h0, h1, h2, List.zipIdx]
def i4 (p m0 m1 m2 m3 c0 c1 c2 c3 c6 t5 t4 : Int) : List Int := [((c0 - t4*m0).fmod p).fmod p, ((c1 - t5*m0 - t4*m1).fmod p).fmod p, ((c2 - c6*m0 - t5*m1 - t4*m2).fmod p).fmod p, ((c3 - c6*m1 - t5*m2 - t4*m3).fmod p).fmod p]
def h4 (p m0 m1 m2 m3 c0 c1 c2 c3 c4 c6 t5 : Int) : List Int := i4 p m0 m1 m2 m3 c0 c1 c2 c3 c6 t5 (c4-c6*m2-t5*m3)
def g4 (p m0 m1 m2 m3 c0 c1 c2 c3 c4 c5 c6 : Int) : List Int := h4 p m0 m1 m2 m3 c0 c1 c2 c3 c4 c6 (c5-c6*m3)
def f4 (p m0 m1 m2 m3 a b c d e f g h : Int) : List Int := g4 p m0 m1 m2 m3 (a*e) (a*f+b*e) (a*g+b*f+c*e) (a*h+b*g+c*f+d*e) (b*h+c*g+d*f) (c*h+d*g) (d*h)
theorem mul4 (p m0 m1 m2 m3 a b c d e f g h : Int) : mulM p [m0,m1,m2,m3] [a,b,c,d] [e,f,g,h] = f4 p m0 m1 m2 m3 a b c d e f g h := by
  unfold f4 g4 h4 i4
  by_cases h0 : m0 = 0 <;> by_cases h1 : m1 = 0 <;> by_cases h2 : m2 = 0 <;> by_cases h3 : m3 = 0 <;>
  simp [mulM, mulF, mcs, enumP, mulOut, mulIn, addAt, redOut, redIn, subAt, h0, h1, h2, h3, List.zipIdx]
def mulX (p : Int) (ms a b : List Int) : List Int :=
  match ms, a, b with
  | [m0,m1], [a,b], [c,d] => f2 p m0 m1 a b c d
  | [m0,m1,m2], [a,b,c], [d,e,f] => f3 p m0 m1 m2 a b c d e f
  | [m0,m1,m2,m3], [a,b,c,d], [e,f,g,h] => f4 p m0 m1 m2 m3 a b c d e f g h
  | ms, a, b => mulM p ms a b
theorem mulX_eq (p : Int) (ms a b : List Int) : mulX p ms a b = mulM p ms a b := by
  unfold mulX
  split
  · exact (mul2 ..).symm
  · exact (mul3 ..).symm
  · exact (mul4 ..).symm
  · rfl
/-- the elements and the sums with the next one, as tables -/
def okE (p : Int) (d n : Nat) (E : List (List Int)) (su : List Nat) : Bool :=
  (List.range n).all fun k => el p d k == E.getD k [] && decide (su.getD k 0 < n) && addM p (E.getD k []) (E.getD ((k + 1) % n) []) == E.getD (su.getD k 0) []
/-- the squares and the p-th powers, as tables -/
def okT (p : Int) (n : Nat) (E : List (List Int)) (su sq pw : List Nat) (ms : List Int) : Bool :=
  (List.range n).all fun k => decide (sq.getD k 0 < n) && mulX p ms (E.getD k []) (E.getD k []) == E.getD (sq.getD k 0) [] && mulX p ms (oneM p ms) (E.getD k []) == E.getD k [] &&
    (if p = 2 then decide (pw.getD k 0 = sq.getD k 0)
      else if p = 3 then mulX p ms (E.getD (sq.getD k 0) []) (E.getD k []) == E.getD (pw.getD k 0) [] && mulX p ms (E.getD k []) (E.getD (sq.getD k 0) []) == E.getD (pw.getD k 0) []
      else mulX p ms (E.getD (sq.getD (sq.getD k 0) 0) []) (E.getD k []) == E.getD (pw.getD k 0) [] && mulX p ms (E.getD k []) (E.getD (sq.getD (sq.getD k 0) 0) []) == E.getD (pw.getD k 0) []) &&
    List.zipWith (fun x y => (x + y).fmod p) (E.getD (pw.getD k 0) []) (E.getD (pw.getD ((k + 1) % n) 0) []) == E.getD (pw.getD (su.getD k 0) 0) []
/-- the counts and the few products -/
def okR (p : Int) (n : Nat) (E : List (List Int)) (sq pw own fix : List Nat) (A C : Nat) (ms : List Int) : Bool :=
  decide (factF p (ms ++ [1]) = some ((A : Int), (C : Int))) && decide (cntF p ms = n) && decide (C ≤ ms.length) && decide (A ≤ 4) &&
  decide ((List.range n).filter (fun k => E.getD (sq.getD k 0) [] == E.getD k []) = own) && decide ((List.range n).filter (fun k => E.getD (pw.getD k 0) [] == E.getD k []) = fix) &&
  decide (own.length = 2 ^ A) && decide (2 ≤ own.length) && decide (2 ≤ fix.length) && decide ((fix.length : Int) = p ^ A) &&
  decide ((((List.range n).filter fun k => E.getD (sq.getD (sq.getD k 0) 0) [] == zrF p ms).length : Int) = p ^ (ms.length - C)) &&
  own.all (fun k => decide (k < n)) && fix.all (fun k => decide (k < n)) &&
  (fun x => mulX p ms x x == x) (mulX p ms (E.getD (own.getD (own.length - 1) 0) []) (E.getD (own.getD (own.length - 2) 0) [])) &&
  (fix.take 4).all fun a => (fix.drop (fix.length - 2)).all fun b => (fix.map fun k => E.getD k []).contains (mulX p ms (E.getD a []) (E.getD b [])) && (fix.map fun k => E.getD k []).contains (addM p (E.getD a []) (E.getD b []))
def okA (p : Int) (n : Nat) (E : List (List Int)) (su sq pw own fix : List Nat) (A C : Nat) (ms : List Int) : Bool := okT p n E su sq pw ms && okR p n E sq pw own fix A C ms
theorem dec_beq (a b : List Int) : decide (a = b) = (a == b) := by
  by_cases h : a = b
  · rw [decide_eq_true h, beq_iff_eq.mpr h]
  · rw [decide_eq_false h]
    exact (beq_eq_false_iff_ne.mpr h).symm
theorem allR {n : Nat} {f : Nat → Bool} (h : (List.range n).all f = true) {k : Nat} (hk : k < n) : f k = true := List.all_eq_true.mp h k (List.mem_range.mpr hk)
theorem filR {n : Nat} {f g : Nat → Bool} (h : ∀ k < n, f k = g k) : (List.range n).filter f = (List.range n).filter g := List.filter_congr fun k hk => h k (List.mem_range.mp hk)
theorem ok_POk {p : Int} {d n : Nat} {E : List (List Int)} {su sq pw own fix : List Nat} {A C : Nat} {ms : List Int} (hp : p = 2 ∨ p = 3 ∨ p = 5) (hd : ms.length = d) (hE : okE p d n E su = true) (h : okA p n E su sq pw own fix A C ms = true) : POk p ms := by
  subst hd
  unfold okA at h
  rw [Bool.and_eq_true] at h
  obtain ⟨hT, hR⟩ := h
  unfold okE at hE
  unfold okT at hT
  unfold okR at hR
  simp only [Bool.and_eq_true, decide_eq_true_eq, mulX_eq, beq_iff_eq] at hR
  obtain ⟨⟨⟨⟨⟨⟨⟨⟨⟨⟨⟨⟨⟨⟨r1, r2⟩, r3⟩, r4⟩, r5⟩, r6⟩, r7⟩, r8⟩, r9⟩, r10⟩, r11⟩, r12⟩, r13⟩, r14⟩, r15⟩ := hR
  have e1 : ∀ k < n, el p ms.length k = E.getD k [] ∧ su.getD k 0 < n ∧ addM p (E.getD k []) (E.getD ((k + 1) % n) []) = E.getD (su.getD k 0) [] := by
    intro k hk
    have := allR hE hk
    simp only [Bool.and_eq_true, decide_eq_true_eq, beq_iff_eq] at this
    exact ⟨this.1.1, this.1.2, this.2⟩
  have t1 : ∀ k < n, sq.getD k 0 < n ∧ mulM p ms (E.getD k []) (E.getD k []) = E.getD (sq.getD k 0) [] ∧ mulM p ms (oneM p ms) (E.getD k []) = E.getD k [] ∧
      (if p = 2 then pw.getD k 0 = sq.getD k 0 else if p = 3 then mulM p ms (E.getD (sq.getD k 0) []) (E.getD k []) = E.getD (pw.getD k 0) [] ∧ mulM p ms (E.getD k []) (E.getD (sq.getD k 0) []) = E.getD (pw.getD k 0) []
        else mulM p ms (E.getD (sq.getD (sq.getD k 0) 0) []) (E.getD k []) = E.getD (pw.getD k 0) [] ∧ mulM p ms (E.getD k []) (E.getD (sq.getD (sq.getD k 0) 0) []) = E.getD (pw.getD k 0) []) ∧
      List.zipWith (fun x y => (x + y).fmod p) (E.getD (pw.getD k 0) []) (E.getD (pw.getD ((k + 1) % n) 0) []) = E.getD (pw.getD (su.getD k 0) 0) [] := by
    intro k hk
    have := allR hT hk
    simp only [Bool.and_eq_true, decide_eq_true_eq, beq_iff_eq, mulX_eq] at this
    obtain ⟨⟨⟨⟨a, b⟩, c⟩, q⟩, e⟩ := this
    refine ⟨a, b, c, ?_, e⟩
    rcases hp with rfl | rfl | rfl
    · simpa using q
    · simpa using q
    · simpa using q
  have q1 : ∀ k < n, sqF p ms k = E.getD (sq.getD k 0) [] := by
    intro k hk
    unfold sqF
    rw [(e1 k hk).1]
    exact (t1 k hk).2.1
  have q2 : ∀ k < n, foF p ms k = E.getD (sq.getD (sq.getD k 0) 0) [] := by
    intro k hk
    unfold foF
    rw [q1 k hk]
    exact (t1 _ (t1 k hk).1).2.1
  have q3 : ∀ k < n, pwF p ms k = E.getD (pw.getD k 0) [] := by
    intro k hk
    have h4 := (t1 k hk).2.2.2.1
    unfold pwF
    rw [q1 k hk, q2 k hk, (e1 k hk).1]
    rcases hp with rfl | rfl | rfl
    · rw [if_pos rfl] at h4 ⊢
      rw [h4]
    · rw [if_neg (by decide), if_pos rfl] at h4 ⊢
      exact h4.1
    · rw [if_neg (by decide), if_neg (by decide)] at h4 ⊢
      exact h4.1
  have q4 : ∀ k < n, powM p ms (E.getD k []) p = E.getD (pw.getD k 0) [] := by
    intro k hk
    have h4 := (t1 k hk).2.2.2.1
    unfold powM
    dsimp only
    rw [(t1 k hk).2.1, (t1 k hk).2.2.1, (t1 _ (t1 k hk).1).2.1, (t1 _ (t1 k hk).1).2.2.1]
    rcases hp with rfl | rfl | rfl
    · rw [if_pos rfl] at h4 ⊢
      rw [h4]
    · rw [if_neg (by decide), if_pos rfl] at h4 ⊢
      exact h4.2
    · rw [if_neg (by decide), if_neg (by decide)] at h4 ⊢
      exact h4.2
  have o1 : ownL p ms (cntF p ms) = own := by
    rw [r2, ← r5]
    unfold ownL
    refine filR fun k hk => ?_
    rw [q1 k hk, (e1 k hk).1]
    exact dec_beq _ _
  have o2 : fixL p ms (cntF p ms) = fix := by
    rw [r2, ← r6]
    unfold fixL
    refine filR fun k hk => ?_
    rw [q3 k hk, (e1 k hk).1]
    exact dec_beq _ _
  have o3 : goneN p ms (cntF p ms) = ((List.range n).filter fun k => E.getD (sq.getD (sq.getD k 0) 0) [] == zrF p ms).length := by
    rw [r2]
    unfold goneN
    rw [filR (g := fun k => E.getD (sq.getD (sq.getD k 0) 0) [] == zrF p ms) fun k hk => ?_]
    rw [q2 k hk]
    exact dec_beq _ _
  have ownlt : ∀ i < own.length, own.getD i 0 < n := fun i hi => by
    have := List.all_eq_true.mp r12 _ (List.getElem_mem hi)
    rw [List.getD_eq_getElem?_getD, List.getElem?_eq_getElem hi]
    exact of_decide_eq_true this
  have fixlt : ∀ a ∈ fix, a < n := fun a ha => of_decide_eq_true (List.all_eq_true.mp r13 _ ha)
  have fmap : fix.map (el p ms.length) = fix.map fun k => E.getD k [] := List.map_congr_left fun a ha => (e1 a (fixlt a ha)).1
  refine ⟨A, C, r1, r3, r4, ?_⟩
  rw [o1, o2, o3]
  refine ⟨r7, r8, r9, r10, r11, ?_, ?_, ?_⟩
  · rw [(e1 _ (ownlt (own.length - 1) (by omega))).1, (e1 _ (ownlt (own.length - 2) (by omega))).1]
    exact r14
  · intro a ha b hb
    have ha' := List.mem_of_mem_take ha
    have hb' := List.mem_of_mem_drop hb
    have := List.all_eq_true.mp (List.all_eq_true.mp r15 a ha) b hb
    rw [Bool.and_eq_true, List.contains_iff_mem, List.contains_iff_mem] at this
    rw [fmap, (e1 a (fixlt a ha')).1, (e1 b (fixlt b hb')).1]
    exact this
  · intro i hi
    rw [r2] at hi ⊢
    have hj : (i + 1) % n < n := Nat.mod_lt _ (by omega)
    rw [(e1 i hi).1, (e1 _ hj).1, (e1 i hi).2.2, q3 i hi, q3 _ hj, q4 i hi, q4 _ (e1 i hi).2.1]
    exact ⟨rfl, (t1 i hi).2.2.2.2.symm⟩
def E22 : List (List Int) := [[0, 0], [1, 0], [0, 1], [1, 1]]
def s22 : List Nat := [1, 3, 1, 3]
theorem e22 : okE 2 2 4 E22 s22 = true := by decide +kernel
theorem k22_0 : okA 2 4 E22 s22 [0, 1, 0, 1] [0, 1, 0, 1] [0, 1] [0, 1] 1 1 [0, 0] = true := by decide +kernel
theorem k22_1 : okA 2 4 E22 s22 [0, 1, 1, 0] [0, 1, 1, 0] [0, 1] [0, 1] 1 1 [1, 0] = true := by decide +kernel
theorem k22_2 : okA 2 4 E22 s22 [0, 1, 2, 3] [0, 1, 2, 3] [0, 1, 2, 3] [0, 1, 2, 3] 2 2 [0, 1] = true := by decide +kernel
theorem k22_3 : okA 2 4 E22 s22 [0, 1, 3, 2] [0, 1, 3, 2] [0, 1] [0, 1] 1 2 [1, 1] = true := by decide +kernel
theorem w22 {ms : List Int} (hl : ms.length = 2) (h : ∀ x ∈ ms, 0 ≤ x ∧ x < 2) : POk 2 ms := by
  match ms, hl, h with
  | [a, b], _, h =>
    have ha := h a (by simp)
    have hb := h b (by simp)
    have ca : a = 0 ∨ a = 1 := by omega
    have cb : b = 0 ∨ b = 1 := by omega
    clear ha hb
    rcases ca with rfl | rfl <;> rcases cb with rfl | rfl
    · exact ok_POk (by decide) rfl e22 k22_0
    · exact ok_POk (by decide) rfl e22 k22_2
    · exact ok_POk (by decide) rfl e22 k22_1
    · exact ok_POk (by decide) rfl e22 k22_3
def E23 : List (List Int) := [[0, 0, 0], [1, 0, 0], [0, 1, 0], [1, 1, 0], [0, 0, 1], [1, 0, 1], [0, 1, 1], [1, 1, 1]]
def s23 : List Nat := [1, 3, 1, 7, 1, 3, 1, 7]
theorem e23 : okE 2 3 8 E23 s23 = true := by decide +kernel
theorem k23_0 : okA 2 8 E23 s23 [0, 1, 4, 5, 0, 1, 4, 5] [0, 1, 4, 5, 0, 1, 4, 5] [0, 1] [0, 1] 1 1 [0, 0, 0] = true := by decide +kernel
theorem k23_1 : okA 2 8 E23 s23 [0, 1, 4, 5, 2, 3, 6, 7] [0, 1, 4, 5, 2, 3, 6, 7] [0, 1, 6, 7] [0, 1, 6, 7] 2 3 [1, 0, 0] = true := by decide +kernel
theorem k23_2 : okA 2 8 E23 s23 [0, 1, 4, 5, 4, 5, 0, 1] [0, 1, 4, 5, 4, 5, 0, 1] [0, 1, 4, 5] [0, 1, 4, 5] 2 2 [0, 1, 0] = true := by decide +kernel
theorem k23_3 : okA 2 8 E23 s23 [0, 1, 4, 5, 6, 7, 2, 3] [0, 1, 4, 5, 6, 7, 2, 3] [0, 1] [0, 1] 1 3 [1, 1, 0] = true := by decide +kernel
theorem k23_4 : okA 2 8 E23 s23 [0, 1, 4, 5, 4, 5, 0, 1] [0, 1, 4, 5, 4, 5, 0, 1] [0, 1, 4, 5] [0, 1, 4, 5] 2 2 [0, 0, 1] = true := by decide +kernel
theorem k23_5 : okA 2 8 E23 s23 [0, 1, 4, 5, 7, 6, 3, 2] [0, 1, 4, 5, 7, 6, 3, 2] [0, 1] [0, 1] 1 3 [1, 0, 1] = true := by decide +kernel
theorem k23_6 : okA 2 8 E23 s23 [0, 1, 4, 5, 2, 3, 6, 7] [0, 1, 4, 5, 2, 3, 6, 7] [0, 1, 6, 7] [0, 1, 6, 7] 2 3 [0, 1, 1] = true := by decide +kernel
theorem k23_7 : okA 2 8 E23 s23 [0, 1, 4, 5, 1, 0, 5, 4] [0, 1, 4, 5, 1, 0, 5, 4] [0, 1] [0, 1] 1 1 [1, 1, 1] = true := by decide +kernel
theorem w23 {ms : List Int} (hl : ms.length = 3) (h : ∀ x ∈ ms, 0 ≤ x ∧ x < 2) : POk 2 ms := by
  match ms, hl, h with
  | [a, b, c], _, h =>
    have ha := h a (by simp)
    have hb := h b (by simp)
    have hc := h c (by simp)
    have ca : a = 0 ∨ a = 1 := by omega
    have cb : b = 0 ∨ b = 1 := by omega
    have cc : c = 0 ∨ c = 1 := by omega
    clear ha hb hc
    rcases ca with rfl | rfl <;> rcases cb with rfl | rfl <;> rcases cc with rfl | rfl
    · exact ok_POk (by decide) rfl e23 k23_0
    · exact ok_POk (by decide) rfl e23 k23_4
    · exact ok_POk (by decide) rfl e23 k23_2
    · exact ok_POk (by decide) rfl e23 k23_6
    · exact ok_POk (by decide) rfl e23 k23_1
    · exact ok_POk (by decide) rfl e23 k23_5
    · exact ok_POk (by decide) rfl e23 k23_3
    · exact ok_POk (by decide) rfl e23 k23_7
def E24 : List (List Int) := [[0, 0, 0, 0], [1, 0, 0, 0], [0, 1, 0, 0], [1, 1, 0, 0], [0, 0, 1, 0], [1, 0, 1, 0], [0, 1, 1, 0], [1, 1, 1, 0], [0, 0, 0, 1], [1, 0, 0, 1], [0, 1, 0, 1], [1, 1, 0, 1], [0, 0, 1, 1], [1, 0, 1, 1], [0, 1, 1, 1], [1, 1, 1, 1]]
def s24 : List Nat := [1, 3, 1, 7, 1, 3, 1, 15, 1, 3, 1, 7, 1, 3, 1, 15]
theorem e24 : okE 2 4 16 E24 s24 = true := by decide +kernel
theorem k24_0 : okA 2 16 E24 s24 [0, 1, 4, 5, 0, 1, 4, 5, 0, 1, 4, 5, 0, 1, 4, 5] [0, 1, 4, 5, 0, 1, 4, 5, 0, 1, 4, 5, 0, 1, 4, 5] [0, 1] [0, 1] 1 1 [0, 0, 0, 0] = true := by decide +kernel
theorem k24_1 : okA 2 16 E24 s24 [0, 1, 4, 5, 1, 0, 5, 4, 4, 5, 0, 1, 5, 4, 1, 0] [0, 1, 4, 5, 1, 0, 5, 4, 4, 5, 0, 1, 5, 4, 1, 0] [0, 1] [0, 1] 1 1 [1, 0, 0, 0] = true := by decide +kernel
theorem k24_2 : okA 2 16 E24 s24 [0, 1, 4, 5, 2, 3, 6, 7, 8, 9, 12, 13, 10, 11, 14, 15] [0, 1, 4, 5, 2, 3, 6, 7, 8, 9, 12, 13, 10, 11, 14, 15] [0, 1, 6, 7, 8, 9, 14, 15] [0, 1, 6, 7, 8, 9, 14, 15] 3 4 [0, 1, 0, 0] = true := by decide +kernel
theorem k24_3 : okA 2 16 E24 s24 [0, 1, 4, 5, 3, 2, 7, 6, 12, 13, 8, 9, 15, 14, 11, 10] [0, 1, 4, 5, 3, 2, 7, 6, 12, 13, 8, 9, 15, 14, 11, 10] [0, 1] [0, 1] 1 4 [1, 1, 0, 0] = true := by decide +kernel
theorem k24_4 : okA 2 16 E24 s24 [0, 1, 4, 5, 4, 5, 0, 1, 4, 5, 0, 1, 0, 1, 4, 5] [0, 1, 4, 5, 4, 5, 0, 1, 4, 5, 0, 1, 0, 1, 4, 5] [0, 1, 4, 5] [0, 1, 4, 5] 2 2 [0, 0, 1, 0] = true := by decide +kernel
theorem k24_5 : okA 2 16 E24 s24 [0, 1, 4, 5, 5, 4, 1, 0, 1, 0, 5, 4, 4, 5, 0, 1] [0, 1, 4, 5, 5, 4, 1, 0, 1, 0, 5, 4, 4, 5, 0, 1] [0, 1] [0, 1] 1 2 [1, 0, 1, 0] = true := by decide +kernel
theorem k24_6 : okA 2 16 E24 s24 [0, 1, 4, 5, 6, 7, 2, 3, 14, 15, 10, 11, 8, 9, 12, 13] [0, 1, 4, 5, 6, 7, 2, 3, 14, 15, 10, 11, 8, 9, 12, 13] [0, 1, 10, 11] [0, 1, 10, 11] 2 4 [0, 1, 1, 0] = true := by decide +kernel
theorem k24_7 : okA 2 16 E24 s24 [0, 1, 4, 5, 7, 6, 3, 2, 11, 10, 15, 14, 12, 13, 8, 9] [0, 1, 4, 5, 7, 6, 3, 2, 11, 10, 15, 14, 12, 13, 8, 9] [0, 1, 12, 13] [0, 1, 12, 13] 2 4 [1, 1, 1, 0] = true := by decide +kernel
theorem k24_8 : okA 2 16 E24 s24 [0, 1, 4, 5, 8, 9, 12, 13, 8, 9, 12, 13, 0, 1, 4, 5] [0, 1, 4, 5, 8, 9, 12, 13, 8, 9, 12, 13, 0, 1, 4, 5] [0, 1, 8, 9] [0, 1, 8, 9] 2 2 [0, 0, 0, 1] = true := by decide +kernel
theorem k24_9 : okA 2 16 E24 s24 [0, 1, 4, 5, 9, 8, 13, 12, 15, 14, 11, 10, 6, 7, 2, 3] [0, 1, 4, 5, 9, 8, 13, 12, 15, 14, 11, 10, 6, 7, 2, 3] [0, 1] [0, 1] 1 4 [1, 0, 0, 1] = true := by decide +kernel
theorem k24_10 : okA 2 16 E24 s24 [0, 1, 4, 5, 10, 11, 14, 15, 6, 7, 2, 3, 12, 13, 8, 9] [0, 1, 4, 5, 10, 11, 14, 15, 6, 7, 2, 3, 12, 13, 8, 9] [0, 1, 12, 13] [0, 1, 12, 13] 2 4 [0, 1, 0, 1] = true := by decide +kernel
theorem k24_11 : okA 2 16 E24 s24 [0, 1, 4, 5, 11, 10, 15, 14, 1, 0, 5, 4, 10, 11, 14, 15] [0, 1, 4, 5, 11, 10, 15, 14, 1, 0, 5, 4, 10, 11, 14, 15] [0, 1, 14, 15] [0, 1, 14, 15] 2 3 [1, 1, 0, 1] = true := by decide +kernel
theorem k24_12 : okA 2 16 E24 s24 [0, 1, 4, 5, 12, 13, 8, 9, 8, 9, 12, 13, 4, 5, 0, 1] [0, 1, 4, 5, 12, 13, 8, 9, 8, 9, 12, 13, 4, 5, 0, 1] [0, 1, 8, 9] [0, 1, 8, 9] 2 3 [0, 0, 1, 1] = true := by decide +kernel
theorem k24_13 : okA 2 16 E24 s24 [0, 1, 4, 5, 13, 12, 9, 8, 14, 15, 10, 11, 3, 2, 7, 6] [0, 1, 4, 5, 13, 12, 9, 8, 14, 15, 10, 11, 3, 2, 7, 6] [0, 1, 10, 11] [0, 1, 10, 11] 2 4 [1, 0, 1, 1] = true := by decide +kernel
theorem k24_14 : okA 2 16 E24 s24 [0, 1, 4, 5, 14, 15, 10, 11, 4, 5, 0, 1, 10, 11, 14, 15] [0, 1, 4, 5, 14, 15, 10, 11, 4, 5, 0, 1, 10, 11, 14, 15] [0, 1, 14, 15] [0, 1, 14, 15] 2 2 [0, 1, 1, 1] = true := by decide +kernel
theorem k24_15 : okA 2 16 E24 s24 [0, 1, 4, 5, 15, 14, 11, 10, 2, 3, 6, 7, 13, 12, 9, 8] [0, 1, 4, 5, 15, 14, 11, 10, 2, 3, 6, 7, 13, 12, 9, 8] [0, 1] [0, 1] 1 4 [1, 1, 1, 1] = true := by decide +kernel
theorem w24 {ms : List Int} (hl : ms.length = 4) (h : ∀ x ∈ ms, 0 ≤ x ∧ x < 2) : POk 2 ms := by
  match ms, hl, h with
  | [a, b, c, e], _, h =>
    have ha := h a (by simp)
    have hb := h b (by simp)
    have hc := h c (by simp)
    have he := h e (by simp)
    have ca : a = 0 ∨ a = 1 := by omega
    have cb : b = 0 ∨ b = 1 := by omega
    have cc : c = 0 ∨ c = 1 := by omega
    have ce : e = 0 ∨ e = 1 := by omega
    clear ha hb hc he
    rcases ca with rfl | rfl <;> rcases cb with rfl | rfl <;> rcases cc with rfl | rfl <;> rcases ce with rfl | rfl
    · exact ok_POk (by decide) rfl e24 k24_0
    · exact ok_POk (by decide) rfl e24 k24_8
    · exact ok_POk (by decide) rfl e24 k24_4
    · exact ok_POk (by decide) rfl e24 k24_12
    · exact ok_POk (by decide) rfl e24 k24_2
    · exact ok_POk (by decide) rfl e24 k24_10
    · exact ok_POk (by decide) rfl e24 k24_6
    · exact ok_POk (by decide) rfl e24 k24_14
    · exact ok_POk (by decide) rfl e24 k24_1
    · exact ok_POk (by decide) rfl e24 k24_9
    · exact ok_POk (by decide) rfl e24 k24_5
    · exact ok_POk (by decide) rfl e24 k24_13
    · exact ok_POk (by decide) rfl e24 k24_3
    · exact ok_POk (by decide) rfl e24 k24_11
    · exact ok_POk (by decide) rfl e24 k24_7
    · exact ok_POk (by decide) rfl e24 k24_15
def E32 : List (List Int) := [[0, 0], [1, 0], [2, 0], [0, 1], [1, 1], [2, 1], [0, 2], [1, 2], [2, 2]]
def s32 : List Nat := [1, 0, 5, 7, 6, 2, 4, 3, 8]
theorem e32 : okE 3 2 9 E32 s32 = true := by decide +kernel
theorem k32_0 : okA 3 9 E32 s32 [0, 1, 1, 0, 7, 4, 0, 4, 7] [0, 1, 2, 0, 1, 2, 0, 1, 2] [0, 1] [0, 1, 2] 1 1 [0, 0] = true := by decide +kernel
theorem k32_1 : okA 3 9 E32 s32 [0, 1, 1, 2, 6, 3, 2, 3, 6] [0, 1, 2, 6, 7, 8, 3, 4, 5] [0, 1] [0, 1, 2] 1 2 [1, 0] = true := by decide +kernel
theorem k32_2 : okA 3 9 E32 s32 [0, 1, 1, 1, 8, 5, 1, 5, 8] [0, 1, 2, 3, 4, 5, 6, 7, 8] [0, 1, 5, 8] [0, 1, 2, 3, 4, 5, 6, 7, 8] 2 2 [2, 0] = true := by decide +kernel
theorem k32_3 : okA 3 9 E32 s32 [0, 1, 1, 6, 4, 1, 6, 1, 4] [0, 1, 2, 3, 4, 5, 6, 7, 8] [0, 1, 4, 6] [0, 1, 2, 3, 4, 5, 6, 7, 8] 2 2 [0, 1] = true := by decide +kernel
theorem k32_4 : okA 3 9 E32 s32 [0, 1, 1, 8, 3, 0, 8, 0, 3] [0, 1, 2, 1, 2, 0, 2, 0, 1] [0, 1] [0, 1, 2] 1 1 [1, 1] = true := by decide +kernel
theorem k32_5 : okA 3 9 E32 s32 [0, 1, 1, 7, 5, 2, 7, 2, 5] [0, 1, 2, 8, 6, 7, 4, 5, 3] [0, 1] [0, 1, 2] 1 2 [2, 1] = true := by decide +kernel
theorem k32_6 : okA 3 9 E32 s32 [0, 1, 1, 3, 1, 7, 3, 7, 1] [0, 1, 2, 3, 4, 5, 6, 7, 8] [0, 1, 3, 7] [0, 1, 2, 3, 4, 5, 6, 7, 8] 2 2 [0, 2] = true := by decide +kernel
theorem k32_7 : okA 3 9 E32 s32 [0, 1, 1, 5, 0, 6, 5, 6, 0] [0, 1, 2, 2, 0, 1, 1, 2, 0] [0, 1] [0, 1, 2] 1 1 [1, 2] = true := by decide +kernel
theorem k32_8 : okA 3 9 E32 s32 [0, 1, 1, 4, 2, 8, 4, 8, 2] [0, 1, 2, 7, 8, 6, 5, 3, 4] [0, 1] [0, 1, 2] 1 2 [2, 2] = true := by decide +kernel
theorem w32 {ms : List Int} (hl : ms.length = 2) (h : ∀ x ∈ ms, 0 ≤ x ∧ x < 3) : POk 3 ms := by
  match ms, hl, h with
  | [a, b], _, h =>
    have ha := h a (by simp)
    have hb := h b (by simp)
    have ca : a = 0 ∨ a = 1 ∨ a = 2 := by omega
    have cb : b = 0 ∨ b = 1 ∨ b = 2 := by omega
    clear ha hb
    rcases ca with rfl | rfl | rfl <;> rcases cb with rfl | rfl | rfl
    · exact ok_POk (by decide) rfl e32 k32_0
    · exact ok_POk (by decide) rfl e32 k32_3
    · exact ok_POk (by decide) rfl e32 k32_6
    · exact ok_POk (by decide) rfl e32 k32_1
    · exact ok_POk (by decide) rfl e32 k32_4
    · exact ok_POk (by decide) rfl e32 k32_7
    · exact ok_POk (by decide) rfl e32 k32_2
    · exact ok_POk (by decide) rfl e32 k32_5
    · exact ok_POk (by decide) rfl e32 k32_8
def E33 : List (List Int) := [[0, 0, 0], [1, 0, 0], [2, 0, 0], [0, 1, 0], [1, 1, 0], [2, 1, 0], [0, 2, 0], [1, 2, 0], [2, 2, 0], [0, 0, 1], [1, 0, 1], [2, 0, 1], [0, 1, 1], [1, 1, 1], [2, 1, 1], [0, 2, 1], [1, 2, 1], [2, 2, 1], [0, 0, 2], [1, 0, 2], [2, 0, 2], [0, 1, 2], [1, 1, 2], [2, 1, 2], [0, 2, 2], [1, 2, 2], [2, 2, 2]]
def s33 : List Nat := [1, 0, 5, 7, 6, 2, 4, 3, 17, 19, 18, 23, 25, 24, 20, 22, 21, 8, 10, 9, 14, 16, 15, 11, 13, 12, 26]
theorem e33 : okE 3 3 27 E33 s33 = true := by decide +kernel
theorem k33_0 : okA 3 27 E33 s33 [0, 1, 1, 9, 16, 13, 9, 13, 16, 0, 19, 10, 9, 7, 22, 9, 4, 25, 0, 10, 19, 9, 25, 4, 9, 22, 7] [0, 1, 2, 0, 1, 2, 0, 1, 2, 0, 1, 2, 0, 1, 2, 0, 1, 2, 0, 1, 2, 0, 1, 2, 0, 1, 2] [0, 1] [0, 1, 2] 1 1 [0, 0, 0] = true := by decide +kernel
theorem k33_1 : okA 3 27 E33 s33 [0, 1, 1, 9, 16, 13, 9, 13, 16, 6, 25, 16, 16, 5, 20, 17, 0, 21, 6, 16, 25, 17, 21, 0, 16, 20, 5] [0, 1, 2, 2, 0, 1, 1, 2, 0, 1, 2, 0, 0, 1, 2, 2, 0, 1, 2, 0, 1, 1, 2, 0, 0, 1, 2] [0, 1] [0, 1, 2] 1 1 [1, 0, 0] = true := by decide +kernel
theorem k33_2 : okA 3 27 E33 s33 [0, 1, 1, 9, 16, 13, 9, 13, 16, 3, 22, 13, 14, 0, 24, 13, 8, 20, 3, 13, 22, 13, 20, 8, 14, 24, 0] [0, 1, 2, 1, 2, 0, 2, 0, 1, 1, 2, 0, 2, 0, 1, 0, 1, 2, 2, 0, 1, 0, 1, 2, 1, 2, 0] [0, 1] [0, 1, 2] 1 1 [2, 0, 0] = true := by decide +kernel
theorem k33_3 : okA 3 27 E33 s33 [0, 1, 1, 9, 16, 13, 9, 13, 16, 18, 10, 1, 3, 19, 16, 6, 19, 13, 18, 1, 10, 6, 13, 19, 3, 16, 19] [0, 1, 2, 6, 7, 8, 3, 4, 5, 9, 10, 11, 15, 16, 17, 12, 13, 14, 18, 19, 20, 24, 25, 26, 21, 22, 23] [0, 1, 10, 18] [0, 1, 2, 9, 10, 11, 18, 19, 20] 2 3 [0, 1, 0] = true := by decide +kernel
theorem k33_4 : okA 3 27 E33 s33 [0, 1, 1, 9, 16, 13, 9, 13, 16, 24, 16, 7, 1, 26, 14, 5, 24, 9, 24, 7, 16, 5, 9, 24, 1, 14, 26] [0, 1, 2, 8, 6, 7, 4, 5, 3, 16, 17, 15, 12, 13, 14, 11, 9, 10, 23, 21, 22, 19, 20, 18, 24, 25, 26] [0, 1, 14, 26] [0, 1, 2, 12, 13, 14, 24, 25, 26] 2 3 [1, 1, 0] = true := by decide +kernel
theorem k33_5 : okA 3 27 E33 s33 [0, 1, 1, 9, 16, 13, 9, 13, 16, 21, 13, 4, 8, 21, 9, 1, 23, 17, 21, 4, 13, 1, 17, 23, 8, 9, 21] [0, 1, 2, 7, 8, 6, 5, 3, 4, 13, 14, 12, 11, 9, 10, 15, 16, 17, 26, 24, 25, 21, 22, 23, 19, 20, 18] [0, 1, 17, 23] [0, 1, 2, 15, 16, 17, 21, 22, 23] 2 3 [2, 1, 0] = true := by decide +kernel
theorem k33_6 : okA 3 27 E33 s33 [0, 1, 1, 9, 16, 13, 9, 13, 16, 9, 1, 19, 24, 13, 1, 21, 16, 1, 9, 19, 1, 21, 1, 16, 24, 1, 13] [0, 1, 2, 3, 4, 5, 6, 7, 8, 9, 10, 11, 12, 13, 14, 15, 16, 17, 18, 19, 20, 21, 22, 23, 24, 25, 26] [0, 1, 9, 13, 16, 19, 21, 24] [0, 1, 2, 3, 4, 5, 6, 7, 8, 9, 10, 11, 12, 13, 14, 15, 16, 17, 18, 19, 20, 21, 22, 23, 24, 25, 26] 3 3 [0, 2, 0] = true := by decide +kernel
theorem k33_7 : okA 3 27 E33 s33 [0, 1, 1, 9, 16, 13, 9, 13, 16, 15, 7, 25, 22, 11, 8, 20, 12, 6, 15, 25, 7, 20, 6, 12, 22, 8, 11] [0, 1, 2, 5, 3, 4, 7, 8, 6, 13, 14, 12, 15, 16, 17, 11, 9, 10, 26, 24, 25, 19, 20, 18, 21, 22, 23] [0, 1] [0, 1, 2] 1 3 [1, 2, 0] = true := by decide +kernel
theorem k33_8 : okA 3 27 E33 s33 [0, 1, 1, 9, 16, 13, 9, 13, 16, 12, 4, 22, 20, 15, 3, 25, 11, 5, 12, 22, 4, 25, 5, 11, 20, 3, 15] [0, 1, 2, 4, 5, 3, 8, 6, 7, 16, 17, 15, 11, 9, 10, 12, 13, 14, 23, 21, 22, 24, 25, 26, 19, 20, 18] [0, 1] [0, 1, 2] 1 3 [2, 2, 0] = true := by decide +kernel
theorem k33_9 : okA 3 27 E33 s33 [0, 1, 1, 9, 16, 13, 9, 13, 16, 9, 1, 19, 0, 25, 13, 9, 4, 25, 9, 19, 1, 9, 25, 4, 0, 13, 25] [0, 1, 2, 18, 19, 20, 9, 10, 11, 9, 10, 11, 0, 1, 2, 18, 19, 20, 18, 19, 20, 9, 10, 11, 0, 1, 2] [0, 1, 9, 19] [0, 1, 2, 9, 10, 11, 18, 19, 20] 2 2 [0, 0, 1] = true := by decide +kernel
theorem k33_10 : okA 3 27 E33 s33 [0, 1, 1, 9, 16, 13, 9, 13, 16, 16, 8, 26, 8, 21, 9, 15, 1, 22, 16, 26, 8, 15, 22, 1, 8, 9, 21] [0, 1, 2, 20, 18, 19, 10, 11, 9, 8, 6, 7, 25, 26, 24, 15, 16, 17, 4, 5, 3, 21, 22, 23, 14, 12, 13] [0, 1, 15, 22] [0, 1, 2, 15, 16, 17, 21, 22, 23] 2 3 [1, 0, 1] = true := by decide +kernel
theorem k33_11 : okA 3 27 E33 s33 [0, 1, 1, 9, 16, 13, 9, 13, 16, 14, 3, 21, 4, 20, 17, 12, 7, 19, 14, 21, 3, 12, 19, 7, 4, 17, 20] [0, 1, 2, 19, 20, 18, 11, 9, 10, 21, 22, 23, 13, 14, 12, 5, 3, 4, 15, 16, 17, 7, 8, 6, 26, 24, 25] [0, 1] [0, 1, 2] 1 3 [2, 0, 1] = true := by decide +kernel
theorem k33_12 : okA 3 27 E33 s33 [0, 1, 1, 9, 16, 13, 9, 13, 16, 3, 22, 13, 24, 13, 1, 0, 22, 16, 3, 13, 22, 0, 16, 22, 24, 1, 13] [0, 1, 2, 24, 25, 26, 12, 13, 14, 24, 25, 26, 12, 13, 14, 0, 1, 2, 12, 13, 14, 0, 1, 2, 24, 25, 26] [0, 1, 13, 24] [0, 1, 2, 12, 13, 14, 24, 25, 26] 2 2 [0, 1, 1] = true := by decide +kernel
theorem k33_13 : okA 3 27 E33 s33 [0, 1, 1, 9, 16, 13, 9, 13, 16, 1, 20, 11, 23, 9, 6, 6, 19, 13, 1, 11, 20, 6, 13, 19, 23, 6, 9] [0, 1, 2, 26, 24, 25, 13, 14, 12, 9, 10, 11, 8, 6, 7, 22, 23, 21, 18, 19, 20, 17, 15, 16, 4, 5, 3] [0, 1, 11, 20] [0, 1, 2, 9, 10, 11, 18, 19, 20] 2 3 [1, 1, 1] = true := by decide +kernel
theorem k33_14 : okA 3 27 E33 s33 [0, 1, 1, 9, 16, 13, 9, 13, 16, 8, 24, 15, 19, 17, 5, 3, 25, 10, 8, 15, 24, 3, 10, 25, 19, 5, 17] [0, 1, 2, 25, 26, 24, 14, 12, 13, 5, 3, 4, 18, 19, 20, 16, 17, 15, 7, 8, 6, 23, 21, 22, 9, 10, 11] [0, 1] [0, 1, 2] 1 3 [2, 1, 1] = true := by decide +kernel
theorem k33_15 : okA 3 27 E33 s33 [0, 1, 1, 9, 16, 13, 9, 13, 16, 24, 16, 7, 12, 1, 25, 18, 13, 7, 24, 7, 16, 18, 7, 13, 12, 25, 1] [0, 1, 2, 21, 22, 23, 15, 16, 17, 18, 19, 20, 12, 13, 14, 6, 7, 8, 9, 10, 11, 3, 4, 5, 24, 25, 26] [0, 1, 12, 25] [0, 1, 2, 12, 13, 14, 24, 25, 26] 2 3 [0, 2, 1] = true := by decide +kernel
theorem k33_16 : okA 3 27 E33 s33 [0, 1, 1, 9, 16, 13, 9, 13, 16, 22, 14, 5, 11, 6, 21, 24, 10, 4, 22, 5, 14, 24, 4, 10, 11, 21, 6] [0, 1, 2, 23, 21, 22, 16, 17, 15, 10, 11, 9, 3, 4, 5, 26, 24, 25, 20, 18, 19, 13, 14, 12, 6, 7, 8] [0, 1] [0, 1, 2] 1 3 [1, 2, 1] = true := by decide +kernel
theorem k33_17 : okA 3 27 E33 s33 [0, 1, 1, 9, 16, 13, 9, 13, 16, 20, 9, 0, 16, 5, 20, 21, 16, 1, 20, 0, 9, 21, 1, 16, 16, 20, 5] [0, 1, 2, 22, 23, 21, 17, 15, 16, 1, 2, 0, 23, 21, 22, 15, 16, 17, 2, 0, 1, 21, 22, 23, 16, 17, 15] [0, 1, 16, 21] [0, 1, 2, 15, 16, 17, 21, 22, 23] 2 2 [2, 2, 1] = true := by decide +kernel
theorem k33_18 : okA 3 27 E33 s33 [0, 1, 1, 9, 16, 13, 9, 13, 16, 9, 1, 19, 9, 7, 22, 0, 22, 16, 9, 19, 1, 0, 16, 22, 9, 22, 7] [0, 1, 2, 9, 10, 11, 18, 19, 20, 9, 10, 11, 18, 19, 20, 0, 1, 2, 18, 19, 20, 0, 1, 2, 9, 10, 11] [0, 1, 9, 19] [0, 1, 2, 9, 10, 11, 18, 19, 20] 2 2 [0, 0, 2] = true := by decide +kernel
theorem k33_19 : okA 3 27 E33 s33 [0, 1, 1, 9, 16, 13, 9, 13, 16, 17, 6, 24, 15, 4, 19, 7, 20, 14, 17, 24, 6, 7, 14, 20, 15, 19, 4] [0, 1, 2, 11, 9, 10, 19, 20, 18, 24, 25, 26, 8, 6, 7, 16, 17, 15, 12, 13, 14, 23, 21, 22, 4, 5, 3] [0, 1] [0, 1, 2] 1 3 [1, 0, 2] = true := by decide +kernel
theorem k33_20 : okA 3 27 E33 s33 [0, 1, 1, 9, 16, 13, 9, 13, 16, 13, 5, 23, 12, 1, 25, 5, 24, 9, 13, 23, 5, 5, 9, 24, 12, 25, 1] [0, 1, 2, 10, 11, 9, 20, 18, 19, 5, 3, 4, 12, 13, 14, 22, 23, 21, 7, 8, 6, 17, 15, 16, 24, 25, 26] [0, 1, 12, 25] [0, 1, 2, 12, 13, 14, 24, 25, 26] 2 3 [2, 0, 2] = true := by decide +kernel
theorem k33_21 : okA 3 27 E33 s33 [0, 1, 1, 9, 16, 13, 9, 13, 16, 6, 25, 16, 0, 25, 13, 21, 16, 1, 6, 16, 25, 21, 1, 16, 0, 13, 25] [0, 1, 2, 15, 16, 17, 21, 22, 23, 21, 22, 23, 0, 1, 2, 15, 16, 17, 15, 16, 17, 21, 22, 23, 0, 1, 2] [0, 1, 16, 21] [0, 1, 2, 15, 16, 17, 21, 22, 23] 2 2 [0, 1, 2] = true := by decide +kernel
theorem k33_22 : okA 3 27 E33 s33 [0, 1, 1, 9, 16, 13, 9, 13, 16, 5, 21, 12, 6, 22, 10, 19, 14, 8, 5, 12, 21, 19, 8, 14, 6, 10, 22] [0, 1, 2, 17, 15, 16, 22, 23, 21, 8, 6, 7, 13, 14, 12, 18, 19, 20, 4, 5, 3, 9, 10, 11, 26, 24, 25] [0, 1] [0, 1, 2] 1 3 [1, 1, 2] = true := by decide +kernel
theorem k33_23 : okA 3 27 E33 s33 [0, 1, 1, 9, 16, 13, 9, 13, 16, 1, 20, 11, 3, 19, 16, 26, 9, 3, 1, 11, 20, 26, 3, 9, 3, 16, 19] [0, 1, 2, 16, 17, 15, 23, 21, 22, 9, 10, 11, 25, 26, 24, 5, 3, 4, 18, 19, 20, 7, 8, 6, 14, 12, 13] [0, 1, 11, 20] [0, 1, 2, 9, 10, 11, 18, 19, 20] 2 3 [2, 1, 2] = true := by decide +kernel
theorem k33_24 : okA 3 27 E33 s33 [0, 1, 1, 9, 16, 13, 9, 13, 16, 21, 13, 4, 18, 16, 4, 15, 1, 22, 21, 4, 13, 15, 22, 1, 18, 4, 16] [0, 1, 2, 12, 13, 14, 24, 25, 26, 18, 19, 20, 3, 4, 5, 15, 16, 17, 9, 10, 11, 21, 22, 23, 6, 7, 8] [0, 1, 15, 22] [0, 1, 2, 15, 16, 17, 21, 22, 23] 2 3 [0, 2, 2] = true := by decide +kernel
theorem k33_25 : okA 3 27 E33 s33 [0, 1, 1, 9, 16, 13, 9, 13, 16, 20, 9, 0, 24, 13, 1, 13, 8, 20, 20, 0, 9, 13, 20, 8, 24, 1, 13] [0, 1, 2, 14, 12, 13, 25, 26, 24, 1, 2, 0, 12, 13, 14, 26, 24, 25, 2, 0, 1, 13, 14, 12, 24, 25, 26] [0, 1, 13, 24] [0, 1, 2, 12, 13, 14, 24, 25, 26] 2 2 [1, 2, 2] = true := by decide +kernel
theorem k33_26 : okA 3 27 E33 s33 [0, 1, 1, 9, 16, 13, 9, 13, 16, 25, 17, 8, 21, 10, 7, 11, 3, 24, 25, 8, 17, 11, 24, 3, 21, 7, 10] [0, 1, 2, 13, 14, 12, 26, 24, 25, 10, 11, 9, 23, 21, 22, 6, 7, 8, 20, 18, 19, 3, 4, 5, 16, 17, 15] [0, 1] [0, 1, 2] 1 3 [2, 2, 2] = true := by decide +kernel
theorem w33 {ms : List Int} (hl : ms.length = 3) (h : ∀ x ∈ ms, 0 ≤ x ∧ x < 3) : POk 3 ms := by
  match ms, hl, h with
  | [a, b, c], _, h =>
    have ha := h a (by simp)
    have hb := h b (by simp)
    have hc := h c (by simp)
    have ca : a = 0 ∨ a = 1 ∨ a = 2 := by omega
    have cb : b = 0 ∨ b = 1 ∨ b = 2 := by omega
    have cc : c = 0 ∨ c = 1 ∨ c = 2 := by omega
    clear ha hb hc
    rcases ca with rfl | rfl | rfl <;> rcases cb with rfl | rfl | rfl <;> rcases cc with rfl | rfl | rfl
    · exact ok_POk (by decide) rfl e33 k33_0
    · exact ok_POk (by decide) rfl e33 k33_9
    · exact ok_POk (by decide) rfl e33 k33_18
    · exact ok_POk (by decide) rfl e33 k33_3
    · exact ok_POk (by decide) rfl e33 k33_12
    · exact ok_POk (by decide) rfl e33 k33_21
    · exact ok_POk (by decide) rfl e33 k33_6
    · exact ok_POk (by decide) rfl e33 k33_15
    · exact ok_POk (by decide) rfl e33 k33_24
    · exact ok_POk (by decide) rfl e33 k33_1
    · exact ok_POk (by decide) rfl e33 k33_10
    · exact ok_POk (by decide) rfl e33 k33_19
    · exact ok_POk (by decide) rfl e33 k33_4
    · exact ok_POk (by decide) rfl e33 k33_13
    · exact ok_POk (by decide) rfl e33 k33_22
    · exact ok_POk (by decide) rfl e33 k33_7
    · exact ok_POk (by decide) rfl e33 k33_16
    · exact ok_POk (by decide) rfl e33 k33_25
    · exact ok_POk (by decide) rfl e33 k33_2
    · exact ok_POk (by decide) rfl e33 k33_11
    · exact ok_POk (by decide) rfl e33 k33_20
    · exact ok_POk (by decide) rfl e33 k33_5
    · exact ok_POk (by decide) rfl e33 k33_14
    · exact ok_POk (by decide) rfl e33 k33_23
    · exact ok_POk (by decide) rfl e33 k33_8
    · exact ok_POk (by decide) rfl e33 k33_17
    · exact ok_POk (by decide) rfl e33 k33_26
def E52 : List (List Int) := [[0, 0], [1, 0], [2, 0], [3, 0], [4, 0], [0, 1], [1, 1], [2, 1], [3, 1], [4, 1], [0, 2], [1, 2], [2, 2], [3, 2], [4, 2], [0, 3], [1, 3], [2, 3], [3, 3], [4, 3], [0, 4], [1, 4], [2, 4], [3, 4], [4, 4]]
def s52 : List Nat := [1, 3, 0, 2, 9, 11, 13, 10, 12, 19, 21, 23, 20, 22, 4, 6, 8, 5, 7, 14, 16, 18, 15, 17, 24]
theorem e52 : okE 5 2 25 E52 s52 = true := by decide +kernel
theorem k52_0 : okA 5 25 E52 s52 [0, 1, 4, 4, 1, 0, 11, 24, 9, 16, 0, 21, 19, 14, 6, 0, 6, 14, 19, 21, 0, 16, 9, 24, 11] [0, 1, 2, 3, 4, 0, 1, 2, 3, 4, 0, 1, 2, 3, 4, 0, 1, 2, 3, 4, 0, 1, 2, 3, 4] [0, 1] [0, 1, 2, 3, 4] 1 1 [0, 0] = true := by decide +kernel
theorem k52_1 : okA 5 25 E52 s52 [0, 1, 4, 4, 1, 4, 10, 23, 8, 15, 1, 22, 15, 10, 7, 1, 7, 10, 15, 22, 4, 15, 8, 23, 10] [0, 1, 2, 3, 4, 5, 6, 7, 8, 9, 10, 11, 12, 13, 14, 15, 16, 17, 18, 19, 20, 21, 22, 23, 24] [0, 1, 8, 23] [0, 1, 2, 3, 4, 5, 6, 7, 8, 9, 10, 11, 12, 13, 14, 15, 16, 17, 18, 19, 20, 21, 22, 23, 24] 2 2 [1, 0] = true := by decide +kernel
theorem k52_2 : okA 5 25 E52 s52 [0, 1, 4, 4, 1, 3, 14, 22, 7, 19, 2, 23, 16, 11, 8, 2, 8, 11, 16, 23, 3, 19, 7, 22, 14] [0, 1, 2, 3, 4, 20, 21, 22, 23, 24, 15, 16, 17, 18, 19, 10, 11, 12, 13, 14, 5, 6, 7, 8, 9] [0, 1] [0, 1, 2, 3, 4] 1 2 [2, 0] = true := by decide +kernel
theorem k52_3 : okA 5 25 E52 s52 [0, 1, 4, 4, 1, 2, 13, 21, 6, 18, 3, 24, 17, 12, 9, 3, 9, 12, 17, 24, 2, 18, 6, 21, 13] [0, 1, 2, 3, 4, 20, 21, 22, 23, 24, 15, 16, 17, 18, 19, 10, 11, 12, 13, 14, 5, 6, 7, 8, 9] [0, 1] [0, 1, 2, 3, 4] 1 2 [3, 0] = true := by decide +kernel
theorem k52_4 : okA 5 25 E52 s52 [0, 1, 4, 4, 1, 1, 12, 20, 5, 17, 4, 20, 18, 13, 5, 4, 5, 13, 18, 20, 1, 17, 5, 20, 12] [0, 1, 2, 3, 4, 5, 6, 7, 8, 9, 10, 11, 12, 13, 14, 15, 16, 17, 18, 19, 20, 21, 22, 23, 24] [0, 1, 13, 18] [0, 1, 2, 3, 4, 5, 6, 7, 8, 9, 10, 11, 12, 13, 14, 15, 16, 17, 18, 19, 20, 21, 22, 23, 24] 2 2 [4, 0] = true := by decide +kernel
theorem k52_5 : okA 5 25 E52 s52 [0, 1, 4, 4, 1, 20, 6, 19, 4, 11, 5, 1, 24, 19, 11, 5, 11, 19, 24, 1, 20, 11, 4, 19, 6] [0, 1, 2, 3, 4, 5, 6, 7, 8, 9, 10, 11, 12, 13, 14, 15, 16, 17, 18, 19, 20, 21, 22, 23, 24] [0, 1, 6, 20] [0, 1, 2, 3, 4, 5, 6, 7, 8, 9, 10, 11, 12, 13, 14, 15, 16, 17, 18, 19, 20, 21, 22, 23, 24] 2 2 [0, 1] = true := by decide +kernel
theorem k52_6 : okA 5 25 E52 s52 [0, 1, 4, 4, 1, 24, 5, 18, 3, 10, 6, 2, 20, 15, 12, 6, 12, 15, 20, 2, 24, 10, 3, 18, 5] [0, 1, 2, 3, 4, 24, 20, 21, 22, 23, 18, 19, 15, 16, 17, 12, 13, 14, 10, 11, 6, 7, 8, 9, 5] [0, 1] [0, 1, 2, 3, 4] 1 2 [1, 1] = true := by decide +kernel
theorem k52_7 : okA 5 25 E52 s52 [0, 1, 4, 4, 1, 23, 9, 17, 2, 14, 7, 3, 21, 16, 13, 7, 13, 16, 21, 3, 23, 14, 2, 17, 9] [0, 1, 2, 3, 4, 24, 20, 21, 22, 23, 18, 19, 15, 16, 17, 12, 13, 14, 10, 11, 6, 7, 8, 9, 5] [0, 1] [0, 1, 2, 3, 4] 1 2 [2, 1] = true := by decide +kernel
theorem k52_8 : okA 5 25 E52 s52 [0, 1, 4, 4, 1, 22, 8, 16, 1, 13, 8, 4, 22, 17, 14, 8, 14, 17, 22, 4, 22, 13, 1, 16, 8] [0, 1, 2, 3, 4, 5, 6, 7, 8, 9, 10, 11, 12, 13, 14, 15, 16, 17, 18, 19, 20, 21, 22, 23, 24] [0, 1, 14, 17] [0, 1, 2, 3, 4, 5, 6, 7, 8, 9, 10, 11, 12, 13, 14, 15, 16, 17, 18, 19, 20, 21, 22, 23, 24] 2 2 [3, 1] = true := by decide +kernel
theorem k52_9 : okA 5 25 E52 s52 [0, 1, 4, 4, 1, 21, 7, 15, 0, 12, 9, 0, 23, 18, 10, 9, 10, 18, 23, 0, 21, 12, 0, 15, 7] [0, 1, 2, 3, 4, 2, 3, 4, 0, 1, 4, 0, 1, 2, 3, 1, 2, 3, 4, 0, 3, 4, 0, 1, 2] [0, 1] [0, 1, 2, 3, 4] 1 1 [4, 1] = true := by decide +kernel
theorem k52_10 : okA 5 25 E52 s52 [0, 1, 4, 4, 1, 15, 1, 14, 24, 6, 10, 6, 4, 24, 16, 10, 16, 24, 4, 6, 15, 6, 24, 14, 1] [0, 1, 2, 3, 4, 5, 6, 7, 8, 9, 10, 11, 12, 13, 14, 15, 16, 17, 18, 19, 20, 21, 22, 23, 24] [0, 1, 10, 16] [0, 1, 2, 3, 4, 5, 6, 7, 8, 9, 10, 11, 12, 13, 14, 15, 16, 17, 18, 19, 20, 21, 22, 23, 24] 2 2 [0, 2] = true := by decide +kernel
theorem k52_11 : okA 5 25 E52 s52 [0, 1, 4, 4, 1, 19, 0, 13, 23, 5, 11, 7, 0, 20, 17, 11, 17, 20, 0, 7, 19, 5, 23, 13, 0] [0, 1, 2, 3, 4, 4, 0, 1, 2, 3, 3, 4, 0, 1, 2, 2, 3, 4, 0, 1, 1, 2, 3, 4, 0] [0, 1] [0, 1, 2, 3, 4] 1 1 [1, 2] = true := by decide +kernel
theorem k52_12 : okA 5 25 E52 s52 [0, 1, 4, 4, 1, 18, 4, 12, 22, 9, 12, 8, 1, 21, 18, 12, 18, 21, 1, 8, 18, 9, 22, 12, 4] [0, 1, 2, 3, 4, 5, 6, 7, 8, 9, 10, 11, 12, 13, 14, 15, 16, 17, 18, 19, 20, 21, 22, 23, 24] [0, 1, 9, 22] [0, 1, 2, 3, 4, 5, 6, 7, 8, 9, 10, 11, 12, 13, 14, 15, 16, 17, 18, 19, 20, 21, 22, 23, 24] 2 2 [2, 2] = true := by decide +kernel
theorem k52_13 : okA 5 25 E52 s52 [0, 1, 4, 4, 1, 17, 3, 11, 21, 8, 13, 9, 2, 22, 19, 13, 19, 22, 2, 9, 17, 8, 21, 11, 3] [0, 1, 2, 3, 4, 23, 24, 20, 21, 22, 16, 17, 18, 19, 15, 14, 10, 11, 12, 13, 7, 8, 9, 5, 6] [0, 1] [0, 1, 2, 3, 4] 1 2 [3, 2] = true := by decide +kernel
theorem k52_14 : okA 5 25 E52 s52 [0, 1, 4, 4, 1, 16, 2, 10, 20, 7, 14, 5, 3, 23, 15, 14, 15, 23, 3, 5, 16, 7, 20, 10, 2] [0, 1, 2, 3, 4, 23, 24, 20, 21, 22, 16, 17, 18, 19, 15, 14, 10, 11, 12, 13, 7, 8, 9, 5, 6] [0, 1] [0, 1, 2, 3, 4] 1 2 [4, 2] = true := by decide +kernel
theorem k52_15 : okA 5 25 E52 s52 [0, 1, 4, 4, 1, 10, 21, 9, 19, 1, 15, 11, 9, 4, 21, 15, 21, 4, 9, 11, 10, 1, 19, 9, 21] [0, 1, 2, 3, 4, 5, 6, 7, 8, 9, 10, 11, 12, 13, 14, 15, 16, 17, 18, 19, 20, 21, 22, 23, 24] [0, 1, 11, 15] [0, 1, 2, 3, 4, 5, 6, 7, 8, 9, 10, 11, 12, 13, 14, 15, 16, 17, 18, 19, 20, 21, 22, 23, 24] 2 2 [0, 3] = true := by decide +kernel
theorem k52_16 : okA 5 25 E52 s52 [0, 1, 4, 4, 1, 14, 20, 8, 18, 0, 16, 12, 5, 0, 22, 16, 22, 0, 5, 12, 14, 0, 18, 8, 20] [0, 1, 2, 3, 4, 1, 2, 3, 4, 0, 2, 3, 4, 0, 1, 3, 4, 0, 1, 2, 4, 0, 1, 2, 3] [0, 1] [0, 1, 2, 3, 4] 1 1 [1, 3] = true := by decide +kernel
theorem k52_17 : okA 5 25 E52 s52 [0, 1, 4, 4, 1, 13, 24, 7, 17, 4, 17, 13, 6, 1, 23, 17, 23, 1, 6, 13, 13, 4, 17, 7, 24] [0, 1, 2, 3, 4, 5, 6, 7, 8, 9, 10, 11, 12, 13, 14, 15, 16, 17, 18, 19, 20, 21, 22, 23, 24] [0, 1, 7, 24] [0, 1, 2, 3, 4, 5, 6, 7, 8, 9, 10, 11, 12, 13, 14, 15, 16, 17, 18, 19, 20, 21, 22, 23, 24] 2 2 [2, 3] = true := by decide +kernel
theorem k52_18 : okA 5 25 E52 s52 [0, 1, 4, 4, 1, 12, 23, 6, 16, 3, 18, 14, 7, 2, 24, 18, 24, 2, 7, 14, 12, 3, 16, 6, 23] [0, 1, 2, 3, 4, 22, 23, 24, 20, 21, 19, 15, 16, 17, 18, 11, 12, 13, 14, 10, 8, 9, 5, 6, 7] [0, 1] [0, 1, 2, 3, 4] 1 2 [3, 3] = true := by decide +kernel
theorem k52_19 : okA 5 25 E52 s52 [0, 1, 4, 4, 1, 11, 22, 5, 15, 2, 19, 10, 8, 3, 20, 19, 20, 3, 8, 10, 11, 2, 15, 5, 22] [0, 1, 2, 3, 4, 22, 23, 24, 20, 21, 19, 15, 16, 17, 18, 11, 12, 13, 14, 10, 8, 9, 5, 6, 7] [0, 1] [0, 1, 2, 3, 4] 1 2 [4, 3] = true := by decide +kernel
theorem k52_20 : okA 5 25 E52 s52 [0, 1, 4, 4, 1, 5, 16, 4, 14, 21, 20, 16, 14, 9, 1, 20, 1, 9, 14, 16, 5, 21, 14, 4, 16] [0, 1, 2, 3, 4, 5, 6, 7, 8, 9, 10, 11, 12, 13, 14, 15, 16, 17, 18, 19, 20, 21, 22, 23, 24] [0, 1, 5, 21] [0, 1, 2, 3, 4, 5, 6, 7, 8, 9, 10, 11, 12, 13, 14, 15, 16, 17, 18, 19, 20, 21, 22, 23, 24] 2 2 [0, 4] = true := by decide +kernel
theorem k52_21 : okA 5 25 E52 s52 [0, 1, 4, 4, 1, 9, 15, 3, 13, 20, 21, 17, 10, 5, 2, 21, 2, 5, 10, 17, 9, 20, 13, 3, 15] [0, 1, 2, 3, 4, 21, 22, 23, 24, 20, 17, 18, 19, 15, 16, 13, 14, 10, 11, 12, 9, 5, 6, 7, 8] [0, 1] [0, 1, 2, 3, 4] 1 2 [1, 4] = true := by decide +kernel
theorem k52_22 : okA 5 25 E52 s52 [0, 1, 4, 4, 1, 8, 19, 2, 12, 24, 22, 18, 11, 6, 3, 22, 3, 6, 11, 18, 8, 24, 12, 2, 19] [0, 1, 2, 3, 4, 21, 22, 23, 24, 20, 17, 18, 19, 15, 16, 13, 14, 10, 11, 12, 9, 5, 6, 7, 8] [0, 1] [0, 1, 2, 3, 4] 1 2 [2, 4] = true := by decide +kernel
theorem k52_23 : okA 5 25 E52 s52 [0, 1, 4, 4, 1, 7, 18, 1, 11, 23, 23, 19, 12, 7, 4, 23, 4, 7, 12, 19, 7, 23, 11, 1, 18] [0, 1, 2, 3, 4, 5, 6, 7, 8, 9, 10, 11, 12, 13, 14, 15, 16, 17, 18, 19, 20, 21, 22, 23, 24] [0, 1, 12, 19] [0, 1, 2, 3, 4, 5, 6, 7, 8, 9, 10, 11, 12, 13, 14, 15, 16, 17, 18, 19, 20, 21, 22, 23, 24] 2 2 [3, 4] = true := by decide +kernel
theorem k52_24 : okA 5 25 E52 s52 [0, 1, 4, 4, 1, 6, 17, 0, 10, 22, 24, 15, 13, 8, 0, 24, 0, 8, 13, 15, 6, 22, 10, 0, 17] [0, 1, 2, 3, 4, 3, 4, 0, 1, 2, 1, 2, 3, 4, 0, 4, 0, 1, 2, 3, 2, 3, 4, 0, 1] [0, 1] [0, 1, 2, 3, 4] 1 1 [4, 4] = true := by decide +kernel
theorem w52 {ms : List Int} (hl : ms.length = 2) (h : ∀ x ∈ ms, 0 ≤ x ∧ x < 5) : POk 5 ms := by
  match ms, hl, h with
  | [a, b], _, h =>
    have ha := h a (by simp)
    have hb := h b (by simp)
    have ca : a = 0 ∨ a = 1 ∨ a = 2 ∨ a = 3 ∨ a = 4 := by omega
    have cb : b = 0 ∨ b = 1 ∨ b = 2 ∨ b = 3 ∨ b = 4 := by omega
    clear ha hb
    rcases ca with rfl | rfl | rfl | rfl | rfl <;> rcases cb with rfl | rfl | rfl | rfl | rfl
    · exact ok_POk (by decide) rfl e52 k52_0
    · exact ok_POk (by decide) rfl e52 k52_5
    · exact ok_POk (by decide) rfl e52 k52_10
    · exact ok_POk (by decide) rfl e52 k52_15
    · exact ok_POk (by decide) rfl e52 k52_20
    · exact ok_POk (by decide) rfl e52 k52_1
    · exact ok_POk (by decide) rfl e52 k52_6
    · exact ok_POk (by decide) rfl e52 k52_11
    · exact ok_POk (by decide) rfl e52 k52_16
    · exact ok_POk (by decide) rfl e52 k52_21
    · exact ok_POk (by decide) rfl e52 k52_2
    · exact ok_POk (by decide) rfl e52 k52_7
    · exact ok_POk (by decide) rfl e52 k52_12
    · exact ok_POk (by decide) rfl e52 k52_17
    · exact ok_POk (by decide) rfl e52 k52_22
    · exact ok_POk (by decide) rfl e52 k52_3
    · exact ok_POk (by decide) rfl e52 k52_8
    · exact ok_POk (by decide) rfl e52 k52_13
    · exact ok_POk (by decide) rfl e52 k52_18
    · exact ok_POk (by decide) rfl e52 k52_23
    · exact ok_POk (by decide) rfl e52 k52_4
    · exact ok_POk (by decide) rfl e52 k52_9
    · exact ok_POk (by decide) rfl e52 k52_14
    · exact ok_POk (by decide) rfl e52 k52_19
    · exact ok_POk (by decide) rfl e52 k52_24
theorem plain (c : Int) (ms : List Int) (hl : ms.length = (world (c.fmod 6)).2) (h : ∀ x ∈ ms, 0 ≤ x ∧ x < (world (c.fmod 6)).1) : POk (world (c.fmod 6)).1 ms := by
  refine world_cases (fmod6 c) ?_ ?_ ?_ ?_ ?_ ?_
  · intro e; rw [e] at hl h ⊢; exact w22 hl h
  · intro e; rw [e] at hl h ⊢; exact w23 hl h
  · intro e; rw [e] at hl h ⊢; exact w24 hl h
  · intro e; rw [e] at hl h ⊢; exact w32 hl h
  · intro e; rw [e] at hl h ⊢; exact w33 hl h
  · intro e; rw [e] at hl h ⊢; exact w52 hl h
end Mine
end

section
open PySem PySem.W PyProof.Rows PySem.Spec PySem.Calls PyProof.Rows.LCg
set_option Elab.async false
set_option maxRecDepth 100000
set_option maxHeartbeats 1000000
namespace Mine
local macro_rules | `(tactic| k_room) => `(tactic| ktr_room)
local macro_rules | `(tactic| k_units) => `(tactic| ktr_units)
local macro_rules | `(tactic| ktr_enter) => `(tactic| (refine' code_defC ?k1 ?k2 ?k3 ?k4 ?k5 ?kA ?kF ?kK ?k6 ?k7 ?k8 ?k9 ?kB ?kD ?_ ?c2 ?c3 ?c4; (case kA => exact rfl); (case kF => exact rfl); (case kK => first | assumption | exact rfl); (case k1 => k_asm); (case k2 => k_asm); (case k3 => k_asm); (case k4 => k_asm); (case k5 => k_asm); (case k6 => k_is); (case k7 => k_is); (case k8 => ktr_room); (case k9 => exact BindsTo.of_eq rfl); (case kB => exact rfl); (case kD => decide +kernel); (case c2 => exact rfl); (case c3 => exact rfl); (case c4 => exact rfl); k_whole; intro g' L' h' tk' cells' FG' F' N' Y' B' X' T' l1; (try k_lt l1); k_cells Y'; (try simp only [List.cons_append, List.nil_append] at N'); (try dsimp only)))
theorem fill_CA (w : World) : hd.heap_39 w.params = hd.heap_39 w.params ∧ PySem.Challenge.rw_bb0062_01 = PySem.Challenge.rw_bb0062_01 := by
  k_fill
  exact ⟨rfl, rfl⟩
local macro_rules | `(tactic| k_enter) => `(tactic| first
  | (refine' code_def ?k1 ?k2 ?k3 ?k4 ?k5 ?kA ?kF ?kK ?k6 ?k7 ?k8 ?k9 ?kB ?_ ?c2 ?c3 ?c4 ?c5; (case kA => exact rfl); (case kF => exact rfl); (case kK => first | assumption | exact rfl); (case k1 => k_asm); (case k2 => k_asm); (case k3 => k_asm); (case k4 => k_asm); (case k5 => k_asm); (case k6 => k_is); (case k7 => k_is); (case k8 => ktr_room); (case k9 => first | exact BindsTo.of_eq rfl | exact binds_K (by k_in) rfl (by k_is) rfl rfl rfl | fail "k_enter: no rule for these arguments"); (case c5 => decide); (case kB => exact locs rfl); (case c2 => exact rfl); (case c3 => exact rfl); (case c4 => exact rfl); k_whole; intro g' L' h' FG' F' N' B' X' T'; (try dsimp only); (try k_lift B'); (try k_fold))
  | (refine' code_defC ?k1 ?k2 ?k3 ?k4 ?k5 ?kA ?kF ?kK ?k6 ?k7 ?k8 ?k9 ?kB ?kD ?_ ?c2 ?c3 ?c4; (case kA => exact rfl); (case kF => exact rfl); (case kK => first | assumption | exact rfl); (case k1 => k_asm); (case k2 => k_asm); (case k3 => k_asm); (case k4 => k_asm); (case k5 => k_asm); (case k6 => k_is); (case k7 => k_is); (case k8 => ktr_room); (case k9 => first | exact BindsTo.of_eq rfl | exact binds_K (by k_in) rfl (by k_is) rfl rfl rfl | fail "k_enter: no rule for these arguments"); (case kB => exact rfl); (case kD => decide +kernel); (case c2 => exact rfl); (case c3 => exact rfl); (case c4 => exact rfl); k_whole; intro g' L' h' tk' cells' FG' F' N' Y' B' X' T' l1; (try k_lt l1); k_cells Y'; (try simp only [List.cons_append, List.nil_append] at N'); (try dsimp only); (try k_lift B'); (try k_fold)))
local macro_rules | `(tactic| k_mem) => `(tactic| first | with_reducible_and_instances assumption | with_reducible_and_instances exact List.Mem.head _ | (with_reducible_and_instances refine List.Mem.tail _ ?_; k_mem) | (with_reducible_and_instances refine memL ?_; k_mem) | (with_reducible_and_instances refine memR ?_; k_mem))
local macro_rules | `(tactic| k_all) => `(tactic| assumption)
local macro_rules | `(tactic| walk_at "eval ListComp") => `(tactic| (k_here; (with_reducible show wpAny _ _ (eval (Expr.ListComp _ [⟨Expr.Tuple _ _ _, _, _, _⟩] _ _) _) _ _ _); k_dflt (refine' ListComp_pair ?k1 ?k2 ?k3 ?k4 ?k5 ?k6 ?k7 ?k8 ?_; (case k1 => k_asm); (case k2 => exact rfl); (case k3 => decide); (case k4 => exact rfl); (case k5 => decide); (case k6 => exact rfl); (case k7 => exact rfl); (case k8 => decide); k_whole)))
local macro_rules | `(tactic| walk_at "call type:enumerate") => `(tactic| (k_here; (with_reducible show wpAny _ _ (call (Value.type _) [Value.ref _]) _ _ _); k_dflt (first
  | ((refine' enum_list ?k1 ?k2 ?k3 ?k4 ?k5 ?k6 ?_; (case k1 => exact rfl); (case k2 => k_asm); (case k3 => k_asm); (case k4 => k_mem); (case k5 => exact rfl); (case k6 => exact rfl); k_whole); intro I' h' S' l1 off' F' N')
  | ((refine' enum_tup ?k1 ?k2 ?k3 ?k4 ?k5 ?k6 ?_; (case k1 => exact rfl); (case k2 => k_asm); (case k3 => k_asm); (case k4 => k_mem); (case k5 => exact rfl); (case k6 => exact rfl); k_whole); intro I' h' S' R' lL' l1 off' F' N')); (try dsimp only)))
local macro_rules | `(tactic| walk_at "call type:list") => `(tactic| (k_here; (with_reducible show wpAny _ _ (call (Value.type _) [Value.ref _]) _ _ _); k_dflt (refine' list_enumT ?k1 ?k2 ?k3 ?k4 ?k5 ?k6 ?k7 ?k8 ?_; (case k1 => exact rfl); (case k2 => k_asm); (case k3 => k_asm); (case k4 => assumption); (case k5 => assumption); (case k6 => assumption); (case k7 => assumption); (case k8 => (rw [PySem.sizeLine_eq]; omega)); k_whole); intro D' h' tk' ys' c' tl' F' N' p' l1 l2; (try dsimp only)))
local macro_rules | `(tactic| walk_at "call builtin:len") => `(tactic| (k_here; (with_reducible show wpAny _ _ (call (Value.builtin "len") [Value.ref _]) _ _ _); k_dflt (first
  | (refine' kst_len ?k1 ?k2 ?k3 ?k4 ?_; (case k1 => k_asm); (case k2 => k_mem); (case k3 => assumption); (case k4 => omega); k_whole)
  | (refine' len_T ?k1 ?k2 ?k3 ?k4 ?_; (case k1 => k_asm); (case k2 => k_mem); (case k3 => assumption); (case k4 => omega); k_whole))))
local macro_rules | `(tactic| walk_at "subscriptTail") => `(tactic| (k_here; (with_reducible show wpAny _ _ (subscriptTail _ _ (Value.ref _) (Value.int _ _)) _ _ _); k_dflt (
   (refine' item_L ?k1 ?k2 ?k3 ?k4 ?k5 ?_; (case k1 => k_asm); (case k2 => k_mem); (case k3 => omega); (case k4 => omega); (case k5 => assumption); k_whole))))
local macro_rules | `(tactic| walk_at "exec If") => `(tactic| refine wpAny_If ?_)
local macro_rules | `(tactic| walk_at "isTrue Call") => `(tactic| refine isTrue_plain ?_)
local macro_rules | `(tactic| walk_at "exec If Call cons cons") => `(tactic| refine wpAny_If ?_)
local macro_rules | `(tactic| walk_at "exec If Call cons nil") => `(tactic| refine wpAny_If ?_)
local macro_rules | `(tactic| walk_at "exec If Compare cons nil") => `(tactic| refine wpAny_If ?_)
local macro_rules | `(tactic| walk_at "exec If UnaryOp cons nil") => `(tactic| refine wpAny_If ?_)
local macro_rules | `(tactic| walk_at "ite") => `(tactic| first | rw [if_neg (by first | (simp; done) | omega | (simp; omega))] | rw [if_pos (by first | (simp; done) | omega | (simp; omega))])
local macro_rules | `(tactic| walk_at "call type:tuple") => `(tactic| (k_here; (with_reducible show wpAny _ _ (call (Value.type _) [Value.ref _]) _ _ _); k_dflt (first
  | (refine' tuple_tup_N ?k1 ?k2 ?_; (case k1 => k_asm); (case k2 => k_mem); k_whole)
  | (refine' tuple_list_N ?k1 ?k2 ?k3 ?k4 ?_; (case k1 => k_asm); (case k2 => k_asm); (case k3 => k_mem); (case k4 => (rw [PySem.sizeLine_eq]; omega)); k_whole; intro D' h' tk' F' N' l1)
  | (refine' tuple_Gen ?k1 ?k2 ?k3 ?k4 ?k5 ?k6 ?k7 ?_; (case k1 => k_asm); (case k2 => k_asm); (case k3 => assumption); (case k4 => assumption); (case k5 => assumption); (case k6 => assumption); (case k7 => (rw [PySem.sizeLine_eq]; omega)); k_whole; intro D' h' g' tk' ys' e1 e2 F' N' G' l1))))
local macro_rules | `(tactic| walk_at "call ref") => `(tactic| (k_here; (with_reducible show wpAny _ _ (call (Value.ref 156) _) _ _ _); refine Stop.un ?_))
local macro_rules | `(tactic| walk_at "call type:zip") => `(tactic| (k_here; (with_reducible show wpAny _ _ (call (Value.type _) [Value.ref _, Value.ref _]) _ _ _); k_dflt (refine' zip_tup ?k1 ?k2 ?k3 ?k4 ?k5 ?k6 ?k7 ?k8 ?k9 ?_; (case k1 => exact rfl); (case k2 => k_asm); (case k3 => k_asm); (case k4 => k_mem); (case k5 => exact rfl); (case k6 => exact rfl); (case k7 => k_mem); (case k8 => exact rfl); (case k9 => exact rfl); k_whole); intro I' h' S' l1 off' F' N'; (try dsimp only)))
local macro_rules | `(tactic| walk_at "eval Name") => `(tactic| (k_here; (with_reducible show wpAny _ _ (eval (Expr.Name _ _) (compEnvC _ _ _ _)) _ _ _); k_dflt (first
  | (refine' wpAny_Name (wpAny_loadName_local ?k1 ?k2 ?k3 ?k4 ?_); (case k1 => exact rfl); (case k2 => exact rfl); (case k3 => assumption); (case k4 => assumption); k_whole)
  | (refine' ldFreeK ?k1 ?k2 ?_; (case k1 => exact rfl); (case k2 => assumption); k_whole))))
local macro_rules | `(tactic| walk_at "pyIter ref") => `(tactic| (k_here; k_dflt (refine' PSrc.self ?k1 ?_; (case k1 => assumption); k_whole)))
local macro_rules | `(tactic| walk_at "call ref") => `(tactic| (k_here; first
  | ((with_reducible show wpAny _ _ (call (Value.ref 59) _) _ _ _); refine Stop.un ?_)
  | ((with_reducible show wpAny _ _ (call (Value.ref 76) _) _ _ _); refine Stop.un ?_)
  | ((with_reducible show wpAny _ _ (call (Value.ref 95) _) _ _ _); refine Stop.un ?_)
  | ((with_reducible show wpAny _ _ (call (Value.ref 119) _) _ _ _); refine Stop.un ?_)
  | ((with_reducible show wpAny _ _ (call (Value.ref 126) _) _ _ _); refine Stop.un ?_)
  | ((with_reducible show wpAny _ _ (call (Value.ref 153) _) _ _ _); refine Stop.un ?_)
  | ((with_reducible show wpAny _ _ (call (Value.ref 172) _) _ _ _); refine Stop.un ?_)
  | ((with_reducible show wpAny _ _ (call (Value.ref 177) _) _ _ _); refine Stop.un ?_)
  | ((with_reducible show wpAny _ _ (call (Value.ref 184) _) _ _ _); refine Stop.un ?_)))
local macro_rules | `(tactic| walk_at "exec For Tuple Call cons nil") => `(tactic| (k_here; (rename Fr _ _ _ _ => lF'); (with_unfolding_all refine' For_gens lF' ?_; k_whole); skip))
local macro_rules | `(tactic| walk_at "exec For Tuple Call") => `(tactic| (k_here; (rename Fr _ _ _ _ => lF'); (with_unfolding_all refine' For_gens lF' ?_; k_whole); skip))
local macro_rules | `(tactic| walk_at "exec For Tuple Call cons cons") => `(tactic| (k_here; (rename Fr _ _ _ _ => lF'); (with_unfolding_all refine' For_gens lF' ?_; k_whole); skip))
local macro_rules | `(tactic| walk_at "exec For Tuple Attribute cons nil") => `(tactic| (k_here; (rename Fr _ _ _ _ => lF'); (with_unfolding_all refine' For_gens lF' ?_; k_whole); skip))
local macro_rules | `(tactic| walk_at "exec For Tuple Attribute") => `(tactic| (k_here; (rename Fr _ _ _ _ => lF'); (with_unfolding_all refine' For_gens lF' ?_; k_whole); skip))
local macro_rules | `(tactic| walk_at "exec For Tuple Attribute cons cons") => `(tactic| (k_here; (rename Fr _ _ _ _ => lF'); (with_unfolding_all refine' For_gens lF' ?_; k_whole); skip))
local macro_rules | `(tactic| walk_at "exec For Tuple Name cons nil") => `(tactic| (k_here; (rename Fr _ _ _ _ => lF'); (with_unfolding_all refine' For_gens lF' ?_; k_whole); skip))
local macro_rules | `(tactic| walk_at "exec For Tuple Name") => `(tactic| (k_here; (rename Fr _ _ _ _ => lF'); (with_unfolding_all refine' For_gens lF' ?_; k_whole); skip))
local macro_rules | `(tactic| walk_at "exec For Tuple Name cons cons") => `(tactic| (k_here; (rename Fr _ _ _ _ => lF'); (with_unfolding_all refine' For_gens lF' ?_; k_whole); skip))
local macro_rules | `(tactic| walk_at "exec For Name Call cons nil") => `(tactic| (k_here; (rename Fr _ _ _ _ => lF'); (with_unfolding_all refine' For_gens lF' ?_; k_whole); skip))
local macro_rules | `(tactic| walk_at "exec For Name Call") => `(tactic| (k_here; (rename Fr _ _ _ _ => lF'); (with_unfolding_all refine' For_gens lF' ?_; k_whole); skip))
local macro_rules | `(tactic| walk_at "exec For Name Call cons cons") => `(tactic| (k_here; (rename Fr _ _ _ _ => lF'); (with_unfolding_all refine' For_gens lF' ?_; k_whole); skip))
local macro_rules | `(tactic| walk_at "exec For Name Name cons nil") => `(tactic| (k_here; (rename Fr _ _ _ _ => lF'); (with_unfolding_all refine' For_gens lF' ?_; k_whole); skip))
local macro_rules | `(tactic| walk_at "exec For Name Name") => `(tactic| (k_here; (rename Fr _ _ _ _ => lF'); (with_unfolding_all refine' For_gens lF' ?_; k_whole); skip))
local macro_rules | `(tactic| walk_at "exec For Name Name cons cons") => `(tactic| (k_here; (rename Fr _ _ _ _ => lF'); (with_unfolding_all refine' For_gens lF' ?_; k_whole); skip))
local macro_rules | `(tactic| walk_at "exec For Name Subscript cons nil") => `(tactic| (k_here; (rename Fr _ _ _ _ => lF'); (with_unfolding_all refine' For_gens lF' ?_; k_whole); skip))
local macro_rules | `(tactic| walk_at "exec For Name Subscript") => `(tactic| (k_here; (rename Fr _ _ _ _ => lF'); (with_unfolding_all refine' For_gens lF' ?_; k_whole); skip))
local macro_rules | `(tactic| walk_at "exec For Name Subscript cons cons") => `(tactic| (k_here; (rename Fr _ _ _ _ => lF'); (with_unfolding_all refine' For_gens lF' ?_; k_whole); skip))
local macro_rules | `(tactic| walk_at "call type:range") => `(tactic| (k_here; (with_reducible show wpAny _ _ (call (Value.type _) _) (fun xv s₁ => wpAny _ _ (pyIter xv) (fun it s₂ => TurnsG _ _ _ _ _ _ _ _ _ it s₂) _ s₁) _ _); k_dflt (first
  | ((refine' range_1 ?k1 ?k2 ?_; (case k1 => k_asm); (case k2 => k_asm); k_whole); intro r' h' t' u' tk' R' F' N')
  | ((refine' range_3 ?k3 ?k1 ?k2 ?k4 ?_; (case k3 => decide); (case k1 => k_asm); (case k2 => k_asm); (case k4 => first | decide +kernel | (exact PyProof.noPylong_small (by omega))); k_whole); intro r' h' R' F' N'))))
local macro_rules | `(tactic| walk_at "pyIter ref") => `(tactic| (k_here; (with_reducible show wpAny _ _ (pyIter _) (fun it s₂ => TurnsG _ _ _ _ _ _ _ _ _ it s₂) _ _); k_dflt (first | (refine' PSrc.self ?k1 ?_; (case k1 => assumption); k_whole) | refine Stop.un ?_)))
local macro_rules | `(tactic| walk_at "setItem ref int") => `(tactic| (k_here; (with_reducible show wpAny _ _ (setItem (Value.ref _) (Value.int _ _) (Value.int _ _)) _ _ _); k_dflt (refine' setH ?k1 ?k2 ?k3 ?k4 ?k5 ?k6 ?k7 ?_; (case k1 => k_asm); (case k2 => k_asm); (case k3 => assumption); (case k4 => assumption); (case k5 => omega); (case k6 => omega); (case k7 => omega); k_whole); intro h' F' N' i'))
local macro_rules | `(tactic| walk_at "getItem ref int") => `(tactic| (k_here; (with_reducible show wpAny _ _ (getItem (Value.ref _) (Value.int _ _)) _ _ _); k_dflt (refine' ksa_get ?k1 ?k2 ?k3 ?k4 ?k5 ?k6 ?_; (case k1 => k_asm); (case k2 => k_mem); (case k3 => assumption); (case k4 => omega); (case k5 => omega); (case k6 => omega); k_whole); intro t'))
local macro_rules | `(tactic| walk_at "call builtin:list.pop") => `(tactic| (k_here; (with_reducible show wpAny _ _ (call (Value.builtin _) [Value.ref _]) _ _ _); k_dflt (refine' popH ?k1 ?k2 ?k3 ?k4 ?k5 ?_; (case k1 => k_asm); (case k2 => k_asm); (case k3 => assumption); (case k4 => assumption); (case k5 => (rw [PySem.sizeLine_eq]; omega)); k_whole); intro h' us' t' i' F' N'))
local macro_rules | `(tactic| walk_at "eval Name") => `(tactic| (k_here; (with_reducible show wpAny _ _ (eval (Expr.Name _ _) (envOf _ _ _ _ _)) _ _ _); k_dflt (refine' ld ?k1 ?k2 ?_; (case k1 => k_asm); (case k2 => ((try dsimp only); (repeat (refine' fr_skip ?frh ?_; (case frh => decide +kernel))); first | with_reducible assumption | (refine' fr_hit ?fra ?frb; (case fra => rfl); (case frb => rfl)))); k_whole)))
local macro_rules | `(tactic| walk_at "eval Name") => `(tactic| (k_here; (with_reducible show wpAny _ _ (eval (Expr.Name _ _) (envOfC _ _ _ _ _)) _ _ _); k_dflt (refine' nameX_L ?F ?v ?_ ?a ?b; (case F => k_asm); (case a => rfl); (case b => rfl); (case v => ((try dsimp only); (repeat (refine' fr_skip ?frh ?_; (case frh => decide +kernel))); first | with_reducible assumption | (refine' fr_hit ?fra ?frb; (case fra => rfl); (case frb => rfl)))); k_whole)))
local macro_rules | `(tactic| walk_at "eval Name") => `(tactic| (k_here; (with_reducible show wpAny _ _ (eval (Expr.Name _ _) (envOfC _ _ _ _ _)) _ _ _); k_dflt (refine' nameX_C ?N ?c ?m ?d ?_ ?a ?b; (case b => rfl); (case a => rfl); (case N => k_asm); (case c => rfl); (case m => k_mem); (case d => k_asm); k_whole)))
local macro_rules | `(tactic| walk_at "getMethod ref") => `(tactic| (k_here; (with_reducible show wpAny _ _ (getMethod (Value.ref _) (PySem.Str.ofString "pop") _) _ _ _); k_dflt (refine' kl_method ?N ?m PySem.F.slot_list_pop PySem.F.type_list_pop ?_; (case N => k_asm); (case m => k_mem); k_whole)))
local macro_rules | `(tactic| walk_at "binaryOp FloorDiv int int") => `(tactic| (k_here; (with_reducible show wpAny _ _ (binaryOp _ (Value.int _ _) (Value.int (_ ^ _) _)) _ _ _); k_dflt (refine' floordiv_int ?k1 ?_ ?k2; (case k1 => exact pow_ne0 (by omega) _); (case k2 => exact Or.inl (PyProof.noPylong_small (pow_small (by omega) (by omega) (by omega)))); k_whole)))
local macro_rules | `(tactic| walk_at "exec While") => `(tactic| (k_here; refine Stop.un ?_))
local macro_rules | `(tactic| walk_at "exec While Compare") => `(tactic| (k_here; refine Stop.un ?_))
local macro_rules | `(tactic| walk_at "call type:list") => `(tactic| (k_here; (with_reducible show wpAny _ _ (call (Value.type _) [Value.ref _]) _ _ _); k_dflt (refine' list_copy_N ?k2 ?k3 ?k4 ?k8 ?_; (case k2 => k_asm); (case k3 => k_asm); (case k4 => k_mem); (case k8 => (rw [PySem.sizeLine_eq]; omega)); k_whole); intro D' h' c' F' N' l1; (try dsimp only)))
--RULES
local macro_rules | `(tactic| walk_at "subscriptTail Name Slice ref ref") => `(tactic| (k_here; (first | (with_reducible show wpAny _ _ (subscriptTail (Expr.Name (Str.ofString "script") _) _ _ _) _ _ _) | (with_reducible show wpAny _ _ (subscriptTail (Expr.Name (Str.ofString "rest") _) _ _ _) _ _ _) | (with_reducible show wpAny _ _ (subscriptTail (Expr.Name (Str.ofString "fixed") _) _ _ _) _ _ _)); refine Stop.un ?_))
local macro_rules | `(tactic| walk_at "eval Subscript") => `(tactic| (k_here; (with_reducible show wpAny _ _ (eval (Expr.Subscript (Expr.Name (Str.ofString "_law_worlds") _) _ _) _) _ _ _); refine Stop.un ?_))
local macro_rules | `(tactic| walk_at "subscriptTail") => `(tactic| (k_here; (with_reducible show wpAny _ _ (subscriptTail _ _ (Value.ref 167) (Value.int _ _)) _ _ _); refine Stop.un ?_))
local macro_rules | `(tactic| walk_at "call builtin:list.append") => `(tactic| (k_here; (with_reducible show wpAny _ _ (call (Value.builtin _) [Value.ref _, _]) _ _ _); refine Stop.un ?_))
local macro_rules | `(tactic| walk_at "getMethod ref") => `(tactic| (k_here; (with_reducible show wpAny _ _ (getMethod (Value.ref _) (PySem.Str.ofString "append") _) _ _ _); k_dflt (refine' kl_method ?N ?m ?s ?t ?_; (case N => k_asm); (case m => k_mem); (case s => first | exact PySem.F.slot_list_append | exact PySem.slot_list_append); (case t => exact PySem.type_list_append); k_whole)))
local macro_rules | `(tactic| walk_at "eval IfExp") => `(tactic| (k_here; refine Stop.un ?_))
local macro_rules | `(tactic| walk_at "exec If") => `(tactic| (k_here; refine Stop.un ?_))
local macro_rules | `(tactic| walk_at "exec If Compare cons nil") => `(tactic| (k_here; refine Stop.un ?_))
local macro_rules | `(tactic| walk_at "exec If BoolOp cons nil") => `(tactic| (k_here; refine Stop.un ?_))
local macro_rules | `(tactic| walk_at "getMethod ref") => `(tactic| (k_here; (with_reducible show wpAny _ _ (getMethod (Value.ref _) (PySem.Str.ofString "zero") _) _ _ _); k_dflt (refine' method_inst ?k1 ?k2 ?k3 ?k4 ?k5 ?k6 ?k7 ?_; (case k1 => k_asm); (case k2 => k_asm); (case k3 => k_inst); (case k4 => k_is); (case k5 => k_is); (case k6 => k_is); (case k7 => k_get); k_whole)))
local macro_rules | `(tactic| walk_at "exec Assign cons ListComp") => `(tactic| (k_here; (with_reducible show wpAny _ _ (exec (Stmt.Assign [Expr.Name (Str.ofString "rows") _] _ _) _) _ _ _); refine Stop.un ?_))
local macro_rules | `(tactic| k_in) => `(tactic| first | assumption | exact Frag.In.keeps (by k_asm) (Fr.keep (by k_asm)))
local macro_rules | `(tactic| walk_at "compareOp NotIn") => `(tactic| (k_here; refine Stop.un ?_))
local macro_rules | `(tactic| walk_at "compareOp NotIn ref") => `(tactic| (k_here; refine Stop.un ?_))
local macro_rules | `(tactic| walk_at "compareOp NotIn ref ref") => `(tactic| (k_here; refine Stop.un ?_))
local macro_rules | `(tactic| walk_at "subscriptTail Name Constant ref int") => `(tactic| (k_here; (with_reducible show wpAny _ _ (subscriptTail (Expr.Name (Str.ofString "cells") _) (Expr.Constant (Const.int 5) _ _) (Value.ref _) (Value.int _ _)) _ _ _); refine Stop.un ?_))
local macro_rules | `(tactic| walk_at "subscriptTail") => `(tactic| (k_here; (first | (with_reducible show wpAny _ _ (subscriptTail (Expr.Name (Str.ofString "cells") _) (Expr.Constant (Const.int 5) _ _) (Value.ref _) (Value.int _ _)) _ _ _) | (with_reducible show wpAny _ _ (subscriptTail (Expr.Name (Str.ofString "powers") _) _ (Value.ref _) (Value.int _ _)) _ _ _) | (with_reducible show wpAny _ _ (subscriptTail (Expr.Name (Str.ofString "elements") _) _ (Value.ref _) (Value.int _ _)) _ _ _)); refine Stop.un ?_))
local macro_rules | `(tactic| walk_at "binaryOp Mod int int") => `(tactic| (k_here; (with_reducible show wpAny _ _ (binaryOp _ (Value.int _ _) (Value.int (_ ^ _) _)) _ _ _); k_dflt (refine' mod_int ?k1 ?_; (case k1 => exact pow_ne0 (by omega) _); k_whole)))
local macro_rules | `(tactic| walk_at "exec Assign cons ListComp") => `(tactic| (k_here; (with_reducible show wpAny _ _ (exec (Stmt.Assign [Expr.Name (Str.ofString "both") _] _ _) _) _ _ _); refine Stop.un ?_))
local macro_rules | `(tactic| walk_at "compareOp Eq") => `(tactic| (k_here; (have : AtEnd := by with_reducible assumption); refine Stop.un ?_))
local macro_rules | `(tactic| walk_at "compareOp Eq ref") => `(tactic| (k_here; (have : AtEnd := by with_reducible assumption); refine Stop.un ?_))
local macro_rules | `(tactic| walk_at "compareOp Eq ref ref") => `(tactic| (k_here; (have : AtEnd := by with_reducible assumption); refine Stop.un ?_))
local macro_rules | `(tactic| walk_at "subscriptTail") => `(tactic| (k_here; (with_reducible show wpAny _ _ (subscriptTail (Expr.Name (Str.ofString "own") _) _ (Value.ref _) (Value.int _ _)) _ _ _); refine Stop.un ?_))
local macro_rules | `(tactic| walk_at "subscriptTail Name UnaryOp ref int") => `(tactic| (k_here; (with_reducible show wpAny _ _ (subscriptTail (Expr.Name (Str.ofString "own") _) _ (Value.ref _) (Value.int _ _)) _ _ _); refine Stop.un ?_))
local macro_rules | `(tactic| walk_at "subscriptTail Name Constant ref int") => `(tactic| (k_here; (with_reducible show wpAny _ _ (subscriptTail (Expr.Name (Str.ofString "own") _) _ (Value.ref _) (Value.int _ _)) _ _ _); refine Stop.un ?_))
--BODY
theorem fn_is {K : Frag} {f : Addr} {o o' : Obj} {p : Prop} (h' : K.lookup f = some o') (h : K.lookup f = some o) (k : o = o' → p) : p := k (Option.some.inj (h.symm.trans h'))
set_option maxHeartbeats 400000000 in
theorem law_walk (w : World) {oc : Value} {od an : Option Addr} {nm qual : Str} {params : Arguments} {body : List Stmt} {cs : Scope} {dV kV doc pm cdv ct : Value} {osl : Array (Option Value)}
    (hfn : (hd.heap_39 w.params).lookup 189 = some ⟨oc, od, .func (fnOf nm qual params body cs dV kV doc pm an cdv ct), osl⟩)
    (mean : ExcName → Option Value) (mg mb : Str → Option Value) (dp un : Nat) (gd : Option (List Code)) (a : Addr) (ccd : Value) (outer : List Env) (A₀ : Around) (base h₀ : Heap) (L : Addr) (m : Str → Option Value) (o9 : Obj) (s : Shared) (Q : Flow → Shared → Prop) (E : Value → Shared → Prop)
    (B : Below A₀ base outer h₀) (F : Fr h₀ L s.heap m) (X : (hd.heap_39 w.params).In h₀) (T : TopV mean mg mb h₀) (GB : AllBare s.gens) (N : News h₀ L s.heap [(44, TabO #[]), (L + 1, o9)]) (ho9 : o9.data = .cell none)
    (ls : Addr) (vs : List Value) (ns : List Int) (hls : h₀.IsList ls vs.toArray) (hns : IntsAre vs ns) (hn63 : ns.length ≤ 63) (hm : m (Str.ofString "script") = some (.ref ls))
    (PK : ∀ (c : Int) (ms : List Int), ms.length = (world (c.fmod 6)).2 → (∀ x ∈ ms, 0 ≤ x ∧ x < (world (c.fmod 6)).1) → POk (world (c.fmod 6)).1 ms)
    (hdp : dp + 100 < recursionLimit) (hun : un + 1000 < cLine)
    (hE : PassesOwn (model PySem.Challenge.rw_bb0062_01.row.prog w) (ktrTop dp un gd (Str.ofString "law") cs L a ccd (cellsFrom (L + 1) cs.names []) outer) (envOfC (Str.ofString "law") cs L a ccd) E)
    (hQ : ∀ h' g' tk' ps', h₀.StaysIn h' → h'.get? 44 = some (TabO ps') → AllBare g' → Q (.ret (.bool true)) { s with heap := h', gens := g', toks := tk' }) :
    wpAny (model PySem.Challenge.rw_bb0062_01.row.prog w) (ktrTop dp un gd (Str.ofString "law") cs L a ccd (cellsFrom (L + 1) cs.names []) outer) (execs body (envOfC (Str.ofString "law") cs L a ccd)) Q E s := by
  refine' fn_is ?k1 hfn ?k2
  rotate_left
  case k1 => k_is
  intro e
  cases e
  w_on
  have hvl := hns.length
  have hL : 189 < L := Nat.lt_of_lt_of_le (Heap.lt_size (X 189 _ (by k_is))) F.above
  k_steps
  rename_i l1 h1 ll1 h2 F2 N2
  obtain ⟨r6, N2', hr6⟩ := six_abs N2
  clear N2
  have hrl : r6.length = 6 := hr6.length
  refine Stop.go ?_
  refine slice_V (its := vs) F2 N2' (Fr.lst F2 hls) .none (.int 6 _) (by omega) ?_
  intro D1 h3 F3 N3 lD1
  rw [pick_upto (by decide)] at N3
  obtain ⟨v6, e6⟩ : ∃ v6, v6 = vs.take (Int.toNat 6) := ⟨_, rfl⟩
  rw [← e6] at N3
  have hz6 : v6.length ≤ 6 := by rw [e6, List.length_take]; exact Nat.min_le_left ..
  have hi6 : IntsAre v6 (ns.take 6) := e6 ▸ hns.take 6
  have hl6 := hi6.length
  k_steps
  refine Stop.go ?_
  refine slice_V (its := vs) F3 N3 (Fr.lst F3 hls) .none (.int 6 _) (by omega) ?_
  intro D2 h4 F4 N4 lD2
  rw [pick_upto (by decide), ← e6] at N4
  k_steps
  refine Stop.go ?_
  refine slice_V (lo := some ((ns.take 6).length : Int)) F4 N4 (News.isList N4 (.tail _ (.tail _ (.head _)))) (.int _ _) .none (by omega) ?_
  intro D3 h5 F5 N5 lD3
  rw [pick_from (by omega), Int.toNat_natCast] at N5
  obtain ⟨v5, e5⟩ : ∃ v5, v5 = r6.drop (ns.take 6).length := ⟨_, rfl⟩
  rw [← e5] at N5
  have hi5 : IntsAre v5 (([4, 1, 2, 0, 1, 5] : List Int).drop (ns.take 6).length) := e5 ▸ hr6.drop _
  have hz5 : v5.length ≤ 6 := by rw [e5, List.length_drop]; omega
  have hl5 := hi5.length
  k_steps
  rename_i Dc wc hc hIc lDc hd Fc Nc
  obtain ⟨c0, c1, c2, c3, c4, c5, hcs⟩ := cellsF_six ns
  have hIc' : IntsAre wc [c0, c1, c2, c3, c4, c5] := by rw [← hcs]; exact hIc
  obtain ⟨t0, t1, t2, t3, t4, t5, rfl⟩ := ints_lit6 hIc'
  have N6 : News h₀ L hd [(L + 1, o9), (Dc, listOf [Value.int c0 t0, .int c1 t1, .int c2 t2, .int c3 t3, .int c4 t4, .int c5 t5].toArray 0), (44, TabO #[])] := kst_newsOf Nc (by
    intro q hq
    simp only [List.mem_cons, List.not_mem_nil, or_false] at hq ⊢
    rcases hq with h | h | h <;> simp [h])
  have off6 : ∀ q ∈ [(Dc, listOf [Value.int c0 t0, .int c1 t1, .int c2 t2, .int c3 t3, .int c4 t4, .int c5 t5].toArray 0), (44, TabO #[])], q.1 ≠ L + 1 := by
    intro q hq
    simp only [List.mem_cons, List.not_mem_nil, or_false] at hq
    rcases hq with rfl | rfl
    · exact Nat.ne_of_gt lDc.2.2.2.2.2
    · exact Nat.ne_of_lt (Nat.lt_succ_of_lt (Nat.lt_trans (by decide) hL))
  have hDc44 : Dc ≠ 44 := Nat.ne_of_gt lDc.2.2.2.2.1
  clear Nc hIc lDc lD1 lD2 lD3 ll1
  refine Stop.go ?_
  refine Subscript_ ?_
  k_steps
  refine Stop.go ?_
  refine cut (R := fun v s' => ∃ T p d tp td tk', v = .ref T ∧ s' = { s with heap := hd, toks := tk' } ∧ IsTup hd T #[.int p tp, .int d td] ∧ (p, d) = ((world (c0.fmod 6)).1, ((world (c0.fmod 6)).2 : Int))) ?_ ?_
  · rw [show List.getD [c0, c1, c2, c3, c4, c5] (Int.toNat 0) 0 = c0 from rfl]
    refine world_cases (fmod6 c0) ?_ ?_ ?_ ?_ ?_ ?_
    all_goals (intro e6'; rw [e6']; refine' topTup_K ?F ?X ?l ?a ?b ?c ?d ?_; (case F => k_asm); (case X => k_asm); (case l => k_is); (case a => decide); (case b => decide); (case c => rfl); (case d => rfl); refine ⟨_, _, _, _, _, _, rfl, rfl, ⟨_, Fc.keep _ _ (X _ _ (by k_is)), rfl, _, rfl⟩, rfl⟩)
  · rintro v s' ⟨T, p', d', tp, td, tk', rfl, rfl, hT, hpd⟩
    obtain ⟨⟨hp, hp2⟩, ⟨hd2, hd4⟩, hp5⟩ := world_ok (c0.fmod 6)
    obtain ⟨p, hpw⟩ : ∃ p, p = (world (c0.fmod 6)).1 := ⟨_, rfl⟩
    obtain ⟨d, hdw⟩ : ∃ d, d = (world (c0.fmod 6)).2 := ⟨_, rfl⟩
    rw [← hpw] at hp hp2 hp5 hpd
    rw [← hdw] at hd2 hd4 hpd
    cases hpd
    k_steps
    rename_i q6 q5 oP dP q4 Dx wx q3 hIx hCx l1x kl4 kl3 kl2 kl1 kl0 qg hIl hBl hLl Dl q2 tq oDl lq q1 l1q Dm wm qh Fq Nq hIm l1m
    have eD : min (Int.toNat (1 + (d : Int))) (List.length [c0, c1, c2, c3, c4, c5]) - 1 = d := by
      simp only [List.length_cons, List.length_nil]
      omega
    rw [eD] at hIl hIm
    obtain ⟨ms, hms⟩ : ∃ ms, ms = List.map (fun k' => Int.fmod k' p') (List.take d (List.drop 1 [c0, c1, c2, c3, c4, c5])) := ⟨_, rfl⟩
    rw [← hms] at hIl hIm
    have hmd : ms.length = d := by
      rw [hms]
      simp
      omega
    have hmp : ∀ x ∈ ms, 0 ≤ x ∧ x < p' := by
      intro x hx
      rw [hms] at hx
      obtain ⟨y, _, rfl⟩ := List.mem_map.mp hx
      exact ⟨Int.fmod_nonneg_of_pos y (by omega), Int.fmod_lt_of_pos y (by omega)⟩
    have hmb : ∀ c ∈ ms, 0 ≤ c ∧ c < 8 := fun x hx => by
      have := hmp x hx
      omega
    have PO : POk p' ms := by
      have := PK c0 ms (by rw [hmd, hdw]) (by rw [← hpw]; exact hmp)
      rw [← hpw] at this
      exact this
    obtain ⟨A, C, hfac, hCd, hA4, hown, hown2, hfix2, hfix, hgone, hprod, hrows, hlast⟩ := PO
    have N1 : News h₀ L qh [(44, TabO #[]), (L + 1, oP), (Dl, lst ys), (Dc, listOf [Value.int c0 t0, .int c1 t1, .int c2 t2, .int c3 t3, .int c4 t4, .int c5 t5].toArray 0), (Dm, listOf wm.toArray 0)] := kst_newsOf Nq (by
      intro q hq
      simp only [List.mem_cons, List.not_mem_nil, or_false] at hq ⊢
      rcases hq with h | h | h | h | h <;> simp [h])
    have off1 : ∀ q ∈ [(L + 1, oP), (Dl, lst ys), (Dc, listOf [Value.int c0 t0, .int c1 t1, .int c2 t2, .int c3 t3, .int c4 t4, .int c5 t5].toArray 0), (Dm, listOf wm.toArray 0)], q.1 ≠ 44 := by
      intro q hq
      simp only [List.mem_cons, List.not_mem_nil, or_false] at hq
      rcases hq with rfl | rfl | rfl | rfl
      · exact Nat.ne_of_gt (Nat.lt_succ_of_lt (Nat.lt_trans (by decide) hL))
      · exact Ne.symm oDl.2.2.2
      · exact hDc44
      · exact Nat.ne_of_gt l1m.2.2.2.2.2
    clear Nq hIx hCx l1x kl4 kl3 kl2 kl1 kl0 hBl hLl l1q l1m oDl off6
    have hwl := hIm.length
    have hyl := hIl.length
    refine Stop.go ?_
    refine spec_use (factors_spec w Dm wm (ms ++ [1]) 0 p' A C tp hIm (by rw [List.length_append, hmd]; show d + 1 ≤ 5; omega) hp hp2 hfac) (by k_asm) (by k_asm) (by k_asm) N1 (by k_asm) (by first | rfl | assumption) (by k_mem) (by ktr_room) (by ktr_units) (Ret.mk ?_)
    intro r led1 h1' tk1 X1 F1 N1' ho1
    obtain ⟨R0, hR0, XR0, hR0'⟩ := X1.table
    obtain ⟨T2, ta, tb, k2, rfl, hT2⟩ := ho1
    have mP1 : (L + 1, oP) ∈ led1 := X1.sub _ (by k_mem)
    have hpw4 := powNat hp hp2 (s := d) hd4
    k_steps
    rename_i z14 z13 z12 tg De z11 lDe Dp z10 lDp Do z9 lDo Df z8 lDf Dt z7 lDt z6 z5 z4 z3 z2 z1 lFz Nz1 r0 hr0 tr ur tkr Rr Fr0 Nr0
    clear lFz Nz1
    have hms2 : 2 ≤ ms.length := by omega
    have hms4 : ms.length ≤ 4 := by omega
    rw [show Int.toNat ((d : Nat) : Int) = ms.length by rw [hmd]; exact Int.toNat_natCast d] at Rr
    have hpn := powNat hp hp2 (s := ms.length) hms4
    obtain ⟨n, hn⟩ : ∃ n, n = cntF p' ms := ⟨_, rfl⟩
    rw [← hn] at hown hown2 hfix2 hfix hgone hprod hrows hlast
    have hpn1 : p' ^ ms.length = (n : Int) := by rw [hn]; exact hpn.1
    have hpn2 : n ≤ 625 := by rw [hn]; exact hpn.2
    have N2 : News h₀ L hr0 ((De, listOf ([] : List Value).toArray 0) :: (Dp, listOf ([] : List Value).toArray 0) :: (Do, listOf ([] : List Value).toArray 0) :: (Df, listOf ([] : List Value).toArray 0) :: (44, TabO #[]) :: R0) := kst_newsOf Nr0 (by
      intro q hq
      simp only [List.mem_cons] at hq
      rcases hq with h | h | h | h | h
      · exact h ▸ .tail _ (.tail _ (.tail _ (.tail _ (.head _))))
      · exact h ▸ .tail _ (.tail _ (.tail _ (.head _)))
      · exact h ▸ .tail _ (.tail _ (.head _))
      · exact h ▸ .tail _ (.head _)
      · exact .tail _ (.tail _ (.tail _ (.tail _ (.tail _ (hR0 q (List.mem_cons.mpr h)))))))
    have e12 : De ≠ Dp := Nat.ne_of_lt lDp.1
    have e13 : De ≠ Do := Nat.ne_of_lt lDo.2.1
    have e14 : De ≠ Df := Nat.ne_of_lt lDf.2.2.1
    have e23 : Dp ≠ Do := Nat.ne_of_lt lDo.1
    have e24 : Dp ≠ Df := Nat.ne_of_lt lDf.2.1
    have e34 : Do ≠ Df := Nat.ne_of_lt lDf.1
    have lR0 : ∀ q ∈ (44, TabO #[]) :: R0, q.1 < De := fun q hq => lDe q (hR0 q hq)
    have e1 : De ≠ 44 := Nat.ne_of_gt (lR0 _ (.head _))
    have e2 : Dp ≠ 44 := Nat.ne_of_gt (Nat.lt_trans (lR0 _ (.head _)) lDp.1)
    have e3 : Do ≠ 44 := Nat.ne_of_gt (Nat.lt_trans (lR0 _ (.head _)) lDo.2.1)
    have e4 : Df ≠ 44 := Nat.ne_of_gt (Nat.lt_trans (lR0 _ (.head _)) lDf.2.2.1)
    have offR0 : ∀ q ∈ R0, q.1 ≠ De ∧ q.1 ≠ Dp ∧ q.1 ≠ Do ∧ q.1 ≠ Df := fun q hq => by
      have h := lR0 q (.tail _ hq)
      exact ⟨Nat.ne_of_lt h, Nat.ne_of_lt (Nat.lt_trans h lDp.1), Nat.ne_of_lt (Nat.lt_trans h lDo.2.1), Nat.ne_of_lt (Nat.lt_trans h lDf.2.2.1)⟩
    have off0 : ∀ q ∈ R0, q.1 ≠ 44 := XR0.off off1
    have mP0 : (L + 1, oP) ∈ R0 := XR0.sub _ (by k_mem)
    have mDl0 : (Dl, lst ys) ∈ R0 := XR0.sub _ (by k_mem)
    have mDc0 : (Dc, listOf [Value.int c0 t0, .int c1 t1, .int c2 t2, .int c3 t3, .int c4 t4, .int c5 t5].toArray 0) ∈ R0 := XR0.sub _ (by k_mem)
    obtain ⟨S, hS⟩ : ∃ S, S = S4 De Dp Do Df := ⟨_, rfl⟩
    clear lDe lDp lDo lDf lDt hR0'
    refine Stop.go ?_
    refine iter_range rfl Fr0 N2 Rr (small_one (by omega) (by omega) (by omega) (by omega)) (n := n) (by rw [hpn1, rangeSize_one]; split <;> omega) ?_
    intro Ik hk2 Sk lk offk Fk Nk
    refine singlesG (fun k g m₂ led2 => AllBare g ∧ ∃ (ps : Array Value) (R : List (Addr × Obj)) (ev pv ov fv : List Value) (k1 k2 k3 k4 : Nat) (tgo : Tok), TabP gpos ps ∧ led2 = (De, listOf ev.toArray k1) :: (Dp, listOf pv.toArray k2) :: (Do, listOf ov.toArray k3) :: (Df, listOf fv.toArray k4) :: (44, TabO ps) :: R ∧ Ext R0 R ∧
        (∀ q ∈ R, q.1 ≠ De ∧ q.1 ≠ Dp ∧ q.1 ≠ Do ∧ q.1 ≠ Df) ∧ Els (IsEl w S R p' ms) ev (List.range k) ∧ Els (IsPw R p' ms) pv (List.range k) ∧ Els (IsEl w S R p' ms) ov (ownL p' ms k) ∧ Els (IsEl w S R p' ms) fv (fixL p' ms k) ∧
        Knows m₂ [(Str.ofString "d", .int (d : Int) td), (Str.ofString "lower", .ref Dl), (Str.ofString "elements", .ref De), (Str.ofString "powers", .ref Dp), (Str.ofString "own", .ref Do), (Str.ofString "fixed", .ref Df), (Str.ofString "many", .int (A : Int) ta), (Str.ofString "degrees", .int (C : Int) tb), (Str.ofString "cells", .ref Dc)] ∧ m₂ (Str.ofString "gone") = some (.int (goneN p' ms k : Int) tgo))
      Sk offk Fk Nk trivial ⟨GB, #[], R0, [], [], [], [], 0, 0, 0, 0, tg, ?tp0, rfl, Ext.refl _, offR0, .nil, .nil, .nil, .nil, ?kn0, fr_hit rfl rfl⟩ ?turn ?done
    case tp0 => exact .inl rfl
    case kn0 =>
      intro q hq
      simp only [List.mem_cons, List.not_mem_nil, or_false] at hq
      rcases hq with rfl | rfl | rfl | rfl | rfl | rfl | rfl | rfl | rfl
      all_goals dsimp only
      all_goals (repeat (first | exact fr_hit rfl rfl | refine fr_skip (by decide +kernel) ?_))
    case done =>
      intro mD ledD hD gD tkD hJD hkeepD FD ND
      obtain ⟨GBD, psD, R, ev, pv, ov, fv, k1, k2, k3, k4, tgo, TPD, rfl, XR, offR, hev, hpv, hov, hfv, hknD, hgo⟩ := hJD
      have evl : ev.length = n := by rw [hev.length, List.length_range]
      have pvl : pv.length = n := by rw [hpv.length, List.length_range]
      have ovl := hov.length
      have fvl := hfv.length
      have ovn : ov.length ≤ n := by rw [ovl]; exact ownL_le ..
      have fvn : fv.length ≤ n := by rw [fvl]; exact fixL_le ..
      have mPR := XR.sub _ mP0
      have mDcR := XR.sub _ mDc0
      obtain ⟨Fa, Ea⟩ := fr_cons rfl FD (hknD _ (.head _))
      obtain ⟨Fb, Eb⟩ := fr_cons Ea Fa (hknD _ (.tail _ (.tail _ (.head _))))
      obtain ⟨Fc2, Ec⟩ := fr_cons Eb Fb (hknD _ (.tail _ (.tail _ (.tail _ (.head _)))))
      obtain ⟨Fd, Ed⟩ := fr_cons Ec Fc2 (hknD _ (.tail _ (.tail _ (.tail _ (.tail _ (.head _))))))
      obtain ⟨Fe, Ee⟩ := fr_cons Ed Fd (hknD _ (.tail _ (.tail _ (.tail _ (.tail _ (.tail _ (.head _)))))))
      obtain ⟨Ff, Ef⟩ := fr_cons Ee Fe (hknD _ (.tail _ (.tail _ (.tail _ (.tail _ (.tail _ (.tail _ (.head _))))))))
      obtain ⟨Fg, Eg⟩ := fr_cons Ef Ff (hknD _ (.tail _ (.tail _ (.tail _ (.tail _ (.tail _ (.tail _ (.tail _ (.head _)))))))))
      obtain ⟨Fh, Eh⟩ := fr_cons Eg Fg (hknD _ (.tail _ (.tail _ (.tail _ (.tail _ (.tail _ (.tail _ (.tail _ (.tail _ (.head _))))))))))
      obtain ⟨Fi, Ei⟩ := fr_cons Eh Fh hgo
      dsimp only at Fi
      clear FD Fa Fb Fc2 Fd Fe Ff Fg Fh
      k_steps
      refine Stop.go ?_
      refine wpAny_If ?_
      k_steps
      · rename_i ha
        exact absurd (by rw [hown, Int.toNat_natCast, Int.natCast_pow]; rfl) ha
      · rename_i ha hb
        refine absurd ?_ hb
        rw [hgone]
        congr 1
        omega
      · obtain ⟨v1, hv1, y1, rfl, fy1⟩ := hov.get (i := (ownL p' ms n).length - 1) (by omega)
        obtain ⟨v2, hv2, y2, rfl, fy2⟩ := hov.get (i := (ownL p' ms n).length - 2) (by omega)
        rw [getD_at] at fy1 fy2
        have ND2 := kst_newsOf ND NF_44
        clear ND
        obtain ⟨o1, ho1⟩ : ∃ o1, o1 = (ownL p' ms n).getD ((ownL p' ms n).length - 1) 0 := ⟨_, rfl⟩
        obtain ⟨o2, ho2⟩ : ∃ o2, o2 = (ownL p' ms n).getD ((ownL p' ms n).length - 2) 0 := ⟨_, rfl⟩
        rw [← ho1] at fy1 hprod
        rw [← ho2] at fy2 hprod
        have offD := NF_off4 (a := (De, listOf ev.toArray k1)) (b := (Dp, listOf pv.toArray k2)) (c := (Do, listOf ov.toArray k3)) (d := (Df, listOf fv.toArray k4)) (R := R) (x := 44) e1 e2 e3 e4 (XR.off off0)
        have hSB : ∀ a, S a → ∃ o, (a, o) ∈ (De, listOf ev.toArray k1) :: (Dp, listOf pv.toArray k2) :: (Do, listOf ov.toArray k3) :: (Df, listOf fv.toArray k4) :: R := by
          rw [hS]
          exact NF_S4
        obtain ⟨da1, esa1, ia1, ia1'⟩ := fy1.inst
        obtain ⟨da2, esa2, ia2, ia2'⟩ := fy2.inst
        refine Stop.go ?_
        refine kim_back ND2 (.tail _ (.tail _ (.tail _ (.head _)))) rfl rfl (by decide) (by omega) (by decide) (x := .ref y1) ?_ ?_
        · rw [ovl, show Int.toNat (-1 + ((ownL p' ms n).length : Int)) = (ownL p' ms n).length - 1 by omega]
          exact hv1
        k_steps
        refine Stop.go ?_
        refine kim_back ND2 (.tail _ (.tail _ (.tail _ (.head _)))) rfl rfl (by decide) (by omega) (by decide) (x := .ref y2) ?_ ?_
        · rw [ovl, show Int.toNat (-2 + ((ownL p' ms n).length : Int)) = (ownL p' ms n).length - 2 by omega]
          exact hv2
        k_steps
        refine Stop.go ?_
        refine specG_use (mul_spec w S y1 y2 ms (el p' ms.length o1) (el p' ms.length o2) p' hms2 hms4 hp hp2) (by k_asm) (by k_asm) (by k_asm) TPD GBD (by k_asm) offD (by k_asm) (by first | rfl | assumption) ⟨fy1.mono NF_m4, fy2.mono NF_m4, hSB⟩ (by ktr_room) (by ktr_units) (RetG.mk ?_)
        intro r ps20 led20 h20 g20 tk20 X20 TP20 GB20 F20 N20 ho20
        obtain ⟨z1, rfl, hz1⟩ := ho20
        have fz1 : FQ w S led20 z1 p' ms (mulM p' ms (el p' ms.length o1) (el p' ms.length o2)) := hz1
        obtain ⟨pr, hpr⟩ : ∃ pr, pr = mulM p' ms (el p' ms.length o1) (el p' ms.length o2) := ⟨_, rfl⟩
        rw [← hpr] at fz1 hprod
        obtain ⟨da3, esa3, ia3, ia3'⟩ := fz1.inst
        clear hz1 ND2
        dsimp only [PySem.W.CmpBack]
        k_steps
        refine Stop.go ?_
        refine wpAny_If ?_
        k_steps
        refine Stop.go ?_
        refine specG_use (mul_spec w S z1 z1 ms pr pr p' hms2 hms4 hp hp2) (by k_asm) (by k_asm) (by k_asm) TP20 GB20 (by k_asm) (X20.off offD) (by k_asm) (by first | rfl | assumption) ⟨fz1, fz1, fun a h => (hSB a h).imp fun o ho => X20.sub _ ho⟩ (by ktr_room) (by ktr_units) (RetG.mk ?_)
        intro r ps21 led21 h21 g21 tk21 X21 TP21 GB21 F21 N21 ho21
        obtain ⟨z2, rfl, hz2⟩ := ho21
        have fz2 : FQ w S led21 z2 p' ms (mulM p' ms pr pr) := hz2
        have fz1b := fz1.mono X21.sub
        obtain ⟨da4, esa4, ia4, ia4'⟩ := fz2.inst
        obtain ⟨da5, esa5, ia5, ia5'⟩ := fz1b.inst
        clear hz2
        dsimp only [PySem.W.CmpBack]
        k_steps
        refine Stop.go ?_
        refine spec_use (ne_spec w S z2 z1 ms (mulM p' ms pr pr) pr p' hms2 hms4 hp hp2) (by k_asm) (by k_asm) (by k_asm) (by k_asm) (by k_asm) (by first | rfl | assumption) ⟨fz2.mono fun q hq => .tail _ hq, fz1b.mono fun q hq => .tail _ hq⟩ (by ktr_room) (by ktr_units) (Ret.mk ?_)
        intro r led22 h22 tk22 X22 F22 N22e ho22
        subst ho22
        have N22 := kst_newsOf N22e X22.sub
        clear N22e
        rw [decide_eq_true hprod]
        dsimp only [PySem.W.CmpBack]
        have XXD := X20.trans X21
        have mFx : (Df, listOf fv.toArray k4) ∈ led21 := XXD.sub _ (.tail _ (.tail _ (.tail _ (.head _))))
        k_steps
        refine Stop.go ?_
        refine LCg.Assign_ListComp_U (F₀ := F22) (by rfl) (by with_unfolding_all rfl) (by with_unfolding_all rfl) (by decide) (by rfl) (by decide) (by rfl) (by rfl) (by rfl) ?_
        k_steps
        refine CompSrc.ledger rfl F22 N22 (.tail _ mFx) (by rw [List.size_toArray, PySem.sizeLine_eq]; omega) ?_
        intro g
        refine compRest_inv (n := fv.toArray.size) (fun i ys nw => nw = (44, TabO ps21) :: led21 ∧ Els (IsCf ((44, TabO ps21) :: led21) p' ms.length) ys ((fixL p' ms n).take i)) ?fin ?step _ 0 [] _ (Nat.zero_add _) ⟨rfl, .nil⟩
        case step =>
          intro i v ys' nw I oI C' oC D m₂ h tk E' hin hv hJr hoC hx F23 N23 off23 ne23
          obtain ⟨rfl, hys⟩ := hJr
          have hv' : fv[i]? = some v := by simpa using hv
          obtain ⟨j, hj, x, rfl, hfx⟩ := hfv.at hv'
          obtain ⟨dw, Dw1, Dw2, Dw3, tpw, tw1, tw2, tw3, tw4, tw5, tw6, ysw, zsw, mvw, kw, aw1, aw2, aw3, aw4, aw5, aw6, aw7, aw8, aw9, aw10, aw11, aw12⟩ := (hfx.mono NF_m4).mono XXD.sub
          have hns : h.Ns C' m₂ := hoC.ns (N23 (C', oC) (.tail _ (.head _))).1
          k_steps
          refine ⟨h, _, _, rfl, F23, N23, off23, .inr ⟨_, .tail _ mFx, rfl, _, rfl⟩, rfl, ?_⟩
          rw [List.take_add_one, hj]
          exact hys.snoc ⟨Dw2, zsw, 0, rfl, .tail _ aw5, aw7⟩
        case fin =>
          intro ys' nw hJr
          obtain ⟨rfl, hys⟩ := hJr
          rw [List.size_toArray, fvl, List.take_length] at hys
          intro Dr h23 tk23 F23 N23 off23
          k_steps
          rename_i F23b
          have NR : News h₀ L h23 ((44, TabO ps21) :: (Dr, lst ys') :: led21) := kst_newsOf N23 led_t1
          clear N23
          refine Stop.go ?_
          refine slice_V (its := fv) (lo := none) (hi := some 4) F23b NR (News.isList NR (.tail _ (.tail _ mFx))) .none (.int 4 _) (by omega) ?_
          intro D30 h30 F30 N30 lD30
          rw [pick_upto (by decide)] at N30
          have N31 := kst_newsOf N30 led_t1
          clear N30
          have oD30 : ∀ q ∈ (Dr, lst ys') :: led21, q.1 < D30 := fun q hq => lD30 q (.tail _ hq)
          have h44D : (44 : Nat) < D30 := lD30 _ (.head _)
          have XDr : Ext led21 ((Dr, lst ys') :: led21) := (Ext.refl _).cons (fun q hq e => Mine.off1 off23 q (.tail _ hq) e.symm) (fun e => Mine.off1 off23 _ (.head _) e.symm)
          have X30 : Ext led21 ((D30, listOf (fv.take (Int.toNat 4)).toArray 0) :: (Dr, lst ys') :: led21) := XDr.cons (fun q hq => Nat.ne_of_gt (oD30 q (.tail _ hq))) (Nat.ne_of_gt h44D)
          k_steps
          refine Stop.go ?_
          refine iter_list rfl F30 N31 (.tail _ (.head _)) ?_
          intro I1 h31 S31 l31 off31 F31 N31'
          refine singlesG (fun i g m₁ led => AllBare g ∧ ∃ (ps : Array Value) (R : List (Addr × Obj)), TabP gpos ps ∧ led = (44, TabO ps) :: R ∧ Ext ((D30, listOf (fv.take (Int.toNat 4)).toArray 0) :: (Dr, lst ys') :: led21) R ∧ Knows m₁ [(Str.ofString "rows", .ref Dr), (Str.ofString "fixed", .ref Df), (Str.ofString "elements", .ref De), (Str.ofString "powers", .ref Dp), (Str.ofString "d", .int (d : Int) td), (Str.ofString "cells", .ref Dc)])
            S31 off31 F31 N31' ⟨.tail _ (.head _), trivial⟩ ⟨GB21, ps21, _, TP21, rfl, Ext.refl _, ?kn1⟩ ?turn1 ?done1
          case kn1 =>
            intro q hq
            simp only [List.mem_cons, List.not_mem_nil, or_false] at hq
            rcases hq with rfl | rfl | rfl | rfl | rfl | rfl
            all_goals dsimp only
            all_goals (repeat (first | exact fr_hit rfl rfl | refine fr_skip (by decide +kernel) ?_))
          case done1 =>
            intro mE ledE hE gE tkE hJE hkeepE FE NE
            obtain ⟨GBE, psE, RE, TPE, rfl, XE, hknE⟩ := hJE
            have hRE : ∀ q ∈ R, q ∈ RE := fun q hq => XE.sub _ (.tail _ (.tail _ (XXD.sub _ (NF_m4 q hq))))
            have mPE := hRE _ mPR
            have mDcE := hRE _ mDcR
            have mElE : (De, listOf ev.toArray k1) ∈ RE := XE.sub _ (.tail _ (.tail _ (XXD.sub _ (.head _))))
            have mPwE : (Dp, listOf pv.toArray k2) ∈ RE := XE.sub _ (.tail _ (.tail _ (XXD.sub _ (.tail _ (.head _)))))
            obtain ⟨Fa3, Ea3⟩ := fr_cons rfl FE (hknE _ (.tail _ (.tail _ (.head _))))
            obtain ⟨Fb3, Eb3⟩ := fr_cons Ea3 Fa3 (hknE _ (.tail _ (.tail _ (.tail _ (.head _)))))
            obtain ⟨Fc3, Ec3⟩ := fr_cons Eb3 Fb3 (hknE _ (.tail _ (.tail _ (.tail _ (.tail _ (.head _))))))
            obtain ⟨Fd3, Ed3⟩ := fr_cons Ec3 Fc3 (hknE _ (.tail _ (.tail _ (.tail _ (.tail _ (.tail _ (.head _)))))))
            dsimp only at Fd3
            clear FE Fa3 Fb3 Fc3
            k_steps
            refine Stop.go ?_
            refine kim_list NE (.tail _ mDcE) rfl rfl (by decide) (by decide) (x := .int c5 t5) rfl ?_
            k_steps
            rename_i hF3 F40 N40
            have hnq : p' ^ Int.toNat ((d : Nat) : Int) = (n : Int) := by rw [Int.toNat_natCast, ← hmd]; exact hpn1
            rw [hnq] at F40
            have hn0 : (0 : Int) < n := by rw [← hnq]; exact Int.pow_pos (by omega)
            have hib := Int.fmod_lt_of_pos c5 hn0
            have hia := Int.fmod_nonneg_of_pos c5 hn0
            obtain ⟨iz, hiz⟩ : ∃ iz, iz = Int.fmod c5 n := ⟨_, rfl⟩
            rw [← hiz] at F40 hib hia
            have hjb := Int.fmod_lt_of_pos (iz + 1) hn0
            have hja := Int.fmod_nonneg_of_pos (iz + 1) hn0
            have hjm : (Int.fmod (iz + 1) n).toNat = (iz.toNat + 1) % n := by
              rw [Int.fmod_eq_emod_of_nonneg _ (by omega), show iz + 1 = ((iz.toNat + 1 : Nat) : Int) by omega, ← Int.natCast_emod, Int.toNat_natCast]
            obtain ⟨jz, hjz⟩ : ∃ jz, jz = Int.fmod (iz + 1) n := ⟨_, rfl⟩
            rw [← hjz] at F40 hjb hja hjm
            obtain ⟨hl1, hl2⟩ := hlast iz.toNat (by omega)
            rw [← hjm] at hl2
            obtain ⟨wi, hwi, Ti, zi, ki, rfl, mTi, hzi⟩ := hpv.get (i := iz.toNat) (by rw [List.length_range]; omega)
            obtain ⟨wj, hwj, Tj, zj, kj, rfl, mTj, hzj⟩ := hpv.get (i := jz.toNat) (by rw [List.length_range]; omega)
            rw [List.getElem_range] at hzi hzj
            have mTi' := hRE _ mTi
            have mTj' := hRE _ mTj
            refine Stop.go ?_
            refine Assign_ListComp_pair (F₀ := F40) (by rfl) (by with_unfolding_all rfl) (by with_unfolding_all rfl) (by decide) (by rfl) (by decide) (by rfl) (by rfl) (by decide) (by rfl) (by rfl) ?_
            k_steps
            refine Stop.go ?_
            refine kim_list N40 (.tail _ mPwE) rfl rfl hia (by omega) (x := .ref Ti) hwi ?_
            k_steps
            refine Stop.go ?_
            refine kim_list N40 (.tail _ mPwE) rfl rfl hja (by omega) (x := .ref Tj) hwj ?_
            k_steps
            rename_i I41 h41 S41 l41 off41 F41 N41
            have hzil := hzi.length
            have hzjl := hzj.length
            rw [pwF_length p' ms iz.toNat (by omega)] at hzil
            rw [pwF_length p' ms jz.toNat (by omega)] at hzjl
            refine ⟨_, _, _, _, _, _, fun i ys led => led = (44, TabO psE) :: RE ∧ IntsAre ys (List.take i (List.zipWith (fun x y => (x + y).fmod p') (pwF p' ms iz.toNat) (pwF p' ms jz.toNat))), rfl, rfl, S41, (by rw [PySem.sizeLine_eq]; omega), F41, N41, off41, ⟨.tail _ mTi', .tail _ mTj', trivial⟩, ⟨rfl, .nil⟩, ?pturn, ?pdone⟩
            case pturn =>
              intro i v₁ v₂ C oC D m₂ ys its news₁ h tk E' hin hV hJ hkeep hits hoC hx hx₂ F N off ne
              obtain ⟨rfl, hys⟩ := hJ
              obtain ⟨hv1, hv2⟩ := hV
              obtain ⟨c1, u1, rfl, hc1⟩ := hzi.at i v₁ hv1
              obtain ⟨c2, u2, rfl, hc2⟩ := hzj.at i v₂ hv2
              refine wpAny_tests_nil ?_
              dsimp only
              rw [if_pos rfl]
              have hns : h.Ns C m₂ := hoC.ns (N (C, oC) (List.mem_append_right _ (.head _))).1
              have hcell : h.IsCell (L + 1) (some (.int p' tp)) := ⟨oP, (N (L + 1, oP) (List.mem_append_right _ (.tail _ (.tail _ (.tail _ mPE))))).1, dP⟩
              k_steps
              exact ⟨h, _, _, rfl, F, N, off, hkeep, rfl, intsAre_snoc hys (by simp [List.getElem?_zipWith, hc1, hc2])⟩
            case pdone =>
              intro ys1 led hkeep hJ
              obtain ⟨rfl, hys⟩ := hJ
              rw [show min zi.length zj.length = (List.zipWith (fun x y => (x + y).fmod p') (pwF p' ms iz.toNat) (pwF p' ms jz.toNat)).length by rw [List.length_zipWith, pwF_length p' ms iz.toNat (by omega), pwF_length p' ms jz.toNat (by omega)]; omega, List.take_length] at hys
              intro D42 h42 tk42 F42 N42 o42
              clear F41 N41 S41 off41 F40 N40
              have N43 : News h₀ L h42 ((44, TabO psE) :: (D42, lst ys1) :: RE) := kst_newsOf N42 led_t1
              clear N42
              have hysl : ys1.length = ms.length := by rw [hys.length, List.length_zipWith, pwF_length p' ms iz.toNat (by omega), pwF_length p' ms jz.toNat (by omega)]; omega
              obtain ⟨we, hwe, xi, rfl, fi⟩ := hev.get (i := iz.toNat) (by rw [List.length_range]; omega)
              obtain ⟨wf, hwf, xj, rfl, fj⟩ := hev.get (i := jz.toNat) (by rw [List.length_range]; omega)
              rw [List.getElem_range] at fi fj
              have off42 : ∀ q ∈ (D42, lst ys1) :: RE, q.1 ≠ 44 := by
                intro q hq
                rcases List.mem_cons.mp hq with rfl | hq
                · exact fun e => Mine.off1 o42 _ (.head _) e.symm
                · exact XE.off (X30.off (XXD.off offD)) q hq
              have hS42 : ∀ a, S a → ∃ o, (a, o) ∈ (D42, lst ys1) :: RE := fun a h => (hSB a h).imp fun o ho => .tail _ (XE.sub _ (.tail _ (.tail _ (XXD.sub _ ho))))
              have fi1 := fi.mono fun q hq => List.mem_cons_of_mem (D42, lst ys1) (hRE q hq)
              have fj1 := fj.mono fun q hq => List.mem_cons_of_mem (D42, lst ys1) (hRE q hq)
              obtain ⟨d50, es50, i50, i50'⟩ := fi1.inst
              obtain ⟨d51, es51, i51, i51'⟩ := fj1.inst
              k_steps
              refine Stop.go ?_
              refine kim_list N43 (.tail _ (.tail _ mElE)) rfl rfl hia (by omega) (x := .ref xi) hwe ?_
              k_steps
              refine Stop.go ?_
              refine specG_use (pow_spec w S xi ms (el p' ms.length iz.toNat) p' p' tp hp5 hms2 hms4 hp hp2) (by k_asm) (by k_asm) (by k_asm) TPE GBE (by k_asm) off42 (by k_asm) (by first | rfl | assumption) ⟨fi1, hS42⟩ (by ktr_room) (by ktr_units) (RetG.mk ?_)
              intro r ps44 led44 h44 g44 tk44 X44 TP44 GB44 F44 N44 ho44
              obtain ⟨z44, rfl, hz44⟩ := ho44
              rw [hl1] at hz44
              obtain ⟨d44z, D44a, D44b, D44c, tp44z, t441, t442, t443, t444, t445, t446, ys44z, zs44z, mv44z, k44z, a441, a442, a443, a444, a445, a446, a447, a448, a449, a4410, a4411, a4412⟩ := id hz44
              dsimp only [PySem.W.CmpBack]
              k_steps
              refine Stop.go ?_
              have mPw44 : (Dp, listOf pv.toArray k2) ∈ led44 := X44.sub _ (.tail _ mPwE)
              refine kim_list N44 (.tail _ mPw44) rfl rfl hia (by omega) (x := .ref Ti) hwi ?_
              have mTi44 := X44.sub _ (List.mem_cons_of_mem (D42, lst ys1) mTi')
              refine cmp_tups N44 (.tail _ a445) (.tail _ mTi44) a447 hzi (by show un < cLine; omega) rfl ?_
              have mEl44 : (De, listOf ev.toArray k1) ∈ led44 := X44.sub _ (.tail _ mElE)
              have fi2 := fi1.mono X44.sub
              have fj2 := fj1.mono X44.sub
              have off44 := X44.off off42
              have hS44 : ∀ a, S a → ∃ o, (a, o) ∈ led44 := fun a h => (hS42 a h).imp fun o ho => X44.sub _ ho
              clear i50 i50' i51 i51'
              obtain ⟨d52, es52, i52, i52'⟩ := fi2.inst
              obtain ⟨d53, es53, i53, i53'⟩ := fj2.inst
              dsimp only [PySem.W.CmpBack]
              k_steps
              refine Stop.go ?_
              refine kim_list N44 (.tail _ mEl44) rfl rfl hia (by omega) (x := .ref xi) hwe ?_
              k_steps
              refine Stop.go ?_
              refine kim_list N44 (.tail _ mEl44) rfl rfl hja (by omega) (x := .ref xj) hwf ?_
              k_steps
              refine Stop.go ?_
              refine specG_use (add_spec w S xi xj ms (el p' ms.length iz.toNat) (el p' ms.length jz.toNat) p' hms2 hms4 hp hp2) (by k_asm) (by k_asm) (by k_asm) TP44 GB44 (by k_asm) off44 (by k_asm) (by first | rfl | assumption) ⟨fi2, fj2, hS44⟩ (by ktr_room) (by ktr_units) (RetG.mk ?_)
              intro r ps45 led45 h45 g45 tk45 X45 TP45 GB45 F45 N45 ho45
              obtain ⟨z45, rfl, hz45⟩ := ho45
              have fz45 : FQ w S led45 z45 p' ms (addM p' (el p' ms.length iz.toNat) (el p' ms.length jz.toNat)) := hz45
              obtain ⟨d54, es54, i54, i54'⟩ := fz45.inst
              clear hz45
              have mP45 : (L + 1, oP) ∈ led45 := X45.sub _ (X44.sub _ (List.mem_cons_of_mem (D42, lst ys1) mPE))
              dsimp only [PySem.W.CmpBack]
              k_steps
              refine Stop.go ?_
              refine specG_use (pow_spec w S z45 ms (addM p' (el p' ms.length iz.toNat) (el p' ms.length jz.toNat)) p' p' tp hp5 hms2 hms4 hp hp2) (by k_asm) (by k_asm) (by k_asm) TP45 GB45 (by k_asm) (X45.off off44) (by k_asm) (by first | rfl | assumption) ⟨fz45, fun a h => (hS44 a h).imp fun o ho => X45.sub _ ho⟩ (by ktr_room) (by ktr_units) (RetG.mk ?_)
              intro r ps46 led46 h46 g46 tk46 X46 TP46 GB46 F46 N46 ho46
              obtain ⟨z46, rfl, hz46⟩ := ho46
              rw [hl2] at hz46
              obtain ⟨d46z, D46a, D46b, D46c, tp46z, t461, t462, t463, t464, t465, t466, ys46z, zs46z, mv46z, k46z, a461, a462, a463, a464, a465, a466, a467, a468, a469, a4610, a4611, a4612⟩ := id hz46
              have mD46 : (D42, listOf ys1.toArray ys1.length) ∈ led46 := X46.sub _ (X45.sub _ (X44.sub _ (.head _)))
              dsimp only [PySem.W.CmpBack]
              have hEnd : AtEnd := trivial
              k_steps
              rename_i D47 h47 tk47 F47 N47 l47 xEnd
              refine Stop.go ?_
              refine cmp_tups N47 (.tail _ (.tail _ a465)) (.head _) a467 hys (by show un < cLine; omega) rfl ?_
              exact hQ _ _ _ _ (fun b o e => F47.keep b o e) (N47 _ (.tail _ (.head _))).1 GB46
          case turn1 =>
            intro i v m₁ led its1 h32 g32 tk32 hin hv hJ1 hkeep1 hits1 F32 N32 ho1
            obtain ⟨GB32, ps32, R1, TP32, rfl, X32, hkn1⟩ := hJ1
            obtain ⟨j1, hj1, x1, rfl, fx1⟩ := (hfv.take (Int.toNat 4)).at hv
            have N33 := kst_newsOf N32 its_44
            have XA1 : Ext ((D30, listOf (fv.take (Int.toNat 4)).toArray 0) :: (Dr, lst ys') :: led21) R1 := X32
            have mFx1 : (Df, listOf fv.toArray k4) ∈ R1 := X32.sub _ (.tail _ (.tail _ mFx))
            obtain ⟨Fa, Ea⟩ := fr_cons rfl F32 (hkn1 _ (.tail _ (.head _)))
            dsimp only at Fa
            clear F32 N32
            k_steps
            rename_i h33 F33 N33'
            refine Stop.go ?_
            refine slice_V (its := fv) (lo := some (-2)) (hi := none) F33 N33' (News.isList N33' (.tail _ (List.mem_append_right _ mFx1))) (.int (-2) _) .none (by omega) ?_
            intro D34 h34 F34 N34 lD34
            rw [pick_last2 (by omega)] at N34
            have N35 := kst_newsOf N34 led_t1
            have X34 : Ext (its1 ++ R1) ((D34, listOf (fv.drop (fv.length - 2)).toArray 0) :: (its1 ++ R1)) := (Ext.refl _).cons (fun q hq => Nat.ne_of_gt (lD34 q (.tail _ hq))) (Nat.ne_of_gt (lD34 _ (.head _)))
            clear N34 N33'
            k_steps
            refine Stop.go ?_
            refine iter_list rfl F34 N35 (.tail _ (.head _)) ?_
            intro I2 h35 S35 l35 off35 F35 N35'
            have hR1 : ∀ q ∈ R, q ∈ R1 := fun q hq => X32.sub _ (.tail _ (.tail _ (XXD.sub _ (NF_m4 q hq))))
            have hi44 : ∀ q ∈ its1, q.1 ≠ 44 := fun q hq => Ne.symm (ho1 (44, TabO ps32) (.head _) q hq)
            have off31b : ∀ q ∈ R1, q.1 ≠ 44 := X32.off (X30.off (XXD.off offD))
            refine singlesG (fun k g m₂ led => AllBare g ∧ ∃ (ps : Array Value) (R : List (Addr × Obj)), TabP gpos ps ∧ led = (44, TabO ps) :: R ∧ Ext ((D34, listOf (fv.drop (fv.length - 2)).toArray 0) :: (its1 ++ R1)) R ∧ Knows m₂ [(Str.ofString "one", .ref x1), (Str.ofString "rows", .ref Dr), (Str.ofString "fixed", .ref Df), (Str.ofString "elements", .ref De), (Str.ofString "powers", .ref Dp), (Str.ofString "d", .int (d : Int) td), (Str.ofString "cells", .ref Dc)])
              S35 off35 F35 N35' ⟨.tail _ (.head _), trivial⟩ ⟨GB32, ps32, _, TP32, rfl, Ext.refl _, ?kn2⟩ ?turn2 ?done2
            case kn2 =>
              intro q hq
              rcases List.mem_cons.mp hq with rfl | hq
              · exact fr_hit rfl rfl
              · have hq' := hkn1 q hq
                simp only [List.mem_cons, List.not_mem_nil, or_false] at hq
                rcases hq with rfl | rfl | rfl | rfl | rfl | rfl
                all_goals dsimp only at hq' ⊢
                all_goals (repeat (first | exact fr_hit rfl rfl | exact hq' | refine fr_skip (by decide +kernel) ?_))
            case done2 =>
              intro m₂ led h36 g36 tk36 hJ2 hkeep2 F36 N36
              obtain ⟨GB36, ps36, R2, TP36, rfl, X36, hkn2'⟩ := hJ2
              k_steps
              obtain ⟨led3, s1, s2, s3⟩ := (X34.trans X36).split (fun p hp q hq => ho1 p (.tail _ hp) q hq)
              have NE := kst_newsOf N36 (its_out s1)
              have hoEnd : ∀ p ∈ (44, TabO ps36) :: led3, ∀ q ∈ its1, p.1 ≠ q.1 := by
                intro p hp q hq
                rcases List.mem_cons.mp hp with rfl | hp
                · exact Ne.symm (hi44 q hq)
                · exact s2 p hp q hq
              show EndG _ _ _ _ _ _
              refine ⟨_, _, _, _, (44, TabO ps36) :: led3, rfl, F36, NE, hoEnd, ⟨.tail _ ((X32.trans s3).sub _ (.head _)), trivial⟩, GB36, ?_⟩
              exact ⟨ps36, led3, TP36, rfl, X32.trans s3, fun q hq => hkn2' q (.tail _ hq)⟩
            case turn2 =>
              intro k v m₂ led its2 h36 g36 tk36 hkn hv hJ2 hkeep2 hits2 F36 N36 ho2
              obtain ⟨GB36, ps36, R2, TP36, rfl, X36, hkn2'⟩ := hJ2
              obtain ⟨j2, hj2, x2, rfl, fx2⟩ := (hfv.drop (fv.length - 2)).at hv
              have N37 := kst_newsOf N36 its_44
              have hR2 : ∀ q ∈ R1, q ∈ its2 ++ R2 := fun q hq => List.mem_append_right _ (X36.sub _ (.tail _ (List.mem_append_right _ hq)))
              have off37 : ∀ q ∈ its2 ++ R2, q.1 ≠ 44 := by
                intro q hq
                rcases List.mem_append.mp hq with hq | hq
                · exact Ne.symm (ho2 (44, TabO ps36) (.head _) q hq)
                · refine X36.off ?_ q hq
                  intro q hq
                  rcases List.mem_cons.mp hq with rfl | hq
                  · exact Nat.ne_of_gt (lD34 _ (.head _))
                  · rcases List.mem_append.mp hq with hq | hq
                    · exact hi44 q hq
                    · exact off31b q hq
              have hS37 : ∀ a, S a → ∃ o, (a, o) ∈ its2 ++ R2 := fun a h => (hSB a h).imp fun o ho => hR2 _ (X32.sub _ (.tail _ (.tail _ (XXD.sub _ ho))))
              have fy1 := fx1.mono fun q hq => hR2 q (hR1 q hq)
              have fy2 := fx2.mono fun q hq => hR2 q (hR1 q hq)
              have hDr2 : (Dr, lst ys') ∈ its2 ++ R2 := hR2 _ (X32.sub _ (.tail _ (.head _)))
              obtain ⟨db1, esb1, ib1, ib1'⟩ := fy1.inst
              obtain ⟨db2, esb2, ib2, ib2'⟩ := fy2.inst
              have hrw := hrows j1 (List.mem_of_getElem? hj1) j2 (by rw [← fvl]; exact List.mem_of_getElem? hj2)
              obtain ⟨Fa2, Ea2⟩ := fr_cons rfl F36 (hkn2' _ (.head _))
              obtain ⟨Fb2, Eb2⟩ := fr_cons Ea2 Fa2 (hkn2' _ (.tail _ (.head _)))
              dsimp only at Fb2
              clear F36 N36 Fa2
              k_steps
              refine Stop.go ?_
              refine wpAny_If ?_
              k_steps
              refine Stop.go ?_
              refine specG_use (mul_spec w S x1 x2 ms (el p' ms.length j1) (el p' ms.length j2) p' hms2 hms4 hp hp2) (by k_asm) (by k_asm) (by k_asm) TP36 GB36 (by k_asm) off37 (by k_asm) (by first | rfl | assumption) ⟨fy1, fy2, hS37⟩ (by ktr_room) (by ktr_units) (RetG.mk ?_)
              intro r ps38 led38 h38 g38 tk38 X38 TP38 GB38 F38 N38 ho38
              obtain ⟨z38, rfl, hz38⟩ := ho38
              have hz38' : FQ w S led38 z38 p' ms (mulM p' ms (el p' ms.length j1) (el p' ms.length j2)) := hz38
              obtain ⟨d38z, D38a, D38b, D38c, tp38z, t381, t382, t383, t384, t385, t386, ys38z, zs38z, mv38z, k38z, a381, a382, a383, a384, a385, a386, a387, a388, a389, a3810, a3811, a3812⟩ := id hz38'
              have fy1b := fy1.mono X38.sub
              have fy2b := fy2.mono X38.sub
              obtain ⟨dc1, esc1, ic1, ic1'⟩ := fy1b.inst
              obtain ⟨dc2, esc2, ic2, ic2'⟩ := fy2b.inst
              have hys38 : Els (IsCf led38 p' ms.length) ys' (fixL p' ms n) := (hys.mono IsCf.drop).mono (IsCf.mono fun q hq => X38.sub _ (hR2 _ (X32.sub _ (.tail _ (.tail _ hq)))))
              clear hz38
              dsimp only [PySem.W.CmpBack]
              k_steps
              refine Stop.go ?_
              refine notIn_rows (led := (44, TabO ps38) :: led38) (by k_asm) (D := Dr) (c := ys'.length) (.tail _ (X38.sub _ hDr2)) (hys38.mono (IsCf.mono fun q hq => .tail _ hq)) (.tail _ a385) a387 hrw.1 (by show un + 1 < cLine; omega) ?_
              k_steps
              refine Stop.go ?_
              refine specG_use (add_spec w S x1 x2 ms (el p' ms.length j1) (el p' ms.length j2) p' hms2 hms4 hp hp2) (by k_asm) (by k_asm) (by k_asm) TP38 GB38 (by k_asm) (X38.off off37) (by k_asm) (by first | rfl | assumption) ⟨fy1b, fy2b, fun a h => (hS37 a h).imp fun o ho => X38.sub _ ho⟩ (by ktr_room) (by ktr_units) (RetG.mk ?_)
              intro r ps39 led39 h39 g39 tk39 X39 TP39 GB39 F39 N39 ho39
              obtain ⟨z39, rfl, hz39⟩ := ho39
              have hz39' : FQ w S led39 z39 p' ms (addM p' (el p' ms.length j1) (el p' ms.length j2)) := hz39
              obtain ⟨d39z, D39a, D39b, D39c, tp39z, t391, t392, t393, t394, t395, t396, ys39z, zs39z, mv39z, k39z, a391, a392, a393, a394, a395, a396, a397, a398, a399, a3910, a3911, a3912⟩ := id hz39'
              have hys39 := hys38.mono (IsCf.mono fun q hq => X39.sub _ hq)
              clear hz39
              dsimp only [PySem.W.CmpBack]
              k_steps
              refine Stop.go ?_
              refine notIn_rows (led := (44, TabO ps39) :: led39) (by k_asm) (D := Dr) (c := ys'.length) (.tail _ (X39.sub _ (X38.sub _ hDr2))) (hys39.mono (IsCf.mono fun q hq => .tail _ hq)) (.tail _ a395) a397 hrw.2 (by show un + 1 < cLine; omega) ?_
              k_steps
              obtain ⟨led3, s1, s2, s3⟩ := (X38.trans X39).split (fun p hp q hq => ho2 p (.tail _ hp) q hq)
              have NE := kst_newsOf N39 (its_out s1)
              have hoEnd : ∀ p ∈ (44, TabO ps39) :: led3, ∀ q ∈ its2, p.1 ≠ q.1 := by
                intro p hp q hq
                rcases List.mem_cons.mp hp with rfl | hp
                · exact ho2 (44, TabO ps36) (.head _) q hq
                · exact s2 p hp q hq
              show EndG _ _ _ _ _ _
              refine ⟨_, _, _, _, (44, TabO ps39) :: led3, rfl, F39, NE, hoEnd, ⟨.tail _ ((X36.trans s3).sub _ (.head _)), trivial⟩, GB39, ?_⟩
              refine ⟨ps39, led3, TP39, rfl, X36.trans s3, ?_⟩
              intro q hq
              have hq' := hkn2' q hq
              simp only [List.mem_cons, List.not_mem_nil, or_false] at hq
              rcases hq with rfl | rfl | rfl | rfl | rfl | rfl | rfl
              all_goals dsimp only at hq' ⊢
              all_goals (repeat (first | exact fr_hit rfl rfl | exact hq' | refine fr_skip (by decide +kernel) ?_))
    case turn =>
      intro k v m₂ led2 its h2 g2 tk2 hkn hV hJ2 hkeep2 hits2 F3 N3 ho2
      obtain ⟨GB2, ps, R, ev, pv, ov, fv, k1, k2, k3, k4, tgo, TP2, rfl, XR, offR, hev, hpv, hov, hfv, hkn2, hgo⟩ := hJ2
      obtain ⟨tv, rfl⟩ := hV
      rw [show (0 : Int) + (k : Int) * 1 = (k : Int) by omega]
      have N4 := kst_newsOf N3 NF_in
      have hoR : ∀ p ∈ R, ∀ q ∈ its, p.1 ≠ q.1 := fun p hp => ho2 p (by simp [hp])
      have hits := objs_cls hits2
      have hi44 : ∀ q ∈ its, q.1 ≠ 44 := fun q hq => Ne.symm (ho2 (44, TabO ps) (by simp) q hq)
      have offB := NF_off (a := (De, listOf ev.toArray k1)) (b := (Dp, listOf pv.toArray k2)) (c := (Do, listOf ov.toArray k3)) (d := (Df, listOf fv.toArray k4)) (its := its) (R := R) (x := 44) e1 e2 e3 e4 hi44 (XR.off off0)
      have mPR := XR.sub _ mP0
      have mDlR := XR.sub _ mDl0
      obtain ⟨Fa, Ea⟩ := fr_cons rfl F3 (hkn2 _ (.head _))
      obtain ⟨Fb, Eb⟩ := fr_cons Ea Fa (hkn2 _ (.tail _ (.head _)))
      obtain ⟨Fc2, Ec⟩ := fr_cons Eb Fb (hkn2 _ (.tail _ (.tail _ (.head _))))
      obtain ⟨Fd, Ed⟩ := fr_cons Ec Fc2 (hkn2 _ (.tail _ (.tail _ (.tail _ (.head _)))))
      obtain ⟨Fe, Ee⟩ := fr_cons Ed Fd (hkn2 _ (.tail _ (.tail _ (.tail _ (.tail _ (.head _))))))
      obtain ⟨Ff, Ef⟩ := fr_cons Ee Fe (hkn2 _ (.tail _ (.tail _ (.tail _ (.tail _ (.tail _ (.head _)))))))
      obtain ⟨Fg, Eg⟩ := fr_cons Ef Ff hgo
      dsimp only at Fg
      clear F3 N3
      k_steps
      refine Stop.go ?_
      refine spec_use (parts_spec w (k : Int) p' d tv tp td (by omega) (by omega) hp hp2 hd4) (by k_asm) (by k_asm) (by k_asm) (by k_asm) (by k_asm) (by first | rfl | assumption) trivial (by ktr_room) (by ktr_units) (Ret.mk ?_)
      intro r led3 h3 tk3 X3 F3 N3' ho3
      obtain ⟨lp, pv3, cp, rfl, hmp3, hip⟩ := ho3
      obtain ⟨R3, hR3, XR3, hR3'⟩ := X3.table
      have N5' := kst_newsOf N3' hR3
      have mlp : (lp, listOf pv3.toArray cp) ∈ R3 := by
        rcases hR3' _ hmp3 with e | e
        · exact absurd (congrArg (fun q => q.2.cls) e) (by nofun)
        · exact e
      have mP3 : (L + 1, oP) ∈ R3 := XR3.sub _ (by simp [mPR])
      have mDl3 : (Dl, lst ys) ∈ R3 := XR3.sub _ (by simp [mDlR])
      clear N3' hR3 hR3'
      k_steps
      have hSB : ∀ a, S a → ∃ o, (a, o) ∈ (De, listOf ev.toArray k1) :: (Dp, listOf pv.toArray k2) :: (Do, listOf ov.toArray k3) :: (Df, listOf fv.toArray k4) :: (its ++ R) := by
        rw [hS]
        rintro a (rfl | rfl | rfl | rfl)
        · exact ⟨_, .head _⟩
        · exact ⟨_, .tail _ (.head _)⟩
        · exact ⟨_, .tail _ (.tail _ (.head _))⟩
        · exact ⟨_, .tail _ (.tail _ (.tail _ (.head _)))⟩
      refine Stop.go ?_
      refine specG_use (mk_spec w S lp Dl pv3 ys (partsF (k : Int) p' d) ms cp ys.length p' tp hip hIl (by rw [parts_len, hmd]) hms2 hms4 hp hp2 hmb) (by k_asm) (by k_asm) (by k_asm) TP2 GB2 (by k_asm) (XR3.off offB) (by k_asm) (by first | rfl | assumption) ⟨mlp, mDl3, fun a h => (hSB a h).imp fun o ho => XR3.sub _ ho⟩ (by ktr_room) (by ktr_units) (RetG.mk ?_)
      intro r ps4 led4 h4' g4 tk4 X4 TP4 GB4 F4 N4b ho4
      obtain ⟨x4, rfl, hz4⟩ := ho4
      have XX4 := XR3.trans X4
      have hq1 : FQ w S led4 x4 p' ms (el p' ms.length k) := by
        rw [hmd]
        exact hz4
      obtain ⟨d1, es1, i1, i1'⟩ := hq1.inst
      k_steps
      refine Stop.go ?_
      refine specG_use (mul_spec w S x4 x4 ms (el p' ms.length k) (el p' ms.length k) p' hms2 hms4 hp hp2) (by k_asm) (by k_asm) (by k_asm) TP4 GB4 (by k_asm) (XX4.off offB) (by k_asm) (by first | rfl | assumption) ⟨hq1, hq1, fun a h => (hSB a h).imp fun o ho => XX4.sub _ ho⟩ (by ktr_room) (by ktr_units) (RetG.mk ?_)
      intro r ps5 led5 h5' g5 tk5 X5 TP5 GB5 F5 N5 ho5
      obtain ⟨x5, rfl, hz5⟩ := ho5
      have XX5 := XX4.trans X5
      dsimp only [PySem.W.CmpBack]
      have hq2 : FQ w S led5 x5 p' ms (sqF p' ms k) := hz5
      obtain ⟨d2, es2, i2, i2'⟩ := hq2.inst
      k_steps
      refine Stop.go ?_
      refine specG_use (mul_spec w S x5 x5 ms (sqF p' ms k) (sqF p' ms k) p' hms2 hms4 hp hp2) (by k_asm) (by k_asm) (by k_asm) TP5 GB5 (by k_asm) (XX5.off offB) (by k_asm) (by first | rfl | assumption) ⟨hq2, hq2, fun a h => (hSB a h).imp fun o ho => XX5.sub _ ho⟩ (by ktr_room) (by ktr_units) (RetG.mk ?_)
      intro r ps6 led6 h6' g6 tk6 X6 TP6 GB6 F6 N6 ho6
      obtain ⟨x6, rfl, hz6⟩ := ho6
      have XX6 := XX5.trans X6
      dsimp only [PySem.W.CmpBack]
      have hq3 : FQ w S led6 x6 p' ms (foF p' ms k) := hz6
      have hq2b := hq2.mono X6.sub
      have hq1b := (hq1.mono X5.sub).mono X6.sub
      obtain ⟨d1b, es1b, i1b, i1b'⟩ := hq1b.inst
      obtain ⟨d2b, es2b, i2b, i2b'⟩ := hq2b.inst
      obtain ⟨d3b, es3b, i3b, i3b'⟩ := hq3.inst
      have mP6 : (L + 1, oP) ∈ led6 := XX6.sub _ (by simp [mPR])
      k_steps
      rename_i h7 F7 N7
      obtain ⟨m7, hm7⟩ := name_map F7
      obtain ⟨s7, hs7⟩ : ∃ s7 : Shared, s7 = s := ⟨_, rfl⟩
      refine Stop.go ?_
      refine cut (R := fun v s' => Stop (∃ z psZ ledZ hZ gZ tkZ, v = .ref z ∧ s' = { s7 with heap := hZ, gens := gZ, toks := tkZ } ∧ Fr h₀ L hZ m7 ∧ News h₀ L hZ ((44, TabO psZ) :: ledZ) ∧ TabP gpos psZ ∧ AllBare gZ ∧ Ext led6 ledZ ∧ FQ w S ledZ z p' ms (pwF p' ms k))) ?ife ?rest
      case ife =>
        have hpw2 : p' = 2 → pwF p' ms k = sqF p' ms k := fun h => by rw [pwF, if_pos h]
        have hpw3 : p' = 3 → pwF p' ms k = mulM p' ms (sqF p' ms k) (el p' ms.length k) := fun h => by rw [pwF, if_neg (by omega), if_pos h]
        have hpw5 : p' = 5 → pwF p' ms k = mulM p' ms (foF p' ms k) (el p' ms.length k) := fun h => by rw [pwF, if_neg (by omega), if_neg (by omega)]
        refine wpAny_IfExp ?_
        rcases hp5 with h | h | h
        · subst h
          k_steps
          exact Stop.go ⟨x5, ps6, led6, _, _, _, rfl, by rw [hs7], hm7 ▸ F7, N7, TP6, GB6, Ext.refl _, by rw [hpw2 rfl]; exact hq2b⟩
        · subst h
          k_steps
          refine Stop.go ?_
          refine wpAny_IfExp ?_
          k_steps
          refine Stop.go ?_
          refine specG_use (mul_spec w S x5 x4 ms (sqF 3 ms k) (el 3 ms.length k) _ hms2 hms4 hp hp2) (by k_asm) (by k_asm) (by k_asm) TP6 GB6 (by k_asm) (XX6.off offB) (by k_asm) (by first | rfl | assumption) ⟨hq2b, hq1b, fun a h => (hSB a h).imp fun o ho => XX6.sub _ ho⟩ (by ktr_room) (by ktr_units) (RetG.mk ?_)
          intro r ps8 led8 h8' g8 tk8 X8 TP8 GB8 F8 N8 ho8
          obtain ⟨x8, rfl, hz8⟩ := ho8
          dsimp only [PySem.W.CmpBack]
          exact Stop.go ⟨x8, ps8, led8, _, _, _, rfl, by rw [hs7], hm7 ▸ F8, N8, TP8, GB8, X8, by rw [hpw3 rfl]; exact hz8⟩
        · subst h
          k_steps
          refine Stop.go ?_
          refine wpAny_IfExp ?_
          k_steps
          refine Stop.go ?_
          refine specG_use (mul_spec w S x6 x4 ms (foF 5 ms k) (el 5 ms.length k) _ hms2 hms4 hp hp2) (by k_asm) (by k_asm) (by k_asm) TP6 GB6 (by k_asm) (XX6.off offB) (by k_asm) (by first | rfl | assumption) ⟨hq3, hq1b, fun a h => (hSB a h).imp fun o ho => XX6.sub _ ho⟩ (by ktr_room) (by ktr_units) (RetG.mk ?_)
          intro r ps8 led8 h8' g8 tk8 X8 TP8 GB8 F8 N8 ho8
          obtain ⟨x8, rfl, hz8⟩ := ho8
          dsimp only [PySem.W.CmpBack]
          exact Stop.go ⟨x8, ps8, led8, _, _, _, rfl, by rw [hs7], hm7 ▸ F8, N8, TP8, GB8, X8, by rw [hpw5 rfl]; exact hz8⟩
      case rest =>
        intro v s' hR8
        obtain ⟨z, ps8, led8, h8, g8, tk8, rfl, rfl, F8, N8, TP8, GB8, X8, hqz⟩ := Stop.un hR8
        subst hs7
        rw [hm7] at F8
        clear hm7 F7 N7
        have XX8 := XX6.trans X8
        obtain ⟨R8, s1, XR8, s3, off8, ho8⟩ := XX8.norm offR hoR
        have NF8 : News h₀ L h8 ((De, listOf ev.toArray k1) :: (Dp, listOf pv.toArray k2) :: (Do, listOf ov.toArray k3) :: (Df, listOf fv.toArray k4) :: (44, TabO ps8) :: (its ++ R8)) := kst_newsOf N8 (by
          intro q hq
          simp only [List.mem_cons] at hq
          rcases hq with h | h | h | h | h | h
          · exact .tail _ (s1 q (by simp [h]))
          · exact .tail _ (s1 q (by simp [h]))
          · exact .tail _ (s1 q (by simp [h]))
          · exact .tail _ (s1 q (by simp [h]))
          · exact h ▸ .head _
          · exact .tail _ (s1 q (by simp only [List.mem_cons]; exact .inr (.inr (.inr (.inr h))))))
        have toR : ∀ q ∈ led8, (q.2.cls = .type "list" ∧ S q.1) ∨ q.2.cls = .type "range_iterator" ∨ q ∈ R8 := by
          intro q hq
          rw [hS]
          rcases s3 q hq with rfl | rfl | rfl | rfl | h | h
          · exact .inl ⟨rfl, .inl rfl⟩
          · exact .inl ⟨rfl, .inr (.inl rfl)⟩
          · exact .inl ⟨rfl, .inr (.inr (.inl rfl))⟩
          · exact .inl ⟨rfl, .inr (.inr (.inr rfl))⟩
          · exact .inr (.inl (hits q h))
          · exact .inr (.inr h)
        have hcc : "range_iterator" ≠ "list" ∧ "range_iterator" ≠ "tuple" ∧ "range_iterator" ≠ "dict" := by decide
        have fz := hqz.to hcc toR
        have f1 := (hq1b.mono X8.sub).to hcc toR
        have f2 := (hq2b.mono X8.sub).to hcc toR
        have f3 := (hq3.mono X8.sub).to hcc toR
        clear hqz hq1b hq2b hq3 hq2 hq1 N8 s3 toR s1
        clear i1 i1' i2 i2' i1b i1b' i2b i2b' i3b i3b' mlp mDl3 mP3 mP6 XR3 XX4 XX5 XX6 XX8 X4 X5 X6 X8
        obtain ⟨dz, Dz1, Dz2, Dz3, tpz, tz1, tz2, tz3, tz4, tz5, tz6, ysz, zsz, mvz, kz, az1, az2, az3, az4, az5, az6, az7, az8, az9, az10, az11, az12⟩ := id fz
        have evl : ev.length = k := by rw [hev.length, List.length_range]
        have pvl : pv.length = k := by rw [hpv.length, List.length_range]
        have ovl : ov.length ≤ k := by rw [hov.length]; exact ownL_le ..
        have fvl : fv.length ≤ k := by rw [hfv.length]; exact fixL_le ..
        have hiE : ∀ q ∈ its, q.1 ≠ De := fun q hq => Ne.symm (ho2 (De, listOf ev.toArray k1) (by simp) q hq)
        have hiP : ∀ q ∈ its, q.1 ≠ Dp := fun q hq => Ne.symm (ho2 (Dp, listOf pv.toArray k2) (by simp) q hq)
        have hiO : ∀ q ∈ its, q.1 ≠ Do := fun q hq => Ne.symm (ho2 (Do, listOf ov.toArray k3) (by simp) q hq)
        have hiF : ∀ q ∈ its, q.1 ≠ Df := fun q hq => Ne.symm (ho2 (Df, listOf fv.toArray k4) (by simp) q hq)
        have oE : ∀ q ∈ its ++ R8, q.1 ≠ De := fun q hq => (List.mem_append.mp hq).elim (hiE q) fun h => (off8 q h).1
        have oP' : ∀ q ∈ its ++ R8, q.1 ≠ Dp := fun q hq => (List.mem_append.mp hq).elim (hiP q) fun h => (off8 q h).2.1
        have oO : ∀ q ∈ its ++ R8, q.1 ≠ Do := fun q hq => (List.mem_append.mp hq).elim (hiO q) fun h => (off8 q h).2.2.1
        have oF : ∀ q ∈ its ++ R8, q.1 ≠ Df := fun q hq => (List.mem_append.mp hq).elim (hiF q) fun h => (off8 q h).2.2.2
        obtain ⟨du, Du1, Du2, Du3, tpu, tu1, tu2, tu3, tu4, tu5, tu6, ysu, zsu, mvu, ku, au1, au2, au3, au4, au5, au6, au7, au8, au9, au10, au11, au12⟩ := id f1
        obtain ⟨d2b, es2b, i2b, i2b'⟩ := f2.inst
        obtain ⟨d3b, es3b, i3b, i3b'⟩ := f3.inst
        k_steps
        rename_i h9 F9 N9
        refine Stop.go ?_
        refine append_K F9 N9 (.head (by
          intro q hq
          simp only [List.mem_cons] at hq
          rcases hq with rfl | rfl | rfl | rfl | hq
          · exact Ne.symm e12
          · exact Ne.symm e13
          · exact Ne.symm e14
          · exact Ne.symm e1
          · exact oE q hq)) ?_ (by rw [List.size_toArray, PySem.sizeLine_eq]; omega)
        intro h10 F10 N10
        rw [List.push_toArray] at N10
        clear F9 N9
        k_steps
        refine Stop.go ?_
        refine append_K F10 N10 (.tail e12 (.head (by
          intro q hq
          simp only [List.mem_cons] at hq
          rcases hq with rfl | rfl | rfl | hq
          · exact Ne.symm e23
          · exact Ne.symm e24
          · exact Ne.symm e2
          · exact oP' q hq))) ?_ (by rw [List.size_toArray, PySem.sizeLine_eq]; omega)
        intro h11 F11 N11
        rw [List.push_toArray] at N11
        clear F10 N10
        k_steps
        obtain ⟨m12, hm12⟩ := name_map F11
        have mon12 : ∀ q ∈ R8, q ∈ (De, listOf (ev ++ [Value.ref x4]).toArray (k1 + 1)) :: (Dp, listOf (pv ++ [Value.ref Dz2]).toArray (k2 + 1)) :: (Do, listOf ov.toArray k3) :: (Df, listOf fv.toArray k4) :: (44, TabO ps8) :: (its ++ R8) := by
          intro q hq
          simp only [List.mem_cons, List.mem_append]
          exact .inr (.inr (.inr (.inr (.inr (.inr hq)))))
        refine Stop.go ?_
        refine cut (R := fun v s' => Stop (∃ hZ tkZ lv' kZ, v = Flow.next ∧ s' = { s7 with heap := hZ, gens := g8, toks := tkZ } ∧ Fr h₀ L hZ m12 ∧ News h₀ L hZ ((De, listOf (ev ++ [Value.ref x4]).toArray (k1 + 1)) :: (Dp, listOf (pv ++ [Value.ref Dz2]).toArray (k2 + 1)) :: (Do, listOf lv'.toArray kZ) :: (Df, listOf fv.toArray k4) :: (44, TabO ps8) :: (its ++ R8)) ∧ Els (IsEl w S R8 p' ms) lv' (ownL p' ms (k + 1)))) ?ife ?rest
        case ife =>
          refine wpAny_If ?_
          k_steps
          refine Stop.go ?_
          refine spec_use (eq_spec w S x5 x4 ms (sqF p' ms k) (el p' ms.length k) p' hms2 hms4 hp hp2) (by k_asm) (by k_asm) (by k_asm) (by k_asm) (by k_asm) (by first | rfl | assumption) ⟨f2.mono mon12, f1.mono mon12⟩ (by ktr_room) (by ktr_units) (Ret.mk ?_)
          intro r led12 h12e tk12e X12e F12e N12e ho12e
          subst ho12e
          have N12f := kst_newsOf N12e X12e.sub
          clear N12e
          dsimp only [PySem.W.CmpBack]
          by_cases hcond : sqF p' ms k = el p' ms.length k
          · rw [decide_eq_true hcond]
            k_steps
            refine Stop.go ?_
            refine append_K F12e N12f (.tail e13 (.tail e23 (.head (by
              intro q hq
              simp only [List.mem_cons] at hq
              rcases hq with rfl | rfl | hq
              · exact Ne.symm e34
              · exact Ne.symm e3
              · exact oO q hq)))) ?_ (by rw [List.size_toArray, PySem.sizeLine_eq]; omega)
            intro h12g F12g N12g
            rw [List.push_toArray] at N12g
            k_steps
            refine Stop.go ⟨_, _, ov ++ [.ref x4], _, rfl, rfl, hm12 ▸ F12g, N12g, ?_⟩
            rw [ownL_succ, if_pos hcond]
            exact (hov.mono (IsEl.mono XR8.sub)).snoc ⟨x4, rfl, f1⟩
          · rw [decide_eq_false hcond]
            k_steps
            refine Stop.go ⟨_, _, ov, _, rfl, rfl, hm12 ▸ F12e, N12f, ?_⟩
            rw [ownL_succ, if_neg hcond, List.append_nil]
            exact hov.mono (IsEl.mono XR8.sub)
        case rest =>
          intro v s' hR12
          obtain ⟨h12z, tk12z, ov', k3', rfl, rfl, F12z, N12z, hE12⟩ := Stop.un hR12
          rw [hm12] at F12z
          clear hm12 F11 N11
          dsimp only
          k_steps
          obtain ⟨m13, hm13⟩ := name_map F12z
          have mon13 : ∀ q ∈ R8, q ∈ (De, listOf (ev ++ [Value.ref x4]).toArray (k1 + 1)) :: (Dp, listOf (pv ++ [Value.ref Dz2]).toArray (k2 + 1)) :: (Do, listOf ov'.toArray k3') :: (Df, listOf fv.toArray k4) :: (44, TabO ps8) :: (its ++ R8) := by
            intro q hq
            simp only [List.mem_cons, List.mem_append]
            exact .inr (.inr (.inr (.inr (.inr (.inr hq)))))
          refine Stop.go ?_
          refine cut (R := fun v s' => Stop (∃ hZ tkZ lv' kZ, v = Flow.next ∧ s' = { s7 with heap := hZ, gens := g8, toks := tkZ } ∧ Fr h₀ L hZ m13 ∧ News h₀ L hZ ((De, listOf (ev ++ [Value.ref x4]).toArray (k1 + 1)) :: (Dp, listOf (pv ++ [Value.ref Dz2]).toArray (k2 + 1)) :: (Do, listOf ov'.toArray k3') :: (Df, listOf lv'.toArray kZ) :: (44, TabO ps8) :: (its ++ R8)) ∧ Els (IsEl w S R8 p' ms) lv' (fixL p' ms (k + 1)))) ?ife ?rest
          case ife =>
            refine wpAny_If ?_
            k_steps
            refine Stop.go ?_
            refine spec_use (eq_spec w S z x4 ms (pwF p' ms k) (el p' ms.length k) p' hms2 hms4 hp hp2) (by k_asm) (by k_asm) (by k_asm) (by k_asm) (by k_asm) (by first | rfl | assumption) ⟨fz.mono mon13, f1.mono mon13⟩ (by ktr_room) (by ktr_units) (Ret.mk ?_)
            intro r led13 h13e tk13e X13e F13e N13e ho13e
            subst ho13e
            have N13f := kst_newsOf N13e X13e.sub
            clear N13e
            dsimp only [PySem.W.CmpBack]
            by_cases hcond : pwF p' ms k = el p' ms.length k
            · rw [decide_eq_true hcond]
              k_steps
              refine Stop.go ?_
              refine append_K F13e N13f (.tail e14 (.tail e24 (.tail e34 (.head (by
                intro q hq
                simp only [List.mem_cons] at hq
                rcases hq with rfl | hq
                · exact Ne.symm e4
                · exact oF q hq))))) ?_ (by rw [List.size_toArray, PySem.sizeLine_eq]; omega)
              intro h13g F13g N13g
              rw [List.push_toArray] at N13g
              k_steps
              refine Stop.go ⟨_, _, fv ++ [.ref x4], _, rfl, rfl, hm13 ▸ F13g, N13g, ?_⟩
              rw [fixL_succ, if_pos hcond]
              exact (hfv.mono (IsEl.mono XR8.sub)).snoc ⟨x4, rfl, f1⟩
            · rw [decide_eq_false hcond]
              k_steps
              refine Stop.go ⟨_, _, fv, _, rfl, rfl, hm13 ▸ F13e, N13f, ?_⟩
              rw [fixL_succ, if_neg hcond, List.append_nil]
              exact hfv.mono (IsEl.mono XR8.sub)
          case rest =>
            intro v s' hR13
            obtain ⟨h13z, tk13z, fv', k4', rfl, rfl, F13z, N13z, hE13⟩ := Stop.un hR13
            rw [hm13] at F13z
            clear hm13 F12z N12z
            dsimp only
            k_steps
            refine Stop.go ?_
            refine wpAny_If ?_
            have N14 := kst_newsOf N13z NF_44
            clear N13z
            k_steps
            refine Stop.go ?_
            refine specG_use (zero_spec w S x4 ms (el p' ms.length k) p' hms2 hms4 hp hp2) (by k_asm) (by k_asm) (by k_asm) TP8 GB8 (by k_asm) (NF_off e1 e2 e3 e4 hi44 (XR8.off (XR.off off0))) (by k_asm) (by first | rfl | assumption) ⟨f1.mono NF_mon4, by rw [hS]; exact NF_S4⟩ (by ktr_room) (by ktr_units) (RetG.mk ?_)
            intro r ps15 led15 h15 g15 tk15 X15 TP15 GB15 F15 N15 ho15
            obtain ⟨x15, rfl, hz15⟩ := ho15
            obtain ⟨R15, s1, XR15, s3, off15, ho15'⟩ := X15.norm off8 ho8
            have N16 := kst_newsOf N15 (NF_put s1)
            have fx : FQ w S R15 x15 p' ms (zrF p' ms) := hz15.to hcc (by rw [hS]; exact NF_toR rfl rfl rfl rfl hits s3)
            have f3' := f3.mono XR15.sub
            obtain ⟨d15, es15, i15, i15'⟩ := fx.inst
            obtain ⟨d16, es16, i16, i16'⟩ := f3'.inst
            clear N15 s1 s3 hz15
            dsimp only [PySem.W.CmpBack]
            k_steps
            refine Stop.go ?_
            refine spec_use (eq_spec w S x6 x15 ms (foF p' ms k) (zrF p' ms) p' hms2 hms4 hp hp2) (by k_asm) (by k_asm) (by k_asm) (by k_asm) (by k_asm) (by first | rfl | assumption) ⟨f3'.mono NF_mon, fx.mono NF_mon⟩ (by ktr_room) (by ktr_units) (Ret.mk ?_)
            intro r led17 h17 tk17 X17 F17 N17e ho17
            subst ho17
            have N17 := kst_newsOf N17e X17.sub
            clear N17e
            have hoEnd : ∀ p ∈ (De, listOf (ev ++ [Value.ref x4]).toArray (k1 + 1)) :: (Dp, listOf (pv ++ [Value.ref Dz2]).toArray (k2 + 1)) :: (Do, listOf ov'.toArray k3') :: (Df, listOf fv'.toArray k4') :: (44, TabO ps15) :: R15, ∀ q ∈ its, p.1 ≠ q.1 := by
              intro p hp q hq
              simp only [List.mem_cons] at hp
              rcases hp with rfl | rfl | rfl | rfl | rfl | hp
              · exact Ne.symm (hiE q hq)
              · exact Ne.symm (hiP q hq)
              · exact Ne.symm (hiO q hq)
              · exact Ne.symm (hiF q hq)
              · exact Ne.symm (hi44 q hq)
              · exact ho15' p hp q hq
            dsimp only [PySem.W.CmpBack]
            by_cases hcond : foF p' ms k = zrF p' ms
            · rw [decide_eq_true hcond]
              k_steps
              rename_i h18 F18 N18
              have NE : News h₀ L _ (its ++ (De, listOf (ev ++ [Value.ref x4]).toArray (k1 + 1)) :: (Dp, listOf (pv ++ [Value.ref Dz2]).toArray (k2 + 1)) :: (Do, listOf ov'.toArray k3') :: (Df, listOf fv'.toArray k4') :: (44, TabO ps15) :: R15) := kst_newsOf N18 NF_out
              have hg : ((goneN p' ms (k + 1) : Nat) : Int) = (goneN p' ms k : Int) + 1 := by
                rw [goneN_succ, if_pos hcond]
                rfl
              show EndG _ _ _ _ _ _
              refine ⟨_, _, _, _, (De, listOf (ev ++ [Value.ref x4]).toArray (k1 + 1)) :: (Dp, listOf (pv ++ [Value.ref Dz2]).toArray (k2 + 1)) :: (Do, listOf ov'.toArray k3') :: (Df, listOf fv'.toArray k4') :: (44, TabO ps15) :: R15, rfl, F18, NE, hoEnd, trivial, GB15, ?_⟩
              refine' ⟨ps15, R15, ev ++ [.ref x4], pv ++ [.ref Dz2], ov', fv', k1 + 1, k2 + 1, k3', k4', tk17 + 1, ?q1, ?q2, ?q3, ?q4, ?q5, ?q6, ?q7, ?q8, ?q9, ?q10⟩
              case q10 =>
                rw [hg]
                dsimp only
                repeat (first | exact fr_hit rfl rfl | refine fr_skip (by decide +kernel) ?_)
              case q1 => exact TP15
              case q2 => exact rfl
              case q3 => exact XR.trans (XR8.trans XR15)
              case q4 => exact off15
              case q5 =>
                rw [List.range_succ]
                exact (hev.mono (IsEl.mono (XR8.trans XR15).sub)).snoc ⟨x4, rfl, f1.mono XR15.sub⟩
              case q6 =>
                rw [List.range_succ]
                exact (hpv.mono (IsPw.mono (XR8.trans XR15).sub)).snoc ⟨Dz2, zsz, 0, rfl, XR15.sub _ az5, az7⟩
              case q7 => exact hE12.mono (IsEl.mono XR15.sub)
              case q8 => exact hE13.mono (IsEl.mono XR15.sub)
              case q9 =>
                intro q hq
                have hq' := hkn2 q hq
                simp only [List.mem_cons, List.not_mem_nil, or_false] at hq
                rcases hq with rfl | rfl | rfl | rfl | rfl | rfl | rfl | rfl | rfl
                all_goals dsimp only at hq' ⊢
                all_goals (repeat (first | exact fr_hit rfl rfl | exact hq' | refine fr_skip (by decide +kernel) ?_))
            · rw [decide_eq_false hcond]
              k_steps
              have NE : News h₀ L _ (its ++ (De, listOf (ev ++ [Value.ref x4]).toArray (k1 + 1)) :: (Dp, listOf (pv ++ [Value.ref Dz2]).toArray (k2 + 1)) :: (Do, listOf ov'.toArray k3') :: (Df, listOf fv'.toArray k4') :: (44, TabO ps15) :: R15) := kst_newsOf N17 NF_out
              have hg : ((goneN p' ms (k + 1) : Nat) : Int) = (goneN p' ms k : Int) := by
                rw [goneN_succ, if_neg hcond]
                rfl
              show EndG _ _ _ _ _ _
              refine ⟨_, _, _, _, (De, listOf (ev ++ [Value.ref x4]).toArray (k1 + 1)) :: (Dp, listOf (pv ++ [Value.ref Dz2]).toArray (k2 + 1)) :: (Do, listOf ov'.toArray k3') :: (Df, listOf fv'.toArray k4') :: (44, TabO ps15) :: R15, rfl, F17, NE, hoEnd, trivial, GB15, ?_⟩
              refine' ⟨ps15, R15, ev ++ [.ref x4], pv ++ [.ref Dz2], ov', fv', k1 + 1, k2 + 1, k3', k4', tgo, ?q1, ?q2, ?q3, ?q4, ?q5, ?q6, ?q7, ?q8, ?q9, ?q10⟩
              case q10 =>
                rw [hg]
                dsimp only
                repeat (first | exact fr_hit rfl rfl | refine fr_skip (by decide +kernel) ?_)
              case q1 => exact TP15
              case q2 => exact rfl
              case q3 => exact XR.trans (XR8.trans XR15)
              case q4 => exact off15
              case q5 =>
                rw [List.range_succ]
                exact (hev.mono (IsEl.mono (XR8.trans XR15).sub)).snoc ⟨x4, rfl, f1.mono XR15.sub⟩
              case q6 =>
                rw [List.range_succ]
                exact (hpv.mono (IsPw.mono (XR8.trans XR15).sub)).snoc ⟨Dz2, zsz, 0, rfl, XR15.sub _ az5, az7⟩
              case q7 => exact hE12.mono (IsEl.mono XR15.sub)
              case q8 => exact hE13.mono (IsEl.mono XR15.sub)
              case q9 =>
                intro q hq
                have hq' := hkn2 q hq
                simp only [List.mem_cons, List.not_mem_nil, or_false] at hq
                rcases hq with rfl | rfl | rfl | rfl | rfl | rfl | rfl | rfl | rfl
                all_goals dsimp only at hq' ⊢
                all_goals (repeat (first | exact fr_hit rfl rfl | exact hq' | refine fr_skip (by decide +kernel) ?_))

end Mine
end

section
open PySem PySem.W PyProof.Rows
set_option Elab.async false
set_option maxRecDepth 100000
set_option maxHeartbeats 4000000
namespace Mine
theorem ghost_noseer {h₁ : Heap} {tabs : List (Addr × Addr)} (hT : TabsAt tabs h₁) (x : h₁.NoSeer) : (ghostOf h₁ tabs).NoSeer where
  statics := let ⟨mc, a, b⟩ := x.statics; ⟨mc, ghost_ns hT a, b⟩
  mods := let ⟨mc, a, b⟩ := x.mods; ⟨mc, ghost_ns hT a, b⟩
  imp := let ⟨mc, a, b⟩ := x.imp; ⟨mc, ghost_ns hT a, b⟩
  main := let ⟨mg, bm, ob, a, b, c, d, e⟩ := x.main; ⟨mg, bm, ob, ghost_ns hT a, b, ghost_get hT c (fun q => by rw [q] at d; cases d), d, e⟩
theorem top_vw0 {h₁ : Heap} {tabs : List (Addr × Addr)} {p : Program} {loose : List Str} {mean : ExcName → Option Value} {mg mb : Str → Option Value} (hT : TabsAt tabs h₁) (T : Top p loose mean mg mb h₁)
    (hn : (loose ++ (recsOf p).map (·.name) ++ (litsOf p).map (·.1) ++ (clssOf p loose).map (·.name)).all (fun x => lo0.contains x) = true) (hi : importsNone p = true) : TopV mean mg mb (ghostOf h₁ tabs) where
  g := ghost_ns hT T.g
  b := ghost_ns hT T.b
  nolimit := let ⟨mc, a, r⟩ := T.nolimit; ⟨mc, ghost_ns hT a, r⟩
  nodigits := let ⟨mc, a, r⟩ := T.nodigits; ⟨mc, ghost_ns hT a, r⟩
  fn := fun d hd => absurd (show d ∈ ([] : List DefRec) from hd) List.not_mem_nil
  own := fun o ho => absurd (show o ∈ ([] : List OwnSpec) from ho) List.not_mem_nil
  const := fun x d e => by cases (show (none : Option PyData) = some d from e)
  free := fun x h1 h2 _ _ _ => by
    have k : ∀ y ∈ loose ++ (recsOf p).map (·.name) ++ (litsOf p).map (·.1) ++ (clssOf p loose).map (·.name), y ∈ lo0 := fun y hy => List.contains_iff_mem.mp (List.all_eq_true.mp hn y hy)
    exact T.free x h1 (fun q => h2 (k _ (List.mem_append_left _ (List.mem_append_left _ (List.mem_append_left _ q)))))
      (fun q => h2 (k _ (List.mem_append_left _ (List.mem_append_left _ (List.mem_append_right _ q))))) (fun q => h2 (k _ (List.mem_append_left _ (List.mem_append_right _ q)))) fun q => h2 (k _ (List.mem_append_right _ q))
  builtins := T.builtins
  tab := fun d hd => absurd (show d ∈ ([] : List DefRec) from hd) List.not_mem_nil
  bmain := let ⟨bm, ob, a1, a2, a3, a4, r⟩ := T.bmain; ⟨bm, ob, a1, a2, ghost_get hT a3 (fun q => by rw [q] at a4; cases a4), a4, r⟩
  seer := fun _ => ghost_noseer hT (T.seer hi)
theorem ghost_old {h₁ h' : Heap} {c P : Addr} {ps : Array Value} (hT : TabsAt [(c, P)] h₁) (st : (ghostOf h₁ [(c, P)]).StaysIn h') (ht : h'.get? P = some (TabO ps)) : OldK h₁ h' := by
  have keep : ∀ b o, b ≠ P → h₁.get? b = some o → h'.get? b = some o := fun b o hb e => st b o (ghost_ne e (fun hm => hb (List.mem_singleton.mp hm)))
  have grown : ∀ o, h₁.get? P = some o → isCodeTable h₁ P ∧ o = tabObj #[] := fun o e => by
    have e2 := (hT _ (.head _)).2
    rw [e] at e2
    exact ⟨((hT _ (.head _)).1.tab (hT _ (.head _)).2).isCodeTable, Option.some.inj e2⟩
  refine ⟨fun b o e => ?_, fun b o e => ?_⟩
  · by_cases hb : b = P
    · subst hb
      obtain ⟨h1, rfl⟩ := grown o e
      exact .inr (.inl ⟨h1, rfl, #[], ps, rfl, by rw [Array.empty_append]; exact ht⟩)
    · exact .inl (keep b o hb e)
  · by_cases hb : b = P
    · subst hb
      exact ⟨_, ht⟩
    · exact ⟨o, keep b o hb e⟩
end Mine
end

section
open PySem PySem.W PyProof.Rows
set_option Elab.async false
set_option maxRecDepth 100000 in
set_option maxHeartbeats 8000000 in
theorem PySem.Challenge.cw_bb0062_01_holds : PySem.Challenge.rw_bb0062_01.Holds := by
  w_on
  o_law
  o_head (kmHook Mine.hd.heap_39 [2, 3, 15, 17, 18, 20, 21, 22, 24, 25, 27, 28, 29, 31, 32, 34, 35, 43, 46, 47, 48, 50, 51, 53, 54, 55, 58, 59, 60, 63, 64, 65, 67, 68, 70, 71, 72, 75, 76, 77, 79, 80, 82, 83, 84, 87, 88, 89, 91, 92, 94, 95, 96, 99, 100, 101, 104, 105, 106, 108, 109, 111, 112, 113, 115, 116, 118, 119, 120, 122, 123, 125, 126, 127, 130, 131, 132, 134, 135, 137, 138, 139, 140, 142, 143, 145, 146, 147, 149, 150, 152, 153, 154, 155, 156, 157, 158, 161, 162, 163, 164, 165, 166, 167, 168, 171, 172, 173, 176, 177, 178, 180, 181, 183, 184, 185, 188, 189] (fun _ => by kernel_rfl) [44])
  case hw => w_witness2
  k_fill
  intro w s₀ s₁ mg mb G Y fa o pm cd doc dV kV ho hd hcd hD hmg hg args vals as hpre hlay hrd hwl hlo
  have KX := km_in_of Y
  have hT8 := km_tabs_of Y
  refine Ground.open G ?_
  intro T B D TE TW
  try (refine guard_noD D (by decide +kernel) ?_; clear D)
  clear hmg
  wrow_args hpre hlay hrd hwl hlo
  first | refine callC_kw (enter_call ?_) | refine enter_call ?_
  have T0 := T
  w_top on
  w_call any ho hd hcd hD T F
  clear hd
  rename_i ns hs1 hs2 hs3 hs4 hs5 w5 w4 ls vs w1 hL ra wel r0 hI hr hc1 hc2 h₁ tk₁ o9 ho9 N0 X0
  have hT : TabsAt [((46 : Nat), (44 : Nat))] s₁.heap := fun q hq => by
    rw [List.mem_singleton.mp hq]
    exact ⟨codeHd_of_K KX (by kernel_rfl), hT8 44 (.head _)⟩
  have hns := ghost_news hT F N0
  have N1 : News (ghostOf s₁.heap [((46 : Nat), (44 : Nat))]) s₁.heap.objs.size h₁ [(44, Mine.TabO #[]), (s₁.heap.objs.size + 1, o9)] := kst_newsOf hns (by
    intro q hq
    simp only [List.mem_cons, List.not_mem_nil, or_false] at hq
    rcases hq with rfl | rfl
    · exact .tail _ (.head _)
    · exact .head _)
  have TV := Mine.top_vw0 hT T0 (by decide +kernel) (by decide +kernel)
  have KG := ghost_K hT KX (by kernel_rfl)
  have LG := ghost_list hT hL
  have FG := ghost_fr hT F
  refine wpAny_noRaise ?_
  refine' Mine.law_walk w ?hfn _ mg mb _ _ _ fa _ [] callerA _ _ _ _ o9 _ _ _ (below_caller _) FG KG TV ?GB N1 ?ho9 ls vs ns LG hI ?n63 ?hm Mine.plain ?hdp ?hun PassesOwn.never ?hQ
  case hfn => k_is
  case GB =>
    show AllBare s₁.gens
    rw [hg]
    intro y hy
    simp at hy
  case ho9 => exact ho9
  case n63 => omega
  case hm => rfl
  case hdp => decide
  case hun => decide
  case hQ =>
    intro h' g' tk' ps' st ht gb
    refine ⟨.inl ⟨_, _, _, rfl, fun _ => rfl, .bool true, ?post, fun _ => ⟨List.nodup_nil, fun a ha => nomatch ha⟩⟩, Mine.ghost_old hT st ht, rfl, gb⟩
    exact postW_of (by wrow_shape) (by wtm_val) (by w_fin)
end
