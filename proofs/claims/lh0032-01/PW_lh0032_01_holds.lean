import PyProof.Rows.All
import Wide.All
import OpenK.AllK
import Wide.FinOn
import Lean
import PySem.Challenge.RW_lh0032_01
set_option Elab.async false
section
open PySem PySem.W PyProof.Rows PySem.Calls PySem.Spec
set_option Elab.async false
set_option maxRecDepth 100000
namespace Mine
section
variable {prog : Program} {w : World} {A : Around} {E : Value → Shared → Prop} {s : Shared}

theorem next_tup {it t : Addr} {i : Nat} {items : Array Value} {x : Value} {Q : Value → Shared → Prop} (hit : s.heap.IsTupleIter it t i)
    (ht : s.heap.IsTuple t items) (hx : items[i]? = some x)
    (hQ : ∀ h', h'.IsTupleIter it t (i + 1) → Heap.SameBut it s.heap h' → Q x { s with heap := h' }) :
    wpAny (model prog w) A (Builtin.SmallTypes.nextOf (.ref it)) Q E s := by
  obtain ⟨o, ho, hc, hd⟩ := id hit
  obtain ⟨ol, hol, _, nl, hdl⟩ := ht
  unfold Builtin.SmallTypes.nextOf
  refine wpAny_bind (wpAny_callSpecial?_slot (name := Str.ofString "__next__") hit.typeIs F.slot_tuple_iterator_next
    (wpAny_call_entry F.slot_tuple_iterator_next hit.typeIs F.entry_tuple_iterator_next ?_ (F.args_tuple_iterator_next_1 _)))
  show wpAny _ _ (field (.ref it) 0 >>= _) _ _ s
  refine wpAny_bind (wpAny_field ho hd (x := .ref t) rfl ?_)
  show wpAny _ _ (if (Value.ref t == Value.none) = true then _ else _) _ _ s
  rw [if_neg (show ¬ ((Value.ref t == Value.none) = true) from Bool.false_ne_true)]
  show wpAny _ _ (field (.ref it) 1 >>= _) _ _ s
  refine wpAny_bind (wpAny_field ho hd (x := .int i 0) rfl ?_)
  show wpAny _ _ (seqItems? (.ref t) >>= _) _ _ s
  refine wpAny_bind (wpAny_seqItems hol hdl ?_)
  simp only [Int.toNat_natCast, hx]
  refine wpAny_bind (wpAny_setField ho hd (by simp) (wpAny_pure ⟨x, rfl, wpAny_pure (hQ _ ?_ (Heap.SameBut.update ..))⟩))
  exact ⟨_, Heap.get?_update_self _ ho (Obj.isFreed_of_fields (Obj.data_mapFields hd _)), (Obj.cls_mapFields ..).trans hc, by
    rw [Obj.data_mapFields hd]; simp [rawInt]⟩

theorem next_tup_end {it t : Addr} {i : Nat} {items : Array Value} {Q : Value → Shared → Prop} (hh : A.handled = none)
    (hit : s.heap.IsTupleIter it t i) (ht : s.heap.IsTuple t items) (hx : items[i]? = none)
    (hE : ∀ h' e, Heap.ExtBut it s.heap h' → (∃ o, h'.get? e = some o ∧ o.cls = .type "StopIteration") → E (.ref e) { s with heap := h' }) :
    wpAny (model prog w) A (Builtin.SmallTypes.nextOf (.ref it)) Q E s := by
  obtain ⟨o, ho, hc, hd⟩ := id hit
  obtain ⟨ol, hol, _, nl, hdl⟩ := ht
  unfold Builtin.SmallTypes.nextOf
  refine wpAny_bind (wpAny_callSpecial?_slot (name := Str.ofString "__next__") hit.typeIs F.slot_tuple_iterator_next
    (wpAny_call_entry F.slot_tuple_iterator_next hit.typeIs F.entry_tuple_iterator_next ?_ (F.args_tuple_iterator_next_1 _)))
  show wpAny _ _ (field (.ref it) 0 >>= _) _ _ s
  refine wpAny_bind (wpAny_field ho hd (x := .ref t) rfl ?_)
  show wpAny _ _ (if (Value.ref t == Value.none) = true then _ else _) _ _ s
  rw [if_neg (show ¬ ((Value.ref t == Value.none) = true) from Bool.false_ne_true)]
  show wpAny _ _ (field (.ref it) 1 >>= _) _ _ s
  refine wpAny_bind (wpAny_field ho hd (x := .int i 0) rfl ?_)
  show wpAny _ _ (seqItems? (.ref t) >>= _) _ _ s
  refine wpAny_bind (wpAny_seqItems hol hdl ?_)
  simp only [Int.toNat_natCast, hx]
  refine wpAny_bind (wpAny_rule (wpAny_bind (wpAny_setField ho hd (by simp) ?_)))
  show wpAny _ _ (newExc (.type "StopIteration") [] >>= _) _ _ _
  refine wpAny_bind ?_
  simp only [newExc, newTuple]
  refine wpAny_bind (wpAny_newObj_type ?_ (by size_fits))
  refine wpAny_bind (m := firstArgMember _ _) (wpAny_of_eq (a := Value.none) (by first | rfl | (simp only [firstArgMember]; rfl)) ?_)
  refine wpAny_newObj_type ?_ (by size_fits)
  simp only [raiseNew]
  refine wpAny_bind (wpAny_handled ?_)
  first | rw [show A.in1.handled = none from hh] | rw [hh]
  refine wpAny_bind (wpAny_pure (wpAny_throw ?_))
  exact hE _ _ (((Heap.SameBut.update ..).extBut.push _).push _) ⟨_, Heap.get?_push_size _ rfl, rfl⟩

theorem enumT_next {e it t : Addr} {i : Nat} {items : Array Value} {x old : Value} {Q : Value → Shared → Prop}
    (he : IsEnum s.heap e it i old) (hit : s.heap.IsTupleIter it t i) (ht : s.heap.IsTuple t items) (hx : items[i]? = some x) (hne : e ≠ it)
    (hQ : ∀ h', IsEnumOut h' e it ((i : Int) + 1) x s.heap.objs.size → h'.IsTupleIter it t (i + 1) →
      h'.get? s.heap.objs.size = some { cls := .type "tuple", data := .seq #[.int i s.toks, x] } → h'.objs.size = s.heap.objs.size + 1 →
      (∀ b o, b ≠ e → b ≠ it → s.heap.get? b = some o → h'.get? b = some o) → Q (.ref s.heap.objs.size) { s with heap := h', toks := s.toks + 1 }) :
    wpAny (model prog w) A (Builtin.«enumerate.__next__» ⟨[.ref e], []⟩) (fun fin s' => ∃ v, fin = .done (.ret v) ∧ Q v s') E s := by
  obtain ⟨hp, g, d, tk, os⟩ := s
  show wpAny _ _ (field (.ref e) 2 >>= _) _ _ _
  refine wpAny_bind (wpAny_field he rfl (x := .ref it) rfl ?_)
  refine wpAny_bind (next_tup hit ht hx fun h₁ hit₁ hs₁ => ?_)
  replace hs₁ : Heap.SameBut it hp h₁ := hs₁
  have he₁ : IsEnum h₁ e it i old := (hs₁.2 e hne).trans he
  show wpAny _ _ (field (.ref e) 3 >>= _) _ _ ⟨h₁, g, d, tk, os⟩
  refine wpAny_bind (wpAny_field he₁ rfl (x := rawInt i) rfl ?_)
  show wpAny _ _ (field (.ref e) 4 >>= _) _ _ ⟨h₁, g, d, tk, os⟩
  refine wpAny_bind (wpAny_field he₁ rfl (x := .none) rfl ?_)
  show wpAny _ _ (mkInt i >>= _) _ _ ⟨h₁, g, d, tk, os⟩
  refine wpAny_bind (wpAny_mkInt ?_)
  show wpAny _ _ (setField (.ref e) 3 (rawInt ((i : Int) + 1)) >>= _) _ _ ⟨h₁, g, d, tk + 1, os⟩
  refine wpAny_bind (wpAny_setField_rec he₁ (by simp) fun h₂ he₂ hs₂ => ?_)
  replace hs₂ : Heap.SameBut e h₁ h₂ := hs₂
  replace he₂ : IsEnum h₂ e it ((i : Int) + 1) old := he₂
  show wpAny _ _ (setField (.ref e) 4 .none >>= _) _ _ ⟨h₂, g, d, tk + 1, os⟩
  refine wpAny_bind (wpAny_setField_rec he₂ (by simp) fun h₃ he₃ hs₃ => ?_)
  replace hs₃ : Heap.SameBut e h₂ h₃ := hs₃
  replace he₃ : IsEnum h₃ e it ((i : Int) + 1) old := he₃
  show wpAny _ _ (newTuple [.int i tk, x] >>= _) _ _ ⟨h₃, g, d, tk + 1, os⟩
  refine wpAny_bind (wpAny_newTuple ?_)
  have he₄ : IsEnum (h₃.push { cls := .type "tuple", data := .seq #[.int i tk, x] }) e it ((i : Int) + 1) old := Heap.get?_push_of_some _ he₃
  generalize hh₄ : h₃.push { cls := .type "tuple", data := .seq #[.int i tk, x] } = h₄ at he₄
  have hsz : h₃.objs.size = hp.objs.size := by rw [hs₃.1, hs₂.1, hs₁.1]
  have hel : e < hp.objs.size := Heap.lt_size he
  have ht₄ : h₄.get? hp.objs.size = some { cls := .type "tuple", data := .seq #[.int i tk, x] } := by rw [← hh₄, ← hsz]; exact Heap.get?_push_size _ rfl
  have hz₄ : h₄.objs.size = hp.objs.size + 1 := by rw [← hh₄, Heap.size_push, hsz]
  have hk₄ : ∀ b o, b ≠ e → b ≠ it → hp.get? b = some o → h₄.get? b = some o := fun b o hbe hbi hb => by
    rw [← hh₄]; exact Heap.get?_push_of_some _ (hs₃.extBut b o hbe (hs₂.extBut b o hbe (hs₁.extBut b o hbi hb)))
  have hit₄ : h₄.IsTupleIter it t (i + 1) := by
    rw [← hh₄]; obtain ⟨o, ho, r⟩ := (hit₁.extBut hs₂.extBut (Ne.symm hne)).extBut hs₃.extBut (Ne.symm hne); exact ⟨o, Heap.get?_push_of_some _ ho, r⟩
  show wpAny _ _ (Builtin.SmallTypes.ownedTupleIsFree (.ref e) >>= _) _ _ ⟨h₄, g, d, tk + 1, os⟩
  rw [hsz]
  clear hh₄ he₃ hs₃ he₂ hs₂ he₁ hs₁ hit₁ hsz h₃ h₂ h₁
  refine wpAny_bind ?_
  · unfold Builtin.SmallTypes.ownedTupleIsFree
    refine wpAny_bind (wpAny_field he₄ rfl (x := .none) rfl (wpAny_pure ?_))
    simp only [if_true]
    refine wpAny_bind (wpAny_rule ?_)
    refine wpAny_bind (wpAny_field he₄ rfl (x := old) rfl ?_)
    refine wpAny_bind (wpAny_setField_rec he₄ (by simp) fun h₅ he₅ hs₅ => ?_)
    replace hs₅ : Heap.SameBut e h₄ h₅ := hs₅
    replace he₅ : IsEnum h₅ e it ((i : Int) + 1) x := he₅
    show wpAny _ _ (Builtin.SmallTypes.ownedTupleHandOut (.ref e) (.ref hp.objs.size) >>= _) _ _ ⟨h₅, g, d, tk + 1, os⟩
    refine wpAny_bind ?_
    · unfold Builtin.SmallTypes.ownedTupleHandOut
      refine wpAny_bind (wpAny_setField_rec he₅ (by simp) fun h₆ he₆ hs₆ => ?_)
      replace hs₆ : Heap.SameBut e h₅ h₆ := hs₆
      replace he₆ : IsEnumOut h₆ e it ((i : Int) + 1) x hp.objs.size := he₆
      refine wpAny_setField_rec he₆ (by simp) fun h₇ he₇ hs₇ => ?_
      replace hs₇ : Heap.SameBut e h₆ h₇ := hs₇
      replace he₇ : IsEnumOut h₇ e it ((i : Int) + 1) x hp.objs.size := he₇
      refine wpAny_bind (wpAny_letGo (wpAny_pure ⟨_, rfl, hQ h₇ he₇ ?_ ?_ ?_ ?_⟩))
      · exact ((hit₄.extBut hs₅.extBut (Ne.symm hne)).extBut hs₆.extBut (Ne.symm hne)).extBut hs₇.extBut (Ne.symm hne)
      · exact hs₇.extBut _ _ (Nat.ne_of_gt hel) (hs₆.extBut _ _ (Nat.ne_of_gt hel) (hs₅.extBut _ _ (Nat.ne_of_gt hel) ht₄))
      · rw [hs₇.1, hs₆.1, hs₅.1, hz₄]
      · exact fun b o hbe hbi hb => hs₇.extBut b o hbe (hs₆.extBut b o hbe (hs₅.extBut b o hbe (hk₄ b o hbe hbi hb)))

theorem pyNext_enumT {e it t : Addr} {i : Nat} {items : Array Value} {x old : Value} {Q : Option Value → Shared → Prop}
    (he : IsEnum s.heap e it i old) (hit : s.heap.IsTupleIter it t i) (ht : s.heap.IsTuple t items) (hx : items[i]? = some x) (hne : e ≠ it)
    (hQ : ∀ h', IsEnumOut h' e it ((i : Int) + 1) x s.heap.objs.size → h'.IsTupleIter it t (i + 1) →
      h'.get? s.heap.objs.size = some { cls := .type "tuple", data := .seq #[.int i s.toks, x] } → h'.objs.size = s.heap.objs.size + 1 →
      (∀ b o, b ≠ e → b ≠ it → s.heap.get? b = some o → h'.get? b = some o) → Q (some (.ref s.heap.objs.size)) { s with heap := h', toks := s.toks + 1 }) :
    wpAny (model prog w) A (pyNext (.ref e)) Q E s := by
  have hT : s.TypeIs (.ref e) "enumerate" := ⟨_, he, rfl⟩
  unfold pyNext
  exact wpAny_bind (wpAny_attempt (wpAny_callSpecial?_slot (name := Str.ofString "__next__") hT F.slot_enumerate_next
    (wpAny_call_entry F.slot_enumerate_next hT F.entry_enumerate_next
      (enumT_next he hit ht hx hne fun h' a b c d k => wpAny_pure (hQ h' a b c d k)) (F.args_enumerate_next_1 _))))

theorem pyNext_enumT_end {e it t : Addr} {i : Nat} {items : Array Value} {old : Value} {Q : Option Value → Shared → Prop} (hh : A.handled = none)
    (he : IsEnum s.heap e it i old) (hit : s.heap.IsTupleIter it t i) (ht : s.heap.IsTuple t items) (hx : items[i]? = none)
    (hQ : ∀ h', Heap.ExtBut it s.heap h' → Q none { s with heap := h' }) : wpAny (model prog w) A (pyNext (.ref e)) Q E s := by
  have hT : s.TypeIs (.ref e) "enumerate" := ⟨_, he, rfl⟩
  unfold pyNext
  refine wpAny_bind (wpAny_attempt (wpAny_callSpecial?_slot (name := Str.ofString "__next__") hT F.slot_enumerate_next
    (wpAny_call_entry F.slot_enumerate_next hT F.entry_enumerate_next ?_ (F.args_enumerate_next_1 _))))
  show wpAny _ _ (field (.ref e) 2 >>= _) _ _ _
  refine wpAny_bind (wpAny_field he rfl (x := .ref it) rfl ?_)
  refine wpAny_bind (next_tup_end hh hit ht hx fun h' x he' hx' => ?_)
  obtain ⟨o, ho, hc⟩ := hx'
  refine wpAny_bind (wpAny_isInstance (T := "StopIteration") (b := true) ⟨o, ho, hc⟩ isSubtype_stop ?_)
  exact wpAny_pure (hQ _ he')

theorem meets_enumT (l : Addr) (items : Array Value) (n : Nat) (dct : Option Addr) (sl : Array (Option Value)) :
    Meets (Builtin.«enumerate.__new__» ⟨[.type "enumerate", .ref l], []⟩) (fun _ R s => s.heap.get? l = some { cls := .type "tuple", dict := dct, data := .seq items n, slots := sl } ∧
      R (.ok (.ret (.ref (s.heap.push { cls := .type "tuple_iterator", data := .fields #[.ref l, .int 0 0] }).objs.size)))
        { s with heap := (s.heap.push { cls := .type "tuple_iterator", data := .fields #[.ref l, .int 0 0] }).push { cls := .type "enumerate", data := .fields #[.none, .bool false, .ref s.heap.objs.size, rawInt 0, .none, .none] } }) :=
  .of_wp fun prog w A R s h => by
    obtain ⟨hp, g, d, tk, os⟩ := s; obtain ⟨hl, h⟩ := h
    have hsub := sub_enumerate
    have hL : Heap.IsTuple (Shared.heap ⟨hp, g, d, tk, os⟩) l items := ⟨_, hl, rfl, n, rfl⟩
    wp_walk using AutoSeq1.wpAny_loadPart' hl
    refine wpAny_stack_any fun st => wpAny_pure ?_
    split
    · rename_i c _ _ _ _ _
      cases (c == Value.type "enumerate")
      · wp_walk using AutoSeq1.wpAny_loadPart' hl, wpAny_pyIter_tuple hL
        exact ⟨_, rfl, h⟩
      · wp_walk using AutoSeq1.wpAny_loadPart' hl, wpAny_pyIter_tuple hL
        exact ⟨_, rfl, h⟩
    · wp_walk using AutoSeq1.wpAny_loadPart' hl, wpAny_pyIter_tuple hL
      exact ⟨_, rfl, h⟩

theorem call_enumT {l : Addr} {items : Array Value} {Q : Value → Shared → Prop}
    (hl : s.heap.IsTuple l items)
    (h : ∀ h', IsEnum h' (s.heap.objs.size + 1) s.heap.objs.size 0 .none → h'.IsTupleIter s.heap.objs.size l 0 → h'.objs.size = s.heap.objs.size + 2 →
      (∀ b o, s.heap.get? b = some o → h'.get? b = some o) → Q (.ref (s.heap.objs.size + 1)) { s with heap := h' }) :
    wpAny (model prog w) A (call (.type "enumerate") [.ref l]) Q E s := by
  obtain ⟨⟨cls, dct, dt, sl⟩, ho, hcl, n, hd⟩ := hl
  simp only at hcl hd
  subst hcl hd
  refine callType_new F.called_enumerate (by decide) (F.typeCall_enumerate_1 _) (F.newCall_enumerate_1 _) (fun obj => F.args_object_init_2 obj _) F.entry_enumerate_new
    (meets_enumT l items n dct sl) ⟨ho, ?_⟩
  have hz : (s.heap.push { cls := .type "tuple_iterator", data := .fields #[.ref l, .int 0 0] }).objs.size = s.heap.objs.size + 1 := Heap.size_push ..
  show _ ∧ _
  rw [hz]
  have he : IsEnum ((s.heap.push { cls := .type "tuple_iterator", data := .fields #[.ref l, .int 0 0] }).push
      { cls := .type "enumerate", data := .fields #[.none, .bool false, .ref s.heap.objs.size, rawInt 0, .none, .none] }) (s.heap.objs.size + 1) s.heap.objs.size 0 .none := by
    have := Heap.get?_push_size (s.heap.push { cls := .type "tuple_iterator", data := .fields #[.ref l, .int 0 0] })
      (o := { cls := .type "enumerate", data := .fields #[.none, .bool false, .ref s.heap.objs.size, rawInt 0, .none, .none] }) rfl
    rw [hz] at this; exact this
  refine ⟨⟨_, he, rfl⟩, h _ he ⟨_, Heap.get?_push_of_some _ (Heap.get?_push_size _ rfl), rfl, rfl⟩ (by rw [Heap.size_push, hz]) fun b o x => Heap.get?_push_of_some _ (Heap.get?_push_of_some _ x)⟩
end
end Mine
end
section
open PySem PySem.W PyProof.Rows PySem.Calls PySem.Spec PyProof.Rows.LCg
set_option Elab.async false
set_option maxRecDepth 100000
namespace Mine
section
variable {prog : Program} {w : World} {A : Around} {E : Value → Shared → Prop} {s : Shared}

theorem pairElt {env : Env} {a b : Str} {pa pb p2 : Pos} {k2 : Nat} {va vb : Value} {m : Str → Option Value} {Q : Value → Shared → Prop}
    (hk : env.scope.kind = .function) (ha : env.kindOf a = some .local) (hb : env.kindOf b = some .local) (hda : (a == ("__debug__" : Str)) = false) (hdb : (b == ("__debug__" : Str)) = false)
    (hn : s.heap.Ns env.locals m) (hma : m a = some va) (hmb : m b = some vb)
    (h : Q (.ref s.heap.objs.size) { s with heap := s.heap.push { cls := .type "tuple", data := .seq #[va, vb] } }) :
    wpAny (model prog w) A (eval (.Tuple [.Name a pa, .Name b pb] k2 p2) env) Q E s := by
  refine wpAny_Tuple ?_
  refine spliced_more (wpAny_Name (wpAny_loadName_local hk ha hn hma ?_) hda)
  refine spliced_more (wpAny_Name (wpAny_loadName_local hk hb hn hmb ?_) hdb)
  refine spliced_none ⟨by size_fits, ?_⟩
  exact h

/-- one clause over an enumerate that stands over a tuple of ints; the list that comes is a new one, its items are not said -/
theorem enumComp {env : Env} {iter : Expr} {a b : Str} {pa pb tp pa' pb' p2 pc : Pos} {kk k2 : Nat} {scope : Scope} {cl : List (Str × Addr)} {pos : Pos} {s₂ : Shared} {e it t : Addr} {items : Array Value}
    {RR : Value → Addr → Result → Shared → Prop}
    (hh : A.handled = none) (hsz : items.size ≤ sizeLine) (hE : IsEnum s₂.heap e it 0 .none) (hI : s₂.heap.IsTupleIter it t 0) (hT : s₂.heap.IsTuple t items)
    (hei : e ≠ it) (hte : t ≠ e) (hti : t ≠ it) (hints : ∀ (i : Nat) v, items[i]? = some v → ∃ n tk, v = Value.int n tk)
    (hcell : ∀ y ∈ scope.names, y.2 ≠ .cell) (hkind : scope.kind = .function) (hxa : scope.names.lookup a = some .local) (hxb : scope.names.lookup b = some .local) (hab : ¬ a = b)
    (hda : (a == ("__debug__" : Str)) = false) (hdb : (b == ("__debug__" : Str)) = false)
    (hRR : ∀ (D C : Addr) (h : Heap) (tk : Nat) (m' : Str → Option Value) (ys : List Value), D = s₂.heap.objs.size → C = s₂.heap.objs.size + 1 → h.Ns C m' → h.get? D = some (lst ys) →
      (∀ b o, b ≠ e → b ≠ it → s₂.heap.get? b = some o → h.get? b = some o) → RR (.ref D) C (.ok .next) { s₂ with heap := h, toks := tk }) :
    wpAny (model prog w) A (newList []) (fun acc s₃ => wpAny (model prog w) A (newFunctionEnv scope env.globals cl [] env.qual none .none (some env)) (fun cenv s₄ =>
      codeAny (model prog w) A (.compStart (.ListComp (.Tuple [.Name a pa', .Name b pb'] k2 p2) [⟨.Tuple [.Name a pa, .Name b pb] kk tp, iter, [.Name b pc], 0⟩] scope pos) 0 (.ref e) acc { cenv with scope := relabel scope env }) (RR acc cenv.locals) s₄) E s₃) E s₂ := by
  refine wpAny_newObj_type (wpAny_newFunctionEnv hcell (by intro y hy; simp at hy) (fun h₁ hns₁ hsb₁ => ?_) hkind)
  dsimp only at hns₁ hsb₁ ⊢
  generalize hH2 : s₂.heap.push { cls := .type "list", dict := none, data := .seq ([] : List Value).toArray } = H2 at hns₁ hsb₁ ⊢
  have hC : H2.objs.size = s₂.heap.objs.size + 1 := by rw [← hH2, Heap.size_push]
  have hDC : s₂.heap.objs.size ≠ H2.objs.size := by rw [hC]; exact Nat.ne_of_lt (Nat.lt_succ_self _)
  have below : ∀ b, b < s₂.heap.objs.size → b ≠ H2.objs.size ∧ b ≠ s₂.heap.objs.size := fun b hb => ⟨by rw [hC]; exact Nat.ne_of_lt (Nat.lt_succ_of_lt hb), Nat.ne_of_lt hb⟩
  have helt : e < s₂.heap.objs.size := Heap.lt_size hE
  have hilt : it < s₂.heap.objs.size := by obtain ⟨_, x, _⟩ := hI; exact Heap.lt_size x
  have htlt : t < s₂.heap.objs.size := by obtain ⟨_, x, _⟩ := hT; exact Heap.lt_size x
  have old : ∀ b o, s₂.heap.get? b = some o → h₁.get? b = some o := fun b o x => hsb₁.extBut b o (below b (Heap.lt_size x)).1 (Heap.get?_push_of_some _ (hH2 ▸ Heap.get?_push_of_some _ x))
  have hacc : h₁.get? s₂.heap.objs.size = some (lst []) := hsb₁.extBut _ _ hDC (Heap.get?_push_of_some _ (hH2 ▸ Heap.get?_push_size _ rfl))
  have hE₁ : IsEnum h₁ e it 0 .none := old _ _ hE
  have hI₁ : h₁.IsTupleIter it t 0 := hI.at fun o x => old _ _ x
  have hT₁ : h₁.IsTuple t items := hT.at fun o x => old _ _ x
  have hsc : (compEnvC scope cl H2.objs.size env).scope.kind = .function := by simp [compEnvC, relabel, hkind]
  have hka : (compEnvC scope cl H2.objs.size env).kindOf a = some .local := lookup_relabel_local hxa
  have hkb : (compEnvC scope cl H2.objs.size env).kindOf b = some .local := lookup_relabel_local hxb
  have hpl : ((compEnvC scope cl H2.objs.size env).scope.kind == .class || ((compEnvC scope cl H2.objs.size env).scope.kind == .module && (compEnvC scope cl H2.objs.size env).locals != (compEnvC scope cl H2.objs.size env).globals)) = false := by rw [hsc]; rfl
  have loop : ∀ s₃ : Shared, s₃ = { s₂ with heap := h₁, toks := s₂.toks + ([] : List (Str × Value)).length } →
      codeAny (model prog w) A (.compLoop (.ListComp (.Tuple [.Name a pa', .Name b pb'] k2 p2) [⟨.Tuple [.Name a pa, .Name b pb] kk tp, iter, [.Name b pc], 0⟩] scope pos) 0 (.ref e) (.ref s₂.heap.objs.size) (compEnvC scope cl H2.objs.size env))
        (RR (.ref s₂.heap.objs.size) H2.objs.size) s₃ := by
    rintro s₃ rfl
    refine kct_loop
      (fun k s' => ∃ h' tk i ys m', s' = { s₂ with heap := h', toks := tk } ∧ i ≤ items.size ∧ k = items.size + 1 - i ∧ ys.length ≤ i ∧ (∃ old, IsEnum h' e it i old) ∧ h'.IsTupleIter it t i ∧ h'.IsTuple t items ∧
        h'.Ns H2.objs.size m' ∧ h'.get? s₂.heap.objs.size = some (lst ys) ∧ (∀ b o, b ≠ e → b ≠ it → s₂.heap.get? b = some o → h'.get? b = some o)) ?_ (items.size + 1)
      ⟨h₁, _, 0, [], _, rfl, Nat.zero_le _, rfl, Nat.le_refl _, ⟨_, hE₁⟩, hI₁, hT₁, hns₁, hacc, fun b o _ _ x => old b o x⟩
    rintro k s' ⟨h', tk, i, ys, m', rfl, hi, rfl, hyl, ⟨ov, hE'⟩, hI', hT', hn', hD', hkp⟩
    by_cases hlt : i < items.size
    · have hx : items[i]? = some items[i] := Array.getElem?_eq_getElem hlt
      obtain ⟨n, tn, hv⟩ := hints i _ hx
      refine pyNext_enumT (s := { s₂ with heap := h', toks := tk }) hE' hI' hT' hx hei fun h₂ hO₂ hI₂ hU₂ hs₂ hk₂ => ?_
      have hsz' : h'.objs.size > H2.objs.size := hn'.lt
      have hne_e : h'.objs.size ≠ e := Nat.ne_of_gt (Nat.lt_trans (Nat.lt_trans helt (by omega)) hsz')
      refine wpAny_letOwnedTupleGo_enum hO₂ fun h₃ hE₃ hs₃ => ?_
      have hU₃ : h₃.IsTuple h'.objs.size #[.int i tk, items[i]] := ⟨_, hs₃.extBut _ _ hne_e hU₂, rfl, _, rfl⟩
      have up₃ : ∀ c o, c ≠ e → c ≠ it → h'.get? c = some o → h₃.get? c = some o := fun c o h1 h2 x => hs₃.extBut c o h1 (hk₂ c o h1 h2 x)
      have hCe : H2.objs.size ≠ e := Ne.symm (below e helt).1
      have hCi : H2.objs.size ≠ it := Ne.symm (below it hilt).1
      have hDe : s₂.heap.objs.size ≠ e := Ne.symm (below e helt).2
      have hDi : s₂.heap.objs.size ≠ it := Ne.symm (below it hilt).2
      refine kcp_assign (env := compEnvC scope cl H2.objs.size env) hh hU₃ hka hkb hpl (hn'.at' fun o x => up₃ _ o hCe hCi x) fun h₄ tk₄ hn₄ hs₄ => ?_
      have up : ∀ c o, c ≠ e → c ≠ it → c ≠ H2.objs.size → h'.get? c = some o → h₄.get? c = some o := fun c o h1 h2 h3 x => hs₄ c o h3 (up₃ c o h1 h2 x)
      have hE₄ : IsEnum h₄ e it ((i : Int) + 1) items[i] := hs₄ e _ (Ne.symm hCe) hE₃
      have hI₃ : h₃.IsTupleIter it t (i + 1) := hI₂.extBut hs₃.extBut (Ne.symm hei)
      have hI₄ : h₄.IsTupleIter it t (i + 1) := hI₃.at fun o x => hs₄ it o (Ne.symm hCi) x
      have hT₄ : h₄.IsTuple t items := hT'.at fun o x => up t o hte hti (below t htlt).1 x
      have hD₄ : h₄.get? s₂.heap.objs.size = some (lst ys) := up _ _ hDe hDi hDC hD'
      have hkp₄ : ∀ b o, b ≠ e → b ≠ it → s₂.heap.get? b = some o → h₄.get? b = some o := fun b o h1 h2 x => up b o h1 h2 (below b (Heap.lt_size x)).1 (hkp b o h1 h2 x)
      have mb : (fun z => if z = b then some items[i] else if z = a then some (Value.int i tk) else m' z) b = some items[i] := by simp
      have ma : (fun z => if z = b then some items[i] else if z = a then some (Value.int i tk) else m' z) a = some (Value.int i tk) := by simp [hab]
      have fin : ∀ (h₅ : Heap) (tk₅ : Nat) (ys' : List Value), ys'.length ≤ i + 1 → IsEnum h₅ e it ((i : Int) + 1) items[i] → h₅.IsTupleIter it t (i + 1) → h₅.IsTuple t items → (∃ m₅, h₅.Ns H2.objs.size m₅) →
          h₅.get? s₂.heap.objs.size = some (lst ys') → (∀ b o, b ≠ e → b ≠ it → s₂.heap.get? b = some o → h₅.get? b = some o) →
          ∃ q', q' < items.size + 1 - i ∧ (∃ h' tk i ys m', ({ s₂ with heap := h₅, toks := tk₅ } : Shared) = { s₂ with heap := h', toks := tk } ∧ i ≤ items.size ∧ q' = items.size + 1 - i ∧ ys.length ≤ i ∧ (∃ old, IsEnum h' e it i old) ∧ h'.IsTupleIter it t i ∧ h'.IsTuple t items ∧
        h'.Ns H2.objs.size m' ∧ h'.get? s₂.heap.objs.size = some (lst ys) ∧ (∀ b o, b ≠ e → b ≠ it → s₂.heap.get? b = some o → h'.get? b = some o)) := by
        intro h₅ tk₅ ys' hl hE₅ hI₅ hT₅ ⟨m₅, hn₅⟩ hD₅ hk₅
        exact ⟨items.size + 1 - (i + 1), by omega, h₅, tk₅, i + 1, ys', m₅, rfl, hlt, rfl, hl, ⟨_, by simpa using hE₅⟩, hI₅, hT₅, hn₅, hD₅, hk₅⟩
      refine isTrue_plain (wpAny_Name (wpAny_loadName_local hsc hkb hn₄ mb ?_) hdb)
      rw [hv]
      refine truthy_int ?_
      rw [hv] at fin
      by_cases hz : (n != 0) = true
      · rw [hz]
        simp only [if_true]
        refine pairElt hsc hka hkb hda hdb hn₄ ma mb ?_
        have hD₅ := Heap.get?_push_of_some (h := h₄) ({ cls := .type "tuple", data := .seq #[Value.int i tk, items[i]] } : Obj) hD₄
        refine append_at (hsz := by show ys.toArray.size ≤ sizeLine; rw [List.size_toArray]; exact Nat.le_trans hyl (Nat.le_trans hi hsz)) hD₅ fun h₆ hs₆ hD₆ => ?_
        have up₆ : ∀ b o, b ≠ s₂.heap.objs.size → h₄.get? b = some o → h₆.get? b = some o := fun b o hb x => hs₆.extBut b o hb (Heap.get?_push_of_some _ x)
        refine fin h₆ _ (ys ++ [.ref h₄.objs.size]) (by rw [List.length_append, List.length_singleton]; exact Nat.succ_le_succ hyl) (up₆ _ _ (Ne.symm hDe) (hv ▸ hE₄)) (hI₄.at fun o x => up₆ _ o (Ne.symm hDi) x) (hT₄.at fun o x => up₆ _ o (below t htlt).2 x)
          ⟨_, hn₄.at' fun o x => up₆ _ o (Ne.symm hDC) x⟩ (hD₆.trans (congrArg some (lst_snoc ys _))) (fun b o h1 h2 x => up₆ b o (below b (Heap.lt_size x)).2 (hkp₄ b o h1 h2 x))
      · have hz' : (n != 0) = false := by simpa using hz
        rw [hz']
        simp only [Bool.false_eq_true, if_false]
        exact fin h₄ tk₄ ys (Nat.le_succ_of_le hyl) (hv ▸ hE₄) hI₄ hT₄ ⟨_, hn₄⟩ hD₄ hkp₄
    · have hin : i = items.size := Nat.le_antisymm hi (Nat.not_lt.mp hlt)
      subst hin
      refine pyNext_enumT_end (s := { s₂ with heap := h', toks := tk }) hh hE' hI' hT' (Array.getElem?_eq_none (Nat.le_refl _)) fun h₂ hx₂ => ?_
      have hCi : H2.objs.size ≠ it := Ne.symm (below it hilt).1
      have hDi : s₂.heap.objs.size ≠ it := Ne.symm (below it hilt).2
      exact hRR _ _ h₂ tk m' ys rfl hC (hn'.at' fun o x => hx₂ _ o hCi x) (hx₂ _ _ hDi hD') fun b o h1 h2 x => hx₂ b o h2 (hkp b o h1 h2 x)
  exact codeAny_compStart_list (loop _ rfl) (wpAny_pyIter_enum hE₁ (loop _ rfl))
end
end Mine
end
section
open PySem PySem.W PyProof.Rows PySem.Calls PySem.Spec PyProof.Rows.LCg
set_option Elab.async false
set_option maxRecDepth 100000
namespace Mine
section
variable {prog : Program} {w : World} {A : Around} {E : Value → Shared → Prop} {s : Shared} {h₀ : Heap} {L : Addr} {m : Str → Option Value} {news : List (Addr × Obj)}

/-- what stands behind the source of the comprehension -/
structure EnumOk (A : Around) (h₀ : Heap) (L : Addr) (m : Str → Option Value) (news : List (Addr × Obj)) (h : Heap) (e : Addr) : Prop where
  out : ∃ (it t : Addr) (items : Array Value), A.handled = none ∧ items.size ≤ sizeLine ∧ IsEnum h e it 0 .none ∧ h.IsTupleIter it t 0 ∧ h.IsTuple t items ∧ e ≠ it ∧ t ≠ e ∧ t ≠ it ∧
    (∀ (i : Nat) v, items[i]? = some v → ∃ n tk, v = Value.int n tk) ∧ Fr h₀ L h m ∧ News h₀ L h news ∧ (∀ p ∈ news, p.1 ≠ e ∧ p.1 ≠ it) ∧ h₀.get? e = none ∧ h₀.get? it = none ∧ L ≠ e ∧ L ≠ it
def EnumSrc (A : Around) (h₀ : Heap) (L : Addr) (m : Str → Option Value) (Q : Value → Shared → Prop) (xv : Value) (s₁ : Shared) : Prop :=
  ∃ (e : Addr) (news : List (Addr × Obj)), xv = .ref e ∧ EnumOk A h₀ L m news s₁.heap e ∧
    (∀ (D : Addr) (ys : List Value) (h : Heap) (tk : Nat), Fr h₀ L h m → News h₀ L h ((D, lst ys) :: news) → (∀ p ∈ news, p.1 < D) → Q (.ref D) { s₁ with heap := h, toks := tk })
theorem EnumSrc.of {Q : Value → Shared → Prop} {s₁ : Shared} {e : Addr} {news : List (Addr × Obj)} (X : EnumOk A h₀ L m news s₁.heap e)
    (fin : ∀ (D : Addr) (ys : List Value) (h : Heap) (tk : Nat), Fr h₀ L h m → News h₀ L h ((D, lst ys) :: news) → (∀ p ∈ news, p.1 < D) → Q (.ref D) { s₁ with heap := h, toks := tk }) : EnumSrc A h₀ L m Q (.ref e) s₁ := ⟨e, news, rfl, X, fin⟩

theorem intsAre_at : ∀ {vs : List Value} {ns : List Int}, IntsAre vs ns → ∀ (i : Nat) v, vs[i]? = some v → ∃ n tk, v = Value.int n tk
  | _, _, .nil, i, v, h => by simp at h
  | _, _, .cons n t r, 0, v, h => by simp at h; exact ⟨n, t, h.symm⟩
  | _, _, .cons n t r, i + 1, v, h => intsAre_at r i v (by simpa using h)

theorem enumCallK {t : Addr} {vs : List Value} {ns : List Int} {o : Obj} {Q : Value → Shared → Prop} (hh : A.handled = none) (F : Fr h₀ L s.heap m) (N : News h₀ L s.heap news)
    (hm : (t, o) ∈ news) (hc : o.cls = .type "tuple") (hd : ∃ k, o.data = .seq vs.toArray k) (hv : IntsAre vs ns) (hsz : vs.length ≤ sizeLine)
    (h : ∀ e h', Fr h₀ L h' m → News h₀ L h' news → EnumOk A h₀ L m news h' e → Q (.ref e) { s with heap := h' }) :
    wpAny (model prog w) A (call (.type "enumerate") [.ref t]) Q E s := by
  have hT : s.heap.IsTuple t vs.toArray := ⟨_, (N _ hm).1, hc, hd⟩
  refine call_enumT hT fun h' hE hI hs hk => ?_
  have F' : Fr h₀ L h' m := F.keeps hk
  have N' : News h₀ L h' news := fun p hp => ⟨hk _ _ (N p hp).1, (N p hp).2⟩
  have htlt : t < s.heap.objs.size := Heap.lt_size (N _ hm).1
  have fresh₀ : ∀ a, s.heap.objs.size ≤ a → h₀.get? a = none := fun a ha => by
    cases q : h₀.get? a with
    | none => rfl
    | some o' => exact absurd (Heap.lt_size (F.keep a o' q)) (Nat.not_lt.mpr ha)
  have hLlt : L < s.heap.objs.size := F.ns.lt
  refine h _ h' F' N' ⟨s.heap.objs.size, t, vs.toArray, hh, by simpa using hsz, hE, hI, hT.at fun o x => hk _ o x, Nat.ne_of_gt (Nat.lt_succ_self _), Nat.ne_of_lt (Nat.lt_succ_of_lt htlt), Nat.ne_of_lt htlt, ?_, F', N', fun p hp => ?_, fresh₀ _ (Nat.le_succ _), fresh₀ _ (Nat.le_refl _), Nat.ne_of_lt (Nat.lt_succ_of_lt hLlt), Nat.ne_of_lt hLlt⟩
  · intro i v hi
    exact intsAre_at hv i v (by simpa using hi)
  · have := Heap.lt_size (N p hp).1
    exact ⟨Nat.ne_of_lt (Nat.lt_succ_of_lt this), Nat.ne_of_lt this⟩

theorem enumListComp {env : Env} {iter : Expr} {a b : Str} {pa pb tp pa' pb' p2 pc : Pos} {kk k2 : Nat} {scope : Scope} {cl : List (Str × Addr)} {pos : Pos} {Q : Value → Shared → Prop}
    (_F₀ : Fr h₀ L s.heap m) (hclos : closureFor scope env = pure cl) (hcell : ∀ y ∈ scope.names, y.2 ≠ .cell) (hkind : scope.kind = .function)
    (hnames : ∀ y ∈ scope.names, y.2 = .local → scope.names.lookup y.1 = some .local) (hxa : scope.names.lookup a = some .local) (hxb : scope.names.lookup b = some .local) (hab : ¬ a = b)
    (hda : (a == ("__debug__" : Str)) = false) (hdb : (b == ("__debug__" : Str)) = false)
    (h : wpAny (model prog w) A (eval iter env) (EnumSrc A h₀ L m Q) E s)
    (hs : ∀ x, foldedSetIterable iter env x = pure x) :
    wpAny (model prog w) A (eval (.ListComp (.Tuple [.Name a pa', .Name b pb'] k2 p2) [⟨.Tuple [.Name a pa, .Name b pb] kk tp, iter, [.Name b pc], 0⟩] scope pos) env) Q E s := by
  rw [eval_ListComp]
  refine wpAny_comprehension_free (use := none) rfl hs hclos hkind hnames (wpAny_mono h (fun xv s₁ h₁ => ?_) fun _ _ e => e)
  obtain ⟨e, news, rfl, X, fin⟩ := h₁
  obtain ⟨it, t, items, hh, hsz, hE, hI, hT, hei, hte, hti, hints, F, N, hoff, he0, hi0, hLe, hLi⟩ := X.out
  refine wpAny_pyIter_enum hE ?_
  refine enumComp hh hsz hE hI hT hei hte hti hints hcell hkind hxa hxb hab hda hdb ?_
  intro D C h' tk m' ys hD hC hn hDl hk
  subst hD hC
  have hLlt : L < s₁.heap.objs.size := F.ns.lt
  have fresh₀ : ∀ a, s₁.heap.objs.size ≤ a → h₀.get? a = none := fun a ha => by
    cases q : h₀.get? a with
    | none => rfl
    | some o' => exact absurd (Heap.lt_size (F.keep a o' q)) (Nat.not_lt.mpr ha)
  have hDC : s₁.heap.objs.size ≠ s₁.heap.objs.size + 1 := Nat.ne_of_lt (Nat.lt_succ_self _)
  refine ⟨m', hn, fun h'' hs'' => fin _ ys h'' tk ?_ ?_ fun p hp => Heap.lt_size (N p hp).1⟩
  · refine ⟨F.ns.at' fun o x => hs''.extBut _ o (Nat.ne_of_lt (Nat.lt_succ_of_lt hLlt)) (hk _ o hLe hLi x), fun b o x => ?_, F.above⟩
    have hb : b < s₁.heap.objs.size := Heap.lt_size (F.keep b o x)
    exact hs''.extBut b o (Nat.ne_of_lt (Nat.lt_succ_of_lt hb)) (hk b o (fun q => by rw [q, he0] at x; cases x) (fun q => by rw [q, hi0] at x; cases x) (F.keep b o x))
  · intro p hp
    rcases List.mem_cons.mp hp with rfl | hp
    · exact ⟨hs''.extBut _ _ hDC hDl, Ne.symm (Nat.ne_of_lt hLlt), fresh₀ _ (Nat.le_refl _)⟩
    · have hb : p.1 < s₁.heap.objs.size := Heap.lt_size (N p hp).1
      exact ⟨hs''.extBut _ _ (Nat.ne_of_lt (Nat.lt_succ_of_lt hb)) (hk _ _ (hoff p hp).1 (hoff p hp).2 (N p hp).1), (N p hp).2⟩

end
end Mine
end
section
open PySem PySem.W PyProof.Rows PySem.Calls PySem.Spec
set_option Elab.async false
set_option maxRecDepth 100000
namespace Mine
abbrev tabO (ps : Array Value) : Obj := { cls := .none, data := .fields ps }
section
variable {M : Model} {A : Around} {E : Value → Shared → Prop} {s : Shared}
theorem genCode_any {env : Env} {c P : Addr} {ps : Array Value} {pos : Pos} {qualname : Str} {scope : Scope} {Q : Value → Shared → Prop} (hc : env.code = .ref c) (hok : s.heap.IsCode c P ps) (htab : s.heap.TableAt c P ps)
    (hQ : ∀ code h' tk ps', Heap.ExtBut P s.heap h' → s.heap.objs.size ≤ h'.objs.size → h'.IsCode c P ps' → h'.TableAt c P ps' → Q code { s with heap := h', toks := tk }) :
    wpAny M A (genexprCode env pos qualname scope) Q E s := by
  cases hnf : codeAmong pos ps.toList with
  | none => exact wpAny_genexprCodeX hc hok htab hnf fun c' h' tk hx h1 h2 h3 _ h4 _ => hQ _ h' tk _ hx (Nat.le_trans h1 (Nat.le_of_lt h2)) h3 h4
  | some cv =>
    obtain ⟨o, vs, file, tf, flags, tg, inF, text, tt, op, ho, hd, h11, h2, h7, h9, h10, hop, hpd, htr, hne⟩ := id hok
    unfold genexprCode codeAt
    rw [hc, if_neg (show ¬ ((Value.ref c == Value.none) = true) from Bool.false_ne_true)]
    refine wpAny_bind (wpAny_fieldsOf ho hd ?_)
    rw [h11]
    refine wpAny_bind (wpAny_fieldsOf hop hpd ?_)
    rw [hnf]
    exact wpAny_pure (hQ cv s.heap s.toks ps (Heap.ExtBut.refl _ _) (Nat.le_refl _) hok htab)
end
section
variable {prog : Program} {w : World} {A : Around} {E : Value → Shared → Prop} {s : Shared}

/-- a generator that will give n values and change nothing below a bound -/
def GenOk (prog : Program) (w : World) (A : Around) (b : Nat) (a : Addr) (n : Nat) (F : Nat → Value → Prop) (s : Shared) : Prop :=
  ∃ fp wr g St, WalksS prog w A.in4 a fp wr (GenOnlyQ g) n F St ∧ St 0 s ∧ (∀ i s', St i s' → s'.TypeIs (.ref a) "generator") ∧ a ∈ fp ∧ (∀ x ∈ fp, x < s.heap.objs.size) ∧ ∀ x ∈ wr, b ≤ x

theorem passing_all (n : Nat) : passing (fun _ => true) n 0 = List.range n := by
  unfold passing
  simp

theorem gen_make {env : Env} {elt iter : Expr} {x : Str} {px : Pos} {scope : Scope} {cl : List (Str × Addr)} {pos : Pos} {c P l bm : Addr} {ob : Obj} {mg : Str → Option Value} {ps items : Array Value} {Fy : Value → Value → Prop} {Q : Value → Shared → Prop}
    (hh : A.handled = none) (hco : scope.isCoroutine = false) (hclos : closureFor scope env = pure cl) (hcell : ∀ y ∈ scope.names, y.2 ≠ .cell) (h0 : scope.names.lookup (".0" : Str) = some NameKind.local)
    (hx : scope.names.lookup x = some .local) (hkind : scope.kind = .function) (hroom : A.depth < recursionLimit)
    (B : BMod s.heap env.globals mg bm ob) (hcode : env.code = .ref c) (hok : s.heap.IsCode c P ps) (htab : s.heap.TableAt c P ps) (G : AllBare s.gens) (hlim : s.heap.NoLimit)
    (hit : ∀ (Q : Value → Shared → Prop), Q (.ref l) s → wpAny (model prog w) A (eval iter env) Q E s) (hl : s.heap.IsList l items)
    (helt : ∀ (A' : Around) E' v (t : Shared) m₂ (C : Addr) code, A'.handled = none → v ∈ items → t.heap.Ns C m₂ → m₂ x = some v → (∀ b o, b ≠ P → s.heap.get? b = some o → t.heap.get? b = some o) →
      wpAny (model prog w) A' (eval elt (genEnv scope cl C code builtinsNs env)) (fun y s₃ => Fy v y ∧ Keeps t s₃) E' t)
    (hQ : ∀ a h₅ g₅ tk ps', (∀ b o, b ≠ P → s.heap.get? b = some o → h₅.get? b = some o) → h₅.IsCode c P ps' → h₅.TableAt c P ps' → AllBare g₅ → s.heap.objs.size ≤ h₅.objs.size →
      GenOk prog w A s.heap.objs.size a items.size (fun j y => ∃ v, items[j]? = some v ∧ Fy v y) { s with heap := h₅, gens := g₅, toks := tk } → Q (.ref a) { s with heap := h₅, gens := g₅, toks := tk })
    (hs : ∀ x, genFold iter env x = pure x) :
    wpAny (model prog w) A (eval (.GeneratorExp elt [⟨.Name x px, iter, [], 0⟩] scope pos) env) Q E s := by
  have hltl : l < s.heap.objs.size := by obtain ⟨_, e, _⟩ := hl; exact Heap.lt_size e
  have hPlt : P < s.heap.objs.size := Heap.lt_size htab.2
  have hlP : l ≠ P := fun e => by
    obtain ⟨o, ho, hc, _⟩ := hl
    rw [e, htab.2] at ho; cases ho; exact absurd hc (by simp)
  have hcP : cStatics ≠ P := fun e => by
    obtain ⟨_, hns, _⟩ := hlim
    obtain ⟨o, es, ep, ho, hd, _⟩ := hns
    rw [e, htab.2] at ho; cases ho; cases hd
  have hclt : cStatics < s.heap.objs.size := by obtain ⟨_, hns, _⟩ := hlim; exact hns.lt
  refine wpAny_GeneratorExp_walksQ hh hco hclos hcell h0 hx hkind hroom (hit _ ?_) hs
  refine wpAny_pyIter_list hl ?_
  generalize hS : (s.heap.push { cls := .type "list_iterator", data := .fields #[.ref l, .int 0 0] }) = H
  have up : ∀ b o, s.heap.get? b = some o → H.get? b = some o := fun b o e => hS ▸ Heap.get?_push_of_some _ e
  have hI : H.get? s.heap.objs.size = some { cls := .type "list_iterator", data := .fields #[.ref l, .int 0 0] } := hS ▸ Heap.get?_push_size _ rfl
  have hHs : H.objs.size = s.heap.objs.size + 1 := by rw [← hS, Heap.size_push]
  have hlH : H.IsList l items := hl.at fun o e => up _ o e
  have htabH : H.TableAt c P ps := htab.keeps up
  have hlimH : H.NoLimit := hlim.keeps up
  have BH : BMod H env.globals mg bm ob := B.keeps up
  refine ⟨hlimH, genCode_any hcode (hok.keeps up) htabH fun code h₃ tk₃ ps₃ hx₃ hsz₃ hcode₃ htab₃ => ?_⟩
  replace hx₃ : Heap.ExtBut P H h₃ := hx₃
  replace hsz₃ : H.objs.size ≤ h₃.objs.size := hsz₃
  have B₃ : BMod h₃ env.globals mg bm ob := BH.extBut htabH hx₃
  have hl₃ : h₃.NoLimit := hlimH.extBut hx₃ hcP
  refine wpAny_builtinsFor B₃.ns B₃.name B₃.ne B₃.obj B₃.cls B₃.dict B₃.data ?_
  have hIP : s.heap.objs.size ≠ P := Nat.ne_of_gt hPlt
  refine ⟨s.heap.objs.size, [s.heap.objs.size, l], [s.heap.objs.size], items.size, (fun i v => items[i]? = some v), _, (fun _ => true), (fun i y => ∃ v, items[i]? = some v ∧ Fy v y), rfl, (fun A' hA => Walks.list hA _ _ (Nat.ne_of_lt hltl) items),
    ⟨⟨_, hx₃ _ _ hIP hI, rfl, rfl⟩, hlH.extBut hx₃ hlP⟩, ?_, hl₃, ?_, ?_, ?_⟩
  · intro b hb
    show b < h₃.objs.size
    rcases List.mem_cons.mp hb with rfl | hb
    · exact Nat.lt_of_lt_of_le (by rw [hHs]; exact Nat.lt_succ_self _) hsz₃
    · rcases List.mem_cons.mp hb with rfl | hb
      · exact Nat.lt_of_lt_of_le (by rw [hHs]; exact Nat.lt_succ_of_lt hltl) hsz₃
      · cases hb
  · intro hm
    rcases List.mem_cons.mp hm with e | hm
    · exact absurd hclt (by rw [e]; exact Nat.lt_irrefl _)
    · cases hm
  · intro href hhref
    refine ⟨fun A' E' i v t m₂ hA hP hn hm hkp => ?_, fun A' E' i v t m₂ hA hP hp hn hm hkp => ?_⟩
    · exact wpAny_pure ⟨rfl, ⟨t.heap, t.toks, rfl, fun _ _ e => e⟩⟩
    · refine wpAny_mono (helt A' E' v t m₂ _ code hA (Array.mem_of_getElem? hP) hn hm fun b o hb e => ?_) (fun y s₃ h => ⟨⟨v, hP, h.1⟩, h.2⟩) fun _ _ e => e
      have e₃ : h₃.get? b = some o := hx₃ b o hb (up b o e)
      exact hkp b (List.mem_range.mpr (Heap.lt_size e₃)) (fun hm => by
        rcases List.mem_cons.mp hm with q | hm
        · exact absurd (Heap.lt_size e) (by rw [q]; exact Nat.lt_irrefl _)
        · cases hm) o (hhref b o e₃)
  · intro a h₅ tk gs hgb hag hsz₅ hk₅ W hat
    rw [passing_all] at W
    have e1 : (List.range items.size).length = items.size := List.length_range
    rw [e1] at W
    have W' := W.imp (fun j y hy => show ∃ v, items[j]? = some v ∧ Fy v y from by
      obtain ⟨i, hi, v, hv, hF⟩ := hy
      have hij : i = j := by
        rw [List.getElem?_eq_some_iff] at hi
        obtain ⟨hl, hi⟩ := hi
        simpa using hi.symm
      exact ⟨v, hij ▸ hv, hF⟩)
    refine hQ a h₅ _ tk ps₃ (fun b o hb e => hk₅ b o (hx₃ b o hb (up b o e))) (hcode₃.keeps hk₅) (htab₃.keeps hk₅) (G.push hgb) ?_ ⟨_, _, _, _, W', hat, (fun i s' st => st.1.typeIs), List.mem_cons_self, ?_, ?_⟩
    · rw [hsz₅]
      have := Nat.lt_of_le_of_lt hsz₃ hag
      rw [hHs] at this
      exact Nat.le_of_lt (Nat.lt_trans (Nat.lt_succ_self _) (Nat.lt_trans this (Nat.lt_succ_self _)))
    · intro b hb
      show b < h₅.objs.size
      rw [hsz₅]
      rcases List.mem_cons.mp hb with rfl | hb
      · exact Nat.lt_succ_self _
      · rcases List.mem_cons.mp hb with rfl | hb
        · exact Nat.lt_succ_of_lt hag
        · exact Nat.lt_succ_of_lt (Nat.lt_trans (List.mem_range.mp hb) hag)
    · intro b hb
      rcases List.mem_cons.mp hb with rfl | hb
      · exact Nat.le_trans (by rw [hHs]; exact Nat.le_succ _) hsz₃
      · rcases List.mem_cons.mp hb with rfl | hb
        · exact Nat.le_refl _
        · cases hb

theorem gen_tuple {a : Addr} {n b : Nat} {F : Nat → Value → Prop} {Q : Value → Shared → Prop} (G : AllBare s.gens) (X : GenOk prog w A b a n F s) (hsz : n ≤ sizeLine)
    (hQ : ∀ (h' : Heap) (D : Addr) g' tk (acc : Array Value), (∀ x o, x < b → s.heap.get? x = some o → h'.get? x = some o) → AllBare g' → (∀ x o, x < b → s.heap.get? x = some o → x < D) → h'.get? D = some { cls := .type "tuple", data := .seq acc } →
      acc.size = n → (∀ j v, acc[j]? = some v → F j v) → Q (.ref D) { s with heap := h', gens := g', toks := tk }) :
    wpAny (model prog w) A (call (.type "tuple") [.ref a]) Q E s := by
  obtain ⟨fp, wr, g, St, W, hst, hT, hI, hfp, hwr⟩ := X
  refine call_tuple_gen (hsz := hsz) W.in4_3 hT hst hfp hI fun s' acc hm hacc => ?_
  have e : ({ s' with heap := s'.heap.push { cls := .type "tuple", data := .seq acc } } : Shared) = { s with heap := s'.heap.push { cls := .type "tuple", data := .seq acc }, gens := s'.gens, toks := s'.toks } := by
    obtain ⟨_, _, d, _, os⟩ := s'
    have h1 := hm.drawn
    have h2 := hm.os
    dsimp only at h1 h2
    subst h1 h2
    rfl
  rw [e]
  refine hQ _ _ _ _ acc (fun x o hx ho => Heap.get?_push_of_some _ (hm.heap x o (fun hmem => Nat.lt_irrefl _ (Nat.lt_of_lt_of_le hx (hwr x hmem))) ho)) (G.movedS hm) ?_ (Heap.get?_push_size _ rfl) hacc.1 hacc.2
  exact fun x o hx ho => Heap.lt_size (hm.heap x o (fun hmem => Nat.lt_irrefl _ (Nat.lt_of_lt_of_le hx (hwr x hmem))) ho)
end
end Mine
end
section
open PySem PySem.W PyProof.Rows PySem.Calls PySem.Spec
set_option Elab.async false
set_option maxRecDepth 100000
namespace Mine
section
variable {prog : Program} {w : World} {A : Around} {E : Value → Shared → Prop} {s : Shared} {h₀ : Heap} {L : Addr} {m : Str → Option Value} {news : List (Addr × Obj)}

theorem neP {h : Heap} {a P : Addr} {ob : Obj} {op : Obj} (N : News h₀ L h news) (hP : (P, op) ∈ news) (ha : (a, ob) ∈ news) (hne : ob ≠ op) : a ≠ P := fun e => by
  have h1 := (N _ ha).1
  have h2 := (N _ hP).1
  dsimp only at h1 h2
  rw [e, h2] at h1
  exact hne (Option.some.inj h1).symm

theorem updMem {P : Addr} {op : Obj} {upd : Obj → List (Addr × Obj)} (U : UpdF P op news upd) : (P, op) ∈ news := by
  obtain ⟨pre, post, rfl, _, _, _⟩ := U.split
  exact List.mem_append_right _ (.head _)

theorem updNews {h h' : Heap} {P : Addr} {op op' : Obj} {upd : Obj → List (Addr × Obj)} (N : News h₀ L h news) (U : UpdF P op news upd) (hk : ∀ b o, b ≠ P → h.get? b = some o → h'.get? b = some o) (hP : h'.get? P = some op') : News h₀ L h' (upd op') := by
  obtain ⟨pre, post, rfl, hg, h1, h2⟩ := U.split
  rw [hg]
  intro p hp
  rcases List.mem_append.mp hp with hp | hp
  · have z := N p (List.mem_append_left _ hp)
    exact ⟨hk _ _ (h1 p hp) z.1, z.2⟩
  · rcases List.mem_cons.mp hp with rfl | hp
    · exact ⟨hP, (N (P, op) (List.mem_append_right _ (.head _))).2⟩
    · have z := N p (List.mem_append_right _ (.tail _ hp))
      exact ⟨hk _ _ (h2 p hp) z.1, z.2⟩

def FmodOf (md : Int) (v y : Value) : Prop := ∃ n tv ty, v = Value.int n tv ∧ y = Value.int (n.fmod md) ty

theorem genK {K : Frag} {cn : Str} {cs : Scope} {fa : Addr} {cdv : Value} {cells : List (Str × Addr)} {x y sf fm : Str} {p1 p2 p3 p4 px py pos : Pos} {scope : Scope} {cl : List (Str × Addr)} {c P l q o d C bm : Addr} {ob oq od : Obj} {mg : Str → Option Value}
    {ps : Array Value} {vs : List Value} {ns : List Int} {k : Nat} {md : Int} {tm : Tok} {upd : Obj → List (Addr × Obj)} {Q : Value → Shared → Prop}
    (F : Fr h₀ L s.heap m) (N : News h₀ L s.heap news) (X : K.In h₀) (B : BMod h₀ mainGlobals mg bm ob) (hlim : h₀.NoLimit) (G : AllBare s.gens)
    (hcode : cdv = .ref c) (hcf : ∀ (h : Heap) (ps : Array Value), K.In h → h.get? P = some (tabO ps) → TriplesOk ps.toList → h.IsCode c P ps ∧ h.TableAt c P ps) (htr : TriplesOk ps.toList)
    (U : UpdF P (tabO ps) news upd) (hh : A.handled = none) (hroom : A.depth < recursionLimit)
    (hco : scope.isCoroutine = false) (hclos : closureFor scope (envX cn cs L fa cdv cells) = pure cl) (hcell : ∀ y ∈ scope.names, y.2 ≠ .cell) (h0 : scope.names.lookup (".0" : Str) = some NameKind.local)
    (hx : scope.names.lookup x = some .local) (hkind : scope.kind = .function) (hxd : (x == ("__debug__" : Str)) = false)
    (hck : cs.kind = .function) (hys : (envX cn cs L fa cdv cells).kindOf y = some .local) (hyd : (y == ("__debug__" : Str)) = false) (hy : m y = some (.ref l))
    (hl : (l, listOf vs.toArray k) ∈ news) (hv : IntsAre vs ns)
    (hsf : scope.names.lookup sf = some .free) (hsd : (sf == ("__debug__" : Str)) = false) (hsn : (sf == ("__classdict__" : Str)) = false) (hq : cl.lookup sf = some q) (hqc : (q, oq) ∈ news) (hqd : oq.data = .cell (some (.ref o)))
    (ho : (o, instObj C d) ∈ news) (hd : (d, od) ∈ news) (hdc : od.cls ≠ .none)
    (hga : findIn K (.ref C) "__getattribute__" = some (some (.builtin "object.__getattribute__"))) (hf : findObj K C (some od) fm = some (.value (.int md tm))) (hmd : md ≠ 0)
    (hQ : ∀ a h' g' tk (ps' : Array Value), Fr h₀ L h' m → News h₀ L h' (upd (tabO ps')) → AllBare g' → TriplesOk ps'.toList → (∀ p ∈ upd (tabO ps'), p.1 < s.heap.objs.size) → L < s.heap.objs.size →
      GenOk prog w A s.heap.objs.size a vs.length (fun j y => ∃ v, vs[j]? = some v ∧ FmodOf md v y) { s with heap := h', gens := g', toks := tk } → Q (.ref a) { s with heap := h', gens := g', toks := tk })
    (hs : ∀ x, genFold (.Name y py) (envX cn cs L fa cdv cells) x = pure x) :
    wpAny (model prog w) A (eval (.GeneratorExp (.BinOp (.Name x p1) .Mod (.Attribute (.Name sf p2) fm p3) p4) [⟨.Name x px, .Name y py, [], 0⟩] scope pos) (envX cn cs L fa cdv cells)) Q E s := by
  have hP := updMem U
  have gP := (N _ hP).1
  obtain ⟨hok, htab⟩ := hcf s.heap ps (X.keeps F.keep) gP htr
  have hPn : h₀.get? P = none := (N _ hP).2.2
  have hLP : L ≠ P := Ne.symm (N _ hP).2.1
  have hlist : s.heap.IsList l vs.toArray := ⟨_, (N _ hl).1, rfl, _, rfl⟩
  have hnq : q ≠ P := neP N hP hqc fun e => by rw [e] at hqd; cases hqd
  have hno : o ≠ P := neP N hP ho fun e => by have := congrArg Obj.cls e; cases this
  have hnd : d ≠ P := neP N hP hd fun e => hdc (by rw [e])
  refine gen_make (Fy := FmodOf md) hh hco hclos hcell h0 hx hkind hroom (B.keeps F.keep) hcode hok htab G (hlim.keeps F.keep) (fun Q' hQ' => nameX_L F hy hQ' hck hys hyd) hlist ?_ ?_ hs
  · intro A' E' v t m₂ C' code hA hmem hn hm hkp
    have hv' : ∃ n tv, v = Value.int n tv := by
      have hmem' : v ∈ vs := by simpa using hmem
      obtain ⟨i, hi, rfl⟩ := List.getElem_of_mem hmem'
      have aux : ∀ {vs : List Value} {ns : List Int}, IntsAre vs ns → ∀ v ∈ vs, ∃ n tv, v = Value.int n tv := by
        intro vs ns h
        induction h with
        | nil => intro v hv; cases hv
        | cons n t _ ih => intro v hv; rcases List.mem_cons.mp hv with rfl | hv; exact ⟨n, t, rfl⟩; exact ih v hv
      exact aux hv _ (List.getElem_mem hi)
    obtain ⟨n, tv, rfl⟩ := hv'
    have Xt : K.In t.heap := X.keeps fun b o e => hkp b o (fun e' => by rw [e', hPn] at e; cases e) (F.keep b o e)
    have It : InstAt t.heap o (instObj C d) C (some od) := ⟨hkp _ _ hno (N _ ho).1, rfl, rfl, hkp _ _ hnd (N _ hd).1⟩
    refine wpAny_BinOp (wpAny_Name (wpAny_loadName_local (by simp [genEnv, hkind]) hx hn hm ?_) hxd)
    refine Attribute_name (wpAny_Name (wpAny_loadName_free (by simp [genEnv, hkind]) hsf hq ⟨oq, hkp _ _ hnq (N _ hqc).1, hqd⟩ ?_ hsn) hsd)
    refine get_value Xt It hga hf rfl ?_
    refine mod_int hmd ⟨⟨n, tv, _, rfl, rfl⟩, ⟨t.heap, _, rfl, fun _ _ e => e⟩⟩
  · intro a h₅ g₅ tk ps' hk hc' ht' hg hsz hgen
    have F₅ : Fr h₀ L h₅ m := ⟨F.ns.at' fun o e => hk _ o hLP e, fun b o e => hk b o (fun e' => by rw [e', hPn] at e; cases e) (F.keep b o e), F.above⟩
    have N₅ := updNews N U hk ht'.2
    have tr' : TriplesOk ps'.toList := by
      obtain ⟨o, vs, file, tf, flags, tg, inF, text, tt, op, ho, hd, h11, h2, h7, h9, h10, hop, hpd, htr, hne⟩ := hc'
      exact htr
    refine hQ a h₅ g₅ tk ps' F₅ N₅ hg tr' (fun p hp => ?_) F.ns.lt (by simpa using hgen)
    obtain ⟨pre, post, rfl, hgg, h1, h2⟩ := U.split
    rw [hgg] at hp
    rcases List.mem_append.mp hp with hp | hp
    · exact Heap.lt_size (N p (List.mem_append_left _ hp)).1
    · rcases List.mem_cons.mp hp with rfl | hp
      · exact Heap.lt_size gP
      · exact Heap.lt_size (N p (List.mem_append_right _ (.tail _ hp))).1

theorem genK2 {K : Frag} {cn : Str} {cs : Scope} {fa : Addr} {cdv : Value} {cells : List (Str × Addr)} {x y sf fm : Str} {p1 p2 p3 p4 px py pos : Pos} {scope : Scope} {cl : List (Str × Addr)} {c P l q o d C bm : Addr} {ob oq : Obj} {es : List DictEntry} {kd : Nat} {attr : Option Value} {mg : Str → Option Value}
    {ps : Array Value} {vs : List Value} {ns : List Int} {k : Nat} {md : Int} {tm : Tok} {upd : Obj → List (Addr × Obj)} {Q : Value → Shared → Prop}
    (F : Fr h₀ L s.heap m) (N : News h₀ L s.heap news) (X : K.In h₀) (B : BMod h₀ mainGlobals mg bm ob) (hlim : h₀.NoLimit) (G : AllBare s.gens)
    (hcode : cdv = .ref c) (hcf : ∀ (h : Heap) (ps : Array Value), K.In h → h.get? P = some (tabO ps) → TriplesOk ps.toList → h.IsCode c P ps ∧ h.TableAt c P ps) (htr : TriplesOk ps.toList)
    (U : UpdF P (tabO ps) news upd) (hh : A.handled = none) (hroom : A.depth < recursionLimit)
    (hco : scope.isCoroutine = false) (hclos : closureFor scope (envX cn cs L fa cdv cells) = pure cl) (hcell : ∀ y ∈ scope.names, y.2 ≠ .cell) (h0 : scope.names.lookup (".0" : Str) = some NameKind.local)
    (hx : scope.names.lookup x = some .local) (hkind : scope.kind = .function) (hxd : (x == ("__debug__" : Str)) = false)
    (hck : cs.kind = .function) (hys : (envX cn cs L fa cdv cells).kindOf y = some .local) (hyd : (y == ("__debug__" : Str)) = false) (hy : m y = some (.ref l))
    (hl : (l, listOf vs.toArray k) ∈ news) (hv : IntsAre vs ns)
    (hsf : scope.names.lookup sf = some .free) (hsd : (sf == ("__debug__" : Str)) = false) (hsn : (sf == ("__classdict__" : Str)) = false) (hq : cl.lookup sf = some q) (hqc : (q, oq) ∈ news) (hqd : oq.data = .cell (some (.ref o)))
    (ho : (o, instObj C d) ∈ news) (hd : (d, dictOf es kd) ∈ news)
    (hg1 : plainGet K C fm = true) (hg2 : hasDictIn K C = true) (hg3 : findIn K (.ref C) fm = some attr) (hg4 : noGet K attr = true) (hg5 : getL fm es = some (some (.int md tm))) (hmd : md ≠ 0)
    (hQ : ∀ a h' g' tk (ps' : Array Value), Fr h₀ L h' m → News h₀ L h' (upd (tabO ps')) → AllBare g' → TriplesOk ps'.toList → (∀ p ∈ upd (tabO ps'), p.1 < s.heap.objs.size) → L < s.heap.objs.size →
      GenOk prog w A s.heap.objs.size a vs.length (fun j y => ∃ v, vs[j]? = some v ∧ FmodOf md v y) { s with heap := h', gens := g', toks := tk } → Q (.ref a) { s with heap := h', gens := g', toks := tk })
    (hs : ∀ x, genFold (.Name y py) (envX cn cs L fa cdv cells) x = pure x) :
    wpAny (model prog w) A (eval (.GeneratorExp (.BinOp (.Name x p1) .Mod (.Attribute (.Name sf p2) fm p3) p4) [⟨.Name x px, .Name y py, [], 0⟩] scope pos) (envX cn cs L fa cdv cells)) Q E s :=
  genK F N X B hlim G hcode hcf htr U hh hroom hco hclos hcell h0 hx hkind hxd hck hys hyd hy hl hv hsf hsd hsn hq hqc hqd ho hd (by intro e; cases e) (plainGet_of hg1).1 (findObj_own hg2 hg3 hg4 hg5) hmd hQ hs

theorem intsOfMods {md : Int} : ∀ {vs : List Value} {ns : List Int} {ys : List Value}, IntsAre vs ns → ys.length = vs.length → (∀ (j : Nat) y, ys[j]? = some y → ∃ v, vs[j]? = some v ∧ FmodOf md v y) → IntsAre ys (ns.map fun n => n.fmod md)
  | _, _, [], .nil, _, _ => .nil
  | _, _, _ :: _, .nil, hl, _ => by cases hl
  | _, _, [], .cons n t r, hl, _ => by cases hl
  | _, _, y :: ys, .cons n t r, hl, h => by
    obtain ⟨v, hv, n', tv, ty, e1, e2⟩ := h 0 y rfl
    have : Value.int n t = v := by simpa using hv
    subst this
    cases e1
    subst e2
    exact .cons _ _ (intsOfMods r (by simpa using hl) fun j y hj => by simpa using h (j + 1) y (by simpa using hj))

theorem tupleK {a : Addr} {b : Nat} {vs : List Value} {ns : List Int} {md : Int} {Q : Value → Shared → Prop} (F : Fr h₀ L s.heap m) (N : News h₀ L s.heap news) (G : AllBare s.gens)
    (X : GenOk prog w A b a vs.length (fun j y => ∃ v, vs[j]? = some v ∧ FmodOf md v y) s) (hv : IntsAre vs ns) (hsz : vs.length ≤ sizeLine) (hb : ∀ p ∈ news, p.1 < b) (hL : L < b)
    (hQ : ∀ (D : Addr) h' g' tk (ys : List Value), Fr h₀ L h' m → News h₀ L h' ((D, { cls := .type "tuple", data := .seq ys.toArray }) :: news) → (∀ p ∈ news, p.1 < D) → AllBare g' → IntsAre ys (ns.map fun n => n.fmod md) →
      Q (.ref D) { s with heap := h', gens := g', toks := tk }) :
    wpAny (model prog w) A (call (.type "tuple") [.ref a]) Q E s := by
  refine gen_tuple G X hsz fun h' D g' tk acc hk hg hfr hD hs hF => ?_
  have below : ∀ x o, h₀.get? x = some o → x < b := fun x o e => Nat.lt_of_lt_of_le (Heap.lt_size e) (Nat.le_trans F.above (Nat.le_of_lt hL))
  have F' : Fr h₀ L h' m := ⟨F.ns.at' fun o e => hk _ o hL e, fun x o e => hk x o (below x o e) (F.keep x o e), F.above⟩
  obtain ⟨oL, _, _, hoL, _⟩ := F.ns
  have hDL : D ≠ L := Nat.ne_of_gt (hfr L _ hL hoL)
  refine hQ D h' g' tk acc.toList F' (fun p hp => ?_) (fun p hp => hfr _ _ (hb p hp) (N p hp).1) hg (intsOfMods hv (by simpa using hs) fun j y hj => hF j y (by simpa using hj))
  rcases List.mem_cons.mp hp with rfl | hp
  · refine ⟨by simpa using hD, hDL, ?_⟩
    cases q : h₀.get? D with
    | none => rfl
    | some o => exact absurd (hfr D o (below D o q) (F.keep D o q)) (Nat.lt_irrefl _)
  · exact ⟨hk _ _ (hb p hp) (N p hp).1, (N p hp).2⟩

theorem itemK {l : Addr} {vs : List Value} {k : Nat} {i : Int} {u : Tok} {v : Value} {value slice : Expr} {Q : Value → Shared → Prop} (N : News h₀ L s.heap news) (hm : (l, listOf vs.toArray k) ∈ news) (h0 : 0 ≤ i) (hi : i < 2 ^ 63) (hx : vs[i.toNat]? = some v)
    (hs : subscripted slice false (.ref l) (.int i u) = operate [.ref l, .int i u] (getItem (.ref l) (.int i u))) (h : Q v s) :
    wpAny (model prog w) A (subscriptTail value slice (.ref l) (.int i u)) Q E s := by
  have hl : s.heap.IsList l vs.toArray := ⟨_, (N _ hm).1, rfl, _, rfl⟩
  exact tail_any hl.typeIs slot_list_getitem.lookup (wpAny_getItem_list hl h0 hi (by simpa using hx) h) hs
end
end Mine
end
section
open PySem PySem.W PyProof.Rows
set_option Elab.async false
set_option maxRecDepth 100000
set_option maxHeartbeats 8000000
namespace Mine
section
local macro_rules | `(tactic| o_head $_) => `(tactic| (exfalso; assumption))
theorem regk (hF : False) : (PySem.Challenge.rw_lh0032_01.row).Holds := by
  k_head
end
/-- the written heap: what the walk reads, and the table of FQP.__init__'s code -/
noncomputable def fragL (P : Params) : Frag := (58, tabO #[]) :: regk.heap_1 P
def asL : List Addr := 58 :: [2,3,15,17,18,20,21,22,24,25,27,28,29,31,32,34,35,36,38,39,41,42,43,45,46,48,49,57,60,61,62,64,65,67,68,69,72,73,74,77,78,79,81,82,84,85,86,89,90,91,93,94,96,97,98,101,102,103,105,106,108,109,110,113,114,115,118,119,120,122,123,125,126,127,129,130,132,133,134,136,137,139,140,141,144,145,146,148,149,151,152,153,154,156,157,159,160,161,163,164,166,167,168,169,170,171,172,175,182,184,185,187,188,189,191,192,194,195,196,197,198,199,202,204,205,207,208,209,211,212,214,215,216,218,219,221,222,223,225,226,228,229,230,233,234]
theorem asL_eq (P : Params) : asL = (fragL P).map (·.1) := by kernel_rfl
def view : Program := { PySem.Challenge.pw_lh0032_01 with main := { PySem.Challenge.pw_lh0032_01.main with body := PySem.Challenge.pw_lh0032_01.main.body.drop 15 } }
def looseN : List Str := [Str.ofString "_wall", Str.ofString "is_inf", Str.ofString "twist", Str.ofString "prime_field_inv", Str.ofString "deg", Str.ofString "FQP", Str.ofString "FQ2", Str.ofString "_law_primes", Str.ofString "_law_at", Str.ofString "_law_mul", Str.ofString "_law_laid"]
theorem opening_eq : opening PySem.Challenge.pw_lh0032_01 = plainProg PySem.Challenge.pw_lh0032_01.main.scope.names := by kernel_rfl
theorem fence_eq (s : Shared) : fenceModules? PySem.Challenge.pw_lh0032_01 s = some s := by kernel_rfl
theorem topLeft (w : World) : (fun os => (topFrom treeTable PySem.Challenge.pw_lh0032_01 w 3100 ⟨boot_heap w.params, Array.mk [], boot_drawn, boot_toks, os⟩).map (fun s => (openSeen view looseN (importedModules PySem.Challenge.pw_lh0032_01.main.body) (fun s => xlAt view [] s && recOk (RowW.records PySem.Challenge.rw_lh0032_01.row.toRowW) s) true s, (Hook.obs (kHook fragL asL asL_eq)) s))) = fun _ => some (openGood view looseN, Hook.val (kHook fragL asL asL_eq) w) := by
  delta topFrom
  rw [PySem.W.Fast.te14082659384304107361, PySem.W.Fast.te14364793385576792824, PySem.W.Fast.te4187177175401517315]
  kernel_rfl
theorem left : LeftO PySem.Challenge.pw_lh0032_01 view looseN (fun s => xlAt view [] s && recOk (RowW.records PySem.Challenge.rw_lh0032_01.row.toRowW) s) (Hook.obs (kHook fragL asL asL_eq)) (Hook.val (kHook fragL asL asL_eq)) 3100 := by
  intro w
  obtain ⟨⟨h, gs, d, k, os⟩, e, e'⟩ := Option.map_eq_some_iff.mp (boot_open (N := 3100) opening_eq (by decide) fence_eq w)
  obtain ⟨rfl, rfl, rfl, rfl⟩ : h = boot_heap w.params ∧ gs = Array.mk [] ∧ d = boot_drawn ∧ k = boot_toks := by simpa using e'
  have h1 : openEnds treeTable PySem.Challenge.pw_lh0032_01 w 3100 = topFrom treeTable PySem.Challenge.pw_lh0032_01 w 3100 ⟨boot_heap w.params, Array.mk [], boot_drawn, boot_toks, os⟩ := by
    unfold openEnds
    rw [e]
    exact Option.bind_some _ _
  rw [h1]
  exact congrFun (topLeft w) os
theorem said : PySem.Challenge.rw_lh0032_01.wellSaid = true := by kernel_rfl
end Mine
end
section
open PySem PySem.W PyProof.Rows PySem.Calls PySem.Spec
set_option Elab.async false
set_option maxRecDepth 100000
namespace Mine
theorem codeFacts (w : World) (h : Heap) (ps : Array Value) (X : (regk.heap_1 w.params).In h) (hP : h.get? 58 = some (tabO ps)) (htr : TriplesOk ps.toList) : h.IsCode 60 58 ps ∧ h.TableAt 60 58 ps := by
  have h60 := X 60 _ (by rfl)
  exact ⟨⟨_, _, _, _, _, _, _, _, _, _, h60, rfl, rfl, rfl, rfl, rfl, rfl, hP, rfl, htr, by decide⟩, ⟨⟨_, _, h60, rfl, rfl, rfl⟩, hP⟩⟩

def UpdN (h₀ : Heap) (L : Addr) (h : Heap) (P : Addr) (op : Obj) (l : List (Addr × Obj)) (g : Obj → List (Addr × Obj)) : Prop := News h₀ L h l → UpdF P op l g
theorem UpdN.base {h₀ : Heap} {L : Addr} {h : Heap} {P : Addr} {op : Obj} {l : List (Addr × Obj)} {g : Obj → List (Addr × Obj)} (U : UpdF P op l g) : UpdN h₀ L h P op l g := fun _ => U
theorem UpdN.tail {h₀ : Heap} {L : Addr} {h : Heap} {P : Addr} {op : Obj} {p : Addr × Obj} {l : List (Addr × Obj)} {g : Obj → List (Addr × Obj)} (hne : p.2 ≠ op) (U : UpdN h₀ L h P op l g) : UpdN h₀ L h P op (p :: l) (fun o => p :: g o) := fun N =>
  have U' := U (fun q hq => N q (.tail _ hq))
  .tail (neP N (.tail _ (updMem U')) (.head _) hne) U'
theorem UpdN.head {h₀ : Heap} {L : Addr} {h : Heap} {P : Addr} {op : Obj} {l : List (Addr × Obj)} (hne : ∀ p ∈ l, p.2 ≠ op) : UpdN h₀ L h P op ((P, op) :: l) (fun o => (P, o) :: l) := fun N =>
  .head fun p hp => neP (ob := p.2) N (.head _) (.tail _ hp) (hne p hp)
theorem UpdN.go {h₀ : Heap} {L : Addr} {h : Heap} {P : Addr} {op : Obj} {l : List (Addr × Obj)} {g : Obj → List (Addr × Obj)} (N : News h₀ L h l) (U : UpdN h₀ L h P op l g) : UpdF P op l g := U N
theorem cellNe {o : Obj} {v : Option Value} {ps : Array Value} (h : o.data = .cell v) : o ≠ tabO ps := fun e => by rw [e] at h; cases h
theorem newsCons {h₀ : Heap} {L : Addr} {h : Heap} {l r : List (Addr × Obj)} {p : Addr × Obj} (N : News h₀ L h l) (hm : p ∈ l) (N2 : News h₀ L h r) : News h₀ L h (p :: r) := fun q hq => by
  rcases List.mem_cons.mp hq with rfl | hq
  · exact N _ hm
  · exact N2 q hq
abbrev fqEs (w : World) (q : Int) (tq : Tok) (D1 D2 t : Addr) (deg : Int) (td k1 k2 k3 k4 k5 : Tok) : List DictEntry :=
  [⟨PyData.keyHash w.params (Str.ofString "field_modulus"), .str (Str.ofString "field_modulus") k1, .int q tq⟩, ⟨PyData.keyHash w.params (Str.ofString "mc_tuples"), .str (Str.ofString "mc_tuples") k2, .ref D1⟩,
   ⟨PyData.keyHash w.params (Str.ofString "coeffs"), .str (Str.ofString "coeffs") k3, .ref D2⟩, ⟨PyData.keyHash w.params (Str.ofString "modulus_coeffs"), .str (Str.ofString "modulus_coeffs") k4, .ref t⟩,
   ⟨PyData.keyHash w.params (Str.ofString "degree"), .str (Str.ofString "degree") k5, .int deg td⟩]
abbrev tupO (vs : List Value) : Obj := { cls := .type "tuple", data := .seq vs.toArray }
theorem updLt {P : Addr} {op : Obj} {l : List (Addr × Obj)} {g : Obj → List (Addr × Obj)} {b : Addr} (U : UpdF P op l g) (h : ∀ p ∈ l, p.1 < b) (o' : Obj) : ∀ p ∈ g o', p.1 < b := by
  obtain ⟨pre, post, rfl, hg, _, _⟩ := U.split
  rw [hg]
  intro p hp
  rcases List.mem_append.mp hp with hp | hp
  · exact h p (List.mem_append_left _ hp)
  · rcases List.mem_cons.mp hp with rfl | hp
    · exact h (P, op) (List.mem_append_right _ (.head _))
    · exact h p (List.mem_append_right _ (.tail _ hp))
theorem updMemOf {P : Addr} {op : Obj} {l : List (Addr × Obj)} {g : Obj → List (Addr × Obj)} {a : Addr} {o : Obj} (U : UpdF P op l g) (h : (a, o) ∈ l) (hne : o ≠ op) (o' : Obj) : (a, o) ∈ g o' := by
  obtain ⟨pre, post, rfl, hg, _, _⟩ := U.split
  rw [hg]
  rcases List.mem_append.mp h with h | h
  · exact List.mem_append_left _ h
  · rcases List.mem_cons.mp h with h | h
    · exact absurd (congrArg Prod.snd h) hne
    · exact List.mem_append_right _ (.tail _ h)
end Mine
end
section
open PySem PySem.W PyProof.Rows PySem.Calls PySem.Spec PyProof.Rows.LCg
set_option Elab.async false
set_option maxRecDepth 100000
set_option maxHeartbeats 4000000
namespace Mine
local macro_rules | `(tactic| k_room) => `(tactic| ktr_room)
local macro_rules | `(tactic| k_enter) => `(tactic| first
  | (refine' code_def ?k1 ?k2 ?k3 ?k4 ?k5 ?kA ?kF ?kK ?k6 ?k7 ?k8 ?k9 ?kB ?_ ?c2 ?c3 ?c4 ?c5; (case kA => exact rfl); (case kF => exact rfl); (case kK => first | exact rfl | assumption); (case k1 => k_asm); (case k2 => k_asm); (case k3 => k_asm); (case k4 => k_asm); (case k5 => k_asm); (case k6 => k_is); (case k7 => k_is); (case k8 => k_room); (case k9 => first | exact BindsTo.of_eq rfl | exact binds_K (by k_in) rfl (by k_is) rfl rfl rfl); (case c5 => decide); (case kB => exact locs rfl); (case c2 => exact rfl); (case c3 => exact rfl); (case c4 => exact rfl); k_whole; intro g' L' h' FG' F' N' B' X' T'; (try dsimp only); (try k_lift B'); (try k_fold))
  | (refine' code_defC ?k1 ?k2 ?k3 ?k4 ?k5 ?kA ?kF ?kK ?k6 ?k7 ?k8 ?k9 ?kB ?kD ?_ ?c2 ?c3 ?c4; (case kA => exact rfl); (case kF => exact rfl); (case kK => first | exact rfl | assumption); (case k1 => k_asm); (case k2 => k_asm); (case k3 => k_asm); (case k4 => k_asm); (case k5 => k_asm); (case k6 => k_is); (case k7 => k_is); (case k8 => k_room); (case k9 => first | exact BindsTo.of_eq rfl | exact binds_K (by k_in) rfl (by k_is) rfl rfl rfl); (case kB => exact rfl); (case kD => decide +kernel); (case c2 => exact rfl); (case c3 => exact rfl); (case c4 => exact rfl); k_whole; intro g' L' h' tk' cells' FG' F' N' Y' B' X' T' l1; (try k_lt l1); k_cells Y'; (try simp only [List.cons_append, List.nil_append] at N'); (try dsimp only); (try k_lift B'); (try k_fold)))
local macro_rules | `(tactic| walk_at "exec Assign cons ListComp") => `(tactic| (k_here; with_reducible refine plainObj_wpAny_Assign_Attribute ?_ ?_; rotate_left; with_unfolding_all rfl))
local macro_rules | `(tactic| walk_at "eval ListComp") => `(tactic| (k_here; (with_unfolding_all refine enumListComp (by k_asm) (by rfl) (by decide) (by rfl) (by decide) (by rfl) (by rfl) (by decide) (by decide) (by decide) ?_ (by intro _; rfl))))
local macro_rules | `(tactic| walk_at "call type:enumerate") => `(tactic| (k_here; (refine' enumCallK ?hh ?F ?N ?hm ?hc ?hd ?hv ?hz ?_); (case F => k_asm); (case N => k_asm); (case hm => k_mem); (case hh => rfl); (case hc => rfl); (case hd => exact ⟨_, rfl⟩); (case hv => repeat' constructor); (case hz => exact Nat.le_of_ble_eq_true rfl); intro e' h' F' N' X'; (try k_sweep)))
local macro_rules | `(tactic| walk_at "EnumSrc") => `(tactic| (refine EnumSrc.of (by assumption) ?_; intro D' ys' h' tk' F' N' l1; (try k_lt l1); (try k_sweep); (try dsimp only); (try k_fold)))
local macro_rules | `(tactic| k_mem) => `(tactic| first | exact List.Mem.head _ | assumption | (refine' List.Mem.tail _ ?_; (show _ ∈ _); k_mem))
local macro_rules | `(tactic| walk_at "subscriptTail Name Constant ref int") => `(tactic| (k_here; (refine' itemK ?N ?hm ?h0 ?hi ?hx ?hs ?_); (case N => k_asm); (case hm => k_mem); (case h0 => decide); (case hi => decide); (case hx => rfl); (case hs => with_unfolding_all rfl)))
local macro_rules | `(tactic| walk_at "eval GeneratorExp") => `(tactic| (k_here; (with_unfolding_all refine' genK2 (c := 60) (P := 58) ?F ?N ?X ?B ?lim ?G ?code ?cf ?tr ?U ?hh ?room ?co ?clos ?cell ?z0 ?hx ?kind ?xd ?ck ?ys ?yd ?y ?l ?v ?sf ?sd ?sn ?q ?qc ?qd ?o ?d ?g1 ?g2 ?g3 ?g4 ?g5 ?md ?_ ?s); (case F => k_asm); (case N => k_asm); (case X => k_asm); (case B => k_asm); (case lim => exact Top.nolimit (by k_asm)); (case G => k_asm); (case code => rfl); (case cf => exact codeFacts _); (case U => exact UpdN.go (by k_asm) (UpdN.tail (by intro e; cases congrArg Obj.cls e) (UpdN.tail (cellNe ‹_›) (UpdN.tail (by intro e; cases congrArg Obj.cls e) (UpdN.tail (by intro e; cases congrArg Obj.cls e) (UpdN.base ‹UpdF _ _ _ _›)))))); (case tr => assumption); (case hh => rfl); (case room => k_room); (case co => rfl); (case clos => rfl); (case cell => decide); (case z0 => rfl); (case hx => rfl); (case kind => rfl); (case xd => decide); (case ck => rfl); (case ys => rfl); (case yd => decide); (case y => rfl); (case l => k_mem); (case v => repeat' constructor); (case sf => rfl); (case sd => decide); (case sn => decide); (case q => rfl); (case qc => k_mem); (case qd => (refine Eq.trans (by assumption) ?_; rfl)); (case o => k_mem); (case d => k_mem); (case g1 => k_is); (case g2 => k_is); (case g3 => k_is); (case g4 => k_is); (case g5 => k_get); (case md => omega); (case s => intro _; rfl); intro a' h' g' tk' ps' F' N' G' tr' hb' hL' X'; (try dsimp only at N' hb'); (have lU' := updLt ‹UpdF 58 _ _ _› ‹_› (tabO ps')); (have mU' := updMemOf ‹UpdF 58 _ _ _› (show (_, ({ cls := .type "tuple", data := .seq _ _ } : Obj)) ∈ _ from ‹_›) (by intro e; cases congrArg Obj.cls e) (tabO ps')); (try k_sweep)))
local macro_rules | `(tactic| walk_at "call type:tuple") => `(tactic| (k_here; (refine' tupleK ?F ?N ?G ?X ?v ?z ?b ?L ?_); (case F => k_asm); (case N => k_asm); (case G => k_asm); (case X => assumption); (case v => repeat' constructor); (case z => exact Nat.le_of_ble_eq_true rfl); (case b => assumption); (case L => assumption); intro D' h' g' tk' ys' F' N' l1 G' I'; (try k_lt l1); (try k_sweep)))
local macro_rules | `(tactic| walk_at "call type:tuple") => `(tactic| (k_here; (with_reducible show wpAny _ _ (call (Value.type _) [Value.ref _]) _ _ _); (with_unfolding_all refine call_tuple_tup (News.isTup (by k_asm) (by k_mem)) ?_)))
theorem reg : PySem.Challenge.rw_lh0032_01 = PySem.Challenge.rw_lh0032_01 ∧ regk.heap_1 = regk.heap_1 := by
  w_top off
  k_fill
  exact ⟨rfl, rfl⟩
theorem mk2 (w : World) (p : Program) (loose : List Str) (mean : ExcName → Option Value) (mg mb : Str → Option Value) :
  ∀ (dp un : Nat) (gd : Option (List Code)) (cn : Str) (cs : Scope) (a : Addr) (ccd : Value) (cl : List (Str × Addr)) (outer : List Env) (A₀ : Around) (base h₀ : Heap) (L : Addr) (m : Str → Option Value) (s : Shared) (Q E : Value → Shared → Prop)
    (l t bm : Addr) (ob : Obj) (x0 x1 q : Int) (t0 t1 r0 r1 tq : Tok) (n k : Nat) (ps : Array Value) (news : List (Addr × Obj)) (upd : Obj → List (Addr × Obj)),
    Below A₀ base outer h₀ → Fr h₀ L s.heap m → (regk.heap_1 w.params).In h₀ → News h₀ L s.heap news → Top p loose mean mg mb h₀ → BMod base mainGlobals mg bm ob → cs.kind = .function → AllBare s.gens → TriplesOk ps.toList →
    (l, listOf #[.int x0 t0, .int x1 t1] n) ∈ news → (t, ({ cls := .type "tuple", data := .seq #[.int 1 r0, .int 0 r1] k } : Obj)) ∈ news → UpdF 58 (tabO ps) news upd →
    7 ≤ q → q ≤ 8191 → dp + 10 < recursionLimit → un + 80 < cLine →
    (∀ (x d D2 D1 : Addr) (ys : List Value) (h' : Heap) (g' : Array GenState) (tk' : Nat) (ps' : Array Value) (td k1 k2 k3 k4 k5 : Tok) (nd : Nat), Fr h₀ L h' m →
      News h₀ L h' ((D2, tupO ys) :: (x, instObj 199 d) :: (d, dictOf (fqEs w q tq D1 D2 t 2 td k1 k2 k3 k4 k5) nd) :: upd (tabO ps')) → IntsAre ys (List.map (fun n => n.fmod q) [x0, x1]) → AllBare g' → TriplesOk ps'.toList →
      (∀ p ∈ news, p.1 < d) → d < x → x < D2 → Q (.ref x) { s with heap := h', gens := g', toks := tk' }) →
      wpAny (model PySem.Challenge.pw_lh0032_01 w) (ktrTop dp un gd cn cs L a ccd cl outer) (call (.ref 199) [.ref l, .ref t, .int q tq]) Q E s := by
  intro dp un gd cn cs a ccd cl outer A₀ base h₀ L m s Q E l t bm ob x0 x1 q t0 t1 r0 r1 tq n k ps news upd B F X N T M hk G htr hl ht U hq1 hq2 hd1 hu1 hret
  k_steps
  refine' hret _ _ _ _ _ _ _ _ _ _ _ _ _ _ _ _ ?F ?N ?I ?G ?tr ?l1 ?l2 ?l3
  case F => assumption
  case N => exact newsCons ‹News h₀ L _ _› (.head _) (newsCons ‹News h₀ L _ _› (.tail _ (.tail _ (.tail _ (.head _)))) (newsCons ‹News h₀ L _ _› (.tail _ (.tail _ (.tail _ (.tail _ (.head _))))) (fun p hp => ‹News h₀ L _ _› p (.tail _ (.tail _ (.tail _ (.tail _ (.tail _ hp))))))))
  case I => assumption
  case G => assumption
  case tr => assumption
  case l1 => assumption
  case l2 => assumption
  case l3 => (rename (_ : Nat) < _ ∧ _ < _ ∧ _ < _ ∧ _ < _ ∧ AllLt _ (upd _) => l9); exact l9.2.2.1
theorem mk12 (w : World) (p : Program) (loose : List Str) (mean : ExcName → Option Value) (mg mb : Str → Option Value) :
  ∀ (dp un : Nat) (gd : Option (List Code)) (cn : Str) (cs : Scope) (a : Addr) (ccd : Value) (cl : List (Str × Addr)) (outer : List Env) (A₀ : Around) (base h₀ : Heap) (L : Addr) (m : Str → Option Value) (s : Shared) (Q E : Value → Shared → Prop)
    (l t bm : Addr) (ob : Obj) (x0 x1 x2 x3 x4 x5 x6 x7 x8 x9 x10 x11 q : Int) (t0 t1 t2 t3 t4 t5 t6 t7 t8 t9 t10 t11 r0 r1 r2 r3 r4 r5 r6 r7 r8 r9 r10 r11 tq : Tok) (n k : Nat) (ps : Array Value) (news : List (Addr × Obj)) (upd : Obj → List (Addr × Obj)),
    Below A₀ base outer h₀ → Fr h₀ L s.heap m → (regk.heap_1 w.params).In h₀ → News h₀ L s.heap news → Top p loose mean mg mb h₀ → BMod base mainGlobals mg bm ob → cs.kind = .function → AllBare s.gens → TriplesOk ps.toList →
    (l, listOf #[.int x0 t0, .int x1 t1, .int x2 t2, .int x3 t3, .int x4 t4, .int x5 t5, .int x6 t6, .int x7 t7, .int x8 t8, .int x9 t9, .int x10 t10, .int x11 t11] n) ∈ news → (t, ({ cls := .type "tuple", data := .seq #[.int 2 r0, .int 0 r1, .int 0 r2, .int 0 r3, .int 0 r4, .int 0 r5, .int (-2) r6, .int 0 r7, .int 0 r8, .int 0 r9, .int 0 r10, .int 0 r11] k } : Obj)) ∈ news → UpdF 58 (tabO ps) news upd →
    7 ≤ q → q ≤ 8191 → dp + 10 < recursionLimit → un + 80 < cLine →
    (∀ (x d D2 D1 : Addr) (ys : List Value) (h' : Heap) (g' : Array GenState) (tk' : Nat) (ps' : Array Value) (td k1 k2 k3 k4 k5 : Tok) (nd : Nat), Fr h₀ L h' m →
      News h₀ L h' ((D2, tupO ys) :: (x, instObj 170 d) :: (d, dictOf (fqEs w q tq D1 D2 t 12 td k1 k2 k3 k4 k5) nd) :: upd (tabO ps')) → IntsAre ys (List.map (fun n => n.fmod q) [x0, x1, x2, x3, x4, x5, x6, x7, x8, x9, x10, x11]) → AllBare g' → TriplesOk ps'.toList →
      (∀ p ∈ news, p.1 < d) → d < x → x < D2 → Q (.ref x) { s with heap := h', gens := g', toks := tk' }) →
      wpAny (model PySem.Challenge.pw_lh0032_01 w) (ktrTop dp un gd cn cs L a ccd cl outer) (call (.ref 170) [.ref l, .ref t, .int q tq]) Q E s := by
  intro dp un gd cn cs a ccd cl outer A₀ base h₀ L m s Q E l t bm ob x0 x1 x2 x3 x4 x5 x6 x7 x8 x9 x10 x11 q t0 t1 t2 t3 t4 t5 t6 t7 t8 t9 t10 t11 r0 r1 r2 r3 r4 r5 r6 r7 r8 r9 r10 r11 tq n k ps news upd B F X N T M hk G htr hl ht U hq1 hq2 hd1 hu1 hret
  k_steps
  refine' hret _ _ _ _ _ _ _ _ _ _ _ _ _ _ _ _ ?F ?N ?I ?G ?tr ?l1 ?l2 ?l3
  case F => assumption
  case N => exact newsCons ‹News h₀ L _ _› (.head _) (newsCons ‹News h₀ L _ _› (.tail _ (.tail _ (.tail _ (.head _)))) (newsCons ‹News h₀ L _ _› (.tail _ (.tail _ (.tail _ (.tail _ (.head _))))) (fun p hp => ‹News h₀ L _ _› p (.tail _ (.tail _ (.tail _ (.tail _ (.tail _ hp))))))))
  case I => assumption
  case G => assumption
  case tr => assumption
  case l1 => assumption
  case l2 => assumption
  case l3 => (rename (_ : Nat) < _ ∧ _ < _ ∧ _ < _ ∧ _ < _ ∧ AllLt _ (upd _) => l9); exact l9.2.2.1
end Mine
end
section
open PySem PySem.W PyProof.Rows PySem.Calls PySem.Spec PyProof.Rows.LCg
set_option Elab.async false
set_option maxRecDepth 100000
set_option maxHeartbeats 8000000
namespace Mine
theorem kkSub (P : Params) : (regk.heap_1 P).map (fun x => (fragL P).lookup x.1) = (regk.heap_1 P).map (fun x => some x.2) := by kernel_rfl
theorem kkOff (P : Params) : (regk.heap_1 P).all (fun x => !(x.1 == 58)) = true := by kernel_rfl
theorem kkAt58 (P : Params) : (fragL P).lookup 58 = some (tabO #[]) := by kernel_rfl
theorem kkOf {P : Params} {h : Heap} (X : (fragL P).In h) : (regk.heap_1 P).In (h.hide 58) := by
  intro a o e
  have hm := kb_mem e
  have h1 : (fragL P).lookup a = some o := by
    have aux : ∀ {K : Frag} {f : Addr × Obj → Option Obj}, K.map f = K.map (fun x => some x.2) → ∀ x ∈ K, f x = some x.2 := by
      intro K f h
      induction K with
      | nil => intro x hx; cases hx
      | cons y r ih =>
        intro x hx
        simp only [List.map_cons, List.cons.injEq] at h
        rcases List.mem_cons.mp hx with rfl | hx
        · exact h.1
        · exact ih h.2 x hx
    exact aux (kkSub P) (a, o) hm
  have h2 : a ≠ 58 := by
    have q := List.all_eq_true.mp (kkOff P) (a, o) hm
    simpa using q
  rw [Heap.hide_ne _ h2]
  exact X _ _ h1

theorem nsHide {h : Heap} {P a : Addr} {m : Str → Option Value} {ps : Array Value} (hP : h.get? P = some (tabO ps)) (x : h.Ns a m) : (h.hide P).Ns a m := by
  obtain ⟨o, es, ep, ho, hd, r⟩ := x
  have hne : a ≠ P := fun e => by rw [e, hP] at ho; cases ho; cases hd
  exact ⟨o, es, ep, (Heap.hide_ne _ hne).trans ho, hd, r⟩
def emptyP : Program := { PySem.Challenge.pw_lh0032_01 with main := { PySem.Challenge.pw_lh0032_01.main with body := [.ImportFrom (some "sys") [] none default] } }
def loose2 (p : Program) (loose : List Str) : List Str := loose ++ (recsOf p).map (·.name) ++ (litsOf p).map (·.1) ++ (clssOf p loose).map (·.name)
theorem topHide {p : Program} {loose : List Str} {mean : ExcName → Option Value} {mg mb : Str → Option Value} {h : Heap} {P : Addr} {ps : Array Value} (T : Top p loose mean mg mb h) (hP : h.get? P = some (tabO ps)) : Top emptyP (loose2 p loose) mean mg mb (h.hide P) where
  g := nsHide hP T.g
  b := nsHide hP T.b
  nolimit := let ⟨mc, a, b⟩ := T.nolimit; ⟨mc, nsHide hP a, b⟩
  nodigits := let ⟨mc, a, b⟩ := T.nodigits; ⟨mc, nsHide hP a, b⟩
  fn := fun d hd => nomatch (show d ∈ ([] : List _) from hd)
  own := fun d hd => nomatch (show d ∈ ([] : List _) from hd)
  const := fun x d hd => nomatch (show none = some d from hd)
  free := fun x h1 h2 _ _ _ => by
    unfold loose2 at h2
    simp only [List.mem_append, not_or] at h2
    exact T.free x h1 h2.1.1.1 h2.1.1.2 h2.1.2 h2.2
  builtins := T.builtins
  tab := fun d hd => nomatch (show d ∈ ([] : List _) from hd)
  seer := fun h => absurd h (by decide +kernel)
  bmain := by
    obtain ⟨bm, ob, h1, h2, h3, h4, h5, h6⟩ := T.bmain
    have hne : bm ≠ P := fun e => by rw [e, hP] at h3; cases h3; cases h4
    exact ⟨bm, ob, h1, h2, (Heap.hide_ne _ hne).trans h3, h4, h5, h6⟩

theorem enterLaw {prog : Program} {w : World} {A : Around} {s : Shared} {K : Frag} {R : Result → Shared → Prop} {name qual : Str} {params : Arguments} {body : List Stmt} {scope : Scope} {dV kV doc pm cdv ct oc : Value} {an od : Option Addr} {osl : Array (Option Value)} {f : Addr} {args : Args} {binds : List (Str × Value)}
    (X : K.In (s.heap.hide 58)) (hP : s.heap.get? 58 = some (tabO #[])) (hlim : s.heap.NoLimit) (ho : K.lookup f = some ⟨oc, od, .func (fnOf name qual params body scope dV kV doc pm an cdv ct), osl⟩) (hcd : codeIn K cdv qual = true) (hroom : A.depth < recursionLimit)
    (hbind : BindsTo s (fnOf name qual params body scope dV kV doc pm an cdv ct) args binds) (hloc : ∀ y ∈ binds, scope.names.lookup y.1 = some .local)
    (h : ∀ h₁, Fr (s.heap.hide 58) s.heap.objs.size h₁ (fun y => binds.reverse.lookup y) → News (s.heap.hide 58) s.heap.objs.size h₁ [(58, tabO #[])] →
      wpAny (model prog w) (A.deeper (envOf qual scope s.heap.objs.size f cdv)) (execs body (envOf qual scope s.heap.objs.size f cdv))
        (fun fl s' => R (.ok (.ret (match fl with | .ret v => v | _ => .none))) s')
        (fun e s' => wpAny (model prog w) (A.deeper (envOf qual scope s.heap.objs.size f cdv)) (leaving (envOf qual scope s.heap.objs.size f cdv) e) (fun _ s'' => R (.error e) s'') (fun e' s'' => R (.error e') s'') s')
        { s with heap := h₁, toks := s.toks + binds.length })
    (hco : scope.isCoroutine = false) (hgen : scope.isGenerator = false) (hk : scope.kind = .function)
    (hcell : ∀ x ∈ scope.names, x.2 ≠ .cell) : codeAny (model prog w) A (.call (.ref f) args) R s := by
  have hcr : s.heap.CodeRec cdv qual := by
    obtain ⟨c, o, vs, t, e1, e2, r⟩ := codeRec_of X hcd
    exact ⟨c, o, vs, t, e1, Heap.of_hide e2, r⟩
  refine codeAny_call_def (fd := fnOf name qual params body scope dV kV doc pm an cdv ct) (body := body) (binds := binds) hroom (Heap.of_hide (X _ _ ho)) rfl hlim hcr rfl hbind hcell hloc (fun h₁ hns hk₁ => ?_) hco hgen hk
  have h58 : 58 < s.heap.objs.size := Heap.lt_size hP
  exact h h₁ ⟨hns, fun b o e => hk₁ b o (Heap.of_hide e), Nat.le_of_eq (Heap.hide_size _ _)⟩ (fun p hp => by
    rcases List.mem_cons.mp hp with rfl | hp
    · exact ⟨hk₁ _ _ hP, Nat.ne_of_lt h58, Heap.hide_self _ _⟩
    · cases hp)
theorem bmodHide {h : Heap} {P bm : Addr} {ob : Obj} {mg : Str → Option Value} {ps : Array Value} (hP : h.get? P = some (tabO ps)) (x : BMod h mainGlobals mg bm ob) : BMod (h.hide P) mainGlobals mg bm ob := by
  have hne : bm ≠ P := fun e => by
    have := x.obj
    rw [e, hP] at this
    cases this
    cases x.cls
  exact ⟨nsHide hP x.ns, x.name, x.ne, (Heap.hide_ne _ hne).trans x.obj, x.cls, x.dict, x.data⟩
theorem listHide {h : Heap} {P l : Addr} {items : Array Value} {ps : Array Value} (hP : h.get? P = some (tabO ps)) (x : h.IsList l items) : (h.hide P).IsList l items := by
  obtain ⟨o, ho, hc, r⟩ := x
  have hne : l ≠ P := fun e => by
    rw [e, hP] at ho
    cases ho
    cases hc
  exact ⟨o, (Heap.hide_ne _ hne).trans ho, hc, r⟩
theorem UpdN.last {h₀ : Heap} {L : Addr} {h : Heap} {P : Addr} {op : Obj} : UpdN h₀ L h P op [(P, op)] (fun o => [(P, o)]) := UpdN.head fun _ h => nomatch h
theorem ints_cons {ys : List Value} {a : Int} {r : List Int} (h : IntsAre ys (a :: r)) : ∃ t ys', ys = .int a t :: ys' ∧ IntsAre ys' r := by
  cases h with
  | cons n t h => exact ⟨_, _, rfl, h⟩
theorem ints_nil {ys : List Value} (h : IntsAre ys []) : ys = [] := by cases h; rfl
theorem ints2 {ys : List Value} {a0 a1 : Int} (h : IntsAre ys [a0, a1]) :
    ∃ t0 t1, ys = [.int a0 t0, .int a1 t1] := by
  obtain ⟨t0, y0, e0, h0⟩ := ints_cons h
  obtain ⟨t1, y1, e1, h1⟩ := ints_cons h0
  refine ⟨t0, t1, ?_⟩
  rw [e0, e1, ints_nil h1]
theorem ints12 {ys : List Value} {a0 a1 a2 a3 a4 a5 a6 a7 a8 a9 a10 a11 : Int} (h : IntsAre ys [a0, a1, a2, a3, a4, a5, a6, a7, a8, a9, a10, a11]) :
    ∃ t0 t1 t2 t3 t4 t5 t6 t7 t8 t9 t10 t11, ys = [.int a0 t0, .int a1 t1, .int a2 t2, .int a3 t3, .int a4 t4, .int a5 t5, .int a6 t6, .int a7 t7, .int a8 t8, .int a9 t9, .int a10 t10, .int a11 t11] := by
  obtain ⟨t0, y0, e0, h0⟩ := ints_cons h
  obtain ⟨t1, y1, e1, h1⟩ := ints_cons h0
  obtain ⟨t2, y2, e2, h2⟩ := ints_cons h1
  obtain ⟨t3, y3, e3, h3⟩ := ints_cons h2
  obtain ⟨t4, y4, e4, h4⟩ := ints_cons h3
  obtain ⟨t5, y5, e5, h5⟩ := ints_cons h4
  obtain ⟨t6, y6, e6, h6⟩ := ints_cons h5
  obtain ⟨t7, y7, e7, h7⟩ := ints_cons h6
  obtain ⟨t8, y8, e8, h8⟩ := ints_cons h7
  obtain ⟨t9, y9, e9, h9⟩ := ints_cons h8
  obtain ⟨t10, y10, e10, h10⟩ := ints_cons h9
  obtain ⟨t11, y11, e11, h11⟩ := ints_cons h10
  refine ⟨t0, t1, t2, t3, t4, t5, t6, t7, t8, t9, t10, t11, ?_⟩
  rw [e0, e1, e2, e3, e4, e5, e6, e7, e8, e9, e10, e11, ints_nil h11]
end Mine
end
section
open PySem PySem.W PyProof.Rows PySem.Calls PySem.Spec PyProof.Rows.LCg
set_option Elab.async false
set_option maxRecDepth 100000
namespace Mine
section
variable {prog : Program} {w : World} {A : Around} {E : Value → Shared → Prop} {s : Shared} {h₀ : Heap} {L : Addr} {m : Str → Option Value} {env : Env}
def SrcT (ax : Addr) (its : Array Value) (news : List (Addr × Obj)) : Prop := False ∨ ∃ o, (ax, o) ∈ news ∧ o.cls = .type "tuple" ∧ ∃ n, o.data = .seq its n
theorem SrcT.tup {h : Heap} {ax : Addr} {its : Array Value} {news : List (Addr × Obj)} (x : SrcT ax its news) (N : News h₀ L h news) : h.IsTuple ax its := by
  rcases x with x | ⟨o, hm, r⟩
  · exact x.elim
  · exact ⟨o, (N _ hm).1, r⟩
def TupSrc (prog : Program) (w : World) (A : Around) (h₀ : Heap) (L : Addr) (m : Str → Option Value) (env : Env) (elt : Expr) (x : Str) (scope : Scope) (cl : List (Str × Addr)) (Fin : Shared → List Value → List (Addr × Obj) → Prop) (xv : Value) (s₁ : Shared) : Prop :=
  ∃ (ax : Addr) (its : Array Value) (news : List (Addr × Obj)), xv = .ref ax ∧ A.handled = none ∧ Fr h₀ L s₁.heap m ∧ News h₀ L s₁.heap news ∧ SrcT ax its news ∧ its.size ≤ sizeLine ∧
    ∀ g, CompRest prog w A h₀ L m env elt x scope cl { s₁ with heap := g } (SrcT ax its) (fun i v => its[i]? = some v) (Fin { s₁ with heap := g }) its.size 0 [] news
theorem TupSrc.of3 {elt : Expr} {x : Str} {scope : Scope} {cl : List (Str × Addr)} {Fin : Shared → List Value → List (Addr × Obj) → Prop} {ax : Addr} {v0 v1 v2 : Value} {k : Nat} {news : List (Addr × Obj)} {s₁ : Shared}
    (hh : A.handled = none) (F : Fr h₀ L s₁.heap m) (N : News h₀ L s₁.heap news) (hm : (ax, ({ cls := .type "tuple", data := .seq #[v0, v1, v2] k } : Obj)) ∈ news)
    (h : ∀ g, CompRest prog w A h₀ L m env elt x scope cl { s₁ with heap := g } (SrcT ax #[v0, v1, v2]) (fun i v => (#[v0, v1, v2] : Array Value)[i]? = some v) (Fin { s₁ with heap := g }) 3 0 [] news) :
    TupSrc prog w A h₀ L m env elt x scope cl Fin (.ref ax) s₁ := ⟨ax, #[v0, v1, v2], news, rfl, hh, F, N, .inr ⟨_, hm, rfl, _, rfl⟩, Nat.le_of_ble_eq_true rfl, h⟩

theorem tup_st {ax I : Addr} {its : Array Value} : ∀ i (h h' : Heap) (o : Obj) (nw : List (Addr × Obj)), (h.IsTupleIter I ax i ∧ h.IsTuple ax its) → h.get? I = some o → h'.get? I = some o → (∀ b o, h₀.get? b = some o → h'.get? b = some o) → News h₀ L h' nw → SrcT ax its nw → (h'.IsTupleIter I ax i ∧ h'.IsTuple ax its) :=
  fun i h h' o nw st e e' _ N S => ⟨by obtain ⟨o', q, r⟩ := st.1; rw [e] at q; cases q; exact ⟨o, e', r⟩, S.tup N⟩

theorem tupListComp {elt iter : Expr} {x : Str} {px : Pos} {scope : Scope} {cl : List (Str × Addr)} {pos : Pos} {Q : Value → Shared → Prop} (_F₀ : Fr h₀ L s.heap m)
    (hclos : closureFor scope env = pure cl) (hcell : ∀ y ∈ scope.names, y.2 ≠ .cell) (hkind : scope.kind = .function)
    (hnames : ∀ y ∈ scope.names, y.2 = .local → scope.names.lookup y.1 = some .local) (hx : scope.names.lookup x = some .local)
    (h : wpAny (model prog w) A (eval iter env) (TupSrc prog w A h₀ L m env elt x scope cl (fun s₂ => FinE h₀ L m s₂ Q)) E s)
    (hs : ∀ x, foldedSetIterable iter env x = pure x) :
    wpAny (model prog w) A (eval (.ListComp elt [⟨.Name x px, iter, [], 0⟩] scope pos) env) Q E s := by
  rw [eval_ListComp]
  refine wpAny_comprehension_free (use := none) rfl hs hclos hkind hnames (wpAny_mono h (fun xv s₁ h₁ => ?_) fun _ _ e => e)
  obtain ⟨ax, its, news, rfl, hh, F, N, S, hsz, R⟩ := h₁
  have hl := S.tup N
  have hlt : ax < s₁.heap.objs.size := by obtain ⟨_, e, _⟩ := hl; exact Heap.lt_size e
  refine wpAny_pyIter_tuple hl ?_
  have up : ∀ b o, s₁.heap.get? b = some o → (s₁.heap.push { cls := .type "tuple_iterator", data := .fields #[.ref ax, .int 0 0] }).get? b = some o := fun b o e => Heap.get?_push_of_some _ e
  refine block_U (Walks.tuple hh s₁.heap.objs.size ax (Nat.ne_of_lt hlt) its) hsz (fun i h st => by obtain ⟨o, e, _⟩ := st.1; exact ⟨o, e⟩) tup_st hcell hkind hx ⟨⟨_, Heap.get?_push_size _ rfl, rfl, rfl⟩, hl.push _⟩ (fun b hb => ?_)
    (F.keeps up) (N.grown up) (Nat.ne_of_lt F.ns.lt) (next_is_new F) (fun p hp => Nat.ne_of_lt (Heap.lt_size (N p hp).1)) S (R _) ?_
  · show b < (s₁.heap.push _).objs.size
    rw [Heap.size_push]
    rcases List.mem_cons.mp hb with rfl | hb
    · exact Nat.lt_succ_self _
    · rw [List.mem_singleton.mp hb]; exact Nat.lt_succ_of_lt hlt
  · intro D C h tk m' ys news' F' N' o1 hn hC₀ hD₀ hCL hDL hCD offC fin
    refine ⟨m', hn, fun h'' hs'' => fin D h'' tk (F'.change hs'' hCL hC₀) (fun p hp => ?_) o1⟩
    refine ⟨hs''.extBut _ _ ?_ (N' p hp).1, (N' p hp).2⟩
    rcases List.mem_cons.mp hp with rfl | hp
    · exact Ne.symm hCD
    · exact offC p hp
end
end Mine
end
section
open PySem PySem.W PyProof.Rows PySem.Calls PySem.Spec
set_option Elab.async false
set_option maxRecDepth 100000
namespace Mine
/-- an iterator over a tuple, at place k -/
def TS (h : Heap) (i l : Addr) (k : Nat) (xs : Array Value) : Prop := h.IsTupleIter i l k ∧ h.IsTuple l xs
theorem TS.mv {h h' : Heap} {i l : Addr} {k : Nat} {xs : Array Value} (x : TS h i l k xs) (a : ∀ o, h.get? i = some o → h'.get? i = some o) (b : ∀ o, h.get? l = some o → h'.get? l = some o) : TS h' i l k xs := by
  obtain ⟨⟨o, e, r⟩, ⟨o', e', r'⟩⟩ := x
  exact ⟨⟨o, a _ e, r⟩, ⟨o', b _ e', r'⟩⟩
theorem TS.but {h h' : Heap} {P i l : Addr} {k : Nat} {xs : Array Value} (x : TS h i l k xs) (e : Heap.SameBut P h h') (a : i ≠ P) (b : l ≠ P) : TS h' i l k xs := x.mv (fun o q => e.extBut _ _ a q) (fun o q => e.extBut _ _ b q)
section
variable {prog : Program} {w : World} {A : Around} {E : Value → Shared → Prop} {s : Shared}
theorem TS.next {i l : Addr} {k : Nat} {xs : Array Value} {x : Value} {Q : Value → Shared → Prop} (S : TS s.heap i l k xs) (hne : l ≠ i) (hx : xs[k]? = some x)
    (hQ : ∀ h', TS h' i l (k + 1) xs → Heap.SameBut i s.heap h' → Q x { s with heap := h' }) : wpAny (model prog w) A (Builtin.SmallTypes.nextOf (.ref i)) Q E s :=
  next_tup S.1 S.2 hx fun h' a b => hQ h' ⟨a, by obtain ⟨o, e, r⟩ := S.2; exact ⟨o, b.extBut _ _ hne e, r⟩⟩ b

theorem zipT_item {z TI TO i1 i2 l1 l2 : Addr} {k1 k2 : Nat} {xs ys : Array Value} {x y a b : Value} {Q : Value → Shared → Prop} (D : ZipApart z TI TO i1 i2 l1 l2)
    (hz : IsZip s.heap z TI TO .none) (hTI : IsPair s.heap TI (.ref i1) (.ref i2)) (hTO : IsPair s.heap TO a b)
    (S1 : TS s.heap i1 l1 k1 xs) (S2 : TS s.heap i2 l2 k2 ys) (hx : xs[k1]? = some x) (hy : ys[k2]? = some y)
    (hQ : ∀ h', IsZip h' z TI TO (rawInt s.heap.objs.size) → IsPair h' TO x y → TS h' i1 l1 (k1 + 1) xs → TS h' i2 l2 (k2 + 1) ys → IsPair h' s.heap.objs.size x y →
      (∀ c o, c ≠ z → c ≠ TO → c ≠ i1 → c ≠ i2 → s.heap.get? c = some o → h'.get? c = some o) → Q (.ref s.heap.objs.size) { s with heap := h' }) :
    wpAny (model prog w) A (Builtin.«zip.__next__» ⟨[.ref z], []⟩) (fun fin s' => ∃ v, fin = .done (.ret v) ∧ Q v s') E s := by
  show wpAny _ _ (field (.ref z) 2 >>= _) _ _ _
  refine wpAny_bind (wpAny_field hz rfl (x := .bool false) rfl ?_)
  show wpAny _ _ (field (.ref z) 3 >>= _) _ _ _
  refine wpAny_bind (wpAny_field hz rfl (x := .ref TI) rfl (wpAny_bind (wpAny_seqItems hTI rfl ?_)))
  show wpAny _ _ (Builtin.SmallTypes.ownedTupleIsFree (.ref z) >>= _) _ _ _
  refine wpAny_bind ?_
  unfold Builtin.SmallTypes.ownedTupleIsFree
  refine wpAny_bind (wpAny_field hz rfl (x := .none) rfl (wpAny_pure ?_))
  simp only [if_true]
  refine wpAny_bind (wpAny_rule (wpAny_bind (wpAny_field hz rfl (x := .ref TO) rfl (wpAny_bind (wpAny_setField_rec hz (by simp) fun g1 Z1 e1 => ?_)))))
  replace Z1 : IsZip g1 z TI TO .ellipsis := Z1
  refine wpAny_bind ?_
  simp only [List.zipIdx_cons, List.zipIdx_nil, List.forIn_cons, List.forIn_nil]
  refine wpAny_bind (wpAny_bind (wpAny_onRaise ?_))
  show wpAny _ _ (Builtin.SmallTypes.nextOf (.ref i1) >>= _) _ _ _
  refine wpAny_bind (TS.next (S1.but e1 D.i1z D.l1z) D.l1i1 hx fun g2 T1 e2 => wpAny_pure ?_)
  have P2 : IsPair g2 TO a b := e2.extBut _ _ D.TOi1 (e1.extBut _ _ D.TOz hTO)
  refine wpAny_bind (wpAny_seqItems P2 rfl (wpAny_bind (wpAny_updateSeq_pair P2 fun g3 P3 e3 => wpAny_bind (wpAny_letGo (wpAny_pure ?_)))))
  replace P3 : IsPair g3 TO x b := P3
  refine wpAny_bind (wpAny_bind (wpAny_onRaise ?_))
  show wpAny _ _ (Builtin.SmallTypes.nextOf (.ref i2) >>= _) _ _ _
  refine wpAny_bind (TS.next (((S2.but e1 D.i2z D.l2z).but e2 D.i12.symm D.l2i1).but e3 D.TOi2.symm D.l2TO) D.l2i2 hy fun g4 T2 e4 => wpAny_pure ?_)
  have P4 : IsPair g4 TO x b := e4.extBut _ _ D.TOi2 P3
  refine wpAny_bind (wpAny_seqItems P4 rfl (wpAny_bind (wpAny_updateSeq_pair P4 fun g5 P5 e5 => wpAny_bind (wpAny_letGo (wpAny_pure (wpAny_pure ?_))))))
  replace P5 : IsPair g5 TO x y := P5
  refine wpAny_bind (wpAny_seqItems P5 rfl (wpAny_bind (wpAny_newTuple ?_)))
  have sz : g5.objs.size = s.heap.objs.size := by rw [e5.1, e4.1, e3.1, e2.1, e1.1]
  have Z5 : IsZip g5 z TI TO .ellipsis := e5.extBut _ _ D.TOz.symm (e4.extBut _ _ D.i2z.symm (e3.extBut _ _ D.TOz.symm (e2.extBut _ _ D.i1z.symm Z1)))
  have U5 : ∀ c o, c ≠ z → c ≠ TO → c ≠ i1 → c ≠ i2 → s.heap.get? c = some o → g5.get? c = some o := fun c o c1 c2 c3 c4 e => e5.extBut _ _ c2 (e4.extBut _ _ c4 (e3.extBut _ _ c2 (e2.extBut _ _ c3 (e1.extBut _ _ c1 e))))
  have V1 : TS g5 i1 l1 (k1 + 1) xs := ((T1.but e3 D.TOi1.symm D.l1TO).but e4 D.i12 D.l1i2).but e5 D.TOi1.symm D.l1TO
  have V2 : TS g5 i2 l2 (k2 + 1) ys := T2.but e5 D.TOi2.symm D.l2TO
  have ltz : z < g5.objs.size := Heap.lt_size Z5
  show wpAny _ _ (Builtin.SmallTypes.ownedTupleHandOut (.ref z) (.ref g5.objs.size) >>= _) _ _ _
  refine wpAny_bind ?_
  unfold Builtin.SmallTypes.ownedTupleHandOut
  have Z6 : IsZip (g5.push { cls := .type "tuple", data := .seq #[x, y] }) z TI TO .ellipsis := Heap.get?_push_of_some _ Z5
  refine wpAny_bind (wpAny_setField_rec Z6 (by simp) fun g7 Z7 e7 => ?_)
  replace Z7 : IsZip g7 z TI TO (rawInt g5.objs.size) := Z7
  refine wpAny_setField_rec Z7 (by simp) fun g8 Z8 e8 => ?_
  replace Z8 : IsZip g8 z TI TO (rawInt g5.objs.size) := Z8
  have up : ∀ c o, c ≠ z → g5.get? c = some o → g8.get? c = some o := fun c o c1 e => e8.extBut _ _ c1 (e7.extBut _ _ c1 (Heap.get?_push_of_some _ e))
  have R8 : IsPair g8 g5.objs.size x y := e8.extBut _ _ (Nat.ne_of_gt ltz) (e7.extBut _ _ (Nat.ne_of_gt ltz) (Heap.get?_push_size _ rfl))
  refine wpAny_pure ⟨_, rfl, ?_⟩
  rw [sz] at Z8 R8
  show Q (.ref g5.objs.size) _
  rw [sz]
  exact hQ g8 Z8 (up _ _ D.TOz P5) (V1.mv (fun o e => up _ o D.i1z e) fun o e => up _ o D.l1z e) (V2.mv (fun o e => up _ o D.i2z e) fun o e => up _ o D.l2z e) R8 fun c o c1 c2 c3 c4 e => up c o c1 (U5 c o c1 c2 c3 c4 e)
/-- both tuples have the same length: the first iterator ends -/
theorem zipT_end {z TI TO i1 i2 l1 l2 : Addr} {k1 : Nat} {xs : Array Value} {Q : Fin → Shared → Prop} (hh : A.handled = none) (D : ZipApart z TI TO i1 i2 l1 l2)
    (hz : IsZip s.heap z TI TO .none) (hTI : IsPair s.heap TI (.ref i1) (.ref i2)) (S1 : TS s.heap i1 l1 k1 xs) (hx : xs[k1]? = none)
    (hE : ∀ h' e, (∀ c o, c ≠ z → c ≠ i1 → s.heap.get? c = some o → h'.get? c = some o) → (∃ o, h'.get? e = some o ∧ o.cls = .type "StopIteration") → E (.ref e) { s with heap := h' }) :
    wpAny (model prog w) A (Builtin.«zip.__next__» ⟨[.ref z], []⟩) Q E s := by
  show wpAny _ _ (field (.ref z) 2 >>= _) _ _ _
  refine wpAny_bind (wpAny_field hz rfl (x := .bool false) rfl ?_)
  show wpAny _ _ (field (.ref z) 3 >>= _) _ _ _
  refine wpAny_bind (wpAny_field hz rfl (x := .ref TI) rfl (wpAny_bind (wpAny_seqItems hTI rfl ?_)))
  show wpAny _ _ (Builtin.SmallTypes.ownedTupleIsFree (.ref z) >>= _) _ _ _
  refine wpAny_bind ?_
  unfold Builtin.SmallTypes.ownedTupleIsFree
  refine wpAny_bind (wpAny_field hz rfl (x := .none) rfl (wpAny_pure ?_))
  simp only [if_true]
  refine wpAny_bind (wpAny_rule (wpAny_bind (wpAny_field hz rfl (x := .ref TO) rfl (wpAny_bind (wpAny_setField_rec hz (by simp) fun g1 Z1 e1 => ?_)))))
  replace Z1 : IsZip g1 z TI TO .ellipsis := Z1
  refine wpAny_bind ?_
  simp only [List.zipIdx_cons, List.zipIdx_nil, List.forIn_cons, List.forIn_nil]
  refine wpAny_bind (wpAny_bind (wpAny_onRaise ?_))
  show wpAny _ _ (Builtin.SmallTypes.nextOf (.ref i1) >>= _) _ _ _
  have T1 := S1.but e1 D.i1z D.l1z
  refine wpAny_bind (next_tup_end hh T1.1 T1.2 hx fun g2 e e2 he => ?_)
  obtain ⟨oe, hoe, hce⟩ := he
  have Z2 : IsZip g2 z TI TO .ellipsis := e2 _ _ D.i1z.symm Z1
  have hez : e ≠ z := fun q => by subst q; rw [Z2] at hoe; cases hoe; simp at hce
  exact wpAny_setField_rec Z2 (by simp) fun g3 _ e3 => hE g3 e (fun c o c1 c3 q => e3.extBut _ _ c1 (e2 _ _ c3 (e1.extBut _ _ c1 q))) ⟨oe, e3.extBut _ _ hez hoe, hce⟩
theorem walksZipT (hh : A.handled = none) (z TI TO i1 i2 l1 l2 : Addr) (D : ZipApart z TI TO i1 i2 l1 l2) (xs ys : Array Value) (hlen : xs.size = ys.size) :
    WalksT prog w A z [z, TI, TO, i1, i2, l1, l2] [z, TO, i1, i2] xs.size
      (fun i vals => ∃ x y, xs[i]? = some x ∧ ys[i]? = some y ∧ vals = #[x, y])
      (fun i h => IsZip h z TI TO .none ∧ IsPair h TI (.ref i1) (.ref i2) ∧ (∃ a b, IsPair h TO a b) ∧ TS h i1 l1 i xs ∧ TS h i2 l2 i ys)
      (fun i T h => IsZip h z TI TO (rawInt T) ∧ IsPair h TI (.ref i1) (.ref i2) ∧ (∃ a b, IsPair h TO a b) ∧ TS h i1 l1 (i + 1) xs ∧ TS h i2 l2 (i + 1) ys ∧ T ≠ z ∧ T ≠ TO ∧ T ≠ i1 ∧ T ≠ i2) where
  sub := fun c hc => by simp at hc ⊢; rcases hc with rfl | rfl | rfl | rfl <;> simp
  frame := fun i h h' hst hk => by
    obtain ⟨hz, hTI, ⟨a, b, hTO⟩, S1, S2⟩ := hst
    exact ⟨hk z (by simp) _ hz, hk TI (by simp) _ hTI, ⟨a, b, hk TO (by simp) _ hTO⟩, S1.mv (fun o e => hk i1 (by simp) o e) (fun o e => hk l1 (by simp) o e), S2.mv (fun o e => hk i2 (by simp) o e) (fun o e => hk l2 (by simp) o e)⟩
  item := fun i s Q E hi hst hQ => by
    obtain ⟨hz, hTI, ⟨a, b, hTO⟩, S1, S2⟩ := hst
    have hix : i < xs.size := hi
    have hiy : i < ys.size := hlen ▸ hi
    have lt : ∀ {c o}, s.heap.get? c = some o → s.heap.objs.size ≠ c := fun e => Nat.ne_of_gt (Heap.lt_size e)
    have hT : s.TypeIs (.ref z) "zip" := ⟨_, hz, rfl⟩
    unfold pyNext
    refine wpAny_bind (wpAny_attempt (wpAny_callSpecial?_slot (name := Str.ofString "__next__") hT F.slot_zip_next (wpAny_call_entry F.slot_zip_next hT F.entry_zip_next
      (zipT_item D hz hTI hTO S1 S2 (Array.getElem?_eq_getElem hix) (Array.getElem?_eq_getElem hiy) fun h' a1 a2 a3 a4 a5 hk => wpAny_pure ?_) (F.args_zip_next_1 _))))
    exact hQ s.heap.objs.size #[xs[i], ys[i]] h' s.toks ⟨_, _, Array.getElem?_eq_getElem hix, Array.getElem?_eq_getElem hiy, rfl⟩ (Nat.le_refl _) ⟨_, a5, rfl, _, rfl⟩
      ⟨a1, hk _ _ D.TIz D.TITO D.TIi1 D.TIi2 hTI, ⟨_, _, a2⟩, a3, a4, lt hz, lt hTO, (by obtain ⟨_, e, _⟩ := S1.1; exact lt e), (by obtain ⟨_, e, _⟩ := S2.1; exact lt e)⟩
      fun c o hc e => hk c o (fun x => hc (by simp [x])) (fun x => hc (by simp [x])) (fun x => hc (by simp [x])) (fun x => hc (by simp [x])) e
  go := fun elts k pos i T s Q E hm hQ => by
    obtain ⟨hz, hTI, ⟨a, b, hTO⟩, S1, S2, _⟩ := hm
    exact wpAny_letOwnedTupleGo_zip hz fun h' hz' hs' => hQ h' ⟨hz', hs'.extBut _ _ D.TIz hTI, ⟨a, b, hs'.extBut _ _ D.TOz hTO⟩, S1.but hs' D.i1z D.l1z, S2.but hs' D.i2z D.l2z⟩ fun c o hc e => hs'.extBut _ _ (fun x => hc (by simp [x])) e
  apart := fun i T h hm hT => by
    obtain ⟨_, _, _, _, _, t1, t2, t3, t4⟩ := hm
    simp at hT
    rcases hT with rfl | rfl | rfl | rfl
    · exact t1 rfl
    · exact t2 rfl
    · exact t3 rfl
    · exact t4 rfl
  done := fun s Q E hst hQ => by
    obtain ⟨hz, hTI, ⟨a, b, hTO⟩, S1, S2⟩ := hst
    have hT : s.TypeIs (.ref z) "zip" := ⟨_, hz, rfl⟩
    unfold pyNext
    refine wpAny_bind (wpAny_attempt (wpAny_callSpecial?_slot (name := Str.ofString "__next__") hT F.slot_zip_next
      (wpAny_call_entry F.slot_zip_next hT F.entry_zip_next (zipT_end hh D hz hTI S1 (Array.getElem?_eq_none (Nat.le_refl _)) fun h' e hk he => ?_) (F.args_zip_next_1 _))))
    obtain ⟨o, ho, hc⟩ := he
    refine wpAny_bind (wpAny_isInstance (T := "StopIteration") (b := true) ⟨o, ho, hc⟩ isSubtype_stop (wpAny_pure ?_))
    exact hQ h' s.toks fun c o hc e => hk c o (fun x => hc (by simp [x])) (fun x => hc (by simp [x])) e
  self := fun i s Q E hst hQ => wpAny_pyIter_zip hst.1 hQ
end
end Mine
end
section
open PySem PySem.W PyProof.Rows PySem.Calls PySem.Spec
set_option Elab.async false
set_option maxRecDepth 100000
namespace Mine
abbrev tzA (h : Heap) (l1 : Addr) : Heap := h.push { cls := .type "tuple_iterator", data := .fields #[.ref l1, .int 0 0] }
abbrev tzB (h : Heap) (l1 l2 : Addr) : Heap := (tzA h l1).push { cls := .type "tuple_iterator", data := .fields #[.ref l2, .int 0 0] }
abbrev tzC (h : Heap) (l1 l2 : Addr) : Heap := (tzB h l1 l2).push { cls := .type "tuple", data := .seq #[.ref h.objs.size, .ref (tzA h l1).objs.size] }
abbrev tzD (h : Heap) (l1 l2 : Addr) : Heap := (tzC h l1 l2).push { cls := .type "tuple", data := .seq #[.none, .none] }
abbrev tzE (h : Heap) (l1 l2 : Addr) : Heap := (tzD h l1 l2).push { cls := .type "zip", data := .fields #[.none, .bool false, .bool false, .ref (tzB h l1 l2).objs.size, .ref (tzC h l1 l2).objs.size] }
theorem meetsZipT (l1 l2 : Addr) (xs ys : Array Value) :
    Meets (Builtin.«zip.__new__» ⟨[.type "zip", .ref l1, .ref l2], []⟩) (fun _ R s => s.heap.IsTuple l1 xs ∧ s.heap.IsTuple l2 ys ∧
      R (.ok (.ret (.ref (tzD s.heap l1 l2).objs.size))) { s with heap := tzE s.heap l1 l2 }) :=
  .of_wp fun prog w A R s h => by
    obtain ⟨hp, g, d, tk, os⟩ := s
    obtain ⟨q1, q2, h⟩ := h
    have hsub := sub_zip
    have e1 : Heap.IsTuple (Shared.heap ⟨hp, g, d, tk, os⟩) l1 xs := q1
    have e2 : Heap.IsTuple (Shared.heap ⟨hp.push { cls := .type "tuple_iterator", data := .fields #[.ref l1, .int 0 0] }, g, d, tk, os⟩) l2 ys := q2.push _
    wp_walk using wpAny_pyIter_tuple e1, wpAny_pyIter_tuple e2
    exact ⟨_, rfl, h⟩
section
variable {prog : Program} {w : World} {A : Around} {E : Value → Shared → Prop} {s : Shared} {h₀ : Heap} {env : Env}
theorem callZipT {l1 l2 : Addr} {xs ys : Array Value} {Q : Value → Shared → Prop} (q1 : s.heap.IsTuple l1 xs) (q2 : s.heap.IsTuple l2 ys)
    (h : ∀ h', IsZip h' (s.heap.objs.size + 4) (s.heap.objs.size + 2) (s.heap.objs.size + 3) .none → IsPair h' (s.heap.objs.size + 2) (.ref s.heap.objs.size) (.ref (s.heap.objs.size + 1)) →
      IsPair h' (s.heap.objs.size + 3) .none .none → TS h' s.heap.objs.size l1 0 xs → TS h' (s.heap.objs.size + 1) l2 0 ys →
      (∀ c o, s.heap.get? c = some o → h'.get? c = some o) → Q (.ref (s.heap.objs.size + 4)) { s with heap := h' }) :
    wpAny (model prog w) A (call (.type "zip") [.ref l1, .ref l2]) Q E s := by
  refine callType_new F.called_zip (by decide) (F.typeCall_zip_2 _ _) (F.newCall_zip_2 _ _) (fun obj => F.args_object_init_3 obj _ _) F.entry_zip_new (meetsZipT l1 l2 xs ys) ⟨q1, q2, ?_⟩
  have up : ∀ c o, s.heap.get? c = some o → (tzE s.heap l1 l2).get? c = some o := fun c o e =>
    Heap.get?_push_of_some _ (Heap.get?_push_of_some _ (Heap.get?_push_of_some _ (Heap.get?_push_of_some _ (Heap.get?_push_of_some _ e))))
  have z1 : (tzA s.heap l1).objs.size = s.heap.objs.size + 1 := Heap.size_push ..
  have z2 : (tzB s.heap l1 l2).objs.size = s.heap.objs.size + 2 := by rw [Heap.size_push, z1]
  have z3 : (tzC s.heap l1 l2).objs.size = s.heap.objs.size + 3 := by rw [Heap.size_push, z2]
  have z4 : (tzD s.heap l1 l2).objs.size = s.heap.objs.size + 4 := by rw [Heap.size_push, z3]
  have g5 : (tzE s.heap l1 l2).get? (tzD s.heap l1 l2).objs.size = some _ := Heap.get?_push_size _ rfl
  have g4 : (tzE s.heap l1 l2).get? (tzC s.heap l1 l2).objs.size = some _ := Heap.get?_push_of_some _ (Heap.get?_push_size _ rfl)
  have g3 : (tzE s.heap l1 l2).get? (tzB s.heap l1 l2).objs.size = some _ := Heap.get?_push_of_some _ (Heap.get?_push_of_some _ (Heap.get?_push_size _ rfl))
  have g2 : (tzE s.heap l1 l2).get? (tzA s.heap l1).objs.size = some _ := Heap.get?_push_of_some _ (Heap.get?_push_of_some _ (Heap.get?_push_of_some _ (Heap.get?_push_size _ rfl)))
  have g1 : (tzE s.heap l1 l2).get? s.heap.objs.size = some _ := Heap.get?_push_of_some _ (Heap.get?_push_of_some _ (Heap.get?_push_of_some _ (Heap.get?_push_of_some _ (Heap.get?_push_size _ rfl))))
  show _ ∧ _
  rw [z2, z3, z4] at g5
  rw [z1, z2] at g3
  rw [z3] at g4
  rw [z1] at g2
  rw [z4]
  exact ⟨⟨_, g5, rfl⟩, h _ g5 g3 g4 ⟨⟨_, g1, rfl, rfl⟩, q1.at fun o e => up _ o e⟩ ⟨⟨_, g2, rfl, rfl⟩, q2.at fun o e => up _ o e⟩ up⟩
end
end Mine
end
section
open PySem PySem.W PyProof.Rows PySem.Calls PySem.Spec
set_option Elab.async false
set_option maxRecDepth 100000
namespace Mine
section
variable {prog : Program} {w : World} {A : Around} {E : Value → Shared → Prop} {s : Shared} {env : Env} {h₀ : Heap} {body : List Stmt} {Q : Flow → Shared → Prop}
theorem zipTurns {elts : List Expr} {k : Nat} {pos : Pos} {l1 l2 : Addr} {lo1 lo2 : Obj} {xs ys : List Value} {n1 n2 : Nat} {m₀ : Str → Option Value} {news : List (Addr × Obj)}
    (hh : A.handled = none) (F : Fr h₀ env.locals s.heap m₀) (N : News h₀ env.locals s.heap news) (hm1 : (l1, lo1) ∈ news) (hc1 : lo1.cls = .type "tuple") (hd1 : lo1.data = .seq xs.toArray n1) (hm2 : (l2, lo2) ∈ news) (hc2 : lo2.cls = .type "tuple") (hd2 : lo2.data = .seq ys.toArray n2)
    (hlen : xs.length = ys.length)
    (rest₀ : ∀ I : Addr, (∀ p ∈ news, p.1 < I) → ItemsRest prog w A E h₀ env (.Tuple elts k pos) body Q s [(I + 4, "zip"), (I + 2, "tuple"), (I + 3, "tuple"), (I, "tuple_iterator"), (I + 1, "tuple_iterator")] [(l1, lo1), (l2, lo2)] (zipItems xs ys) m₀ news) :
    wpAny (model prog w) A (call (.type "zip") [.ref l1, .ref l2]) (fun xv s₁ => wpAny (model prog w) A (pyIter xv) (fun it s₂ => TurnsAt prog w A h₀ env (.Tuple elts k pos) body Q E it s₂) E s₁) E s := by
  have a1 := N _ hm1
  have a2 := N _ hm2
  have L1 : s.heap.IsTuple l1 xs.toArray := ⟨lo1, a1.1, hc1, n1, hd1⟩
  have L2 : s.heap.IsTuple l2 ys.toArray := ⟨lo2, a2.1, hc2, n2, hd2⟩
  have b1 : l1 < s.heap.objs.size := Heap.lt_size a1.1
  have b2 : l2 < s.heap.objs.size := Heap.lt_size a2.1
  have bL : env.locals < s.heap.objs.size := F.ns.lt
  have D : ZipApart (s.heap.objs.size + 4) (s.heap.objs.size + 2) (s.heap.objs.size + 3) s.heap.objs.size (s.heap.objs.size + 1) l1 l2 := ktu_apart _ _ _ b1 b2
  refine callZipT L1 L2 fun h' hz hTI hTO S1 S2 up => ?_
  refine wpAny_pyIter_zip hz ?_
  refine ktu_core (tk0 := s.toks) (keep := [(l1, lo1), (l2, lo2)]) (KTurns.ofWalksU (walksZipT hh _ _ _ _ _ _ _ D xs.toArray ys.toArray (by simpa using hlen)).toU) (by simp [zipItems_length, hlen]) ?_ ?_ ?_ ?_ ?_ ?_ ?_ ⟨hz, hTI, ⟨_, _, hTO⟩, S1, S2⟩ (F.keeps up) (N.grown up) (And.intro hm1 (And.intro hm2 trivial)) (rest₀ _ fun p hp => Heap.lt_size (N p hp).1)
  · rintro i v h ⟨T, vals, rfl, ⟨x, y, hx, hy, rfl⟩, hT⟩
    exact ⟨_, zipItems_get xs ys i (x := x) (y := y) (by simpa using hx) (by simpa using hy), T, 0, rfl, hT⟩
  · rintro i h ⟨qz, qTI, ⟨a, b, qTO⟩, ⟨⟨o1, u1, c1, _⟩, _⟩, ⟨⟨o2, u2, c2, _⟩, _⟩⟩
    obtain ⟨oz, qz, kz⟩ : ∃ o : Obj, h.get? (s.heap.objs.size + 4) = some o ∧ o.cls = .type "zip" := ⟨_, qz, rfl⟩
    obtain ⟨oi, qTI, ki⟩ : ∃ o : Obj, h.get? (s.heap.objs.size + 2) = some o ∧ o.cls = .type "tuple" := ⟨_, qTI, rfl⟩
    obtain ⟨oo, qTO, ko⟩ : ∃ o : Obj, h.get? (s.heap.objs.size + 3) = some o ∧ o.cls = .type "tuple" := ⟨_, qTO, rfl⟩
    refine ⟨[(s.heap.objs.size + 4, oz), (s.heap.objs.size + 2, oi), (s.heap.objs.size + 3, oo), (s.heap.objs.size, o1), (s.heap.objs.size + 1, o2)], ⟨⟨rfl, kz⟩, ⟨rfl, ki⟩, ⟨rfl, ko⟩, ⟨rfl, c1⟩, ⟨rfl, c2⟩, trivial⟩, fun p hp => ?_⟩
    rcases List.mem_cons.mp hp with rfl | hp
    · exact qz
    rcases List.mem_cons.mp hp with rfl | hp
    · exact qTI
    rcases List.mem_cons.mp hp with rfl | hp
    · exact qTO
    rcases List.mem_cons.mp hp with rfl | hp
    · exact u1
    rw [List.mem_singleton.mp hp]
    exact u2
  · intro b hb
    have hb' : b = s.heap.objs.size + 4 ∨ b = s.heap.objs.size + 2 ∨ b = s.heap.objs.size + 3 ∨ b = s.heap.objs.size ∨ b = s.heap.objs.size + 1 := by simpa using hb
    rcases hb' with rfl | rfl | rfl | rfl | rfl
    · exact ⟨by simp, ktu_new F (Nat.le_add_right _ _)⟩
    · exact ⟨by simp, ktu_new F (Nat.le_add_right _ _)⟩
    · exact ⟨by simp, ktu_new F (Nat.le_add_right _ _)⟩
    · exact ⟨by simp, ktu_new F (Nat.le_refl _)⟩
    · exact ⟨by simp, ktu_new F (Nat.le_add_right _ _)⟩
  · intro b hb
    have hb' : b = s.heap.objs.size + 4 ∨ b = s.heap.objs.size + 3 ∨ b = s.heap.objs.size ∨ b = s.heap.objs.size + 1 := by simpa using hb
    rcases hb' with rfl | rfl | rfl | rfl <;> simp
  · intro b hb
    have hb' : b = s.heap.objs.size + 4 ∨ b = s.heap.objs.size + 2 ∨ b = s.heap.objs.size + 3 ∨ b = s.heap.objs.size ∨ b = s.heap.objs.size + 1 ∨ b = l1 ∨ b = l2 := by simpa using hb
    rcases hb' with rfl | rfl | rfl | rfl | rfl | rfl | rfl
    · exact .inl (by simp)
    · exact .inl (by simp)
    · exact .inl (by simp)
    · exact .inl (by simp)
    · exact .inl (by simp)
    · exact .inr ⟨lo1, by simp⟩
    · exact .inr ⟨lo2, by simp⟩
  · intro hb
    have hb' : env.locals = s.heap.objs.size + 4 ∨ env.locals = s.heap.objs.size + 2 ∨ env.locals = s.heap.objs.size + 3 ∨ env.locals = s.heap.objs.size ∨ env.locals = s.heap.objs.size + 1 ∨ env.locals = l1 ∨ env.locals = l2 := by simpa using hb
    have d1 := a1.2.1
    have d2 := a2.2.1
    rcases hb' with e | e | e | e | e | e | e
    · exact ktu_ne 4 bL e
    · exact ktu_ne 2 bL e
    · exact ktu_ne 3 bL e
    · exact Nat.ne_of_lt bL e
    · exact ktu_ne 1 bL e
    · exact d1 e.symm
    · exact d2 e.symm
  · intro p hp hb
    have hb' : p.1 = s.heap.objs.size + 4 ∨ p.1 = s.heap.objs.size + 3 ∨ p.1 = s.heap.objs.size ∨ p.1 = s.heap.objs.size + 1 := by simpa using hb
    have bp := Heap.lt_size (N p hp).1
    rcases hb' with e | e | e | e
    · exact ktu_ne 4 bp e
    · exact ktu_ne 3 bp e
    · exact Nat.ne_of_lt bp e
    · exact ktu_ne 1 bp e
end
end Mine
end
section
open PySem PySem.W PyProof.Rows PySem.Calls PySem.Spec PyProof.Rows.LCg
set_option Elab.async false
set_option maxRecDepth 100000
set_option maxHeartbeats 8000000
namespace Mine
section
theorem offW1_of {n : Addr} {I : Addr} {o : Obj} (h : n < I) : ∀ {its : List (Addr × Obj)}, (∀ q ∈ its, I ≤ q.1) → OffW1 (n, o) its
  | [], _ => trivial
  | q :: r, hq => ⟨.inl (Nat.ne_of_lt (Nat.lt_of_lt_of_le h (hq q (.head _)))), offW1_of h fun p hp => hq p (.tail _ hp)⟩
theorem offW_of {I : Addr} {its : List (Addr × Obj)} (hq : ∀ q ∈ its, I ≤ q.1) : ∀ {l : List (Addr × Obj)}, (∀ p ∈ l, p.1 < I) → OffW its l
  | [], _ => trivial
  | p :: r, h => ⟨offW1_of (h p (.head _)) hq, offW_of hq fun x hx => h x (.tail _ hx)⟩
theorem subLOf : ∀ {l all : List (Addr × Obj)}, (∀ p ∈ l, p ∈ all) → SubL l all
  | [], _, _ => trivial
  | _ :: _, _, h => ⟨h _ (.head _), subLOf fun p hp => h p (.tail _ hp)⟩
def eqScope : Scope := { kind := .function, names := [(Str.ofString "self", .local), (Str.ofString "other", .local), (Str.ofString "c1", .local), (Str.ofString "c2", .local), (Str.ofString "isinstance", .globalImplicit), (Str.ofString "FQP", .globalImplicit), (Str.ofString "TypeError", .globalImplicit), (Str.ofString "type", .globalImplicit), (Str.ofString "zip", .globalImplicit)], isGenerator := false, isCoroutine := false }
variable {prog : Program} {w : World} {A : Around} {E : Value → Shared → Prop} {h₀ : Heap} {Q : Flow → Shared → Prop} {s : Shared}
theorem eqRest {I L fa : Addr} {cd : Value} {news keep : List (Addr × Obj)} {pa pb pT pa' pb' pc pF pR pI : Pos} {kT kF : Nat} (hh : A.handled = none) (hlt : ∀ p ∈ news, p.1 < I) (hkeep : SubL keep news) :
    ∀ (xs ys : List Value) (ns ms : List Int), IntsAre xs ns → IntsAre ys ms → ns.length = ms.length →
    (ns = ms → ∀ m h tk, Fr h₀ L h m → News h₀ L h news → Q .next { s with heap := h, toks := tk }) →
    (ns ≠ ms → ∀ m h tk, Fr h₀ L h m → News h₀ L h news → Q (.ret (.bool false)) { s with heap := h, toks := tk }) →
    ∀ m, ItemsRest prog w A E h₀ (envOf (Str.ofString "FQP.__eq__") eqScope L fa cd) (.Tuple [.Name (Str.ofString "c1") pa, .Name (Str.ofString "c2") pb] kT pT)
      [.If (.Compare (.Name (Str.ofString "c1") pa') [.NotEq] [.Name (Str.ofString "c2") pb'] pc) [.Return (some (.Constant (.bool false) kF pF)) pR] [] pI] Q s
      [(I + 4, "zip"), (I + 2, "tuple"), (I + 3, "tuple"), (I, "tuple_iterator"), (I + 1, "tuple_iterator")] keep (zipItems xs ys) m news
  | [], _, _, _, .nil, hy, hl, hN, _, m => by
    refine ItemsRest.zero (fun h tk F N => hN ?_ m h tk F N)
    exact (List.eq_nil_of_length_eq_zero hl.symm).symm
  | _ :: _, [], _, _, .cons .., .nil, hl, _, _, _ => by cases hl
  | _ :: r, _ :: q, _, _, .cons (n := a) ta hx, .cons (n := b) tb hy, hl, hN, hR, m => by
    refine ItemsRest.pair (fun T t h tk hT F => ?_)
    refine AllObj.cons fun o1 c1 => AllObj.cons fun o2 c2 => AllObj.cons fun o3 c3 => AllObj.cons fun o4 c4 => AllObj.cons fun o5 c5 => AllObj.nil fun N => ?_
    have F : Fr h₀ L h m := F
    have N : News h₀ L h ([(I + 4, o1), (I + 2, o2), (I + 3, o3), (I, o4), (I + 1, o5)] ++ news) := N
    refine unpackN_ F N hT hh rfl rfl (fun h1 F1 N1 => ?_)
    refine assignInOrder_cons (PyProof.Rows.assign_Name ?_)
    refine storeX_L F1 N1 (fun h2 F2 N2 => ?_)
    refine assignInOrder_cons (PyProof.Rows.assign_Name ?_)
    refine storeX_L F2 N2 (fun h3 F3 N3 => ?_)
    refine assignInOrder_nil ?_
    refine wpAny_execs_cons (wpAny_If (wpAny_isTrue_Compare1 ?_))
    refine nameX_L F3 (v := .int a ta) rfl ?_
    refine nameX_L F3 (v := .int b tb) rfl ?_
    refine ne_int (wpAny_truthy_bool ?_)
    have NN : News h₀ L h3 news := fun p hp => N3 p (List.mem_append_right _ hp)
    by_cases e : a = b
    · subst e
      rw [show (a != a) = false by simp]
      refine wpAny_execs_nil ?_
      refine wpAny_execs_nil ?_
      refine UnrEndW.intro F3 N3 news ?_ ?_ (offW_of (I := I) ?_ hlt) ⟨hkeep, eqRest hh hlt hkeep r q _ _ hx hy (by simpa using hl) (fun z => hN (by rw [z])) (fun z => hR (fun z' => z (List.cons.inj z').2)) _⟩
      · exact subLOf fun p hp => List.mem_append_left _ hp
      · exact subLOf fun p hp => List.mem_append_right _ hp
      · intro p hp
        simp only [List.mem_cons, List.not_mem_nil, or_false] at hp
        rcases hp with rfl | rfl | rfl | rfl | rfl <;> simp
    · rw [show (a != b) = true by simpa using e]
      refine wpAny_execs_cons (wpAny_Return_some (Constant_bool ?_))
      exact hR (fun z => e (List.cons.inj z).1) _ _ _ F3 NN
theorem zipEq {L fa : Addr} {cd : Value} {pa pb pT pa' pb' pc pF pR pI : Pos} {kT kF : Nat} {l1 l2 : Addr} {lo1 lo2 : Obj} {xs ys : List Value} {ns ms : List Int} {n1 n2 : Nat} {m₀ : Str → Option Value} {news : List (Addr × Obj)}
    (hh : A.handled = none) (F : Fr h₀ L s.heap m₀) (N : News h₀ L s.heap news) (hm1 : (l1, lo1) ∈ news) (hc1 : lo1.cls = .type "tuple") (hd1 : lo1.data = .seq xs.toArray n1) (hm2 : (l2, lo2) ∈ news) (hc2 : lo2.cls = .type "tuple") (hd2 : lo2.data = .seq ys.toArray n2)
    (hx : IntsAre xs ns) (hy : IntsAre ys ms) (hlen : ns.length = ms.length)
    (hN : ns = ms → ∀ m h tk, Fr h₀ L h m → News h₀ L h news → Q .next { s with heap := h, toks := tk })
    (hR : ns ≠ ms → ∀ m h tk, Fr h₀ L h m → News h₀ L h news → Q (.ret (.bool false)) { s with heap := h, toks := tk }) :
    wpAny (model prog w) A (call (.type "zip") [.ref l1, .ref l2]) (fun xv s₁ => wpAny (model prog w) A (pyIter xv) (fun it s₂ => TurnsAt prog w A h₀ (envOf (Str.ofString "FQP.__eq__") eqScope L fa cd) (.Tuple [.Name (Str.ofString "c1") pa, .Name (Str.ofString "c2") pb] kT pT)
      [.If (.Compare (.Name (Str.ofString "c1") pa') [.NotEq] [.Name (Str.ofString "c2") pb'] pc) [.Return (some (.Constant (.bool false) kF pF)) pR] [] pI] Q E it s₂) E s₁) E s := by
  refine zipTurns (m₀ := m₀) (news := news) hh F N hm1 hc1 hd1 hm2 hc2 hd2 (by rw [IntsAre.length hx, IntsAre.length hy, hlen]) fun I hI => ?_
  refine eqRest hh hI (subLOf fun p hp => ?_) xs ys ns ms hx hy hlen hN hR m₀
  rcases List.mem_cons.mp hp with rfl | hp
  · exact hm1
  · rw [List.mem_singleton.mp hp]; exact hm2
end
end Mine
end
section
open PySem PySem.W PyProof.Rows PySem.Calls PySem.Spec PyProof.Rows.LCg
set_option Elab.async false
set_option maxRecDepth 100000
set_option maxHeartbeats 8000000
namespace Mine
local macro_rules | `(tactic| k_room) => `(tactic| ktr_room)
local macro_rules | `(tactic| k_enter) => `(tactic| first
  | (refine' code_def ?k1 ?k2 ?k3 ?k4 ?k5 ?kA ?kF ?kK ?k6 ?k7 ?k8 ?k9 ?kB ?_ ?c2 ?c3 ?c4 ?c5; (case kA => exact rfl); (case kF => exact rfl); (case kK => first | exact rfl | assumption); (case k1 => k_asm); (case k2 => k_asm); (case k3 => k_asm); (case k4 => k_asm); (case k5 => k_asm); (case k6 => k_is); (case k7 => k_is); (case k8 => k_room); (case k9 => first | exact BindsTo.of_eq rfl | exact binds_K (by k_in) rfl (by k_is) rfl rfl rfl); (case c5 => decide); (case kB => exact locs rfl); (case c2 => exact rfl); (case c3 => exact rfl); (case c4 => exact rfl); k_whole; intro g' L' h' FG' F' N' B' X' T'; (try dsimp only); (try k_lift B'); (try k_fold))
  | (refine' code_defC ?k1 ?k2 ?k3 ?k4 ?k5 ?kA ?kF ?kK ?k6 ?k7 ?k8 ?k9 ?kB ?kD ?_ ?c2 ?c3 ?c4; (case kA => exact rfl); (case kF => exact rfl); (case kK => first | exact rfl | assumption); (case k1 => k_asm); (case k2 => k_asm); (case k3 => k_asm); (case k4 => k_asm); (case k5 => k_asm); (case k6 => k_is); (case k7 => k_is); (case k8 => k_room); (case k9 => first | exact BindsTo.of_eq rfl | exact binds_K (by k_in) rfl (by k_is) rfl rfl rfl); (case kB => exact rfl); (case kD => decide +kernel); (case c2 => exact rfl); (case c3 => exact rfl); (case c4 => exact rfl); k_whole; intro g' L' h' tk' cells' FG' F' N' Y' B' X' T' l1; (try k_lt l1); k_cells Y'; (try simp only [List.cons_append, List.nil_append] at N'); (try dsimp only); (try k_lift B'); (try k_fold)))
local macro_rules | `(tactic| k_units) => `(tactic| first | exact Nat.le_of_ble_eq_true rfl | ktr_units)
local macro_rules | `(tactic| walk_at "call type:zip") => `(tactic| (k_here; (with_reducible show wpAny _ _ (call (Value.type _) [Value.ref _, Value.ref _]) _ _ _); k_dflt ((rename Fr _ _ _ _ => lF9); (with_unfolding_all refine' zipEq ?hh ?F ?N ?m1 ?c1 ?d1 ?m2 ?c2 ?d2 ?x ?y ?len ?_ ?_); (case hh => rfl); (case F => exact lF9); (case N => k_asm); (case m1 => k_mem); (case m2 => k_mem); (case c1 => rfl); (case c2 => rfl); (case d1 => rfl); (case d2 => rfl); (case x => repeat' (first | exact IntsAre.nil | refine' IntsAre.cons _ _ ?_)); (case y => repeat' (first | exact IntsAre.nil | refine' IntsAre.cons _ _ ?_)); (case len => rfl); (all_goals (clear lF9; intro e9 m9 h9 tk9 F9 N9; (try dsimp only))))))
local macro_rules | `(tactic| walk_at "exec For Tuple Call cons nil") => `(tactic| (k_here; k_dflt ((rename Fr _ _ _ _ => lF9); (refine' For_turns lF9 ?_); k_whole)))
local macro_rules | `(tactic| walk_at "call ref") => `(tactic| (k_here; (with_reducible show wpAny _ _ (call (Value.ref 199) [Value.ref _, Value.ref _, Value.int _ _]) _ _ _); k_dflt ((with_unfolding_all refine' mk2 _ _ _ _ _ _ _ _ _ _ _ _ _ _ _ _ _ _ _ _ _ _ _ _ _ _ _ _ _ _ _ _ _ _ _ _ _ _ _ _ ?B ?F ?X ?N ?T ?M ?hk ?G ?tr ?l ?t ?U ?q1 ?q2 ?d ?u ?_); (case B => k_asm); (case F => k_asm); (case X => k_asm); (case N => k_asm); (case T => k_asm); (case M => k_asm); (case hk => first | exact rfl | assumption); (case G => k_asm); (case U => (refine' UpdN.go ?N9 ?U9; (case N9 => k_asm); (case U9 => repeat' (first | exact UpdN.last | refine' UpdN.tail ?_ ?_ | (intro e; cases congrArg Obj.cls e; done))))); (case tr => assumption); (case l => k_mem); (case t => k_mem); (case q1 => first | assumption | omega); (case q2 => first | assumption | omega); (case d => first | decide | ktr_room); (case u => first | decide | ktr_units); intro x' d' e' D' ys' h' g' tk' ps' td' k1' k2' k3' k4' k5' nd' F' N' I' G' tr' l1 l2' l3'; (obtain ⟨t0, t1, e9⟩ := ints2 I'); subst e9; clear I'; (try dsimp only at N'); (try simp only [Int.zero_fmod] at N'); (try k_lt l1); (try k_sweep); (try dsimp only); (try k_fold))))
local macro_rules | `(tactic| walk_at "call ref") => `(tactic| (k_here; (with_reducible show wpAny _ _ (call (Value.ref 170) [Value.ref _, Value.ref _, Value.int _ _]) _ _ _); k_dflt ((with_unfolding_all refine' mk12 _ _ _ _ _ _ _ _ _ _ _ _ _ _ _ _ _ _ _ _ _ _ _ _ _ _ _ _ _ _ _ _ _ _ _ _ _ _ _ _ _ _ _ _ _ _ _ _ _ _ _ _ _ _ _ _ _ _ _ _ _ _ _ _ _ _ _ _ _ _ ?B ?F ?X ?N ?T ?M ?hk ?G ?tr ?l ?t ?U ?q1 ?q2 ?d ?u ?_); (case B => k_asm); (case F => k_asm); (case X => k_asm); (case N => k_asm); (case T => k_asm); (case M => k_asm); (case hk => first | exact rfl | assumption); (case G => k_asm); (case U => (refine' UpdN.go ?N9 ?U9; (case N9 => k_asm); (case U9 => repeat' (first | exact UpdN.last | refine' UpdN.tail ?_ ?_ | (intro e; cases congrArg Obj.cls e; done))))); (case tr => assumption); (case l => k_mem); (case t => k_mem); (case q1 => first | assumption | omega); (case q2 => first | assumption | omega); (case d => first | decide | ktr_room); (case u => first | decide | ktr_units); intro x' d' e' D' ys' h' g' tk' ps' td' k1' k2' k3' k4' k5' nd' F' N' I' G' tr' l1 l2' l3'; (obtain ⟨t0, t1, t2, t3, t4, t5, t6, t7, t8, t9, t10, t11, e9⟩ := ints12 I'); subst e9; clear I'; (try dsimp only at N'); (try simp only [Int.zero_fmod] at N'); (try k_lt l1); (try k_sweep); (try dsimp only); (try k_fold))))
theorem regi2 : PySem.Challenge.rw_lh0032_01 = PySem.Challenge.rw_lh0032_01 ∧ regk.heap_1 = regk.heap_1 := by
  w_top off
  k_fill
  exact ⟨rfl, rfl⟩
theorem qOf2 {Q : Value → Shared → Prop} {b c : Bool} {s : Shared} (h : Q (.bool b) s) (e : b = c) : Q (.bool c) s := e ▸ h
theorem newsSub2 {h₀ : Heap} {L : Addr} {h : Heap} {l r : List (Addr × Obj)} (N : News h₀ L h l) (S : ∀ p ∈ r, p ∈ l) : News h₀ L h r := fun p hp => N p (S p hp)
theorem isInf2 (w : World) (p : Program) (loose : List Str) (mean : ExcName → Option Value) (mg mb : Str → Option Value) :
  ∀ (dp un : Nat) (gd : Option (List Code)) (cn : Str) (cs : Scope) (fa : Addr) (ccd : Value) (cl : List (Str × Addr)) (outer : List Env) (A₀ : Around) (base h₀ : Heap) (L : Addr) (m : Str → Option Value) (s : Shared) (Q E : Value → Shared → Prop)
    (T0 n1 n2 n3 e3 K3 P0 o1 o2 o3 e4 K4 cp c3 c0 mn3 mo3 bm : Addr) (ob : Obj) (ca cb z0 z1 q : Int) (tq k0 k1 k2 k3 k4 k5 k6 k7 k8 k9 k10 k11 k12 k13 k14 k15 k16 k17 k18 k19 k20 k21 k22 k23 k24 k25 k26 k27 k28 k29 k30 k31 k32 k33 k34 k35 k36 k37 k38 k39 k40 k41 k42 k43 : Tok) (jT jn3 jP jo3 jc j3 j0 : Nat) (ps : Array Value),
    Below A₀ base outer h₀ → Fr h₀ L s.heap m → (regk.heap_1 w.params).In h₀ → News h₀ L s.heap [(T0, ({ cls := .type "tuple", data := .seq #[.ref n1, .ref n2, .ref n3] jT } : Obj)), (n3, instObj 170 e3), (e3, dictOf (fqEs w q k0 mn3 K3 c0 12 k1 k2 k3 k4 k5 k6) jn3), (K3, tupO [.int 0 k7, .int 0 k8, .int 0 k9, .int ca k10, .int 0 k11, .int 0 k12, .int 0 k13, .int 0 k14, .int 0 k15, .int cb k16, .int 0 k17, .int 0 k18]), (P0, ({ cls := .type "tuple", data := .seq #[.ref o1, .ref o2, .ref o3] jP } : Obj)), (o3, instObj 199 e4), (e4, dictOf (fqEs w q k19 mo3 K4 cp 2 k20 k21 k22 k23 k24 k25) jo3), (K4, tupO [.int z0 k26, .int z1 k27]), (cp, ({ cls := .type "tuple", data := .seq #[.int 1 k28, .int 0 k29] jc } : Obj)), (c3, ({ cls := .type "tuple", data := .seq #[.int z0 k30, .int z1 k31] j3 } : Obj)), (c0, ({ cls := .type "tuple", data := .seq #[.int 2 k32, .int 0 k33, .int 0 k34, .int 0 k35, .int 0 k36, .int 0 k37, .int (-2) k38, .int 0 k39, .int 0 k40, .int 0 k41, .int 0 k42, .int 0 k43] j0 } : Obj)), (58, tabO ps)] → Top p loose mean mg mb h₀ → BMod base mainGlobals mg bm ob → cs.kind = .function → AllBare s.gens → TriplesOk ps.toList →
    7 ≤ q → q ≤ 8191 → dp + 20 < recursionLimit → un + 160 < cLine →
    (∀ (h' : Heap) (g' : Array GenState) (tk' : Nat) (ps' : Array Value), Fr h₀ L h' m → News h₀ L h' [(T0, ({ cls := .type "tuple", data := .seq #[.ref n1, .ref n2, .ref n3] jT } : Obj)), (n3, instObj 170 e3), (e3, dictOf (fqEs w q k0 mn3 K3 c0 12 k1 k2 k3 k4 k5 k6) jn3), (K3, tupO [.int 0 k7, .int 0 k8, .int 0 k9, .int ca k10, .int 0 k11, .int 0 k12, .int 0 k13, .int 0 k14, .int 0 k15, .int cb k16, .int 0 k17, .int 0 k18]), (P0, ({ cls := .type "tuple", data := .seq #[.ref o1, .ref o2, .ref o3] jP } : Obj)), (o3, instObj 199 e4), (e4, dictOf (fqEs w q k19 mo3 K4 cp 2 k20 k21 k22 k23 k24 k25) jo3), (K4, tupO [.int z0 k26, .int z1 k27]), (cp, ({ cls := .type "tuple", data := .seq #[.int 1 k28, .int 0 k29] jc } : Obj)), (c3, ({ cls := .type "tuple", data := .seq #[.int z0 k30, .int z1 k31] j3 } : Obj)), (c0, ({ cls := .type "tuple", data := .seq #[.int 2 k32, .int 0 k33, .int 0 k34, .int 0 k35, .int 0 k36, .int 0 k37, .int (-2) k38, .int 0 k39, .int 0 k40, .int 0 k41, .int 0 k42, .int 0 k43] j0 } : Obj)), (58, tabO ps')] → AllBare g' → TriplesOk ps'.toList →
      Q (.bool (decide (z0 = 0 ∧ z1 = 0))) { s with heap := h', gens := g', toks := tk' }) →
      wpAny (model PySem.Challenge.pw_lh0032_01 w) (ktrTop dp un gd cn cs L fa ccd cl outer) (call (.ref 28) [.ref P0]) Q E s := by
  intro dp un gd cn cs fa ccd cl outer A₀ base h₀ L m s Q E T0 n1 n2 n3 e3 K3 P0 o1 o2 o3 e4 K4 cp c3 c0 mn3 mo3 bm ob ca cb z0 z1 q tq k0 k1 k2 k3 k4 k5 k6 k7 k8 k9 k10 k11 k12 k13 k14 k15 k16 k17 k18 k19 k20 k21 k22 k23 k24 k25 k26 k27 k28 k29 k30 k31 k32 k33 k34 k35 k36 k37 k38 k39 k40 k41 k42 k43 jT jn3 jP jo3 jc j3 j0 ps B F X N T M hk G htr hq1 hq2 hd1 hu1 hret
  k_steps
  all_goals (refine' qOf2 (hret _ _ _ _ ?F ?N ?G ?tr) ?e; (case F => assumption); (case N => exact newsSub2 (by assumption) (by lcg_sub)); (case G => assumption); (case tr => assumption); (case e => first | ((rename @Eq (List Int) _ _ => e9); simp only [List.cons.injEq, and_true, true_and] at e9; first | exact decide_eq_true e9 | (simp at e9; exact decide_eq_true e9)) | ((rename @Ne (List Int) _ _ => e9); refine decide_eq_false (fun z => e9 ?_); obtain ⟨z1, z2⟩ := z; rw [z1, z2]; done)))
theorem qOf12 {Q : Value → Shared → Prop} {b c : Bool} {s : Shared} (h : Q (.bool b) s) (e : b = c) : Q (.bool c) s := e ▸ h
theorem newsSub12 {h₀ : Heap} {L : Addr} {h : Heap} {l r : List (Addr × Obj)} (N : News h₀ L h l) (S : ∀ p ∈ r, p ∈ l) : News h₀ L h r := fun p hp => N p (S p hp)
theorem isInf12 (w : World) (p : Program) (loose : List Str) (mean : ExcName → Option Value) (mg mb : Str → Option Value) :
  ∀ (dp un : Nat) (gd : Option (List Code)) (cn : Str) (cs : Scope) (fa : Addr) (ccd : Value) (cl : List (Str × Addr)) (outer : List Env) (A₀ : Around) (base h₀ : Heap) (L : Addr) (m : Str → Option Value) (s : Shared) (Q E : Value → Shared → Prop)
    (T0 n1 n2 n3 e3 K3 P0 o1 o2 o3 e4 K4 cp c3 c0 mn3 mo3 bm : Addr) (ob : Obj) (ca cb z0 z1 q : Int) (tq k0 k1 k2 k3 k4 k5 k6 k7 k8 k9 k10 k11 k12 k13 k14 k15 k16 k17 k18 k19 k20 k21 k22 k23 k24 k25 k26 k27 k28 k29 k30 k31 k32 k33 k34 k35 k36 k37 k38 k39 k40 k41 k42 k43 : Tok) (jT jn3 jP jo3 jc j3 j0 : Nat) (ps : Array Value),
    Below A₀ base outer h₀ → Fr h₀ L s.heap m → (regk.heap_1 w.params).In h₀ → News h₀ L s.heap [(T0, ({ cls := .type "tuple", data := .seq #[.ref n1, .ref n2, .ref n3] jT } : Obj)), (n3, instObj 170 e3), (e3, dictOf (fqEs w q k0 mn3 K3 c0 12 k1 k2 k3 k4 k5 k6) jn3), (K3, tupO [.int 0 k7, .int 0 k8, .int 0 k9, .int ca k10, .int 0 k11, .int 0 k12, .int 0 k13, .int 0 k14, .int 0 k15, .int cb k16, .int 0 k17, .int 0 k18]), (P0, ({ cls := .type "tuple", data := .seq #[.ref o1, .ref o2, .ref o3] jP } : Obj)), (o3, instObj 199 e4), (e4, dictOf (fqEs w q k19 mo3 K4 cp 2 k20 k21 k22 k23 k24 k25) jo3), (K4, tupO [.int z0 k26, .int z1 k27]), (cp, ({ cls := .type "tuple", data := .seq #[.int 1 k28, .int 0 k29] jc } : Obj)), (c3, ({ cls := .type "tuple", data := .seq #[.int z0 k30, .int z1 k31] j3 } : Obj)), (c0, ({ cls := .type "tuple", data := .seq #[.int 2 k32, .int 0 k33, .int 0 k34, .int 0 k35, .int 0 k36, .int 0 k37, .int (-2) k38, .int 0 k39, .int 0 k40, .int 0 k41, .int 0 k42, .int 0 k43] j0 } : Obj)), (58, tabO ps)] → Top p loose mean mg mb h₀ → BMod base mainGlobals mg bm ob → cs.kind = .function → AllBare s.gens → TriplesOk ps.toList →
    7 ≤ q → q ≤ 8191 → dp + 20 < recursionLimit → un + 160 < cLine →
    (∀ (h' : Heap) (g' : Array GenState) (tk' : Nat) (ps' : Array Value), Fr h₀ L h' m → News h₀ L h' [(T0, ({ cls := .type "tuple", data := .seq #[.ref n1, .ref n2, .ref n3] jT } : Obj)), (n3, instObj 170 e3), (e3, dictOf (fqEs w q k0 mn3 K3 c0 12 k1 k2 k3 k4 k5 k6) jn3), (K3, tupO [.int 0 k7, .int 0 k8, .int 0 k9, .int ca k10, .int 0 k11, .int 0 k12, .int 0 k13, .int 0 k14, .int 0 k15, .int cb k16, .int 0 k17, .int 0 k18]), (P0, ({ cls := .type "tuple", data := .seq #[.ref o1, .ref o2, .ref o3] jP } : Obj)), (o3, instObj 199 e4), (e4, dictOf (fqEs w q k19 mo3 K4 cp 2 k20 k21 k22 k23 k24 k25) jo3), (K4, tupO [.int z0 k26, .int z1 k27]), (cp, ({ cls := .type "tuple", data := .seq #[.int 1 k28, .int 0 k29] jc } : Obj)), (c3, ({ cls := .type "tuple", data := .seq #[.int z0 k30, .int z1 k31] j3 } : Obj)), (c0, ({ cls := .type "tuple", data := .seq #[.int 2 k32, .int 0 k33, .int 0 k34, .int 0 k35, .int 0 k36, .int 0 k37, .int (-2) k38, .int 0 k39, .int 0 k40, .int 0 k41, .int 0 k42, .int 0 k43] j0 } : Obj)), (58, tabO ps')] → AllBare g' → TriplesOk ps'.toList →
      Q (.bool (decide (ca = 0 ∧ cb = 0))) { s with heap := h', gens := g', toks := tk' }) →
      wpAny (model PySem.Challenge.pw_lh0032_01 w) (ktrTop dp un gd cn cs L fa ccd cl outer) (call (.ref 28) [.ref T0]) Q E s := by
  intro dp un gd cn cs fa ccd cl outer A₀ base h₀ L m s Q E T0 n1 n2 n3 e3 K3 P0 o1 o2 o3 e4 K4 cp c3 c0 mn3 mo3 bm ob ca cb z0 z1 q tq k0 k1 k2 k3 k4 k5 k6 k7 k8 k9 k10 k11 k12 k13 k14 k15 k16 k17 k18 k19 k20 k21 k22 k23 k24 k25 k26 k27 k28 k29 k30 k31 k32 k33 k34 k35 k36 k37 k38 k39 k40 k41 k42 k43 jT jn3 jP jo3 jc j3 j0 ps B F X N T M hk G htr hq1 hq2 hd1 hu1 hret
  k_steps
  all_goals (refine' qOf12 (hret _ _ _ _ ?F ?N ?G ?tr) ?e; (case F => assumption); (case N => exact newsSub12 (by assumption) (by lcg_sub)); (case G => assumption); (case tr => assumption); (case e => first | ((rename @Eq (List Int) _ _ => e9); simp only [List.cons.injEq, and_true, true_and] at e9; first | exact decide_eq_true e9 | (simp at e9; exact decide_eq_true e9)) | ((rename @Ne (List Int) _ _ => e9); refine decide_eq_false (fun z => e9 ?_); obtain ⟨z1, z2⟩ := z; rw [z1, z2]; done)))
end Mine
end
section
open PySem PySem.W PyProof.Rows PySem.Calls PySem.Spec PyProof.Rows.LCg
set_option Elab.async false
set_option maxRecDepth 100000
set_option maxHeartbeats 8000000
namespace Mine
local macro_rules | `(tactic| walk_at "call ref") => `(tactic| (k_here; (with_reducible show wpAny _ _ (call (Value.ref 28) [Value.ref _]) _ _ _); k_dflt (first | ((with_unfolding_all refine' isInf12 _ _ _ _ _ _ _ _ _ _ _ _ _ _ _ _ _ _ _ _ _ _ _ _ _ _ _ _ _ _ _ _ _ _ _ _ _ _ _ _ _ _ _ _ _ _ _ 0 _ _ _ _ _ _ _ _ _ _ _ _ _ _ _ _ _ _ _ _ _ _ _ _ _ _ _ _ _ _ _ _ _ _ _ _ _ _ _ _ _ _ _ _ _ _ _ _ _ _ _ _ ?B ?F ?X ?N ?T ?M ?hk ?G ?tr ?q1 ?q2 ?d ?u ?_); (case N => k_asm); (case B => k_asm); (case F => k_asm); (case X => k_asm); (case T => k_asm); (case M => k_asm); (case hk => exact rfl); (case G => k_asm); (case tr => assumption); (case q1 => assumption); (case q2 => assumption); (case d => first | decide | ktr_room); (case u => first | decide | ktr_units); intro h' g' tk' ps' F' N' G' tr'; (try k_sweep); (try dsimp only); (try k_fold)) | ((with_unfolding_all refine' isInf2 _ _ _ _ _ _ _ _ _ _ _ _ _ _ _ _ _ _ _ _ _ _ _ _ _ _ _ _ _ _ _ _ _ _ _ _ _ _ _ _ _ _ _ _ _ _ _ 0 _ _ _ _ _ _ _ _ _ _ _ _ _ _ _ _ _ _ _ _ _ _ _ _ _ _ _ _ _ _ _ _ _ _ _ _ _ _ _ _ _ _ _ _ _ _ _ _ _ _ _ _ ?B ?F ?X ?N ?T ?M ?hk ?G ?tr ?q1 ?q2 ?d ?u ?_); (case N => k_asm); (case B => k_asm); (case F => k_asm); (case X => k_asm); (case T => k_asm); (case M => k_asm); (case hk => exact rfl); (case G => k_asm); (case tr => assumption); (case q1 => assumption); (case q2 => assumption); (case d => first | decide | ktr_room); (case u => first | decide | ktr_units); intro h' g' tk' ps' F' N' G' tr'; (try k_sweep); (try dsimp only); (try k_fold)))))
theorem reg10 : PySem.Challenge.rw_lh0032_01 = PySem.Challenge.rw_lh0032_01 ∧ regk.heap_1 = regk.heap_1 := by
  w_top off
  k_fill
  exact ⟨rfl, rfl⟩
theorem retOf {Q : Flow → Shared → Prop} {b : Bool} {s : Shared} (h : Q (.ret (.bool true)) s) (e : b = true) : Q (.ret (.bool b)) s := e ▸ h
theorem part10 (w : World) (s : Shared) (p : Program) (loose : List Str) (mean : ExcName → Option Value) (mg mb m : Str → Option Value) (bm : Addr) (ob : Obj) (h₀ : Heap) (L : Addr)
    (name qual : Str) (params : Arguments) (s1 s2 s3 s4 s5 s6 s7 s8 s9 s10 : Stmt) (scope : Scope) (dV kV doc pm cdv ct oc : Value) (an od : Option Addr) (osl : Array (Option Value)) (Q : Flow → Shared → Prop) (E : Value → Shared → Prop)
    (ho : (regk.heap_1 w.params).lookup 234 = some ⟨oc, od, .func (fnOf name qual params [s1, s2, s3, s4, s5, s6, s7, s8, s9, s10] scope dV kV doc pm an cdv ct), osl⟩)
    (X : (regk.heap_1 w.params).In h₀) (T : Top p loose mean mg mb h₀) (M : BMod h₀ mainGlobals mg bm ob) (B : Below callerA h₀ [] h₀) (G : AllBare s.gens)
    (T0 n1 n2 n3 e3 K3 P0 o1 o2 o3 e4 K4 cp c3 c0 mn3 mo3 : Addr) (ca cb z0 z1 q : Int) (tq k0 k1 k2 k3 k4 k5 k6 k7 k8 k9 k10 k11 k12 k13 k14 k15 k16 k17 k18 k19 k20 k21 k22 k23 k24 k25 k26 k27 k28 k29 k30 k31 k32 k33 k34 k35 k36 k37 k38 k39 k40 k41 k42 k43 : Tok) (jT jn3 jP jo3 jc j3 j0 : Nat) (ps : Array Value)
    (F : Fr h₀ L s.heap (fun y => if y = (Str.ofString "told") then some (.ref T0) else if y = (Str.ofString "point") then some (.ref P0) else if y = (Str.ofString "scale") then some (.ref c3) else m y)) (N : News h₀ L s.heap [(T0, ({ cls := .type "tuple", data := .seq #[.ref n1, .ref n2, .ref n3] jT } : Obj)), (n3, instObj 170 e3), (e3, dictOf (fqEs w q k0 mn3 K3 c0 12 k1 k2 k3 k4 k5 k6) jn3), (K3, tupO [.int 0 k7, .int 0 k8, .int 0 k9, .int ca k10, .int 0 k11, .int 0 k12, .int 0 k13, .int 0 k14, .int 0 k15, .int cb k16, .int 0 k17, .int 0 k18]), (P0, ({ cls := .type "tuple", data := .seq #[.ref o1, .ref o2, .ref o3] jP } : Obj)), (o3, instObj 199 e4), (e4, dictOf (fqEs w q k19 mo3 K4 cp 2 k20 k21 k22 k23 k24 k25) jo3), (K4, tupO [.int z0 k26, .int z1 k27]), (cp, ({ cls := .type "tuple", data := .seq #[.int 1 k28, .int 0 k29] jc } : Obj)), (c3, ({ cls := .type "tuple", data := .seq #[.int z0 k30, .int z1 k31] j3 } : Obj)), (c0, ({ cls := .type "tuple", data := .seq #[.int 2 k32, .int 0 k33, .int 0 k34, .int 0 k35, .int 0 k36, .int 0 k37, .int (-2) k38, .int 0 k39, .int 0 k40, .int 0 k41, .int 0 k42, .int 0 k43] j0 } : Obj)), (58, tabO ps)]) (q1 : 7 ≤ q) (q2 : q ≤ 8191) (htr : TriplesOk ps.toList) (hz : (ca = 0 ∧ cb = 0) = (z0 = 0 ∧ z1 = 0))
    (hret : ∀ (h' : Heap) (g' : Array GenState) (tk' : Nat) (ps' : Array Value), Fr h₀ L h' (fun y => if y = (Str.ofString "told") then some (.ref T0) else if y = (Str.ofString "point") then some (.ref P0) else if y = (Str.ofString "scale") then some (.ref c3) else m y) → News h₀ L h' [(58, tabO ps')] → AllBare g' → TriplesOk ps'.toList → Q (.ret (.bool true)) { s with heap := h', gens := g', toks := tk' }) :
    wpAny (model PySem.Challenge.pw_lh0032_01 w) (callerA.deeper (envOf qual scope L 234 cdv)) (execs [s10] (envOf qual scope L 234 cdv)) Q E s := by
  have e9 := ho.symm.trans (by k_is)
  clear ho
  cases e9
  k_steps
  all_goals (first
    | (exfalso; rename_i a; simp only [hz, beq_self_eq_true] at a; exact absurd a (by decide))
    | (refine' retOf (hret _ _ _ _ ?F ?N ?G ?tr) ?e; (case F => assumption); (case N => exact newsSub2 (by assumption) (by lcg_sub)); (case G => assumption); (case tr => assumption); (case e => by_cases h0 : z0 = 0 <;> by_cases h1 : z1 = 0 <;> simp [hz, h0, h1])))
end Mine
end
section
open PySem PySem.W PyProof.Rows PySem.Calls PySem.Spec PyProof.Rows.LCg
set_option Elab.async false
set_option maxRecDepth 100000
set_option maxHeartbeats 8000000
namespace Mine
local macro_rules | `(tactic| walk_at "eval ListComp") => `(tactic| (k_here; (with_reducible show wpAny _ _ (eval (PySem.Expr.ListComp _ [⟨PySem.Expr.Name _ _, PySem.Expr.Name _ _, [], 0⟩] _ _) _) _ _ _); k_dflt (refine tupListComp (by k_asm) (by rfl) (by decide) (by rfl) (by decide) (by rfl) ?_ (by intro _; rfl))))
local macro_rules | `(tactic| walk_at "TupSrc") => `(tactic| (k_dflt (refine TupSrc.of3 (by rfl) (by k_asm) (by k_asm) (by k_mem) ?_; intro g')))
local macro_rules | `(tactic| walk_at "CompRest") => `(tactic| (k_dflt (first
  | (refine LCg.CompRest.succ ?_; intro v' I' oI' C' oC' D' m' h' tk' E' hv' hC' hx' F' N' off' ne'; lcg_open hv')
  | refine LCg.CompRest.zero ?_)))
local macro_rules | `(tactic| lcg_off) => `(tactic| first | exact True.intro | assumption | (refine And.intro ⟨by k_ne, by k_ne, by k_ne⟩ ?_; lcg_off))
local macro_rules | `(tactic| walk_at "FinE") => `(tactic| (k_dflt ((unfold LCg.FinE); intro D' h' tk' F' N' o1'; (try simp only [List.nil_append, List.cons_append] at N'); (try dsimp only))))
theorem reg89 : PySem.Challenge.rw_lh0032_01 = PySem.Challenge.rw_lh0032_01 ∧ regk.heap_1 = regk.heap_1 := by
  w_top off
  k_fill
  exact ⟨rfl, rfl⟩
theorem newsSub89 {h₀ : Heap} {L : Addr} {h : Heap} {l r : List (Addr × Obj)} (N : News h₀ L h l) (S : ∀ p ∈ r, p ∈ l) : News h₀ L h r := fun p hp => N p (S p hp)
theorem part89 (w : World) (s : Shared) (p : Program) (loose : List Str) (mean : ExcName → Option Value) (mg mb m : Str → Option Value) (bm : Addr) (ob : Obj) (h₀ : Heap) (L : Addr)
    (name qual : Str) (params : Arguments) (s1 s2 s3 s4 s5 s6 s7 s8 s9 s10 : Stmt) (scope : Scope) (dV kV doc pm cdv ct oc : Value) (an od : Option Addr) (osl : Array (Option Value)) (Q : Flow → Shared → Prop) (E : Value → Shared → Prop)
    (ho : (regk.heap_1 w.params).lookup 234 = some ⟨oc, od, .func (fnOf name qual params [s1, s2, s3, s4, s5, s6, s7, s8, s9, s10] scope dV kV doc pm an cdv ct), osl⟩)
    (X : (regk.heap_1 w.params).In h₀) (T : Top p loose mean mg mb h₀) (M : BMod h₀ mainGlobals mg bm ob) (B : Below callerA h₀ [] h₀) (G : AllBare s.gens) (rest : List Stmt)
    (T0 n1 n2 n3 e1 e2 e3 K1 K2 K3 P0 o1 o2 o3 e4 K4 cp c0 c1 c2 c3 mn1 mn2 mn3 mo3 : Addr) (q x0 x1 y0 y1 z0 z1 : Int) (tq k0 k1 k2 k3 k4 k5 k6 k7 k8 k9 k10 k11 k12 k13 k14 k15 k16 k17 k18 k19 k20 k21 k22 k23 k24 k25 k26 k27 k28 k29 k30 k31 k32 k33 k34 k35 k36 k37 k38 k39 k40 k41 k42 k43 k44 k45 k46 k47 k48 k49 k50 k51 k52 k53 k54 k55 k56 k57 k58 k59 k60 k61 k62 k63 k64 k65 k66 k67 k68 k69 k70 k71 k72 k73 k74 k75 k76 k77 k78 k79 k80 k81 k82 k83 k84 k85 : Tok) (jT jn1 jn2 jn3 jP jo3 jc j0 j1 j2 j3 : Nat) (ps : Array Value)
    (F : Fr h₀ L s.heap (fun y => if y = (Str.ofString "told") then some (.ref T0) else if y = (Str.ofString "point") then some (.ref P0) else if y = (Str.ofString "scale") then some (.ref c3) else if y = (Str.ofString "ys") then some (.ref c2) else if y = (Str.ofString "xs") then some (.ref c1) else if y = (Str.ofString "rows") then some (.ref c0) else if y = (Str.ofString "p") then some (.int q tq) else m y)) (N : News h₀ L s.heap [(T0, ({ cls := .type "tuple", data := .seq #[.ref n1, .ref n2, .ref n3] jT } : Obj)), (n3, instObj 170 e3), (e3, dictOf (fqEs w q k0 mn3 K3 c0 12 k1 k2 k3 k4 k5 k6) jn3), (K3, tupO [.int 0 k7, .int 0 k8, .int 0 k9, .int ((z0 - z1).fmod q) k10, .int 0 k11, .int 0 k12, .int 0 k13, .int 0 k14, .int 0 k15, .int z1 k16, .int 0 k17, .int 0 k18]), (P0, ({ cls := .type "tuple", data := .seq #[.ref o1, .ref o2, .ref o3] jP } : Obj)), (o3, instObj 199 e4), (e4, dictOf (fqEs w q k19 mo3 K4 cp 2 k20 k21 k22 k23 k24 k25) jo3), (K4, tupO [.int z0 k26, .int z1 k27]), (cp, ({ cls := .type "tuple", data := .seq #[.int 1 k28, .int 0 k29] jc } : Obj)), (c3, ({ cls := .type "tuple", data := .seq #[.int z0 k30, .int z1 k31] j3 } : Obj)), (c0, ({ cls := .type "tuple", data := .seq #[.int 2 k32, .int 0 k33, .int 0 k34, .int 0 k35, .int 0 k36, .int 0 k37, .int (-2) k38, .int 0 k39, .int 0 k40, .int 0 k41, .int 0 k42, .int 0 k43] j0 } : Obj)), (58, tabO ps), (n1, instObj 170 e1), (e1, dictOf (fqEs w q k44 mn1 K1 c0 12 k45 k46 k47 k48 k49 k50) jn1), (K1, tupO [.int 0 k51, .int ((x0 - x1).fmod q) k52, .int 0 k53, .int 0 k54, .int 0 k55, .int 0 k56, .int 0 k57, .int x1 k58, .int 0 k59, .int 0 k60, .int 0 k61, .int 0 k62]), (n2, instObj 170 e2), (e2, dictOf (fqEs w q k63 mn2 K2 c0 12 k64 k65 k66 k67 k68 k69) jn2), (K2, tupO [.int ((y0 - y1).fmod q) k70, .int 0 k71, .int 0 k72, .int 0 k73, .int 0 k74, .int 0 k75, .int y1 k76, .int 0 k77, .int 0 k78, .int 0 k79, .int 0 k80, .int 0 k81]), (c2, ({ cls := .type "tuple", data := .seq #[.int y0 k82, .int y1 k83] j2 } : Obj)), (c1, ({ cls := .type "tuple", data := .seq #[.int x0 k84, .int x1 k85] j1 } : Obj))])
    (q1 : 7 ≤ q) (q2 : q ≤ 8191) (hx0a : 0 ≤ x0) (hx0b : x0 < q) (hx1a : 0 ≤ x1) (hx1b : x1 < q) (hy0a : 0 ≤ y0) (hy0b : y0 < q) (hy1a : 0 ≤ y1) (hy1b : y1 < q) (hz0a : 0 ≤ z0) (hz0b : z0 < q) (hz1a : 0 ≤ z1) (hz1b : z1 < q)
    (hnext : ∀ (h' : Heap) (g' : Array GenState) (tk' : Nat), Fr h₀ L h' (fun y => if y = (Str.ofString "told") then some (.ref T0) else if y = (Str.ofString "point") then some (.ref P0) else if y = (Str.ofString "scale") then some (.ref c3) else if y = (Str.ofString "ys") then some (.ref c2) else if y = (Str.ofString "xs") then some (.ref c1) else if y = (Str.ofString "rows") then some (.ref c0) else if y = (Str.ofString "p") then some (.int q tq) else m y) → News h₀ L h' [(T0, ({ cls := .type "tuple", data := .seq #[.ref n1, .ref n2, .ref n3] jT } : Obj)), (n3, instObj 170 e3), (e3, dictOf (fqEs w q k0 mn3 K3 c0 12 k1 k2 k3 k4 k5 k6) jn3), (K3, tupO [.int 0 k7, .int 0 k8, .int 0 k9, .int ((z0 - z1).fmod q) k10, .int 0 k11, .int 0 k12, .int 0 k13, .int 0 k14, .int 0 k15, .int z1 k16, .int 0 k17, .int 0 k18]), (P0, ({ cls := .type "tuple", data := .seq #[.ref o1, .ref o2, .ref o3] jP } : Obj)), (o3, instObj 199 e4), (e4, dictOf (fqEs w q k19 mo3 K4 cp 2 k20 k21 k22 k23 k24 k25) jo3), (K4, tupO [.int z0 k26, .int z1 k27]), (cp, ({ cls := .type "tuple", data := .seq #[.int 1 k28, .int 0 k29] jc } : Obj)), (c3, ({ cls := .type "tuple", data := .seq #[.int z0 k30, .int z1 k31] j3 } : Obj)), (c0, ({ cls := .type "tuple", data := .seq #[.int 2 k32, .int 0 k33, .int 0 k34, .int 0 k35, .int 0 k36, .int 0 k37, .int (-2) k38, .int 0 k39, .int 0 k40, .int 0 k41, .int 0 k42, .int 0 k43] j0 } : Obj)), (58, tabO ps)] → AllBare g' →
      wpAny (model PySem.Challenge.pw_lh0032_01 w) (callerA.deeper (envOf qual scope L 234 cdv)) (execs rest (envOf qual scope L 234 cdv)) Q E { s with heap := h', gens := g', toks := tk' }) :
    wpAny (model PySem.Challenge.pw_lh0032_01 w) (callerA.deeper (envOf qual scope L 234 cdv)) (execs (s8 :: s9 :: rest) (envOf qual scope L 234 cdv)) Q E s := by
  have e9 := ho.symm.trans (by k_is)
  clear ho
  cases e9
  k_steps
  all_goals dsimp only
  all_goals first
    | (exfalso; (rename (_ && _) = false => a); simp only [Int.fmod_eq_of_lt hx1a hx1b, Int.fmod_eq_of_lt hy1a hy1b, Int.fmod_eq_of_lt hz1a hz1b, beq_self_eq_true, Bool.and_self, Bool.true_eq_false, reduceCtorEq] at a; done)
    | (exfalso; (rename (_ && _) = false => a); simp [Int.fmod_eq_of_lt hx1a hx1b, Int.fmod_eq_of_lt hy1a hy1b, Int.fmod_eq_of_lt hz1a hz1b] at a; done)
    | (exfalso; (rename (_ && _) = false => a); simp only [Int.fmod_eq_of_lt hx1a hx1b, Int.fmod_eq_of_lt hy1a hy1b, Int.fmod_eq_of_lt hz1a hz1b] at a; exact absurd a (by simp))
    | (refine' hnext _ _ _ ?F ?N ?G; (case F => assumption); (case N => exact newsSub89 (by assumption) (by lcg_sub)); (case G => assumption))
end Mine
end
section
open PySem PySem.W PyProof.Rows PySem.Calls PySem.Spec PyProof.Rows.LCg
set_option Elab.async false
set_option maxRecDepth 100000
set_option maxHeartbeats 8000000
namespace Mine
local macro_rules | `(tactic| walk_at "call ref") => `(tactic| (k_here; (with_reducible show wpAny _ _ (call (Value.ref 199) [Value.ref _, Value.ref _, Value.int _ _]) _ _ _); k_dflt ((with_unfolding_all refine' mk2 _ _ _ _ _ _ _ _ _ _ _ _ _ _ _ _ _ _ _ _ _ _ _ _ _ _ _ _ _ _ _ _ _ _ _ _ _ _ _ _ ?B ?F ?X ?N ?T ?M ?hk ?G ?tr ?l ?t ?U ?q1 ?q2 ?d ?u ?_); (case B => k_asm); (case F => k_asm); (case X => k_asm); (case N => k_asm); (case T => k_asm); (case M => k_asm); (case hk => first | exact rfl | assumption); (case G => k_asm); (case U => (refine' UpdN.go ?N9 ?U9; (case N9 => k_asm); (case U9 => repeat' (first | exact UpdN.last | refine' UpdN.tail ?_ ?_ | (intro e; cases congrArg Obj.cls e; done))))); (case tr => assumption); (case l => k_mem); (case t => k_mem); (case q1 => first | assumption | omega); (case q2 => first | assumption | omega); (case d => first | decide | ktr_room); (case u => first | decide | ktr_units); intro x' d' e' D' ys' h' g' tk' ps' td' k1' k2' k3' k4' k5' nd' F' N' I' G' tr' l1 l2' l3'; (obtain ⟨t0, t1, e9⟩ := ints2 I'); subst e9; clear I'; (try dsimp only at N'); (try simp (disch := assumption) only [Int.zero_fmod, Int.fmod_eq_of_lt] at N'); (try k_lt l1); (try k_sweep); (try dsimp only); (try k_fold))))
local macro_rules | `(tactic| walk_at "call ref") => `(tactic| (k_here; (with_reducible show wpAny _ _ (call (Value.ref 170) [Value.ref _, Value.ref _, Value.int _ _]) _ _ _); k_dflt ((with_unfolding_all refine' mk12 _ _ _ _ _ _ _ _ _ _ _ _ _ _ _ _ _ _ _ _ _ _ _ _ _ _ _ _ _ _ _ _ _ _ _ _ _ _ _ _ _ _ _ _ _ _ _ _ _ _ _ _ _ _ _ _ _ _ _ _ _ _ _ _ _ _ _ _ _ _ ?B ?F ?X ?N ?T ?M ?hk ?G ?tr ?l ?t ?U ?q1 ?q2 ?d ?u ?_); (case B => k_asm); (case F => k_asm); (case X => k_asm); (case N => k_asm); (case T => k_asm); (case M => k_asm); (case hk => first | exact rfl | assumption); (case G => k_asm); (case U => (refine' UpdN.go ?N9 ?U9; (case N9 => k_asm); (case U9 => repeat' (first | exact UpdN.last | refine' UpdN.tail ?_ ?_ | (intro e; cases congrArg Obj.cls e; done))))); (case tr => assumption); (case l => k_mem); (case t => k_mem); (case q1 => first | assumption | omega); (case q2 => first | assumption | omega); (case d => first | decide | ktr_room); (case u => first | decide | ktr_units); intro x' d' e' D' ys' h' g' tk' ps' td' k1' k2' k3' k4' k5' nd' F' N' I' G' tr' l1 l2' l3'; (obtain ⟨t0, t1, t2, t3, t4, t5, t6, t7, t8, t9, t10, t11, e9⟩ := ints12 I'); subst e9; clear I'; (try dsimp only at N'); (try simp (disch := assumption) only [Int.zero_fmod, Int.fmod_eq_of_lt] at N'); (try k_lt l1); (try k_sweep); (try dsimp only); (try k_fold))))
theorem reg67 : PySem.Challenge.rw_lh0032_01 = PySem.Challenge.rw_lh0032_01 ∧ regk.heap_1 = regk.heap_1 := by
  w_top off
  k_fill
  exact ⟨rfl, rfl⟩
theorem newsSub67 {h₀ : Heap} {L : Addr} {h : Heap} {l r : List (Addr × Obj)} (N : News h₀ L h l) (S : ∀ p ∈ r, p ∈ l) : News h₀ L h r := fun p hp => N p (S p hp)
local macro_rules | `(tactic| ktu_offI) => `(tactic| first | exact List.Mem.head _ | (refine' List.Mem.tail _ ?_; ktu_offI))
local macro_rules | `(tactic| ktu_offL) => `(tactic| first | exact List.forall_mem_nil _ | (refine' List.forall_mem_cons.mpr ⟨?h9, ?_⟩; (case h9 => (show List.Mem _ _); ktu_offI); ktu_offL))
theorem part67 (w : World) (s : Shared) (p : Program) (loose : List Str) (mean : ExcName → Option Value) (mg mb m : Str → Option Value) (bm : Addr) (ob : Obj) (h₀ : Heap) (L : Addr)
    (name qual : Str) (params : Arguments) (s1 s2 s3 s4 s5 s6 s7 s8 s9 s10 : Stmt) (scope : Scope) (dV kV doc pm cdv ct oc : Value) (an od : Option Addr) (osl : Array (Option Value)) (Q : Flow → Shared → Prop) (E : Value → Shared → Prop)
    (ho : (regk.heap_1 w.params).lookup 234 = some ⟨oc, od, .func (fnOf name qual params [s1, s2, s3, s4, s5, s6, s7, s8, s9, s10] scope dV kV doc pm an cdv ct), osl⟩)
    (X : (regk.heap_1 w.params).In h₀) (T : Top p loose mean mg mb h₀) (M : BMod h₀ mainGlobals mg bm ob) (B : Below callerA h₀ [] h₀) (G : AllBare s.gens) (rest : List Stmt)
    (c0 c1 c2 c3 : Addr) (q x0 x1 y0 y1 z0 z1 : Int) (tq k0 k1 k2 k3 k4 k5 k6 k7 k8 k9 k10 k11 k12 k13 k14 k15 k16 k17 : Tok) (j0 j1 j2 j3 : Nat) (ps : Array Value)
    (F : Fr h₀ L s.heap (fun y => if y = (Str.ofString "scale") then some (.ref c3) else if y = (Str.ofString "ys") then some (.ref c2) else if y = (Str.ofString "xs") then some (.ref c1) else if y = (Str.ofString "rows") then some (.ref c0) else if y = (Str.ofString "p") then some (.int q tq) else m y)) (N : News h₀ L s.heap [(c3, ({ cls := .type "tuple", data := .seq #[.int z0 k0, .int z1 k1] j3 } : Obj)), (c2, ({ cls := .type "tuple", data := .seq #[.int y0 k2, .int y1 k3] j2 } : Obj)), (c1, ({ cls := .type "tuple", data := .seq #[.int x0 k4, .int x1 k5] j1 } : Obj)), (c0, ({ cls := .type "tuple", data := .seq #[.int 2 k6, .int 0 k7, .int 0 k8, .int 0 k9, .int 0 k10, .int 0 k11, .int (-2) k12, .int 0 k13, .int 0 k14, .int 0 k15, .int 0 k16, .int 0 k17] j0 } : Obj)), (58, tabO ps)])
    (q1 : 7 ≤ q) (q2 : q ≤ 8191) (hx0a : 0 ≤ x0) (hx0b : x0 < q) (hx1a : 0 ≤ x1) (hx1b : x1 < q) (hy0a : 0 ≤ y0) (hy0b : y0 < q) (hy1a : 0 ≤ y1) (hy1b : y1 < q) (hz0a : 0 ≤ z0) (hz0b : z0 < q) (hz1a : 0 ≤ z1) (hz1b : z1 < q) (htr : TriplesOk ps.toList)
    (hnext : ∀ (T0 n1 n2 n3 e1 e2 e3 K1 K2 K3 P0 o1 o2 o3 e4 K4 cp mn1 mn2 mn3 mo3 : Addr) (k0 k1 k2 k3 k4 k5 k6 k7 k8 k9 k10 k11 k12 k13 k14 k15 k16 k17 k18 k19 k20 k21 k22 k23 k24 k25 k26 k27 k28 k29 k30 k31 k32 k33 k34 k35 k36 k37 k38 k39 k40 k41 k42 k43 k44 k45 k46 k47 k48 k49 k50 k51 k52 k53 k54 k55 k56 k57 k58 k59 k60 k61 k62 k63 k64 k65 k66 k67 k68 k69 k70 k71 k72 k73 k74 k75 k76 k77 k78 k79 k80 k81 k82 k83 k84 k85 : Tok) (jT jn1 jn2 jn3 jP jo3 jc j0 j1 j2 j3 : Nat) (ps' : Array Value) (h' : Heap) (g' : Array GenState) (tk' : Nat), Fr h₀ L h' (fun y => if y = (Str.ofString "told") then some (.ref T0) else if y = (Str.ofString "point") then some (.ref P0) else if y = (Str.ofString "scale") then some (.ref c3) else if y = (Str.ofString "ys") then some (.ref c2) else if y = (Str.ofString "xs") then some (.ref c1) else if y = (Str.ofString "rows") then some (.ref c0) else if y = (Str.ofString "p") then some (.int q tq) else m y) → News h₀ L h' [(T0, ({ cls := .type "tuple", data := .seq #[.ref n1, .ref n2, .ref n3] jT } : Obj)), (n3, instObj 170 e3), (e3, dictOf (fqEs w q k0 mn3 K3 c0 12 k1 k2 k3 k4 k5 k6) jn3), (K3, tupO [.int 0 k7, .int 0 k8, .int 0 k9, .int ((z0 - z1).fmod q) k10, .int 0 k11, .int 0 k12, .int 0 k13, .int 0 k14, .int 0 k15, .int z1 k16, .int 0 k17, .int 0 k18]), (P0, ({ cls := .type "tuple", data := .seq #[.ref o1, .ref o2, .ref o3] jP } : Obj)), (o3, instObj 199 e4), (e4, dictOf (fqEs w q k19 mo3 K4 cp 2 k20 k21 k22 k23 k24 k25) jo3), (K4, tupO [.int z0 k26, .int z1 k27]), (cp, ({ cls := .type "tuple", data := .seq #[.int 1 k28, .int 0 k29] jc } : Obj)), (c3, ({ cls := .type "tuple", data := .seq #[.int z0 k30, .int z1 k31] j3 } : Obj)), (c0, ({ cls := .type "tuple", data := .seq #[.int 2 k32, .int 0 k33, .int 0 k34, .int 0 k35, .int 0 k36, .int 0 k37, .int (-2) k38, .int 0 k39, .int 0 k40, .int 0 k41, .int 0 k42, .int 0 k43] j0 } : Obj)), (58, tabO ps'), (n1, instObj 170 e1), (e1, dictOf (fqEs w q k44 mn1 K1 c0 12 k45 k46 k47 k48 k49 k50) jn1), (K1, tupO [.int 0 k51, .int ((x0 - x1).fmod q) k52, .int 0 k53, .int 0 k54, .int 0 k55, .int 0 k56, .int 0 k57, .int x1 k58, .int 0 k59, .int 0 k60, .int 0 k61, .int 0 k62]), (n2, instObj 170 e2), (e2, dictOf (fqEs w q k63 mn2 K2 c0 12 k64 k65 k66 k67 k68 k69) jn2), (K2, tupO [.int ((y0 - y1).fmod q) k70, .int 0 k71, .int 0 k72, .int 0 k73, .int 0 k74, .int 0 k75, .int y1 k76, .int 0 k77, .int 0 k78, .int 0 k79, .int 0 k80, .int 0 k81]), (c2, ({ cls := .type "tuple", data := .seq #[.int y0 k82, .int y1 k83] j2 } : Obj)), (c1, ({ cls := .type "tuple", data := .seq #[.int x0 k84, .int x1 k85] j1 } : Obj))] → AllBare g' → TriplesOk ps'.toList →
      wpAny (model PySem.Challenge.pw_lh0032_01 w) (callerA.deeper (envOf qual scope L 234 cdv)) (execs rest (envOf qual scope L 234 cdv)) Q E { s with heap := h', gens := g', toks := tk' }) :
    wpAny (model PySem.Challenge.pw_lh0032_01 w) (callerA.deeper (envOf qual scope L 234 cdv)) (execs (s6 :: s7 :: rest) (envOf qual scope L 234 cdv)) Q E s := by
  have e9 := ho.symm.trans (by k_is)
  clear ho
  cases e9
  k_steps
  all_goals dsimp only
  all_goals ((rename News _ _ _ _ => N9); simp (disch := assumption) only [Int.zero_fmod, Int.fmod_eq_of_lt, Int.reduceToNat, List.getD_cons_zero, List.getD_cons_succ] at N9)
  all_goals (refine' hnext _ _ _ _ _ _ _ _ _ _ _ _ _ _ _ _ _ _ _ _ _ _ _ _ _ _ _ _ _ _ _ _ _ _ _ _ _ _ _ _ _ _ _ _ _ _ _ _ _ _ _ _ _ _ _ _ _ _ _ _ _ _ _ _ _ _ _ _ _ _ _ _ _ _ _ _ _ _ _ _ _ _ _ _ _ _ _ _ _ _ _ _ _ _ _ _ _ _ _ _ _ _ _ _ _ _ _ _ _ _ _ _ _ _ _ _ _ _ _ _ _ _ ?F ?N ?G ?tr; (case F => assumption); (case N => exact newsSub67 (by assumption) (by ktu_offL)); (case G => assumption); (case tr => assumption))
end Mine
end
section
open PySem PySem.W PyProof.Rows PySem.Calls PySem.Spec PyProof.Rows.LCg
set_option Elab.async false
set_option maxRecDepth 100000
set_option maxHeartbeats 8000000
namespace Mine
def lawAt (ns : List Int) (k : Int) : Int := if -1000000000 < (if k < (ns.length : Int) then ns.getD k.toNat 0 else 5 * k + 2) ∧ (if k < (ns.length : Int) then ns.getD k.toNat 0 else 5 * k + 2) < 1000000000 then (if k < (ns.length : Int) then ns.getD k.toNat 0 else 5 * k + 2) else Int.fmod (if k < (ns.length : Int) then ns.getD k.toNat 0 else 5 * k + 2) 1000003
theorem frAs {h₀ h : Heap} {L : Addr} {m : Str → Option Value} {k : Str} {v : Value} (F : Fr h₀ L h m) (e : m k = some v) : Fr h₀ L h (fun y => if y = k then some v else m y) := by
  have q : (fun y => if y = k then some v else m y) = m := by
    funext y
    by_cases c : y = k
    · rw [if_pos c, c, e]
    · rw [if_neg c]
  rw [q]
  exact F
theorem newsSub15 {h₀ : Heap} {L : Addr} {h : Heap} {l r : List (Addr × Obj)} (N : News h₀ L h l) (S : ∀ p ∈ r, p ∈ l) : News h₀ L h r := fun p hp => N p (S p hp)
theorem scaleLt {a q : Int} (h : 7 ≤ q) : 1 + a.fmod (q - 1) < q := by
  have := Int.fmod_lt_of_pos a (show 0 < q - 1 by omega)
  omega
theorem scaleNn {a q : Int} (h : 7 ≤ q) : 0 ≤ 1 + a.fmod (q - 1) := by
  have := Int.fmod_nonneg_of_pos a (show 0 < q - 1 by omega)
  omega
local macro_rules | `(tactic| ktu_off1L) => `(tactic| first | exact if_pos rfl | (refine (if_neg (by decide)).trans ?_; ktu_off1L))
local macro_rules | `(tactic| ktu_offI) => `(tactic| first | exact List.Mem.head _ | (refine' List.Mem.tail _ ?_; ktu_offI))
local macro_rules | `(tactic| ktu_offL) => `(tactic| first | exact List.forall_mem_nil _ | (refine' List.forall_mem_cons.mpr ⟨?h9, ?_⟩; (case h9 => (show List.Mem _ _); ktu_offI); ktu_offL))
section
variable {prog : Program} {w : World} {A : Around} {E : Value → Shared → Prop} {s : Shared} {h₀ : Heap} {L : Addr} {news : List (Addr × Obj)}
theorem primeK {l : Addr} {n : Nat} {i : Int} {u t0 t1 t2 t3 t4 t5 t6 : Tok} {value slice : Expr} {Q : Value → Shared → Prop} (N : News h₀ L s.heap news)
    (hm : (l, listOf (List.toArray [.int 7 t0, .int 11 t1, .int 19 t2, .int 43 t3, .int 79 t4, .int 127 t5, .int 8191 t6]) n) ∈ news) (h0 : 0 ≤ i) (h7 : i < 7)
    (hs : subscripted slice false (.ref l) (.int i u) = operate [.ref l, .int i u] (getItem (.ref l) (.int i u))) (h : ∀ q t, 7 ≤ q → q ≤ 8191 → Q (.int q t) s) :
    wpAny (model prog w) A (subscriptTail value slice (.ref l) (.int i u)) Q E s := by
  have c : i = 0 ∨ i = 1 ∨ i = 2 ∨ i = 3 ∨ i = 4 ∨ i = 5 ∨ i = 6 := by omega
  rcases c with rfl | rfl | rfl | rfl | rfl | rfl | rfl <;> exact itemK N hm (by decide) (by decide) rfl hs (h _ _ (by decide) (by decide))
end
local macro_rules | `(tactic| walk_at "subscriptTail Call Name nil nil BinOp ref int") => `(tactic| (k_here; k_dflt ((refine' primeK ?N ?hm ?h0 ?hi ?hs ?_); (case N => k_asm); (case hm => k_mem); (case h0 => first | exact Int.fmod_nonneg_of_pos _ (by decide) | omega); (case hi => first | exact Int.fmod_lt_of_pos _ (by decide) | omega); (case hs => with_unfolding_all rfl); intro q' t' q1' q2')))
theorem reg15 : PySem.Challenge.rw_lh0032_01 = PySem.Challenge.rw_lh0032_01 ∧ regk.heap_1 = regk.heap_1 := by
  w_top off
  k_fill
  exact ⟨rfl, rfl⟩
theorem part15 (w : World) (s : Shared) (p : Program) (loose : List Str) (mean : ExcName → Option Value) (mg mb m : Str → Option Value) (bm : Addr) (ob : Obj) (h₀ : Heap) (L : Addr)
    (name qual : Str) (params : Arguments) (s1 s2 s3 s4 s5 s6 s7 s8 s9 s10 : Stmt) (scope : Scope) (dV kV doc pm cdv ct oc : Value) (an od : Option Addr) (osl : Array (Option Value)) (Q : Flow → Shared → Prop) (E : Value → Shared → Prop)
    (ho : (regk.heap_1 w.params).lookup 234 = some ⟨oc, od, .func (fnOf name qual params [s1, s2, s3, s4, s5, s6, s7, s8, s9, s10] scope dV kV doc pm an cdv ct), osl⟩)
    (X : (regk.heap_1 w.params).In h₀) (T : Top p loose mean mg mb h₀) (M : BMod h₀ mainGlobals mg bm ob) (B : Below callerA h₀ [] h₀) (G : AllBare s.gens) (rest : List Stmt)
    (l : Addr) (vs : List Value) (ns : List Int) (lK : h₀.IsList l vs.toArray) (hi : IntsAre vs ns) (hlen : ns.length ≤ 63) (iL : vs.length = ns.length)
    (F : Fr h₀ L s.heap (fun y => ([(Str.ofString "script", Value.ref l)] : List (Str × Value)).reverse.lookup y)) (N : News h₀ L s.heap [(58, tabO #[])])
    (hnext : ∀ (c0 c1 c2 c3 : Addr) (q x0 x1 y0 y1 z0 z1 : Int) (tq k0 k1 k2 k3 k4 k5 k6 k7 k8 k9 k10 k11 k12 k13 k14 k15 k16 k17 : Tok) (j0 j1 j2 j3 : Nat) (m : Str → Option Value) (h' : Heap) (g' : Array GenState) (tk' : Nat), Fr h₀ L h' (fun y => if y = (Str.ofString "scale") then some (.ref c3) else if y = (Str.ofString "ys") then some (.ref c2) else if y = (Str.ofString "xs") then some (.ref c1) else if y = (Str.ofString "rows") then some (.ref c0) else if y = (Str.ofString "p") then some (.int q tq) else m y) → News h₀ L h' [(c3, ({ cls := .type "tuple", data := .seq #[.int z0 k0, .int z1 k1] j3 } : Obj)), (c2, ({ cls := .type "tuple", data := .seq #[.int y0 k2, .int y1 k3] j2 } : Obj)), (c1, ({ cls := .type "tuple", data := .seq #[.int x0 k4, .int x1 k5] j1 } : Obj)), (c0, ({ cls := .type "tuple", data := .seq #[.int 2 k6, .int 0 k7, .int 0 k8, .int 0 k9, .int 0 k10, .int 0 k11, .int (-2) k12, .int 0 k13, .int 0 k14, .int 0 k15, .int 0 k16, .int 0 k17] j0 } : Obj)), (58, tabO #[])] → 7 ≤ q → q ≤ 8191 → 0 ≤ x0 → x0 < q → 0 ≤ x1 → x1 < q → 0 ≤ y0 → y0 < q → 0 ≤ y1 → y1 < q → 0 ≤ z0 → z0 < q → 0 ≤ z1 → z1 < q → AllBare g' →
      wpAny (model PySem.Challenge.pw_lh0032_01 w) (callerA.deeper (envOf qual scope L 234 cdv)) (execs rest (envOf qual scope L 234 cdv)) Q E { s with heap := h', gens := g', toks := tk' }) :
    wpAny (model PySem.Challenge.pw_lh0032_01 w) (callerA.deeper (envOf qual scope L 234 cdv)) (execs (s1 :: s2 :: s3 :: s4 :: s5 :: rest) (envOf qual scope L 234 cdv)) Q E s := by
  have e9 := ho.symm.trans (by k_is)
  clear ho
  cases e9
  k_with "tree" => simp only [Mine.lawAt]
  k_with "call ref" => k_call_by "_law_at" Mine.lawAt (fun (_ : List Int) (k : Int) => 0 ≤ k ∧ k < 100)
  k_steps
  all_goals dsimp only
  all_goals (refine' hnext _ _ _ _ _ _ _ _ _ _ _ _ _ _ _ _ _ _ _ _ _ _ _ _ _ _ _ _ _ _ _ _ _ _ _ _ _ _ ?F ?N ?_ ?_ ?_ ?_ ?_ ?_ ?_ ?_ ?_ ?_ ?_ ?_ ?_ ?_ ?_; (case F => exact frAs (frAs (frAs (frAs (frAs (by assumption) (by ktu_off1L)) (by ktu_off1L)) (by ktu_off1L)) (by ktu_off1L)) (by ktu_off1L)); (case N => exact newsSub15 (by assumption) (by ktu_offL)); all_goals (first | assumption | omega | exact Int.fmod_nonneg_of_pos _ (by omega) | exact Int.fmod_lt_of_pos _ (by omega) | exact scaleLt (by assumption) | exact scaleNn (by assumption)))
end Mine
end
section
open PySem PySem.W PyProof.Rows PySem.Calls PySem.Spec PyProof.Rows.LCg
set_option Elab.async false
set_option maxRecDepth 100000
set_option maxHeartbeats 8000000
namespace Mine
theorem lawBody (w : World) (s : Shared) (p : Program) (loose : List Str) (mean : ExcName → Option Value) (mg mb m : Str → Option Value) (bm : Addr) (ob : Obj) (h₀ : Heap) (L : Addr)
    (name qual : Str) (params : Arguments) (s1 s2 s3 s4 s5 s6 s7 s8 s9 s10 : Stmt) (scope : Scope) (dV kV doc pm cdv ct oc : Value) (an od : Option Addr) (osl : Array (Option Value)) (Q : Flow → Shared → Prop) (E : Value → Shared → Prop)
    (ho : (regk.heap_1 w.params).lookup 234 = some ⟨oc, od, .func (fnOf name qual params [s1, s2, s3, s4, s5, s6, s7, s8, s9, s10] scope dV kV doc pm an cdv ct), osl⟩)
    (X : (regk.heap_1 w.params).In h₀) (T : Top p loose mean mg mb h₀) (M : BMod h₀ mainGlobals mg bm ob) (B : Below callerA h₀ [] h₀) (G : AllBare s.gens)
    (l : Addr) (vs : List Value) (ns : List Int) (lK : h₀.IsList l vs.toArray) (hi : IntsAre vs ns) (hlen : ns.length ≤ 63) (iL : vs.length = ns.length)
    (F : Fr h₀ L s.heap (fun y => ([(Str.ofString "script", Value.ref l)] : List (Str × Value)).reverse.lookup y)) (N : News h₀ L s.heap [(58, tabO #[])])
    (hret : ∀ (h' : Heap) (g' : Array GenState) (tk' : Nat) (ps' : Array Value) (m' : Str → Option Value), Fr h₀ L h' m' → News h₀ L h' [(58, tabO ps')] → AllBare g' → TriplesOk ps'.toList → Q (.ret (.bool true)) { s with heap := h', gens := g', toks := tk' }) :
    wpAny (model PySem.Challenge.pw_lh0032_01 w) (callerA.deeper (envOf qual scope L 234 cdv)) (execs [s1, s2, s3, s4, s5, s6, s7, s8, s9, s10] (envOf qual scope L 234 cdv)) Q E s := by
  refine part15 w s p loose mean mg mb m bm ob h₀ L name qual params s1 s2 s3 s4 s5 s6 s7 s8 s9 s10 scope dV kV doc pm cdv ct oc an od osl Q E ho X T M B G [s6, s7, s8, s9, s10] l vs ns lK hi hlen iL F N ?_
  intro c0 c1 c2 c3 q x0 x1 y0 y1 z0 z1 tq k0 k1 k2 k3 k4 k5 k6 k7 k8 k9 k10 k11 k12 k13 k14 k15 k16 k17 j0 j1 j2 j3 m1 h1 g1 tk1 F1 N1 q1 q2 hx0a hx0b hx1a hx1b hy0a hy0b hy1a hy1b hz0a hz0b hz1a hz1b G1
  refine part67 w _ p loose mean mg mb m1 bm ob h₀ L name qual params s1 s2 s3 s4 s5 s6 s7 s8 s9 s10 scope dV kV doc pm cdv ct oc an od osl Q E ho X T M B G1 [s8, s9, s10] c0 c1 c2 c3 q x0 x1 y0 y1 z0 z1 tq _ _ _ _ _ _ _ _ _ _ _ _ _ _ _ _ _ _ j0 j1 j2 j3 #[] F1 N1 q1 q2 hx0a hx0b hx1a hx1b hy0a hy0b hy1a hy1b hz0a hz0b hz1a hz1b trivial ?_
  intro T0 n1 n2 n3 e1 e2 e3 K1 K2 K3 P0 o1 o2 o3 e4 K4 cp mn1 mn2 mn3 mo3 k0 k1 k2 k3 k4 k5 k6 k7 k8 k9 k10 k11 k12 k13 k14 k15 k16 k17 k18 k19 k20 k21 k22 k23 k24 k25 k26 k27 k28 k29 k30 k31 k32 k33 k34 k35 k36 k37 k38 k39 k40 k41 k42 k43 k44 k45 k46 k47 k48 k49 k50 k51 k52 k53 k54 k55 k56 k57 k58 k59 k60 k61 k62 k63 k64 k65 k66 k67 k68 k69 k70 k71 k72 k73 k74 k75 k76 k77 k78 k79 k80 k81 k82 k83 k84 k85 jT jn1 jn2 jn3 jP jo3 jc j0 j1 j2 j3 ps2 h2 g2 tk2 F2 N2 G2 tr2
  refine part89 w _ p loose mean mg mb m1 bm ob h₀ L name qual params s1 s2 s3 s4 s5 s6 s7 s8 s9 s10 scope dV kV doc pm cdv ct oc an od osl Q E ho X T M B G2 [s10] T0 n1 n2 n3 e1 e2 e3 K1 K2 K3 P0 o1 o2 o3 e4 K4 cp c0 c1 c2 c3 mn1 mn2 mn3 mo3 q x0 x1 y0 y1 z0 z1 tq _ _ _ _ _ _ _ _ _ _ _ _ _ _ _ _ _ _ _ _ _ _ _ _ _ _ _ _ _ _ _ _ _ _ _ _ _ _ _ _ _ _ _ _ _ _ _ _ _ _ _ _ _ _ _ _ _ _ _ _ _ _ _ _ _ _ _ _ _ _ _ _ _ _ _ _ _ _ _ _ _ _ _ _ _ _ _ _ _ _ _ _ _ _ _ _ _ ps2 F2 N2 q1 q2 hx0a hx0b hx1a hx1b hy0a hy0b hy1a hy1b hz0a hz0b hz1a hz1b ?_
  intro h3 g3 tk3 F3 N3 G3
  refine part10 w _ p loose mean mg mb _ bm ob h₀ L name qual params s1 s2 s3 s4 s5 s6 s7 s8 s9 s10 scope dV kV doc pm cdv ct oc an od osl Q E ho X T M B G3 _ _ _ _ _ _ _ _ _ _ _ _ _ _ _ _ _ _ _ z0 z1 q tq _ _ _ _ _ _ _ _ _ _ _ _ _ _ _ _ _ _ _ _ _ _ _ _ _ _ _ _ _ _ _ _ _ _ _ _ _ _ _ _ _ _ _ _ _ _ _ _ _ _ _ ps2 F3 N3 q1 q2 tr2 ?_ ?_
  · exact propext ⟨fun a => ⟨by have b := a.1; rw [a.2, Int.sub_zero, Int.fmod_eq_of_lt hz0a hz0b] at b; exact b, a.2⟩, fun a => ⟨by rw [a.1, a.2]; simp, a.2⟩⟩
  · intro h4 g4 tk4 ps4 F4 N4 G4 tr4
    exact hret h4 g4 tk4 ps4 _ F4 N4 G4 tr4
end Mine
end
section
open PySem PySem.W PyProof.Rows PySem.Calls PySem.Spec PyProof.Rows.LCg
set_option Elab.async false
set_option maxRecDepth 100000
set_option maxHeartbeats 8000000
namespace Mine
theorem oldLaw {P : Params} {h h' : Heap} {L : Addr} {m : Str → Option Value} {ps : Array Value} (X : (fragL P).In h) (hP : h.get? 58 = some (tabO #[]))
    (h60 : h.TableAt 60 58 #[]) (F : Fr (h.hide 58) L h' m) (N : News (h.hide 58) L h' [(58, tabO ps)]) : OldK h h' where
  old := fun b o e => by
    by_cases c : b = 58
    · subst c
      rw [hP] at e
      cases e
      exact .inr (.inl ⟨h60.isCodeTable, rfl, #[], ps, rfl, by have q := (N _ (.head _)).1; simpa using q⟩)
    · exact .inl (F.keep b o (by rw [Heap.hide_ne _ c]; exact e))
  there := fun b o e => by
    by_cases c : b = 58
    · subst c
      exact ⟨_, (N _ (.head _)).1⟩
    · exact ⟨o, F.keep b o (by rw [Heap.hide_ne _ c]; exact e)⟩
theorem regS : PySem.Challenge.rw_lh0032_01 = PySem.Challenge.rw_lh0032_01 ∧ regk.heap_1 = regk.heap_1 := by
  w_top off
  k_fill
  exact ⟨rfl, rfl⟩
theorem spine (w : World) (s : Shared) (p : Program) (loose : List Str) (mean : ExcName → Option Value) (mg mb : Str → Option Value) (bm : Addr) (ob : Obj) (l : Addr) (vs : List Value) (ns : List Int)
    (X : (fragL w.params).In s.heap) (T : Top p loose mean mg mb s.heap) (M : BMod s.heap mainGlobals mg bm ob) (hl : s.heap.IsList l vs.toArray) (hi : IntsAre vs ns) (hlen : ns.length ≤ 63) (hg : s.gens = #[]) :
    wpAny (model PySem.Challenge.pw_lh0032_01 w) callerA (call (.ref 234) [.ref l]) (fun v s' => v = .bool true ∧ s'.os = s.os ∧ AllBare s'.gens ∧ OldK s.heap s'.heap) (fun _ _ => False) s := by
  have hP : s.heap.get? 58 = some (tabO #[]) := X 58 _ (kkAt58 _)
  have XK := kkOf X
  have TK := topHide T hP
  have MK := bmodHide hP M
  have lK := listHide hP hl
  have BK := below_caller (s.heap.hide 58)
  have hlim := T.nolimit
  have GB : AllBare s.gens := .of_eq hg
  have iL : vs.length = ns.length := IntsAre.length hi
  have h60 : s.heap.TableAt 60 58 #[] := by
    have q := XK 60 _ (by rfl)
    rw [Heap.hide_ne _ (by decide)] at q
    exact ⟨⟨_, _, q, rfl, rfl, rfl⟩, hP⟩
  refine wpAny_call ?_
  refine' enterLaw XK hP hlim ?ho ?hcd ?room ?bind ?loc ?_ ?co ?gen ?k ?cell
  case ho => k_is
  case hcd => k_is
  case room => decide
  case bind => exact BindsTo.of_eq rfl
  case loc => exact locs rfl
  case co => rfl
  case gen => rfl
  case k => rfl
  case cell => decide
  intro h₁ F N
  dsimp only
  refine lawBody w _ emptyP (loose2 p loose) mean mg mb (fun _ => none) bm ob (s.heap.hide 58) s.heap.objs.size _ _ _ _ _ _ _ _ _ _ _ _ _ _ _ _ _ _ _ _ _ _ _ _ _ _ (by k_is) XK TK MK BK GB l vs ns lK hi hlen iL F N ?_
  intro h' g' tk' ps' m' F' N' G' tr'
  exact ⟨rfl, rfl, G', oldLaw X hP h60 F' N'⟩
end Mine
end
open PySem PySem.W PyProof.Rows PySem.Calls PySem.Spec PySem.W.X
set_option Elab.async false
set_option maxRecDepth 100000
set_option maxHeartbeats 8000000
theorem PySem.Challenge.cw_lh0032_01_holds : PySem.Challenge.rw_lh0032_01.Holds := by
  refine holds_law Mine.said fun said => ?_
  refine holds_open (q := Mine.view) (loose := Mine.looseN) (Xt := fun s => xlAt Mine.view [] s && recOk (RowW.records PySem.Challenge.rw_lh0032_01.row.toRowW) s) (XP := XL Mine.view []) (Yf := Hook.obs (kHook Mine.fragL Mine.asL Mine.asL_eq)) (Ya := Hook.val (kHook Mine.fragL Mine.asL Mine.asL_eq)) (YP := Hook.says (kHook Mine.fragL Mine.asL Mine.asL_eq)) (N := 3100) Mine.left (Hook.of _) (Hook.keeps _) (fun s e => xl_of s (Bool.and_eq_true_iff.mp e).1) XL.keeps (by rfl) (by rfl) (by rfl) (fun s e => recFacts_of (Bool.and_eq_true_iff.mp e).2) (by rfl) (by first | assumption | decide +kernel) (by decide +kernel) ⟨rfl, rfl, rfl, rfl, rfl, by decide +kernel⟩ ?hw ?hc
  case hw => w_witness2
  case hc =>
    w_top off
    intro w s₀ s₁ mg mb G Y fa o pm cd doc dV kV ho hd hcd hD hmg hg args vals as hpre hlay hrd hwl hlo
    have KX := kIn_of Y
    refine Ground.open G ?_
    intro T B D TE TW
    obtain ⟨bm, ob, M⟩ := bmod_of_top T
    wrow_args hpre hlay hrd hwl hlo
    all_goals (
      x_fa T KX hmg
      refine wpAny_mono (Mine.spine _ s₁ _ _ _ _ _ _ _ _ _ _ KX T M (by assumption) (by assumption) (by omega) hg) (fun v s' h => ?_) (fun _ _ h => h.elim)
      obtain ⟨rfl, h1, h2, h3⟩ := h
      refine ⟨.inl ⟨_, _, [], rfl, fun _ => rfl, ReadsW.bool true, ?_, fun _ => ⟨List.nodup_nil, fun _ hm => nomatch hm⟩⟩, h3, h1, h2⟩
      first | rfl | wrow_post)

