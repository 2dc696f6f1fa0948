import PyProof.Rows.All
import Wide.All
import OpenK.AllK
import Wide.FinOn
import PySem.Challenge.RW_br0030_02
open PySem PySem.W PySem.Calls PyProof.Rows
set_option Elab.async false
set_option maxRecDepth 100000

section
namespace Mine

abbrev freshSet (led : Bool) : Obj := { cls := .type "set", dict := none, data := .set #[] 0 (.fresh 0 0 led) }

theorem get_new (h : Heap) : h.get? h.objs.size = none := by
  cases hq : h.get? h.objs.size with
  | none => rfl
  | some o => exact absurd (Heap.lt_size hq) (Nat.lt_irrefl _)

section
variable {prog : Program} {w : World} {A : Around} {E : Value → Shared → Prop} {s : Shared}

theorem setloop_two {R : Result → Shared → Prop} {S I D : Addr} {u v : Value} {P0 P1 P2 : Obj → Prop} {o0 : Obj}
    (hh : A.handled = none) (hSI : S ≠ I) (hSD : S ≠ D) (hDI : D ≠ I)
    (ht : s.heap.IsTuple D #[u, v]) (hit : s.heap.IsTupleIter I D 0) (hS : s.heap.get? S = some o0) (h0 : P0 o0)
    (add1 : ∀ (s₁ : Shared) (o : Obj) (E' : Value → Shared → Prop) (Q₁ : Bool → Shared → Prop), P0 o → (∀ b o, b ≠ S → b ≠ I → s.heap.get? b = some o → s₁.heap.get? b = some o) → s₁.heap.get? S = some o →
      (∀ h' tk o' r, P1 o' → Heap.SameBut S s₁.heap h' → h'.get? S = some o' → Q₁ r { s₁ with heap := h', toks := tk }) → wpAny (model prog w) A.in1 (setAdd S u) Q₁ E' s₁)
    (add2 : ∀ (s₁ : Shared) (o : Obj) (E' : Value → Shared → Prop) (Q₁ : Bool → Shared → Prop), P1 o → (∀ b o, b ≠ S → b ≠ I → s.heap.get? b = some o → s₁.heap.get? b = some o) → s₁.heap.get? S = some o →
      (∀ h' tk o' r, P2 o' → Heap.SameBut S s₁.heap h' → h'.get? S = some o' → Q₁ r { s₁ with heap := h', toks := tk }) → wpAny (model prog w) A.in1 (setAdd S v) Q₁ E' s₁)
    (h : ∀ h' tk o, P2 o → (∀ b o, b ≠ S → b ≠ I → s.heap.get? b = some o → h'.get? b = some o) → h'.get? S = some o → R (.ok (.ret .none)) { s with heap := h', toks := tk }) :
    codeAny (model prog w) A (.builtin "set.update.loop" ⟨[.ref S, .ref I], []⟩) R s := by
  have hin : A.in1.handled = none := by simp [hh]
  -- first turn
  refine codeAny_builtin F.entry_set_update_loop ?_
  rw [Around.under_plainId F.plain_set_update_loop _]
  show wpAny _ A.in1 (pyNext (.ref I) >>= _) _ _ s
  refine wpAny_bind (wpAny_pyNext_tuple_item hit ht (x := u) rfl fun h₁ hit₁ hs₁ => ?_)
  have ht₁ : h₁.IsTuple D #[u, v] := ht.at fun o e => hs₁.extBut D o hDI e
  have hS₁ : h₁.get? S = some o0 := hs₁.extBut S o0 hSI hS
  show wpAny _ A.in1 (holding [u] (setAdd S u) >>= _) _ _ _
  refine wpAny_bind (wpAny_holding (add1 _ o0 _ _ h0 (fun b o _ hb e => hs₁.extBut b o hb e) hS₁ fun h₂ tk₂ o₂ r hp₂ hs₂ hS₂ => ?_))
  have ht₂ : h₂.IsTuple D #[u, v] := ht₁.at fun o e => hs₂.extBut D o hSD.symm e
  have hit₂ : h₂.IsTupleIter I D 1 := hit₁.at fun o e => hs₂.extBut I o hSI.symm e
  refine wpAny_pure ⟨plainId_quiet F.plain_set_update_loop _, ?_⟩
  -- second turn
  refine codeAny_builtin F.entry_set_update_loop ?_
  rw [Around.under_plainId F.plain_set_update_loop _]
  show wpAny _ A.in1 (pyNext (.ref I) >>= _) _ _ _
  refine wpAny_bind (wpAny_pyNext_tuple_item (s := { s with heap := h₂, toks := tk₂ }) hit₂ ht₂ (x := v) rfl fun h₃ hit₃ hs₃ => ?_)
  have ht₃ : h₃.IsTuple D #[u, v] := ht₂.at fun o e => hs₃.extBut D o hDI e
  have hS₃ : h₃.get? S = some o₂ := hs₃.extBut S o₂ hSI hS₂
  show wpAny _ A.in1 (holding [v] (setAdd S v) >>= _) _ _ _
  refine wpAny_bind (wpAny_holding (add2 _ o₂ _ _ hp₂ (fun b o h1 hb e => hs₃.extBut b o hb (hs₂.extBut b o h1 (hs₁.extBut b o hb e))) hS₃ fun h₄ tk₄ o₄ r hp₄ hs₄ hS₄ => ?_))
  have ht₄ : h₄.IsTuple D #[u, v] := ht₃.at fun o e => hs₄.extBut D o hSD.symm e
  have hit₄ : h₄.IsTupleIter I D 2 := hit₃.at fun o e => hs₄.extBut I o hSI.symm e
  refine wpAny_pure ⟨plainId_quiet F.plain_set_update_loop _, ?_⟩
  refine codeAny_builtin F.entry_set_update_loop ?_
  rw [Around.under_plainId F.plain_set_update_loop _]
  show wpAny _ A.in1 (pyNext (.ref I) >>= _) _ _ _
  refine wpAny_bind (wpAny_pyNext_tuple_end (s := { s with heap := h₄, toks := tk₄ }) hin hit₄ ht₄ rfl fun h₅ hs₅ => ?_)
  show wpAny _ A.in1 (ret Value.none) _ _ _
  exact wpAny_pure (h h₅ tk₄ o₄ hp₄ (fun b o h1 hb e => hs₅ b o hb (hs₄.extBut b o h1 (hs₃.extBut b o hb (hs₂.extBut b o h1 (hs₁.extBut b o hb e))))) (hs₅ S o₄ hSI hS₄))

end
end Mine
end

section
namespace Mine

section
variable {prog : Program} {w : World} {A : Around} {E : Value → Shared → Prop} {s : Shared}

set_option maxHeartbeats 3200000 in
theorem call_set_tup {D : Addr} {items : Array Value} {Q : Value → Shared → Prop} (ht : s.heap.IsTuple D items)
    (loop : ∀ (s₁ : Shared) (led : Bool) (R : Result → Shared → Prop), s₁.gens = s.gens → s₁.drawn = s.drawn → s₁.os = s.os → (∀ b o, s.heap.get? b = some o → s₁.heap.get? b = some o) →
      s₁.heap.get? s.heap.objs.size = some (freshSet led) → s₁.heap.IsTupleIter (s.heap.objs.size + 1) D 0 →
      (∀ h' tk, Q (.ref s.heap.objs.size) { s with heap := h', toks := tk } → R (.ok (.ret .none)) { s with heap := h', toks := tk }) →
      (∀ e s', E e s' → R (.error e) s') →
      codeAny (model prog w) A.in1.in1 (.builtin "set.update.loop" ⟨[.ref s.heap.objs.size, .ref (s.heap.objs.size + 1)], []⟩) R s₁) :
    wpAny (model prog w) A (call (.type "set") [.ref D]) Q E s := by
  obtain ⟨c, tl, hmro⟩ := F.called_set.mro
  have hmade := F.called_set.made
  have hsub := F.called_set.sub
  refine wpAny_call (codeAny_of_tree ?_)
  show wpAny _ _ (callAny (.type "set") _) _ _ _
  refine wpAny_pure ⟨Code.quiet_builtin _ (by decide +kernel), codeAny_builtin F.entry_type_call ?_⟩
  rw [Around.under_plain (weight_type_call_type "set" [.ref D] []) rfl]
  have h1 := F.called_set.notType
  have h2 := F.called_set.canCreate
  have hct := F.typeCall_set_1 (.ref D)
  repeat (any_goals (first | assumption | wp_step))
  refine codeAny_mono (code_set_new_1 (.ref D) (E := E) (Q₁ := fun obj s₁ => ∃ led : Bool, obj = .ref s.heap.objs.size ∧ s₁ = { s with heap := s.heap.push (freshSet led) }) fun led => ⟨led, rfl, rfl⟩) fun r s₁ hr => ?_
  cases r with
  | error e => exact hr
  | ok fl =>
    cases fl with
    | ret obj =>
      obtain ⟨led, rfl, rfl⟩ := hr
      have hS : (s.heap.push (freshSet led)).get? s.heap.objs.size = some (freshSet led) := Heap.get?_push_size _ rfl
      have hT : Shared.TypeIs { s with heap := s.heap.push (freshSet led) } (.ref s.heap.objs.size) "set" := ⟨_, hS, rfl⟩
      have hli := F.called_set.init.lookup
      have hbi := F.called_set.init.bind (.ref s.heap.objs.size)
      repeat (any_goals (first | assumption | wp_step))
      refine codeAny_mono (codeAny_call_builtin (R := wants (fun r s₂ => r = .none ∧ ∃ h' tk, s₂ = { s with heap := h', toks := tk } ∧ Q (.ref s.heap.objs.size) s₂) E) F.called_set.init.plain F.entry_set_init (check_set_init_1 hT ?_)) fun r₂ s₂ hr₂ => ?_
      · obtain ⟨ol, hol, hcl, nl, hdl⟩ := ht
        obtain ⟨ocls, odict, odata, oslots⟩ := ol
        simp only at hcl hdl
        subst hcl; subst hdl
        have hol' : (s.heap.push (freshSet led)).get? D = some { cls := .type "tuple", dict := odict, data := .seq items nl, slots := oslots } := Heap.get?_push_of_some _ hol
        have hsls := F.sub_tuple_set
        have hslf := F.sub_tuple_frozenset
        have hne : (Value.type "tuple" == Value.type "dict") = false := by decide
        have hl1 : (s.heap.push (freshSet led)).IsTuple D items := ⟨_, hol', rfl, nl, rfl⟩
        unfold Builtin.«set.__init__» noKeywords Builtin.Frozenset.updateFrom
        generalize hPI : pyIter = PI
        wp_walk
        subst hPI
        refine wpAny_pyIter_tuple hl1 ?_
        refine wpAny_bind (wpAny_runValue ?_)
        have hsz : (s.heap.push (freshSet led)).objs.size = s.heap.objs.size + 1 := Heap.size_push _ _
        rw [hsz]
        refine loop _ led _ ?g1 ?g2 ?g3 ?k1 ?k2 ?k3 ?k4 ?k5
        case g1 => rfl
        case g2 => rfl
        case g3 => rfl
        case k1 => exact fun b o e => Heap.get?_push_of_some _ (Heap.get?_push_of_some _ e)
        case k2 => exact Heap.get?_push_of_some _ hS
        case k3 => exact ⟨_, by rw [← hsz]; exact Heap.get?_push_size _ rfl, rfl, rfl⟩
        case k4 =>
          intro h' tk hq
          show wpAny _ _ _ _ _ _
          refine wpAny_pure ?_
          show wpAny _ _ (ret Value.none) _ _ _
          exact wpAny_pure ⟨rfl, h', tk, rfl, hq⟩
        case k5 => exact fun e s' he => he
      · cases r₂ with
        | error e => exact hr₂
        | ok fl₂ =>
          cases fl₂ with
          | ret r =>
            obtain ⟨rfl, h', tk, rfl, hQ⟩ := hr₂
            repeat (any_goals (first | assumption | wp_step))
          | _ => exact hr₂.elim
    | _ => exact hr.elim
end
end Mine
end

section
namespace Mine

section
variable {prog : Program} {w : World} {A : Around} {E : Value → Shared → Prop} {s : Shared}

theorem add_str {S : Addr} {u : Str} {tu : Tok} {Sx : Str → Bool} {n : Nat} {o : Obj} {Q : Bool → Shared → Prop} (hb : n + 1 < scanBound) (ho : s.heap.get? S = some o) (hs : o.SetObjOf (strKind prog w) Sx n)
    (h : ∀ h' tk o' r, o'.SetObjOf (strKind prog w) (fun k' => Sx k' || decide (k' = u)) (if Sx u then n else n + 1) → Heap.SameBut S s.heap h' → h'.get? S = some o' → Q r { s with heap := h', toks := tk }) :
    wpAny (model prog w) A (setAdd S (.str u tu)) Q E s := by
  unfold setAdd
  refine wpAny_holding (wpAny_bind ((strKind prog w).pyHash (strKind_is _ _ _ _) ?_))
  refine wpAny_setAddHashed_of (knd := strKind prog w) (s := { s with toks := s.toks + 1 }) (strKind_is _ _ _ _) rfl (hs.setOf ho (by omega)) hb fun h' hsb hS' => ?_
  obtain ⟨o', ho', hso'⟩ := hS'.objOf
  exact h h' _ o' _ hso' hsb ho'

theorem call_set_strs {D : Addr} {x y : Str} {tx ty : Tok} {Q : Value → Shared → Prop} (hh : A.handled = none) (ht : s.heap.IsTuple D #[.str x tx, .str y ty])
    (h : ∀ h' tk o Sx, o.SetObjOf (strKind prog w) Sx (if x = y then 1 else 2) → (∀ b o, s.heap.get? b = some o → h'.get? b = some o) → h'.get? s.heap.objs.size = some o → Q (.ref s.heap.objs.size) { s with heap := h', toks := tk }) :
    wpAny (model prog w) A (call (.type "set") [.ref D]) Q E s := by
  refine call_set_tup ht fun s₁ led R g1 g2 g3 hk hS hI hR hE => ?_
  have hD : D < s.heap.objs.size := by obtain ⟨o, ho, _⟩ := ht; exact Heap.lt_size ho
  refine setloop_two (P0 := fun o => o.SetObjOf (strKind prog w) (fun _ => false) 0) (P1 := fun o => o.SetObjOf (strKind prog w) (fun k' => false || decide (k' = x)) 1)
    (P2 := fun o => ∃ Sx, o.SetObjOf (strKind prog w) Sx (if x = y then 1 else 2)) (D := D) (u := .str x tx) (v := .str y ty) (by simp [hh]) (Nat.ne_of_lt (Nat.lt_succ_self _)) (Nat.ne_of_gt hD) (Nat.ne_of_lt (Nat.lt_succ_of_lt hD))
    (ht.at fun o e => hk _ _ e) hI hS (setObjOf_fresh led) ?_ ?_ ?_
  · intro s₂ o E' Q₁ hp _ hS₂ hq
    exact add_str (by decide) hS₂ hp fun h' tk o' r hp' hsb ho' => hq h' tk o' r hp' hsb ho'
  · intro s₂ o E' Q₁ hp _ hS₂ hq
    refine add_str (by decide) hS₂ hp fun h' tk o' r hp' hsb ho' => hq h' tk o' r ⟨fun k' => false || decide (k' = x) || decide (k' = y), ?_⟩ hsb ho'
    by_cases e : x = y
    · rw [if_pos (by simp [e])] at hp'; rw [if_pos e]; exact hp'
    · rw [if_neg (by simpa using fun q : y = x => e q.symm)] at hp'; rw [if_neg e]; exact hp'
  · rintro h' tk o ⟨Sx, hp⟩ hk' hS'
    obtain ⟨hp₁, g₁, d₁, t₁, os₁⟩ := s₁
    dsimp only at g1 g2 g3 hk hk' hS' ⊢
    subst g1 g2 g3
    refine hR h' tk (h h' tk o Sx hp (fun b o e => hk' b o ?_ ?_ (hk b o e)) hS')
    · exact Nat.ne_of_lt (Heap.lt_size e)
    · exact Nat.ne_of_lt (Nat.lt_succ_of_lt (Heap.lt_size e))

theorem len_setObj {S : Addr} {o : Obj} {Sx : Str → Bool} {n : Nat} {Q : Value → Shared → Prop} (ho : s.heap.get? S = some o) (hs : o.SetObjOf (strKind prog w) Sx n) (hn : n < 100)
    (h : ∀ tk t, Q (.int n t) { s with toks := tk }) : wpAny (model prog w) A (call (.builtin "len") [.ref S]) Q E s := by
  obtain ⟨hex, es, ep, t, hd, _, _, rfl, hf⟩ := hs
  exact call_len_set ho hex hd hf (by omega) (h _ _)
end

section
variable {prog : Program} {w : World} {A : Around} {E : Value → Shared → Prop} {s : Shared} {h₀ : Heap} {L : Addr} {m : Str → Option Value} {news : List (Addr × Obj)}

theorem newsSet {h' : Heap} {o : Obj} (F : Fr h₀ L s.heap m) (N : News h₀ L s.heap news) (hk : ∀ b o, s.heap.get? b = some o → h'.get? b = some o) (ho : h'.get? s.heap.objs.size = some o) :
    News h₀ L h' ((s.heap.objs.size, o) :: news) := fun q hq => by
  rcases List.mem_cons.mp hq with rfl | hq
  · exact ⟨ho, Nat.ne_of_gt F.ns.lt, by
      cases hn : h₀.get? s.heap.objs.size with
      | none => rfl
      | some o => exact absurd (Heap.lt_size (F.keep _ _ hn)) (Nat.lt_irrefl _)⟩
  · exact ⟨hk _ _ (N q hq).1, (N q hq).2⟩

theorem setStrs_N {D : Addr} {x y : Str} {tx ty : Tok} {Q : Value → Shared → Prop} (F : Fr h₀ L s.heap m) (N : News h₀ L s.heap news) (hh : A.handled = none)
    (ht : (D, ({ cls := .type "tuple", data := .seq #[.str x tx, .str y ty] } : Obj)) ∈ news)
    (h : ∀ S h' tk o, Fr h₀ L h' m → News h₀ L h' ((S, o) :: news) → (∀ p ∈ news, p.1 < S) → (∃ Sx, o.SetObjOf (strKind prog w) Sx (if x = y then 1 else 2)) → Q (.ref S) { s with heap := h', toks := tk }) :
    wpAny (model prog w) A (call (.type "set") [.ref D]) Q E s :=
  call_set_strs hh ⟨_, (N _ ht).1, rfl, 0, rfl⟩ fun h' tk o Sx hs hk ho => h _ h' tk o (F.after hk) (newsSet F N hk ho) (fun p hp => Heap.lt_size (N p hp).1) ⟨Sx, hs⟩
theorem lenSet_N {S : Addr} {o : Obj} {n : Nat} {Q : Value → Shared → Prop} (N : News h₀ L s.heap news) (hm : (S, o) ∈ news) (hs : ∃ Sx, o.SetObjOf (strKind prog w) Sx n) (hn : n < 100)
    (h : ∀ tk t, Q (.int n t) { s with toks := tk }) : wpAny (model prog w) A (call (.builtin "len") [.ref S]) Q E s :=
  let ⟨_, hs⟩ := hs; len_setObj (N _ hm).1 hs hn h
end
end Mine
end

section
namespace Mine

theorem list_unhashable : typeLookup (.type "list") "__hash__" = pure (some .none) := by rw [typeLookup_type, builtinLookup_eq_fast]; kernel_rfl

section
variable {prog : Program} {w : World} {A : Around} {E : Value → Shared → Prop} {s : Shared}

theorem hash_list_raises {a : Addr} {items : Array Value} {Q : Int → Shared → Prop} (hh : A.handled = none) (hu : A.units < cLine) (hl : s.heap.IsList a items)
    (h : ∀ h' tk e, Heap.NewExc s.heap h' e "TypeError" → E (.ref e) { s with heap := h', toks := tk }) :
    wpAny (model prog w) A (pyHash (.ref a)) Q E s := by
  have hT : s.TypeIs (.ref a) "list" := hl.typeIs
  show wpAny (model prog w) A (pyHashByItsType (.ref a)) Q E s
  unfold pyHashByItsType
  refine wpAny_bind (wpAny_cRoomFor hu ?_)
  refine wpAny_bind (wpAny_specialOf hT list_unhashable ?_)
  have e1 : ((some Value.none == some Value.none) = true) := by decide
  rw [if_pos e1]
  refine wpAny_bind (wpAny_rule ?_)
  refine wpAny_bind (wpAny_typeNameOf' hT (by decide) ?_)
  refine wpAny_bind (wpAny_raiseErrorMade plainExc_TypeError hh h ?_)
  decide +kernel

theorem add_list_raises {S a : Addr} {items : Array Value} {Q : Bool → Shared → Prop} (hh : A.handled = none) (hu : A.units < cLine) (hl : s.heap.IsList a items)
    (h : ∀ h' tk e, Heap.NewExc s.heap h' e "TypeError" → E (.ref e) { s with heap := h', toks := tk }) :
    wpAny (model prog w) A (setAdd S (.ref a)) Q E s := by
  unfold setAdd
  exact wpAny_holding (wpAny_bind (hash_list_raises hh hu hl h))

theorem set_list_raises {D a : Addr} {v : Value} {items : Array Value} {Q : Value → Shared → Prop} (hh : A.handled = none) (hu : A.units + 8 < cLine) (ht : s.heap.IsTuple D #[.ref a, v]) (hl : s.heap.IsList a items)
    (h : ∀ h' tk e, (∀ b o, s.heap.get? b = some o → h'.get? b = some o) → s.heap.get? e = none → 
      (∃ ob t, h'.get? e = some ob ∧ ob.cls = .type "TypeError" ∧ ob.data = .fields #[t, .none, .none, .none, .bool false, .none]) → E (.ref e) { s with heap := h', toks := tk }) :
    wpAny (model prog w) A (call (.type "set") [.ref D]) Q E s := by
  refine call_set_tup ht fun s₁ led R g1 g2 g3 hk hS hI hR hE => ?_
  have hD : D < s.heap.objs.size := by obtain ⟨o, ho, _⟩ := ht; exact Heap.lt_size ho
  have ha : a < s.heap.objs.size := by obtain ⟨o, ho, _⟩ := hl; exact Heap.lt_size ho
  have hin : A.in1.in1.in1.handled = none := by simp [hh]
  have hun : A.in1.in1.in1.units < cLine := by simp only [units_in1]; omega
  refine codeAny_builtin F.entry_set_update_loop ?_
  rw [Around.under_plainId F.plain_set_update_loop _]
  show wpAny _ A.in1.in1.in1 (pyNext (.ref (s.heap.objs.size + 1)) >>= _) _ _ s₁
  refine wpAny_bind (wpAny_pyNext_tuple_item hI (ht.at fun o e => hk _ _ e) (x := .ref a) rfl fun h₁ hit₁ hs₁ => ?_)
  show wpAny _ A.in1.in1.in1 (holding [.ref a] (setAdd s.heap.objs.size (.ref a)) >>= _) _ _ _
  have hl₁ : h₁.IsList a items := hl.at fun o e => hs₁.extBut a o (Nat.ne_of_lt (Nat.lt_succ_of_lt ha)) (hk _ _ e)
  refine wpAny_bind (wpAny_holding (add_list_raises (s := { s₁ with heap := h₁ }) hin hun hl₁ fun h' tk e hx => ?_))
  obtain ⟨hp₁, g₁, d₁, t₁, os₁⟩ := s₁
  dsimp only at g1 g2 g3 hk hx ⊢
  subst g1 g2 g3
  have hkk : ∀ b o, s.heap.get? b = some o → h'.get? b = some o := fun b o e => hx.keeps _ _ (hs₁.extBut b o (Nat.ne_of_lt (Nat.lt_succ_of_lt (Heap.lt_size e))) (hk _ _ e))
  refine hE _ _ (h h' tk e hkk ?_ hx.there)
  cases hq : s.heap.get? e with
  | none => rfl
  | some o => have := hs₁.extBut e o (Nat.ne_of_lt (Nat.lt_succ_of_lt (Heap.lt_size hq))) (hk _ _ hq); rw [hx.new] at this; cases this
end
end Mine
end

section
namespace Mine

abbrev fAdr (outer : List Env) : List Addr := outer.filterMap (·.frame)

def TurnTo (outer : List Env) (h h' : Heap) : Prop :=
  (∀ b o, h.get? b = some o → b ∉ fAdr outer → h'.get? b = some o) ∧ (∀ b o, h.get? b = some o → b ∈ fAdr outer → ∃ sl, h'.get? b = some { o with slots := sl })

theorem TurnTo.of_keeps {outer : List Env} {h h' : Heap} (k : ∀ b o, h.get? b = some o → h'.get? b = some o) : TurnTo outer h h' :=
  ⟨fun b o e _ => k b o e, fun b o e _ => ⟨o.slots, k b o e⟩⟩
theorem TurnTo.trans {outer : List Env} {h h₁ h₂ : Heap} (x : TurnTo outer h h₁) (y : TurnTo outer h₁ h₂) : TurnTo outer h h₂ :=
  ⟨fun b o e n => y.1 b o (x.1 b o e n) n, fun b o e m => by
    obtain ⟨s1, h1⟩ := x.2 b o e m
    obtain ⟨s2, h2⟩ := y.2 b _ h1 m
    exact ⟨s2, h2⟩⟩
theorem TurnTo.of_turn {outer : List Env} {g g' h' : Heap} (x : KtsTurn (fAdr outer) g g') (k : ∀ b o, g'.get? b = some o → h'.get? b = some o) : TurnTo outer g h' :=
  ⟨fun b o e n => k b o (x.other b o e n), fun b o e m => by
    obtain ⟨sl, h1⟩ := x.frame b o e m
    exact ⟨sl, k _ _ h1⟩⟩

structure Ctx (K : Frag) (p : Program) (loose : List Str) (outer : List Env) (h : Heap) : Prop where
  ex : ∃ (A₀ : Around) (base : Heap) (mean : ExcName → Option Value) (mg mb : Str → Option Value), Below A₀ base outer h ∧ K.In base ∧ Top p loose mean mg mb base ∧ KtsDicts (fAdr outer) h

section
variable {K : Frag} {p : Program} {loose : List Str} {A₀ : Around} {base h₀ h h' : Heap} {outer : List Env} {L a : Addr} {m : Str → Option Value} {name : Str} {scope : Scope} {cd : Value} {news : List (Addr × Obj)}
  {mean : ExcName → Option Value} {mg mb : Str → Option Value}

theorem ktsDicts_push (D : KtsDicts (fAdr outer) h₀) (B : Below A₀ base outer h₀) (F : Fr h₀ L h m) : KtsDicts (fAdr (envOf name scope L a cd :: outer)) h := fun b hb => by
  have hb' : b = L ∨ b ∈ fAdr outer := kts_mem hb
  rcases hb' with rfl | hb'
  · obtain ⟨o, es, ep, ho, hd, _⟩ := F.ns
    exact ⟨o, es, ep, ho, hd⟩
  · obtain ⟨o, es, n, ho, hd⟩ := D b hb'
    exact ⟨o, es, n, F.keep _ _ ho, hd⟩

theorem Ctx.push (B : Below A₀ base outer h₀) (X : K.In base) (T : Top p loose mean mg mb base) (D : KtsDicts (fAdr outer) h₀) (F : Fr h₀ L h m) (hk : scope.kind = .function := by rfl) : Ctx K p loose (envOf name scope L a cd :: outer) h :=
  ⟨A₀.deeper (envOf name scope L a cd), base, mean, mg, mb, B.push F hk, X, T, ktsDicts_push D B F⟩

theorem turned (B : Below A₀ base outer h₀) (D : KtsDicts (fAdr outer) h₀) (F : Fr h₀ L h m) (N : News h₀ L h news) (t : TurnTo (envOf name scope L a cd :: outer) h h') :
    ∃ g, KtsTurn (fAdr outer) h₀ g ∧ Fr g L h' m ∧ News g L h' news ∧ Below A₀ base outer g ∧ KtsDicts (fAdr outer) g := by
  have hL : h₀.get? L = none := kts_self F
  have nin : ∀ b o, h₀.get? b = some o → b ∉ fAdr outer → b ∉ fAdr (envOf name scope L a cd :: outer) := fun b o e n q => by
    rcases kts_mem q with z | z
    · rw [z, hL] at e; cases e
    · exact n z
  have inn : ∀ b, b ∈ fAdr outer → b ∈ fAdr (envOf name scope L a cd :: outer) := fun b hb => List.mem_cons_of_mem _ hb
  obtain ⟨T, S⟩ := kts_turn_at (h := h') (fs := fAdr outer) (g := h₀)
    (fun b hb => by obtain ⟨o, es, n, ho, _⟩ := D b hb; exact ⟨o, ho⟩)
    (fun b o e n => t.1 b o (F.keep b o e) (nin b o e n))
    (fun b o e hb => t.2 b o (F.keep b o e) (inn b hb))
  refine ⟨_, T, ⟨?_, S, by rw [T.size]; exact F.above⟩, fun q hq => ⟨t.1 _ _ (N q hq).1 fun z => ?_, (N q hq).2.1, T.none_ _ (N q hq).2.2⟩, ⟨B.stack, fun b o e => T.other b o (B.stays b o e) (fun hm => by
    rw [(B.frames.mem hm).1] at e; cases e), B.frames.of_keeps fun b o e _ => ?_⟩, D.turn T⟩
  · obtain ⟨o, es, ep, ho, hd, r⟩ := F.ns
    obtain ⟨sl, hs⟩ := t.2 L o ho (by exact List.mem_cons_self)
    exact ⟨_, es, ep, hs, hd, r⟩
  · rcases kts_mem z with y | y
    · exact (N q hq).2.1 y
    · obtain ⟨o, es, n, ho, _⟩ := D _ y
      rw [(N q hq).2.2] at ho; cases ho
  · obtain ⟨sl, hs⟩ := T.up e
    exact ⟨_, hs, rfl⟩

theorem turn_list {l : Addr} {items : Array Value} {g : Heap} {fs : List Addr} (D : KtsDicts fs h) (T : KtsTurn fs h g) (x : h.IsList l items) : g.IsList l items := by
  obtain ⟨o, ho, hc, n, hd⟩ := x
  refine ⟨o, T.other l o ho fun hm => ?_, hc, n, hd⟩
  obtain ⟨o', es, n', ho', hd'⟩ := D l hm
  rw [ho] at ho'; cases ho'; rw [hd] at hd'; cases hd'
end

section
variable {prog : Program} {w : World} {A A₀ : Around} {base : Heap} {outer : List Env} {s : Shared} {K : Frag} {p : Program} {loose : List Str} {mean : ExcName → Option Value} {mg mb : Str → Option Value}
    {R : Result → Shared → Prop} {name qual : Str} {params : Arguments} {body : List Stmt} {scope : Scope} {dV kV doc pm cdv ct oc : Value} {an od : Option Addr} {osl : Array (Option Value)} {f : Addr} {args : Args}

theorem enterP {binds : List (Str × Value)} (C : Ctx K p loose outer s.heap)
    (ho : K.lookup f = some ⟨oc, od, .func (fnOf name qual params body scope dV kV doc pm an cdv ct), osl⟩) (hcd : codeIn K cdv qual = true) (hroom : A.depth < recursionLimit)
    (hbind : K.In s.heap → BindsTo s (fnOf name qual params body scope dV kV doc pm an cdv ct) args binds) (hloc : ∀ y ∈ binds, scope.names.lookup y.1 = some .local)
    (h : ∀ A₀ base mean mg mb g L' h₁, g = s.heap → Fr g L' h₁ (fun y => binds.reverse.lookup y) → News g L' h₁ [] → Below A₀ base outer g → K.In base → Top p loose mean mg mb base → KtsDicts (fAdr outer) g → K.In g → Top p loose mean mg mb g →
      wpAny (model prog w) (A.deeper (envOf qual scope L' f cdv)) (execs body (envOf qual scope L' f cdv))
        (fun fl s' => R (.ok (.ret (match fl with | .ret v => v | _ => .none))) s')
        (fun e s' => wpAny (model prog w) (A.deeper (envOf qual scope L' f cdv)) (leaving (envOf qual scope L' f cdv) e) (fun _ s'' => R (.error e) s'') (fun e' s'' => R (.error e') s'') s')
        { s with heap := h₁, toks := s.toks + binds.length })
    (hco : scope.isCoroutine = false := by rfl) (hgen : scope.isGenerator = false := by rfl) (hk : scope.kind = .function := by rfl)
    (hcell : ∀ x ∈ scope.names, x.2 ≠ .cell := by decide) : codeAny (model prog w) A (.call (.ref f) args) R s := by
  obtain ⟨A₀, base, mean, mg, mb, B, X, T, D⟩ := C.ex
  have Xs : K.In s.heap := X.keeps B.stays
  have Ts : Top p loose mean mg mb s.heap := T.keeps B.stays
  exact codeAny_call_def (fd := fnOf name qual params body scope dV kV doc pm an cdv ct) (body := body) (binds := binds) hroom (Xs _ _ ho) rfl Ts.nolimit (codeRec_of Xs hcd) rfl (hbind Xs) hcell hloc
    (fun h₁ hns hk₁ => h A₀ base mean mg mb s.heap _ h₁ rfl ⟨hns, hk₁, Nat.le_refl _⟩ (fun _ hp => nomatch hp) B X T D Xs Ts) hco hgen hk

theorem enterS {vs : List Value} {binds : Value → List (Str × Value)} (C : Ctx K p loose outer s.heap)
    (ho : K.lookup f = some ⟨oc, od, .func (fnOf name qual params body scope dV kV doc pm an cdv ct), osl⟩) (hcd : codeIn K cdv qual = true) (hroom : A.depth < recursionLimit)
    (hbind : bindArgs (fnOf name qual params body scope dV kV doc pm an cdv ct) args = (newTuple vs >>= fun t => pure (binds t))) (hloc : ∀ t, ∀ y ∈ binds t, scope.names.lookup y.1 = some .local)
    (hsz : vs.length ≤ sizeLine)
    (h : ∀ A₀ base mean mg mb g D' L' h₁, g = s.heap → Fr g L' h₁ (fun y => (binds (.ref D')).reverse.lookup y) → News g L' h₁ [(D', ({ cls := .type "tuple", data := .seq vs.toArray } : Obj))] → Below A₀ base outer g → K.In base → Top p loose mean mg mb base → KtsDicts (fAdr outer) g → K.In g → Top p loose mean mg mb g →
      wpAny (model prog w) (A.deeper (envOf qual scope L' f cdv)) (execs body (envOf qual scope L' f cdv))
        (fun fl s' => R (.ok (.ret (match fl with | .ret v => v | _ => .none))) s')
        (fun e s' => wpAny (model prog w) (A.deeper (envOf qual scope L' f cdv)) (leaving (envOf qual scope L' f cdv) e) (fun _ s'' => R (.error e) s'') (fun e' s'' => R (.error e') s'') s')
        { s with heap := h₁, toks := s.toks + (binds (.ref D')).length })
    (hco : scope.isCoroutine = false := by rfl) (hgen : scope.isGenerator = false := by rfl) (hk : scope.kind = .function := by rfl)
    (hcell : ∀ x ∈ scope.names, x.2 ≠ .cell := by decide) : codeAny (model prog w) A (.call (.ref f) args) R s := by
  obtain ⟨A₀, base, mean, mg, mb, B, X, T, D⟩ := C.ex
  have Xs : K.In s.heap := X.keeps B.stays
  have Ts : Top p loose mean mg mb s.heap := T.keeps B.stays
  refine codeAny_call_function (fd := fnOf name qual params body scope dV kV doc pm an cdv ct) (body := body) hroom (Xs _ _ ho) rfl hco hgen rfl (codeRec_of Xs hcd) ?_
  rw [hbind]
  refine wpAny_bind (wpAny_newTuple (wpAny_pure ?_) hsz)
  refine wpAny_newFunctionEnv hcell (hloc _) (fun h₁ hns hsb => ⟨(Ts.nolimit.keeps fun b o e => Heap.get?_push_of_some _ e).fresh _ hsb, codeAny_func ?_⟩) hk
  have hk₀ : ∀ b o, (s.heap.push ({ cls := .type "tuple", data := .seq vs.toArray } : Obj)).get? b = some o → h₁.get? b = some o := fun b o e => hsb.extBut b o (Nat.ne_of_lt (Heap.lt_size e)) (Heap.get?_push_of_some _ e)
  have hk₁ : ∀ b o, s.heap.get? b = some o → h₁.get? b = some o := fun b o e => hk₀ b o (Heap.get?_push_of_some _ e)
  have hD := Heap.get?_push_size s.heap (o := ({ cls := .type "tuple", data := .seq vs.toArray } : Obj)) rfl
  exact h A₀ base mean mg mb s.heap s.heap.objs.size _ h₁ rfl ⟨hns, hk₁, by simp [Heap.size_push]⟩ (fun q hq => by
    rw [List.mem_singleton.mp hq]
    exact ⟨hk₀ _ _ hD, by simp [Heap.size_push], get_new _⟩) B X T D Xs Ts
end

abbrev AA (dp un : Nat) (gd : Option (List Code)) (outer : List Env) : Around := { handled := none, depth := dp, frames := some outer, guards := gd, units := un }

end Mine
end

section
namespace Mine

section
variable {M : Model} {A : Around} {E : Value → Shared → Prop} {s : Shared}

theorem note_first {base : Heap} {env : Env} {outer : List Env} {L e : Addr} {oe : Obj} {vs : Array Value} {Q : Unit → Shared → Prop} (hfr : A.frames = some (env :: outer)) (hl : s.heap.FunFrames base (env :: outer)) (hf : env.frame = some L)
    (he : s.heap.get? e = some oe) (hd : oe.data = .fields vs) (h1 : vs[1]? = some .none)
    (h : ∀ h' tb otb tvs, (∀ b o, b ∉ fAdr (env :: outer) → b ≠ e → s.heap.get? b = some o → h'.get? b = some o) → (∀ b o, b ∈ fAdr (env :: outer) → s.heap.get? b = some o → ∃ sl, h'.get? b = some { o with slots := sl }) →
      s.heap.get? tb = none → h'.get? e = some (oe.mapFields (·.setIfInBounds 1 (.ref tb))) → h'.get? tb = some otb → otb.data = .fields tvs → 3 < tvs.size → Q () { s with heap := h' }) :
    wpAny M A (noteFrame (.ref e) env) Q E s := by
  have hsz : 1 < vs.size := (Array.getElem?_eq_some_iff.mp h1).1
  have hene : e ∉ fAdr (env :: outer) := fun hm => by
    obtain ⟨_, o, ho, hnf⟩ := hl.mem hm
    rw [he] at ho; injection ho with ho; subst ho; exact hnf vs hd
  unfold noteFrame
  simp only [hf]
  refine wpAny_bind (wpAny_field he hd h1 ?_)
  rw [if_neg (by decide)]
  refine wpAny_bind (wpAny_frameOf_fun hfr hl hf fun h₁ hs₁ => ?_)
  refine wpAny_bind (wpAny_entryPlaceOf fun pl hpl => ?_)
  unfold EntryCells.newEntry newFields
  refine wpAny_bind (wpAny_newObj_type ?_ (hpl.sizeOk5 _ _ _ _ _))
  have he₁ : h₁.get? e = some oe := (hs₁.2.1 e hene).trans he
  have he₂ := Heap.get?_push_of_some (h := h₁) { cls := .type "traceback", dict := none, data := .fields ([Value.none, .ref L, .none, rawInt L, .none] ++ (if pl.isEmpty then List.replicate 6 Value.none else pl)).toArray } he₁
  have hTe : h₁.objs.size ≠ e := Nat.ne_of_gt (Heap.lt_size he₁)
  have hd₃ := Obj.data_mapFields hd (·.setIfInBounds 1 (Value.ref h₁.objs.size))
  have he₃ := Heap.get?_update_self (Obj.mapFields (·.setIfInBounds 1 (Value.ref h₁.objs.size))) he₂ (Obj.isFreed_of_fields hd₃)
  have hT₃ := (Heap.get?_update_other (h₁.push { cls := .type "traceback", dict := none, data := .fields ([Value.none, .ref L, .none, rawInt L, .none] ++ (if pl.isEmpty then List.replicate 6 Value.none else pl)).toArray })
    (Obj.mapFields (·.setIfInBounds 1 (Value.ref h₁.objs.size))) (Ne.symm hTe)).trans (Heap.get?_push_size h₁ rfl)
  have keep : ∀ b o, b ≠ e → h₁.get? b = some o →
      ((h₁.push { cls := .type "traceback", dict := none, data := .fields ([Value.none, .ref L, .none, rawInt L, .none] ++ (if pl.isEmpty then List.replicate 6 Value.none else pl)).toArray }).update e (Obj.mapFields (·.setIfInBounds 1 (Value.ref h₁.objs.size)))).get? b = some o :=
    fun b o hbe hb => by
      rw [Heap.get?_update_other _ _ (Ne.symm hbe)]
      exact Heap.get?_push_of_some _ hb
  refine wpAny_setField he₂ hd hsz (h _ h₁.objs.size _ _ (fun b o nb hbe e' => keep b o hbe ((hs₁.2.1 b nb).trans e')) (fun b o mb e' => ?_) ?_ he₃ hT₃ rfl ?_)
  · obtain ⟨sl, hs⟩ := hs₁.2.2 b o e'
    exact ⟨sl, keep b _ (fun q => hene (q ▸ mb)) hs⟩
  · cases hq : s.heap.get? h₁.objs.size with
    | none => rfl
    | some o => obtain ⟨sl, hs⟩ := hs₁.2.2 _ o hq; exact absurd (Heap.lt_size hs) (Nat.lt_irrefl _)
  · first | (simp; done) | (rcases hpl with rfl | ⟨_, _, _, _, _, _, _, rfl⟩ <;> simp)
end
end Mine
end

section
namespace Mine

section
variable {prog : Program} {w : World} {A₀ A : Around} {E : Value → Shared → Prop} {s' : Shared} {base g h : Heap} {outer : List Env} {L a e : Addr} {m : Str → Option Value} {name : Str} {scope : Scope} {cd : Value}
  {b₀ : Stmt} {suite : List Stmt} {pos np : Pos} {rest : List ExceptHandler} {Q : Flow → Shared → Prop} {news : List (Addr × Obj)} {K : Frag}
  {p : Program} {loose : List Str} {mean : ExcName → Option Value} {mg mb : Str → Option Value} {x : Str} {X T' : String}

theorem turn_ground (B : Below A₀ base outer g) (D : KtsDicts (fAdr outer) g) (F : Fr g L h m) (N : News g L h news) {h' : Heap} (hk : scope.kind = .function)
    (t : TurnTo (envOf name scope L a cd :: outer) h h') :
    ∃ g', KtsTurn (fAdr outer) g g' ∧ Fr g' L h' m ∧ News g' L h' news ∧ Below A₀ base outer g' ∧ KtsDicts (fAdr outer) g' := turned B D F N t

theorem caughtT (hfr : A.frames = some (envOf name scope L a cd :: outer)) (B : Below A₀ base outer g) (D : KtsDicts (fAdr outer) g) (XB : K.In base) (TB : Top p loose mean mg mb base) (F : Fr g L h m) (N : News g L h news)
    (hkeep : ∀ b o, h.get? b = some o → s'.heap.get? b = some o) (hnew : h.get? e = none)
    (hthere : ∃ ob t, s'.heap.get? e = some ob ∧ ob.cls = .type X ∧ ob.data = .fields #[t, .none, .none, .none, .bool false, .none])
    (ex : nsIn K mainGlobals x = some none) (hv : bootBuiltins x = some (.type T')) (hn' : x ≠ "__name__")
    (hexc : isSubtype (.type T') (.type "BaseException") = pure true) (hnt : isSubtype (.type ((Manifest.find? T').elim "type" fun y => y.metatype)) (.type "tuple") = pure false) (hsub : isSubtype (.type X) (.type T') = pure true)
    (k : ∀ h' g' oe, KtsTurn (fAdr outer) g g' → Fr g' L h' m → News g' L h' ((e, oe) :: news) → (∃ vs, oe.data = .fields vs ∧ vs[2]? = some .none) → (∀ q ∈ news, q.1 ≠ e) → Below A₀ base outer g' → KtsDicts (fAdr outer) g' → K.In g' → Top p loose mean mg mb g' →
      wpAny (model prog w) (A.mark (some (.ref e))) (execs (b₀ :: suite) (envOf name scope L a cd)) Q E { s' with heap := h' })
    (hk : scope.kind = .function := by rfl) (hx : (envOf name scope L a cd).kindOf x = some .globalImplicit := by rfl) (hd : (x == ("__debug__" : Str)) = false := by decide)
    (hE : PassesOwnAt (model prog w) (A.mark (some (.ref e))) A (envOf name scope L a cd) E := by passes_own) :
    wpAny (model prog w) A (noteFrame (.ref e) (envOf name scope L a cd))
      (fun _ s₂ => wpAny (model prog w) A (setFlight (.ref e) none) (fun _ s₃ =>
        wpAny (model prog w) A (handleBy (.ref e) (envOf name scope L a cd) (.ExceptHandler (some (.Name x np)) none (b₀ :: suite) pos :: rest)) Q E s₃) E s₂) E s' := by
  obtain ⟨ob, t, he, hcls, hdat⟩ := hthere
  have F₁ : Fr g L s'.heap m := F.after hkeep
  have N₁ : News g L s'.heap news := fun q hq => ⟨hkeep _ _ (N q hq).1, (N q hq).2⟩
  have B₁ := B.push (name := name) (scope := scope) (a := a) (cd := cd) F₁ hk
  have D₁ : KtsDicts (fAdr (envOf name scope L a cd :: outer)) s'.heap := ktsDicts_push D B F₁
  have nfr : ∀ b o vs, s'.heap.get? b = some o → o.data = .fields vs → b ∉ fAdr (envOf name scope L a cd :: outer) := fun b o vs ho hdd hm => by
    obtain ⟨o', es, n, ho', hd'⟩ := D₁ b hm
    rw [ho] at ho'; cases ho'; rw [hdd] at hd'; cases hd'
  have ene : ∀ b o, h.get? b = some o → b ≠ e := fun b o hb q => by rw [q, hnew] at hb; cases hb
  refine note_first hfr B₁.frames rfl he hdat rfl fun h₁ tb otb tvs k1 k2 ktb ke₁ ktb₁ hdt hsz => ?_
  have htbe : tb ≠ e := fun q => by rw [q, he] at ktb; cases ktb
  have hde : (ob.mapFields (·.setIfInBounds 1 (.ref tb))).data = .fields #[t, .ref tb, .none, .none, .bool false, .none] := Obj.data_mapFields hdat _
  have hce : (ob.mapFields (·.setIfInBounds 1 (.ref tb))).cls = .type X := (Obj.cls_mapFields _ _).trans hcls
  -- of the heap ahead of the raise
  have T₁ : TurnTo (envOf name scope L a cd :: outer) h h₁ := ⟨fun b o eb nb => k1 b o nb (ene b o eb) (hkeep _ _ eb), fun b o eb mb => k2 b o mb (hkeep _ _ eb)⟩
  have htb : ∀ b o, h.get? b = some o → b ≠ tb := fun b o hb q => by have := hkeep _ _ hb; rw [q, ktb] at this; cases this
  refine wpAny_setFlight_none ke₁ hde rfl ktb₁ hdt hsz ?_
  have up : ∀ (H : Heap) (v : Value) b, b ≠ tb → (H.update tb (Obj.mapFields (·.setIfInBounds 3 v))).get? b = H.get? b := fun H v b hb => Heap.get?_update_other _ _ (Ne.symm hb)
  have T₂ : TurnTo (envOf name scope L a cd :: outer) h (h₁.update tb (Obj.mapFields (·.setIfInBounds 3 .none))) :=
    ⟨fun b o eb nb => (up _ _ b (htb b o eb)).trans (T₁.1 b o eb nb), fun b o eb mb => by obtain ⟨sl, hs⟩ := T₁.2 b o eb mb; exact ⟨sl, (up _ _ b (htb b o eb)).trans hs⟩⟩
  have ke₂ := (up h₁ .none e (Ne.symm htbe)).trans ke₁
  have ktb₂ := Heap.get?_update_self (Obj.mapFields (·.setIfInBounds 3 Value.none)) ktb₁ (Obj.isFreed_of_fields (Obj.data_mapFields hdt _))
  obtain ⟨g₂, KT₂, F₂, N₂, B₂, D₂⟩ := turned B D F N T₂
  have X₂ : K.In g₂ := XB.keeps B₂.stays
  have P₂ : TopRead p loose mg mb g₂ := topRead_of (TB.keeps B₂.stays)
  refine wpAny_handleBy_builtin (X := X) (T := T') (b := true) hexc hnt hsub (name_B F₂ X₂ P₂ ex hv hn' ⟨rfl, ⟨_, ke₂, hce⟩, ?_⟩ hk hx hd)
  rw [if_pos rfl]
  refine wpAny_setFlight_none ke₂ hde rfl ktb₂ (Obj.data_mapFields hdt _) (by simpa using hsz) ?_
  have T₃ : TurnTo (envOf name scope L a cd :: outer) h ((h₁.update tb (Obj.mapFields (·.setIfInBounds 3 .none))).update tb (Obj.mapFields (·.setIfInBounds 3 .none))) :=
    ⟨fun b o eb nb => (up _ _ b (htb b o eb)).trans (T₂.1 b o eb nb), fun b o eb mb => by obtain ⟨sl, hs⟩ := T₂.2 b o eb mb; exact ⟨sl, (up _ _ b (htb b o eb)).trans hs⟩⟩
  have ke₃ := (up (h₁.update tb (Obj.mapFields (·.setIfInBounds 3 .none))) .none e (Ne.symm htbe)).trans ke₂
  obtain ⟨g₃, KT₃, F₃, N₃, B₃, D₃⟩ := turned B D F N T₃
  have X₃ : K.In g₃ := XB.keeps B₃.stays
  have P₃ : Top p loose mean mg mb g₃ := TB.keeps B₃.stays
  have heL : e ≠ L := fun q => by obtain ⟨o, _, _, ho, _⟩ := F.ns; rw [← q, hnew] at ho; cases ho
  have heg : g₃.get? e = none := KT₃.none_ _ (by
    cases q : g.get? e with
    | none => rfl
    | some o => have := F.keep e o q; rw [hnew] at this; cases this)
  refine wpAny_passesOwnAt hE (k _ g₃ _ KT₃ F₃ (fun q hq => ?_) ⟨_, hde, rfl⟩ (fun q hq z => by have := (N q hq).1; rw [z, hnew] at this; cases this) B₃ D₃ X₃ P₃)
  rcases List.mem_cons.mp hq with rfl | hq
  · exact ⟨ke₃, heL, heg⟩
  · exact N₃ q hq
end
end Mine
end

section
namespace Mine

theorem entry_unchain : entryFor table "proto.unchain" = some Builtin.«proto.unchain» := entryFor_of_fast (by kernel_rfl)
theorem plain_unchain : plainId "proto.unchain" = true := by decide +kernel

def HOk (A : Around) (h : Heap) : Prop := ∃ x ox ws, A.handled = some (.ref x) ∧ h.get? x = some ox ∧ ox.data = .fields ws ∧ ws[2]? = some .none
theorem HOk.mono {A : Around} {h h' : Heap} (H : HOk A h) (k : ∀ b o vs, o.data = .fields vs → vs[2]? = some .none → h.get? b = some o → h'.get? b = some o) : HOk A h' := by
  obtain ⟨x, ox, ws, h1, h2, h3, h4⟩ := H
  exact ⟨x, ox, ws, h1, k x ox ws h3 h4 h2, h3, h4⟩
theorem HOk.in1 {A : Around} {h : Heap} (H : HOk A h) : HOk A.in1 h := H

section
variable {prog : Program} {w : World} {A : Around} {E : Value → Shared → Prop} {s : Shared}

theorem raiseNew_h {α : Type} {e : Addr} {oe : Obj} {vs : Array Value} {Q : α → Shared → Prop} (H : HOk A s.heap) (he : s.heap.get? e = some oe) (hd : oe.data = .fields vs) (hsz : 2 < vs.size) (hne : ∀ x, A.handled = some (.ref x) → x ≠ e)
    (h : ∀ h', Heap.SameBut e s.heap h' → (∃ o, h'.get? e = some o ∧ o.cls = oe.cls) → E (.ref e) { s with heap := h' }) : wpAny (model prog w) A (raiseNew (.ref e) : Sem α) Q E s := by
  obtain ⟨x, ox, ws, h1, h2, h3, h4⟩ := H
  unfold raiseNew
  refine wpAny_bind (wpAny_handled ?_)
  rw [h1]
  have hx : x ≠ e := hne x h1
  have hq : (Value.ref x != Value.ref e) = true := by simpa using hx
  dsimp only
  rw [if_pos hq]
  refine wpAny_bind ?_
  refine wpAny_holding (wpAny_runValue (codeAny_builtin entry_unchain ?_))
  rw [Around.under_plainId plain_unchain _]
  show wpAny _ _ (field (.ref x) 2 >>= _) _ _ _
  refine wpAny_bind (wpAny_field h2 h3 h4 ?_)
  show wpAny _ _ (if (Value.none == Value.none) = true then _ else _) _ _ _
  rw [if_pos (by decide)]
  show wpAny _ _ (ret Value.none) _ _ _
  refine wpAny_pure ?_
  refine wpAny_bind ?_
  refine (wpAny_setField (M := model prog w) (A := A) (E := E) (x := Value.ref x) (i := 2) he hd hsz ?_ : wpAny (model prog w) A (updateField e 2 (.ref x)) _ _ _)
  refine wpAny_throw (h _ (Heap.SameBut.update ..) ⟨_, Heap.get?_update_self _ he (Obj.isFreed_of_fields (Obj.data_mapFields hd _)), Obj.cls_mapFields _ _⟩)

theorem stop_h {α : Type} {Q : α → Shared → Prop} (H : HOk A s.heap)
    (h : ∀ h' e, s.heap.get? e = none → (∀ b o, s.heap.get? b = some o → h'.get? b = some o) → (∃ o, h'.get? e = some o ∧ o.cls = .type "StopIteration") → E (.ref e) { s with heap := h' }) :
    wpAny (model prog w) A ((newExc (.type "StopIteration") [] >>= fun e => raiseNew e) : Sem α) Q E s := by
  refine wpAny_bind ?_
  simp only [newExc, newTuple]
  refine wpAny_bind (wpAny_newObj_type ?_ (by size_fits))
  refine wpAny_bind (m := firstArgMember _ _) (wpAny_of_eq (a := Value.none) (by first | rfl | (simp only [firstArgMember]; rfl)) ?_)
  refine wpAny_newObj_type ?_ (by size_fits)
  have up : ∀ b o, s.heap.get? b = some o → ((s.heap.push { cls := .type "tuple", dict := none, data := .seq #[] }).push { cls := .type "StopIteration", dict := none, data := .fields (#[.ref s.heap.objs.size, .none, .none, .none, .bool false, .none] ++ ownMembersOf (.type "StopIteration") []) }).get? b = some o :=
    fun b o e => Heap.get?_push_of_some _ (Heap.get?_push_of_some _ e)
  have sz : ((s.heap.push { cls := .type "tuple", dict := none, data := .seq #[] })).objs.size = s.heap.objs.size + 1 := Heap.size_push _ _
  refine raiseNew_h (H.mono fun b o vs _ _ e => up b o e) (Heap.get?_push_size _ rfl) rfl (by simp; omega) ?_ ?_
  · rintro x hx rfl
    obtain ⟨x', ox, ws, h1, h2, _⟩ := H
    rw [h1] at hx; cases hx
    exact absurd (Heap.lt_size h2) (by rw [Heap.size_push]; exact Nat.not_lt.mpr (Nat.le_succ _))
  · intro h' hsb ho
    refine h _ _ (Heap.get?_none_of_le (by rw [Heap.size_push]; exact Nat.le_succ _)) (fun b o e => hsb.extBut b o (Nat.ne_of_lt (Nat.lt_of_lt_of_le (Heap.lt_size e) (by rw [Heap.size_push]; exact Nat.le_succ _))) (up b o e)) ho

theorem nextOf_tuple_item {it t : Addr} {i : Nat} {items : Array Value} {x : Value} {Q : Value → Shared → Prop} (hit : s.heap.IsTupleIter it t i)
    (ht : s.heap.IsTuple t items) (hx : items[i]? = some x)
    (hQ : ∀ h', h'.IsTupleIter it t (i + 1) → Heap.SameBut it s.heap h' → Q x { s with heap := h' }) :
    wpAny (model prog w) A (Builtin.SmallTypes.nextOf (.ref it)) Q E s := by
  obtain ⟨o, ho, hc, hd⟩ := id hit
  obtain ⟨ol, hol, _, nl, hdl⟩ := ht
  unfold Builtin.SmallTypes.nextOf
  refine wpAny_bind (wpAny_callSpecial?_slot (name := Str.ofString "__next__") hit.typeIs F.slot_tuple_iterator_next
    (wpAny_call_entry F.slot_tuple_iterator_next hit.typeIs F.entry_tuple_iterator_next ?_ (F.args_tuple_iterator_next_1 _)))
  show wpAny _ _ (field (.ref it) 0 >>= _) _ _ s
  refine wpAny_bind (wpAny_field ho hd (x := .ref t) rfl ?_)
  show wpAny _ _ (if (Value.ref t == Value.none) = true then _ else _) _ _ s
  rw [if_neg (show ¬ ((Value.ref t == Value.none) = true) from Bool.false_ne_true)]
  show wpAny _ _ (field (.ref it) 1 >>= _) _ _ s
  refine wpAny_bind (wpAny_field ho hd (x := .int i 0) rfl ?_)
  show wpAny _ _ (seqItems? (.ref t) >>= _) _ _ s
  refine wpAny_bind (wpAny_seqItems hol hdl ?_)
  simp only [Int.toNat_natCast, hx]
  refine wpAny_bind (wpAny_setField ho hd (by simp) (wpAny_pure ⟨x, rfl, wpAny_pure (hQ _ ?_ (Heap.SameBut.update ..))⟩))
  exact ⟨_, Heap.get?_update_self _ ho (Obj.isFreed_of_fields (Obj.data_mapFields hd _)), (Obj.cls_mapFields ..).trans hc, by
    rw [Obj.data_mapFields hd]; simp [rawInt]⟩

theorem tuple_next_end_h {it t : Addr} {i : Nat} {items : Array Value} {Q : Fin → Shared → Prop} (H : HOk A s.heap)
    (hit : s.heap.IsTupleIter it t i) (ht : s.heap.IsTuple t items) (hx : items[i]? = none)
    (hE : ∀ h' e, s.heap.get? e = none → Heap.ExtBut it s.heap h' → (∃ o, h'.get? e = some o ∧ o.cls = .type "StopIteration") → E (.ref e) { s with heap := h' }) :
    wpAny (model prog w) A (Builtin.«tuple_iterator.__next__» ⟨[.ref it], []⟩) Q E s := by
  obtain ⟨o, ho, hc, hd⟩ := id hit
  obtain ⟨ol, hol, _, nl, hdl⟩ := ht
  show wpAny _ _ (field (.ref it) 0 >>= _) _ _ s
  refine wpAny_bind (wpAny_field ho hd (x := .ref t) rfl ?_)
  show wpAny _ _ (if (Value.ref t == Value.none) = true then _ else _) _ _ s
  rw [if_neg (show ¬ ((Value.ref t == Value.none) = true) from Bool.false_ne_true)]
  show wpAny _ _ (field (.ref it) 1 >>= _) _ _ s
  refine wpAny_bind (wpAny_field ho hd (x := .int i 0) rfl ?_)
  show wpAny _ _ (seqItems? (.ref t) >>= _) _ _ s
  refine wpAny_bind (wpAny_seqItems hol hdl ?_)
  simp only [Int.toNat_natCast, hx]
  refine wpAny_bind (wpAny_rule (wpAny_bind (wpAny_setField ho hd (by simp) ?_)))
  show wpAny _ _ (newExc (.type "StopIteration") [] >>= _) _ _ _
  refine stop_h (H.mono fun b o' vs hd' h2 e => ?_) fun h' e hn hk hc => hE h' e ?_ (fun b o' hb e' => hk b o' ((Heap.get?_update_ne _ _ _ _ hb).trans e')) hc
  · refine (Heap.get?_update_ne _ _ _ _ fun q => ?_).trans e
    rw [q, ho] at e; cases e
    rw [hd] at hd'; cases hd'; simp at h2
  · cases q : s.heap.get? e with
    | none => rfl
    | some o' =>
      by_cases z : e = it
      · subst z
        rw [Heap.get?_update_self _ ho (Obj.isFreed_of_fields (Obj.data_mapFields hd _))] at hn; cases hn
      · rw [Heap.get?_update_ne _ _ _ _ z, q] at hn; cases hn

theorem nextOf_tuple_end_h {it t : Addr} {i : Nat} {items : Array Value} {Q : Value → Shared → Prop} (H : HOk A s.heap)
    (hit : s.heap.IsTupleIter it t i) (ht : s.heap.IsTuple t items) (hx : items[i]? = none)
    (hE : ∀ h' e, s.heap.get? e = none → Heap.ExtBut it s.heap h' → (∃ o, h'.get? e = some o ∧ o.cls = .type "StopIteration") → E (.ref e) { s with heap := h' }) :
    wpAny (model prog w) A (Builtin.SmallTypes.nextOf (.ref it)) Q E s := by
  unfold Builtin.SmallTypes.nextOf
  exact wpAny_bind (wpAny_callSpecial?_slot (name := Str.ofString "__next__") hit.typeIs F.slot_tuple_iterator_next
    (wpAny_call_entry F.slot_tuple_iterator_next hit.typeIs F.entry_tuple_iterator_next (tuple_next_end_h H.in1 hit ht hx hE) (F.args_tuple_iterator_next_1 _)))

theorem pyNext_tuple_end_h {it t : Addr} {i : Nat} {items : Array Value} {Q : Option Value → Shared → Prop} (H : HOk A s.heap)
    (hit : s.heap.IsTupleIter it t i) (ht : s.heap.IsTuple t items) (hx : items[i]? = none)
    (hQ : ∀ h', Heap.ExtBut it s.heap h' → Q none { s with heap := h' }) : wpAny (model prog w) A (pyNext (.ref it)) Q E s := by
  unfold pyNext
  refine wpAny_bind (wpAny_attempt (wpAny_callSpecial?_slot (name := Str.ofString "__next__") hit.typeIs F.slot_tuple_iterator_next
    (wpAny_call_entry F.slot_tuple_iterator_next hit.typeIs F.entry_tuple_iterator_next (tuple_next_end_h H.in1 hit ht hx fun h' e _ hk he => ?_) (F.args_tuple_iterator_next_1 _))))
  obtain ⟨o, ho, hc⟩ := he
  refine wpAny_bind (wpAny_isInstance (T := "StopIteration") (b := true) ⟨o, ho, hc⟩ isSubtype_stop ?_)
  exact wpAny_pure (hQ _ hk)
end
end Mine
end

section
namespace Mine

abbrev zt1 (h : Heap) (l1 : Addr) : Heap := h.push { cls := .type "tuple_iterator", data := .fields #[.ref l1, .int 0 0] }
abbrev zt2 (h : Heap) (l1 l2 : Addr) : Heap := (zt1 h l1).push { cls := .type "tuple_iterator", data := .fields #[.ref l2, .int 0 0] }
abbrev zt3 (h : Heap) (l1 l2 : Addr) : Heap := (zt2 h l1 l2).push { cls := .type "tuple", data := .seq #[.ref h.objs.size, .ref (zt1 h l1).objs.size] }
abbrev zt4 (h : Heap) (l1 l2 : Addr) : Heap := (zt3 h l1 l2).push { cls := .type "tuple", data := .seq #[.none, .none] }
abbrev zt5 (h : Heap) (l1 l2 : Addr) : Heap := (zt4 h l1 l2).push { cls := .type "zip", data := .fields #[.none, .bool false, .bool false, .ref (zt2 h l1 l2).objs.size, .ref (zt3 h l1 l2).objs.size] }

theorem isTuple_push {h : Heap} {l : Addr} {xs : Array Value} (hl : h.IsTuple l xs) (o : Obj) : (h.push o).IsTuple l xs := hl.at fun _ e => Heap.get?_push_of_some _ e

theorem zip_new_tups (l1 l2 : Addr) (xs ys : Array Value) :
    Meets (Builtin.«zip.__new__» ⟨[.type "zip", .ref l1, .ref l2], []⟩) (fun _ R s => s.heap.IsTuple l1 xs ∧ s.heap.IsTuple l2 ys ∧
      R (.ok (.ret (.ref (zt4 s.heap l1 l2).objs.size))) { s with heap := zt5 s.heap l1 l2 }) :=
  .of_wp fun prog w A R s h => by
    obtain ⟨hp, g, d, tk, os⟩ := s; obtain ⟨hl1, hl2, h⟩ := h
    have hsub := sub_zip
    have hL1 : Heap.IsTuple (Shared.heap ⟨hp, g, d, tk, os⟩) l1 xs := hl1
    have hL2 : Heap.IsTuple (Shared.heap ⟨hp.push { cls := .type "tuple_iterator", data := .fields #[.ref l1, .int 0 0] }, g, d, tk, os⟩) l2 ys := isTuple_push hl2 _
    wp_walk using wpAny_pyIter_tuple hL1, wpAny_pyIter_tuple hL2
    exact ⟨_, rfl, h⟩

section
variable {prog : Program} {w : World} {A : Around} {E : Value → Shared → Prop} {s : Shared}

theorem call_zip_tups {l1 l2 : Addr} {xs ys : Array Value} {Q : Value → Shared → Prop} (hl1 : s.heap.IsTuple l1 xs) (hl2 : s.heap.IsTuple l2 ys)
    (h : ∀ h', IsZip h' (s.heap.objs.size + 4) (s.heap.objs.size + 2) (s.heap.objs.size + 3) .none → IsPair h' (s.heap.objs.size + 2) (.ref s.heap.objs.size) (.ref (s.heap.objs.size + 1)) →
      IsPair h' (s.heap.objs.size + 3) .none .none → h'.IsTupleIter s.heap.objs.size l1 0 → h'.IsTupleIter (s.heap.objs.size + 1) l2 0 → 
      (∀ c o, s.heap.get? c = some o → h'.get? c = some o) → Q (.ref (s.heap.objs.size + 4)) { s with heap := h' }) :
    wpAny (model prog w) A (call (.type "zip") [.ref l1, .ref l2]) Q E s := by
  refine callType_new F.called_zip (by decide) (F.typeCall_zip_2 _ _) (F.newCall_zip_2 _ _) (fun obj => F.args_object_init_3 obj _ _) F.entry_zip_new
    (zip_new_tups l1 l2 xs ys) ⟨hl1, hl2, ?_⟩
  have z1 : (zt1 s.heap l1).objs.size = s.heap.objs.size + 1 := Heap.size_push ..
  have z2 : (zt2 s.heap l1 l2).objs.size = s.heap.objs.size + 2 := by rw [Heap.size_push, z1]
  have z3 : (zt3 s.heap l1 l2).objs.size = s.heap.objs.size + 3 := by rw [Heap.size_push, z2]
  have z4 : (zt4 s.heap l1 l2).objs.size = s.heap.objs.size + 4 := by rw [Heap.size_push, z3]
  have g5 : (zt5 s.heap l1 l2).get? (zt4 s.heap l1 l2).objs.size = some _ := Heap.get?_push_size _ rfl
  have g4 : (zt5 s.heap l1 l2).get? (zt3 s.heap l1 l2).objs.size = some _ := Heap.get?_push_of_some _ (Heap.get?_push_size _ rfl)
  have g3 : (zt5 s.heap l1 l2).get? (zt2 s.heap l1 l2).objs.size = some _ := Heap.get?_push_of_some _ (Heap.get?_push_of_some _ (Heap.get?_push_size _ rfl))
  have g2 : (zt5 s.heap l1 l2).get? (zt1 s.heap l1).objs.size = some _ := Heap.get?_push_of_some _ (Heap.get?_push_of_some _ (Heap.get?_push_of_some _ (Heap.get?_push_size _ rfl)))
  have g1 : (zt5 s.heap l1 l2).get? s.heap.objs.size = some _ := Heap.get?_push_of_some _ (Heap.get?_push_of_some _ (Heap.get?_push_of_some _ (Heap.get?_push_of_some _ (Heap.get?_push_size _ rfl))))
  show _ ∧ _
  rw [z2, z3, z4] at g5
  rw [z1, z2] at g3
  rw [z3] at g4
  rw [z1] at g2
  rw [z4]
  exact ⟨⟨_, g5, rfl⟩, h _ g5 g3 g4 ⟨_, g1, rfl, rfl⟩ ⟨_, g2, rfl, rfl⟩ fun c o x =>
    Heap.get?_push_of_some _ (Heap.get?_push_of_some _ (Heap.get?_push_of_some _ (Heap.get?_push_of_some _ (Heap.get?_push_of_some _ x))))⟩

theorem zipT_item {z TI TO i1 i2 l1 l2 : Addr} {k1 k2 : Nat} {xs ys : Array Value} {x y a b : Value} {Q : Option Value → Shared → Prop} (D : ZipApart z TI TO i1 i2 l1 l2)
    (hz : IsZip s.heap z TI TO .none) (hTI : IsPair s.heap TI (.ref i1) (.ref i2)) (hTO : IsPair s.heap TO a b)
    (h1 : s.heap.IsTupleIter i1 l1 k1) (h2 : s.heap.IsTupleIter i2 l2 k2) (hl1 : s.heap.IsTuple l1 xs) (hl2 : s.heap.IsTuple l2 ys) (hx : xs[k1]? = some x) (hy : ys[k2]? = some y)
    (hQ : ∀ h', IsZip h' z TI TO (rawInt s.heap.objs.size) → IsPair h' TO x y → h'.IsTupleIter i1 l1 (k1 + 1) → h'.IsTupleIter i2 l2 (k2 + 1) → IsPair h' s.heap.objs.size x y → 
      (∀ c o, c ≠ z → c ≠ TO → c ≠ i1 → c ≠ i2 → s.heap.get? c = some o → h'.get? c = some o) → Q (some (.ref s.heap.objs.size)) { s with heap := h' }) :
    wpAny (model prog w) A (pyNext (.ref z)) Q E s := by
  have hT : s.TypeIs (.ref z) "zip" := ⟨_, hz, rfl⟩
  unfold pyNext
  refine wpAny_bind (wpAny_attempt (wpAny_callSpecial?_slot (name := Str.ofString "__next__") hT F.slot_zip_next
    (wpAny_call_entry F.slot_zip_next hT F.entry_zip_next ?_ (F.args_zip_next_1 _))))
  show wpAny _ _ (field (.ref z) 2 >>= _) _ _ _
  refine wpAny_bind (wpAny_field hz rfl (x := .bool false) rfl ?_)
  show wpAny _ _ (field (.ref z) 3 >>= _) _ _ _
  refine wpAny_bind (wpAny_field hz rfl (x := .ref TI) rfl ?_)
  refine wpAny_bind (wpAny_seqItems hTI rfl ?_)
  show wpAny _ _ (Builtin.SmallTypes.ownedTupleIsFree (.ref z) >>= _) _ _ _
  refine wpAny_bind ?_
  unfold Builtin.SmallTypes.ownedTupleIsFree
  refine wpAny_bind (wpAny_field hz rfl (x := .none) rfl (wpAny_pure ?_))
  simp only [if_true]
  refine wpAny_bind (wpAny_rule ?_)
  refine wpAny_bind (wpAny_field hz rfl (x := .ref TO) rfl ?_)
  refine wpAny_bind (wpAny_setField_rec hz (by simp) fun h₁ hz₁ hs₁ => ?_)
  replace hz₁ : IsZip h₁ z TI TO .ellipsis := hz₁
  refine wpAny_bind ?_
  simp only [List.zipIdx_cons, List.zipIdx_nil, List.forIn_cons, List.forIn_nil]
  refine wpAny_bind (wpAny_bind (wpAny_onRaise ?_))
  show wpAny _ _ (Builtin.SmallTypes.nextOf (.ref i1) >>= _) _ _ _
  refine wpAny_bind (nextOf_tuple_item (h1.at fun o e => hs₁.extBut _ _ D.i1z e) (hl1.at fun o e => hs₁.extBut _ _ D.l1z e) hx fun h₂ h1₂ hs₂ => wpAny_pure ?_)
  have hTO₂ : IsPair h₂ TO a b := hs₂.extBut _ _ D.TOi1 (hs₁.extBut _ _ D.TOz hTO)
  refine wpAny_bind (wpAny_seqItems hTO₂ rfl ?_)
  refine wpAny_bind (wpAny_updateSeq_pair hTO₂ fun h₃ hTO₃ hs₃ => ?_)
  replace hTO₃ : IsPair h₃ TO x b := hTO₃
  refine wpAny_bind (wpAny_letGo (wpAny_pure ?_))
  refine wpAny_bind (wpAny_bind (wpAny_onRaise ?_))
  show wpAny _ _ (Builtin.SmallTypes.nextOf (.ref i2) >>= _) _ _ _
  refine wpAny_bind (nextOf_tuple_item (h2.at fun o e => hs₃.extBut _ _ D.TOi2.symm (hs₂.extBut _ _ D.i12.symm (hs₁.extBut _ _ D.i2z e)))
    (hl2.at fun o e => hs₃.extBut _ _ D.l2TO (hs₂.extBut _ _ D.l2i1 (hs₁.extBut _ _ D.l2z e))) hy fun h₄ h2₄ hs₄ => wpAny_pure ?_)
  have hTO₄ : IsPair h₄ TO x b := hs₄.extBut _ _ D.TOi2 hTO₃
  refine wpAny_bind (wpAny_seqItems hTO₄ rfl ?_)
  refine wpAny_bind (wpAny_updateSeq_pair hTO₄ fun h₅ hTO₅ hs₅ => ?_)
  replace hTO₅ : IsPair h₅ TO x y := hTO₅
  refine wpAny_bind (wpAny_letGo (wpAny_pure (wpAny_pure ?_)))
  refine wpAny_bind (wpAny_seqItems hTO₅ rfl ?_)
  refine wpAny_bind (wpAny_newTuple ?_)
  have hsz : h₅.objs.size = s.heap.objs.size := by rw [hs₅.1, hs₄.1, hs₃.1, hs₂.1, hs₁.1]
  have hz₅ : IsZip h₅ z TI TO .ellipsis := hs₅.extBut _ _ D.TOz.symm (hs₄.extBut _ _ D.i2z.symm (hs₃.extBut _ _ D.TOz.symm (hs₂.extBut _ _ D.i1z.symm hz₁)))
  have hk₅ : ∀ c o, c ≠ z → c ≠ TO → c ≠ i1 → c ≠ i2 → s.heap.get? c = some o → h₅.get? c = some o := fun c o c1 c2 c3 c4 e =>
    hs₅.extBut _ _ c2 (hs₄.extBut _ _ c4 (hs₃.extBut _ _ c2 (hs₂.extBut _ _ c3 (hs₁.extBut _ _ c1 e))))
  have h1₅ : h₅.IsTupleIter i1 l1 (k1 + 1) := h1₂.at fun o e => hs₅.extBut _ _ D.TOi1.symm (hs₄.extBut _ _ D.i12 (hs₃.extBut _ _ D.TOi1.symm e))
  have h2₅ : h₅.IsTupleIter i2 l2 (k2 + 1) := h2₄.at fun o e => hs₅.extBut _ _ D.TOi2.symm e
  have hzlt : z < h₅.objs.size := Heap.lt_size hz₅
  show wpAny _ _ (Builtin.SmallTypes.ownedTupleHandOut (.ref z) (.ref h₅.objs.size) >>= _) _ _ _
  refine wpAny_bind ?_
  unfold Builtin.SmallTypes.ownedTupleHandOut
  have hz₆ : IsZip (h₅.push { cls := .type "tuple", data := .seq #[x, y] }) z TI TO .ellipsis := Heap.get?_push_of_some _ hz₅
  refine wpAny_bind (wpAny_setField_rec hz₆ (by simp) fun h₇ hz₇ hs₇ => ?_)
  replace hz₇ : IsZip h₇ z TI TO (rawInt h₅.objs.size) := hz₇
  refine wpAny_setField_rec hz₇ (by simp) fun h₈ hz₈ hs₈ => ?_
  replace hz₈ : IsZip h₈ z TI TO (rawInt h₅.objs.size) := hz₈
  have up : ∀ c o, c ≠ z → h₅.get? c = some o → h₈.get? c = some o := fun c o c1 e => hs₈.extBut _ _ c1 (hs₇.extBut _ _ c1 (Heap.get?_push_of_some _ e))
  have hT₈ : IsPair h₈ h₅.objs.size x y := hs₈.extBut _ _ (Nat.ne_of_gt hzlt) (hs₇.extBut _ _ (Nat.ne_of_gt hzlt) (Heap.get?_push_size _ rfl))
  rw [hsz] at hz₈ hT₈
  refine wpAny_pure ⟨_, rfl, ?_⟩
  refine wpAny_pure ?_
  show Q (some (.ref h₅.objs.size)) _
  rw [hsz]
  exact hQ h₈ hz₈ (up _ _ D.TOz hTO₅) (h1₅.at fun o e => up _ o D.i1z e) (h2₅.at fun o e => up _ o D.i2z e) hT₈ fun c o c1 c2 c3 c4 e => up c o c1 (hk₅ c o c1 c2 c3 c4 e)

theorem zipT_end {z TI TO i1 i2 l1 l2 : Addr} {k1 k2 : Nat} {xs ys : Array Value} {x a b : Value} {Q : Option Value → Shared → Prop} (H : HOk A s.heap) (D : ZipApart z TI TO i1 i2 l1 l2)
    (hz : IsZip s.heap z TI TO .none) (hTI : IsPair s.heap TI (.ref i1) (.ref i2)) (hTO : IsPair s.heap TO a b)
    (h1 : s.heap.IsTupleIter i1 l1 k1) (h2 : s.heap.IsTupleIter i2 l2 k2) (hl1 : s.heap.IsTuple l1 xs) (hl2 : s.heap.IsTuple l2 ys) (hx : xs[k1]? = some x) (hy : ys[k2]? = none)
    (hex : ∀ x, A.handled = some (.ref x) → x ≠ z ∧ x ≠ TO ∧ x ≠ i1 ∧ x ≠ i2)
    (hQ : ∀ h', (∀ c o, c ≠ z → c ≠ TO → c ≠ i1 → c ≠ i2 → s.heap.get? c = some o → h'.get? c = some o) → Q none { s with heap := h' }) : wpAny (model prog w) A (pyNext (.ref z)) Q E s := by
  have hT : s.TypeIs (.ref z) "zip" := ⟨_, hz, rfl⟩
  unfold pyNext
  refine wpAny_bind (wpAny_attempt (wpAny_callSpecial?_slot (name := Str.ofString "__next__") hT F.slot_zip_next
    (wpAny_call_entry F.slot_zip_next hT F.entry_zip_next ?_ (F.args_zip_next_1 _))))
  show wpAny _ _ (field (.ref z) 2 >>= _) _ _ _
  refine wpAny_bind (wpAny_field hz rfl (x := .bool false) rfl ?_)
  show wpAny _ _ (field (.ref z) 3 >>= _) _ _ _
  refine wpAny_bind (wpAny_field hz rfl (x := .ref TI) rfl ?_)
  refine wpAny_bind (wpAny_seqItems hTI rfl ?_)
  show wpAny _ _ (Builtin.SmallTypes.ownedTupleIsFree (.ref z) >>= _) _ _ _
  refine wpAny_bind ?_
  unfold Builtin.SmallTypes.ownedTupleIsFree
  refine wpAny_bind (wpAny_field hz rfl (x := .none) rfl (wpAny_pure ?_))
  simp only [if_true]
  refine wpAny_bind (wpAny_rule ?_)
  refine wpAny_bind (wpAny_field hz rfl (x := .ref TO) rfl ?_)
  refine wpAny_bind (wpAny_setField_rec hz (by simp) fun h₁ hz₁ hs₁ => ?_)
  replace hz₁ : IsZip h₁ z TI TO .ellipsis := hz₁
  refine wpAny_bind ?_
  simp only [List.zipIdx_cons, List.zipIdx_nil, List.forIn_cons, List.forIn_nil]
  refine wpAny_bind (wpAny_bind (wpAny_onRaise ?_))
  show wpAny _ _ (Builtin.SmallTypes.nextOf (.ref i1) >>= _) _ _ _
  refine wpAny_bind (nextOf_tuple_item (h1.at fun o e => hs₁.extBut _ _ D.i1z e) (hl1.at fun o e => hs₁.extBut _ _ D.l1z e) hx fun h₂ h1₂ hs₂ => wpAny_pure ?_)
  have hTO₂ : IsPair h₂ TO a b := hs₂.extBut _ _ D.TOi1 (hs₁.extBut _ _ D.TOz hTO)
  refine wpAny_bind (wpAny_seqItems hTO₂ rfl ?_)
  refine wpAny_bind (wpAny_updateSeq_pair hTO₂ fun h₃ hTO₃ hs₃ => ?_)
  refine wpAny_bind (wpAny_letGo (wpAny_pure ?_))
  refine wpAny_bind (wpAny_bind (wpAny_onRaise ?_))
  show wpAny _ _ (Builtin.SmallTypes.nextOf (.ref i2) >>= _) _ _ _
  obtain ⟨ex, ox, ws, a1, a2, a3, a4⟩ := H
  obtain ⟨n1, n2, n3, n4⟩ := hex ex a1
  have H₃ : HOk A.in1.in1 h₃ := ⟨ex, ox, ws, a1, hs₃.extBut _ _ n2 (hs₂.extBut _ _ n3 (hs₁.extBut _ _ n1 a2)), a3, a4⟩
  refine wpAny_bind (nextOf_tuple_end_h (s := { s with heap := h₃ }) H₃ (h2.at fun o e => hs₃.extBut _ _ D.TOi2.symm (hs₂.extBut _ _ D.i12.symm (hs₁.extBut _ _ D.i2z e)))
    (hl2.at fun o e => hs₃.extBut _ _ D.l2TO (hs₂.extBut _ _ D.l2i1 (hs₁.extBut _ _ D.l2z e))) hy fun h₄ e _ hs₄ he => ?_)
  obtain ⟨oe, hoe, hce⟩ := he
  have hz₄ : IsZip h₄ z TI TO .ellipsis := hs₄ _ _ D.i2z.symm (hs₃.extBut _ _ D.TOz.symm (hs₂.extBut _ _ D.i1z.symm hz₁))
  have hez : e ≠ z := fun x => by subst x; rw [hz₄] at hoe; cases hoe; simp at hce
  refine wpAny_setField_rec hz₄ (by simp) fun h₅ _ hs₅ => ?_
  refine wpAny_bind (wpAny_isInstance (T := "StopIteration") (b := true) ⟨oe, hs₅.extBut _ _ hez hoe, hce⟩ isSubtype_stop ?_)
  exact wpAny_pure (hQ _ fun c o c1 c2 c3 c4 x => hs₅.extBut _ _ c1 (hs₄ _ _ c4 (hs₃.extBut _ _ c2 (hs₂.extBut _ _ c3 (hs₁.extBut _ _ c1 x)))))
end
end Mine
end

section
namespace Mine

section
variable {prog : Program} {w : World} {A : Around} {E : Value → Shared → Prop} {s : Shared}

theorem assign_pair_h {env : Env} {elts : List Expr} {x1 : Nat} {pos : Pos} {t : Addr} {items : Array Value} {Q : Unit → Shared → Prop} (H : HOk A s.heap) (ht : s.heap.IsTuple t items)
    (hn : (assignEach elts env).length = items.size) (hstar : (assignEach elts env).findIdx? (·.1) = none)
    (h : ∀ h', Heap.ExtBut s.heap.objs.size s.heap h' → wpAny (model prog w) A (assignInOrder ((assignEach elts env).map (·.2)) items.toList) Q E { s with heap := h' }) :
    wpAny (model prog w) A (assign (.Tuple elts x1 pos) env (.ref t)) Q E s := by
  rw [arm_assign_Tuple]
  refine wpAny_bind (wpAny_standAt ?_)
  have hlt : t ≠ s.heap.objs.size := by obtain ⟨o, ho, _⟩ := ht; exact Nat.ne_of_lt (Heap.lt_size ho)
  unfold unpack
  rw [hn, hstar]
  refine wpAny_bind (wpAny_holding ?_)
  unfold unpackItems
  refine wpAny_bind ?_
  unfold notIterableAtAll
  refine wpAny_bind (wpAny_specialOf ht.typeIs F.slot_tuple_iter.lookup ?_)
  refine wpAny_pure ?_
  simp only [Bool.false_eq_true, if_false]
  refine wpAny_bind (wpAny_holding (wpAny_pyIter_tuple ht ?_))
  refine wpAny_bind (wpAny_holding (wpAny_draw_tuple hlt items.size 0 _ _ ⟨_, Heap.get?_push_size _ rfl, rfl, rfl⟩ (isTuple_push ht _) (by omega) fun h₁ hit₁ hs₁ => ?_))
  have hall : List.take items.size (List.drop 0 items.toList) = items.toList := by
    rw [List.drop_zero]; exact List.take_of_length_le (by simp)
  rw [hall]
  rw [if_neg (by simp)]
  have ht₁ : h₁.IsTuple t items := (isTuple_push ht _).at fun o e => hs₁.extBut _ _ hlt e
  have H₁ : HOk A h₁ := H.mono fun b o _ _ _ e => hs₁.extBut b o (Nat.ne_of_lt (Heap.lt_size e)) (Heap.get?_push_of_some _ e)
  refine wpAny_bind (wpAny_holding (pyNext_tuple_end_h (s := { s with heap := h₁ }) H₁ hit₁ ht₁ (by simp) fun h₂ he₂ => ?_))
  simp only [Option.isSome_none, Bool.false_eq_true, if_false]
  exact wpAny_pure (h h₂ fun b o hb e => he₂ b o hb (hs₁.extBut b o hb (Heap.get?_push_of_some _ e)))
end

section
variable {prog : Program} {w : World} {A : Around} {E : Value → Shared → Prop} {s : Shared} {env : Env} {h₀ : Heap} {body : List Stmt} {Q : Flow → Shared → Prop} {elts : List Expr} {k : Nat} {pos : Pos}

theorem zt_sub {n b D D1 x : Nat} (h : b = n + 4 ∨ b = n + 3 ∨ b = n ∨ b = n + 1) : b = n + 4 ∨ b = n + 2 ∨ b = n + 3 ∨ b = n ∨ b = n + 1 ∨ b = D ∨ b = D1 ∨ b = x := by omega
theorem zt_le {n b : Nat} (h : b = n + 4 ∨ b = n + 3 ∨ b = n ∨ b = n + 1) : n ≤ b := by omega
theorem zt_loc {n b D D1 x : Nat} (h : b = n + 4 ∨ b = n + 2 ∨ b = n + 3 ∨ b = n ∨ b = n + 1 ∨ b = D ∨ b = D1 ∨ b = x) (l : b < n) (a1 : D ≠ b) (a2 : D1 ≠ b) (a3 : x ≠ b) : False := by omega
theorem zt_old {n b D D1 x : Nat} (h : b = n + 4 ∨ b = n + 2 ∨ b = n + 3 ∨ b = n ∨ b = n + 1 ∨ b = D ∨ b = D1 ∨ b = x) (l : ¬ n ≤ b) : b = D ∨ b = D1 ∨ b = x := by omega
theorem zt_ne {n a b : Nat} (h : n ≤ a) (l : b < n) : a ≠ b := by omega

abbrev pairObj (u v : Value) : Obj := { cls := .type "tuple", data := .seq #[u, v] }

def TurnOn (Pe : Prop) (h₀ : Heap) (L : Addr) (s₁ : Shared) (keep : List (Addr × Obj)) (s₂ : Shared) : Prop := Pe ∧ ∃ h' tk m', s₂ = { s₁ with heap := h', toks := tk } ∧ Fr h₀ L h' m' ∧ News h₀ L h' keep

theorem zip_turns (Pe : Prop) {m : Str → Option Value} {news : List (Addr × Obj)} {x D D1 : Addr} {ox o1 o2 : Obj} {ws : Array Value} {u v y : Value}
    (F : Fr h₀ env.locals s.heap m) (N : News h₀ env.locals s.heap news) (hA : A.handled = some (.ref x)) (hx : (x, ox) ∈ news) (hxd : ox.data = .fields ws) (hx2 : ws[2]? = some .none)
    (hD : (D, o1) ∈ news) (h1 : o1.cls = .type "tuple") (h1d : ∃ n, o1.data = .seq #[u, v] n) (hD1 : (D1, o2) ∈ news) (h2 : o2.cls = .type "tuple") (h2d : ∃ n, o2.data = .seq #[y] n)
    (step : ∀ T h₁ tk₁ own, Fr h₀ env.locals h₁ m → News h₀ env.locals h₁ (own ++ news) → (∀ q ∈ own, ∀ p ∈ news, q.1 ≠ p.1) → h₁.IsTuple T #[u, y] → 
      wpAny (model prog w) A (assign (.Tuple elts k pos) env (.ref T)) (fun _ s₃ => wpAny (model prog w) A (execs body env)
        (fun f s₄ => match f with | .ret v => Q (.ret v) s₄ | .brk => Q .next s₄ | _ => TurnOn Pe h₀ env.locals s (own ++ news) s₄) E s₃) E { s with heap := h₁, toks := tk₁ })
    (done : ∀ h' tk m', Pe → Fr h₀ env.locals h' m' → News h₀ env.locals h' news → Q .next { s with heap := h', toks := tk }) :
    wpAny (model prog w) A (call (.type "zip") [.ref D, .ref D1]) (fun xv s₁ => wpAny (model prog w) A (pyIter xv) (fun it s₂ => TurnsAt prog w A h₀ env (.Tuple elts k pos) body Q E it s₂) E s₁) E s := by
  obtain ⟨n1, h1d⟩ := h1d
  obtain ⟨n2, h2d⟩ := h2d
  have t1 : s.heap.IsTuple D #[u, v] := ⟨o1, (N _ hD).1, h1, n1, h1d⟩
  have t2 : s.heap.IsTuple D1 #[y] := ⟨o2, (N _ hD1).1, h2, n2, h2d⟩
  have lt : ∀ p ∈ news, p.1 < s.heap.objs.size := fun p hp => Heap.lt_size (N p hp).1
  have lL : env.locals < s.heap.objs.size := F.ns.lt
  have l0 : ∀ b, s.heap.objs.size ≤ b → h₀.get? b = none := fun b hb => by
    cases q : h₀.get? b with
    | none => rfl
    | some o => exact absurd (Heap.lt_size (F.keep _ _ q)) (Nat.not_lt.mpr hb)
  refine call_zip_tups t1 t2 fun h' hz hTI hTO hi1 hi2 hk => ?_
  refine wpAny_pyIter_zip (s := { s with heap := h' }) hz ?_
  have dD := lt _ hD
  have dD1 := lt _ hD1
  have dx := lt _ hx
  generalize hn : s.heap.objs.size = n at *
  have dD : @LT.lt Nat _ D n := dD
  have dD1 : @LT.lt Nat _ D1 n := dD1
  have dx : @LT.lt Nat _ x n := dx
  have Z : ZipApart (n + 4) (n + 2) (n + 3) n (n + 1) D D1 := by constructor <;> k_ne
  have hxD : (x, ox) = (x, ox) := rfl
  let St : Nat → Heap → Prop := fun i h => IsZip h (n + 4) (n + 2) (n + 3) .none ∧ IsPair h (n + 2) (.ref n) (.ref (n + 1)) ∧ (∃ a b, IsPair h (n + 3) a b) ∧ h.IsTupleIter n D i ∧ h.IsTupleIter (n + 1) D1 i ∧ h.IsTuple D #[u, v] ∧ h.IsTuple D1 #[y] ∧ h.get? x = some ox
  let Md : Nat → Value → Heap → Prop := fun i vv h => ∃ T, vv = .ref T ∧ T ≠ n + 4 ∧ i = 0 ∧ IsZip h (n + 4) (n + 2) (n + 3) (rawInt T) ∧ IsPair h T u y ∧ IsPair h (n + 2) (.ref n) (.ref (n + 1)) ∧ (∃ a b, IsPair h (n + 3) a b) ∧ h.IsTupleIter n D 1 ∧ h.IsTupleIter (n + 1) D1 1 ∧ h.IsTuple D #[u, v] ∧ h.IsTuple D1 #[y] ∧ h.get? x = some ox
  let P : Nat → Value → Heap → Prop := fun i vv h => ∃ T, vv = .ref T ∧ IsPair h T u y
  have W : KTurns prog w A (.Tuple elts k pos) (n + 4) [n + 4, n + 2, n + 3, n, n + 1, D, D1, x] [n + 4, n + 3, n, n + 1] 1 P Md St := {
    sub := fun b hb => by
      simp only [List.mem_cons, List.not_mem_nil, or_false] at hb ⊢
      exact zt_sub hb
    frame := fun i h h'' hst hkk => by
      obtain ⟨a1, a2, ⟨a, b, a3⟩, a4, a5, a6, a7, a8⟩ := hst
      exact ⟨hkk _ (by simp) _ a1, hkk _ (by simp) _ a2, ⟨a, b, hkk _ (by simp) _ a3⟩, a4.at fun o e => hkk _ (by simp) _ e, a5.at fun o e => hkk _ (by simp) _ e, a6.at fun o e => hkk _ (by simp) _ e, a7.at fun o e => hkk _ (by simp) _ e, hkk _ (by simp) _ a8⟩
    item := fun i s₁ Q₁ E₁ hi hst hq => by
      obtain rfl : i = 0 := by omega
      obtain ⟨a1, a2, ⟨a, b, a3⟩, a4, a5, a6, a7, a8⟩ := hst
      have hT : s₁.heap.objs.size ≠ n + 4 := Nat.ne_of_gt (Heap.lt_size a1)
      refine zipT_item Z a1 a2 a3 a4 a5 a6 a7 (x := u) (y := y) rfl rfl fun h2 b1 b2 b3 b4 b5 b6 => ?_
      have nin : ∀ c, c ∉ [n + 4, n + 3, n, n + 1] → c ≠ n + 4 ∧ c ≠ n + 3 ∧ c ≠ n ∧ c ≠ n + 1 := fun c hc => by
        simp only [List.mem_cons, List.not_mem_nil, or_false, not_or] at hc; exact hc
      exact hq (.ref s₁.heap.objs.size) h2 s₁.toks ⟨_, rfl, hT, rfl, b1, b5, b6 _ _ (by k_ne) (by k_ne) (by k_ne) (by k_ne) a2, ⟨_, _, b2⟩, b3, b4,
        a6.at fun o e => b6 _ _ (by k_ne) (by k_ne) (by k_ne) (by k_ne) e, a7.at fun o e => b6 _ _ (by k_ne) (by k_ne) (by k_ne) (by k_ne) e, b6 _ _ (by k_ne) (by k_ne) (by k_ne) (by k_ne) a8⟩
        fun c o hc e => let ⟨q1, q2, q3, q4⟩ := nin c hc; b6 c o q1 q2 q3 q4 e
    go := fun i vv s₁ Q₁ E₁ hm hq => by
      obtain ⟨T, rfl, hT, rfl, b1, b5, a2, ⟨a, b, a3⟩, a4, a5, a6, a7, a8⟩ := hm
      refine wpAny_letOwnedTupleGo_zip b1 fun h2 hz2 hs2 => ?_
      exact hq h2 ⟨T, rfl, hs2.extBut _ _ hT b5⟩ ⟨hz2, hs2.extBut _ _ (by k_ne) a2, ⟨a, b, hs2.extBut _ _ (by k_ne) a3⟩, a4.at fun o e => hs2.extBut _ _ (by k_ne) e, a5.at fun o e => hs2.extBut _ _ (by k_ne) e,
        a6.at fun o e => hs2.extBut _ _ (by k_ne) e, a7.at fun o e => hs2.extBut _ _ (by k_ne) e, hs2.extBut _ _ (by k_ne) a8⟩ fun c o hc e => hs2.extBut _ _ (fun q => hc (by rw [q]; simp)) e
    done := fun s₁ Q₁ E₁ hst hq => by
      obtain ⟨a1, a2, ⟨a, b, a3⟩, a4, a5, a6, a7, a8⟩ := hst
      have nin : ∀ c, c ∉ [n + 4, n + 3, n, n + 1] → c ≠ n + 4 ∧ c ≠ n + 3 ∧ c ≠ n ∧ c ≠ n + 1 := fun c hc => by
        simp only [List.mem_cons, List.not_mem_nil, or_false, not_or] at hc; exact hc
      refine zipT_end (x := v) ⟨x, ox, ws, hA, a8, hxd, hx2⟩ Z a1 a2 a3 a4 a5 a6 a7 rfl rfl (fun q hq' => ?_) fun h2 b6 => hq h2 s₁.toks fun c o hc e => let ⟨q1, q2, q3, q4⟩ := nin c hc; b6 c o q1 q2 q3 q4 e
      rw [hA] at hq'; cases hq'
      refine ⟨?_, ?_, ?_, ?_⟩ <;> k_ne }
  have wrn : ∀ b ∈ [n + 4, n + 3, n, n + 1], n ≤ b := fun b hb => by
    simp only [List.mem_cons, List.not_mem_nil, or_false] at hb; exact zt_le hb
  refine ⟨n + 4, _, _, 1, P, Md, St, m, news, (fun i m' nx => nx = news ∧ (i = 0 → m' = m) ∧ (i = 1 → Pe)), rfl, W, ?_, fun b hb => l0 b (wrn b hb), fun p hp hb => ?_, ?_, F.after hk, fun p hp => ⟨hk _ _ (N p hp).1, (N p hp).2⟩, ⟨rfl, fun _ => rfl, fun q => by cases q⟩, ?_, ?_⟩
  · intro hm
    simp only [List.mem_cons, List.not_mem_nil, or_false] at hm
    have q1 := (N _ hD).2.1
    have q2 := (N _ hD1).2.1
    have q3 := (N _ hx).2.1
    exact zt_loc hm lL q1 q2 q3
  · exact zt_ne (wrn _ hb) (lt p hp) rfl
  · exact ⟨hz, hTI, ⟨_, _, hTO⟩, hi1, hi2, t1.at fun o e => hk _ _ e, t2.at fun o e => hk _ _ e, hk _ _ (N _ hx).1⟩
  · rintro i vv m₁ nx h₁ tk₁ own hi ⟨T, rfl, hT⟩ ⟨rfl, hm, _⟩ hnw hown hget hall hst F₁ N₁
    obtain rfl : i = 0 := by omega
    obtain rfl := hm rfl
    have own2 : ∀ q ∈ own.filter (fun q => decide (n ≤ q.1)), ∀ p ∈ nx, q.1 ≠ p.1 := fun q hq p hp e => by
      have h3 := (List.mem_filter.mp hq).2
      have h4 := lt p hp
      simp only [decide_eq_true_eq] at h3
      exact zt_ne h3 h4 e
    have N₂ : News h₀ env.locals h₁ (own.filter (fun q => decide (n ≤ q.1)) ++ nx) := fun p hp => N₁ p ((List.mem_append.mp hp).elim (fun q => List.mem_append_left _ (List.mem_filter.mp q).1) fun q => List.mem_append_right _ q)
    refine wpAny_mono (step T h₁ tk₁ _ F₁ N₂ own2 ⟨_, hT, rfl, 0, rfl⟩) (fun _ s₃ h₃ => wpAny_mono h₃ (fun f s₄ h₄ => ?_) fun _ _ e => e) fun _ _ e => e
    have back : TurnOn Pe h₀ env.locals s (own.filter (fun q => decide (n ≤ q.1)) ++ nx) s₄ → LoopStepU h₀ env.locals [n + 4, n + 3, n, n + 1] own (fun m' nx' => nx' = nx ∧ (0 + 1 = 0 → m' = m₁) ∧ (0 + 1 = 1 → Pe)) { s with heap := h₁, toks := tk₁ } .next s₄ := by
      rintro ⟨hpe, h2, tk2, m2, rfl, F2, N2⟩
      refine ⟨rfl, h2, tk2, m2, nx, rfl, F2, fun p hp => ?_, hnw, rfl, (fun q => by cases q), fun _ => hpe⟩
      rcases List.mem_append.mp hp with hp | hp
      · by_cases hle : n ≤ p.1
        · exact N2 p (List.mem_append_left _ (List.mem_filter.mpr ⟨hp, by simpa using hle⟩))
        · -- one of the ledger's own: it stands there too
          have hfp := hown p hp
          have hg := hget p hp
          have h5 : p.1 = D ∨ p.1 = D1 ∨ p.1 = x := by
            simp only [List.mem_cons, List.not_mem_nil, or_false] at hfp; exact zt_old hfp hle
          have h6 : p ∈ nx := by
            rcases h5 with h5 | h5 | h5
            · have := (N₁ (D, o1) (List.mem_append_right _ hD)).1; rw [h5] at hg; rw [this] at hg; cases hg; rw [show p = (D, p.2) from by rw [← h5]]; exact hD
            · have := (N₁ (D1, o2) (List.mem_append_right _ hD1)).1; rw [h5] at hg; rw [this] at hg; cases hg; rw [show p = (D1, p.2) from by rw [← h5]]; exact hD1
            · have := (N₁ (x, ox) (List.mem_append_right _ hx)).1; rw [h5] at hg; rw [this] at hg; cases hg; rw [show p = (x, p.2) from by rw [← h5]]; exact hx
          exact N2 p (List.mem_append_right _ h6)
      · exact N2 p (List.mem_append_right _ hp)
    cases f with
    | ret v => exact h₄
    | brk => exact h₄
    | next => exact .next (back h₄)
    | cont => exact .cont (back h₄)
  · rintro h'' tk m' nx F' N' _ ⟨rfl, _, hpe⟩
    exact done h'' tk m' (hpe rfl) F' N'
end
end Mine
end

section
namespace Mine

def SK (h h' : Heap) : Prop := ∀ b o, h.get? b = some o → (∃ its n, o.data = .seq its n) → h'.get? b = some o
theorem SK.refl (h : Heap) : SK h h := fun _ _ e _ => e
theorem SK.trans {h h₁ h₂ : Heap} (x : SK h h₁) (y : SK h₁ h₂) : SK h h₂ := fun b o e d => y b o (x b o e d) d
theorem SK.of_keeps {h h' : Heap} (k : ∀ b o, h.get? b = some o → h'.get? b = some o) : SK h h' := fun b o e _ => k b o e
theorem SK.of_turn {fs : List Addr} {g g' : Heap} (D : KtsDicts fs g) (T : KtsTurn fs g g') : SK g g' := fun b o e ⟨its, n, hd⟩ => T.other b o e fun hm => by
  obtain ⟨o', es, n', ho, hd'⟩ := D b hm
  rw [e] at ho; cases ho; rw [hd] at hd'; cases hd'
theorem SK.of_turnTo {outer : List Env} {h h' : Heap} (D : KtsDicts (fAdr outer) h) (T : TurnTo outer h h') : SK h h' := fun b o e ⟨its, n, hd⟩ => T.1 b o e fun hm => by
  obtain ⟨o', es, n', ho, hd'⟩ := D b hm
  rw [e] at ho; cases ho; rw [hd] at hd'; cases hd'
theorem SK.list {h h' : Heap} (k : SK h h') {a : Addr} {its : Array Value} (x : h.IsList a its) : h'.IsList a its := let ⟨o, ho, hc, n, hd⟩ := x; ⟨o, k a o ho ⟨its, n, hd⟩, hc, n, hd⟩
theorem SK.tup {h h' : Heap} (k : SK h h') {a : Addr} {its : Array Value} (x : h.IsTuple a its) : h'.IsTuple a its := let ⟨o, ho, hc, n, hd⟩ := x; ⟨o, k a o ho ⟨its, n, hd⟩, hc, n, hd⟩

def Each {α : Type} (P : Value → α → Prop) (vs : List Value) (xs : List α) : Prop := vs.length = xs.length ∧ ∀ (i : Nat) v x, vs[i]? = some v → xs[i]? = some x → P v x
theorem Each.mono {α : Type} {P P' : Value → α → Prop} {vs : List Value} {xs : List α} (h : Each P vs xs) (f : ∀ v x, P v x → P' v x) : Each P' vs xs := ⟨h.1, fun i v x a b => f _ _ (h.2 i v x a b)⟩

def LsIs {α : Type} (It : Heap → Value → α → Prop) (h : Heap) (a : Addr) (xs : List α) : Prop := ∃ vs : List Value, h.IsList a vs.toArray ∧ Each (It h) vs xs

structure Items (prog : Program) (w : World) (α : Type) [DecidableEq α] where
  It : Heap → Value → α → Prop
  sk : ∀ {h h' v x}, SK h h' → It h v x → It h' v x
  ne : ∀ {A : Around} {E Q : Value → Shared → Prop} {s : Shared} {a b : Addr} {xs ys : List α}, A.units + 70 < cLine → LsIs It s.heap a xs → LsIs It s.heap b ys → Q (.bool (!decide (xs = ys))) s → wpAny (model prog w) A (compareOp .NotEq (.ref a) (.ref b)) Q E s

theorem LsIs.sk {prog : Program} {w : World} {α : Type} [DecidableEq α] (R : Items prog w α) {h h' : Heap} {a : Addr} {xs : List α} (k : SK h h') (x : LsIs R.It h a xs) : LsIs R.It h' a xs :=
  let ⟨vs, h1, h2⟩ := x; ⟨vs, k.list h1, h2.mono fun _ _ => R.sk k⟩

theorem ext_keeps {h h' : Heap} (hk : Heap.ExtBut h.objs.size h h') : ∀ b o, h.get? b = some o → h'.get? b = some o := fun b o e => hk b o (Nat.ne_of_lt (Heap.lt_size e)) e

theorem setRaise_N {prog : Program} {w : World} {A : Around} {E : Value → Shared → Prop} {s : Shared} {h₀ : Heap} {L : Addr} {m : Str → Option Value} {news : List (Addr × Obj)} {D a : Addr} {v : Value} {items : Array Value} {Q : Value → Shared → Prop} (_F : Fr h₀ L s.heap m) (N : News h₀ L s.heap news) (hh : A.handled = none) (hu : A.units + 8 < cLine)
    (ht : (D, ({ cls := .type "tuple", data := .seq #[.ref a, v] } : Obj)) ∈ news) (hl : s.heap.IsList a items)
    (h : ∀ h' tk e, (∀ b o, s.heap.get? b = some o → h'.get? b = some o) → s.heap.get? e = none → 
      (∃ ob t, h'.get? e = some ob ∧ ob.cls = .type "TypeError" ∧ ob.data = .fields #[t, .none, .none, .none, .bool false, .none]) → E (.ref e) { s with heap := h', toks := tk }) :
    wpAny (model prog w) A (call (.type "set") [.ref D]) Q E s :=
  set_list_raises hh hu ⟨_, (N _ ht).1, rfl, 0, rfl⟩ hl h

theorem tup_slice1 {prog : Program} {w : World} {A : Around} {E : Value → Shared → Prop} {s : Shared} {h₀ : Heap} {L : Addr} {m : Str → Option Value} {news : List (Addr × Obj)} {value slice : PySem.Expr} {t : Addr} {u v : Value} {tk : Tok} {Q : Value → Shared → Prop}
    (F : Fr h₀ L s.heap m) (N : News h₀ L s.heap news) (ht : (t, ({ cls := .type "tuple", data := .seq #[u, v] } : Obj)) ∈ news)
    (h : ∀ D h', Fr h₀ L h' m → News h₀ L h' ((D, ({ cls := .type "tuple", data := .seq #[v] } : Obj)) :: news) → (∀ p ∈ news, p.1 < D) → Q (.ref D) { s with heap := h' })
    (hs : subscripted slice false (.ref t) (.ref s.heap.objs.size) = operate [.ref s.heap.objs.size, .ref t] (getItem (.ref t) (.ref s.heap.objs.size)) := by with_unfolding_all rfl)
    (hg : ∀ r, letTemporaryGo value (.ref t) r = pure () := by intro _; with_unfolding_all rfl) :
    wpAny (model prog w) A (subscriptTail value slice (.ref t) (.ref s.heap.objs.size)) Q E { s with heap := s.heap.push { cls := .type "slice", data := .fields #[.int (1 : Nat) tk, .none, .none] } } :=
  slice_tuple_from (items := #[u, v]) F N ⟨_, (N _ ht).1, rfl, 0, rfl⟩ (Nat.le_refl 1) (Nat.le_succ 1) (fun h' F' N' => h _ h' F' N' fun p hp => Nat.lt_succ_of_lt (Heap.lt_size (N p hp).1)) hs hg
end Mine
end

section
namespace Mine

structure RowsK (prog : Program) (w : World) (α : Type) [DecidableEq α] where
  It : Heap → Value → α → Prop
  Row : Heap → Value → List α → Prop
  skI : ∀ {h h' v x}, SK h h' → It h v x → It h' v x
  skR : ∀ {h h' v xs}, SK h h' → Row h v xs → Row h' v xs
  small : ∀ {h v xs}, Row h v xs → xs.length < 1000
  len_ : ∀ {A : Around} {E Q : Value → Shared → Prop} {s : Shared} {v : Value} {xs : List α}, Row s.heap v xs → (∀ t tk, Q (.int xs.length t) { s with toks := tk }) → wpAny (model prog w) A (call (.builtin "len") [v]) Q E s
  item : ∀ {A : Around} {E Q : Value → Shared → Prop} {s : Shared} {v : Value} {xs : List α} {i : Int} {t : Tok} {nx nn : Str} {p1 p2 p3 p4 : Pos} {kk : Nat}, Row s.heap v xs → 0 ≤ i → i < xs.length →
    (∀ u tk, (∀ x, xs[i.toNat]? = some x → It s.heap u x) → Q u { s with toks := tk }) →
    wpAny (model prog w) A (subscriptTail (.Name nx p1) (.BinOp (.Name nn p2) .Sub (.Constant (.int 1) kk p3) p4) v (.int i t)) Q E s
end Mine
end

section
namespace Mine

section
variable {prog : Program} {w : World} {A : Around} {E : Value → Shared → Prop} {s : Shared} {env : Env} {h₀ : Heap} {x : Str} {body : List Stmt} {Q : Flow → Shared → Prop} {σ : Type}

def On (Led : σ → List (Addr × Obj)) (ps : σ → List (Str × Value)) (Facts : σ → Prop) (x : Str) (stored : List Str) (m₀ : Str → Option Value) (h₀ : Heap) (L : Addr) (s₁ : Shared) (I : Addr × Obj) (s₂ : Shared) : Prop :=
  ∃ (c : σ) (h' : Heap) (tk : Nat) (m' : Str → Option Value) (news' : List (Addr × Obj)), s₂ = { s₁ with heap := h', toks := tk } ∧ Fr h₀ L h' m' ∧ News h₀ L h' news' ∧ (I ∈ news') ∧ (∀ p ∈ Led c, p ∈ news') ∧ (∀ p ∈ Led c, p.1 ≠ I.1) ∧ Facts c ∧
    (∀ p ∈ ps c, m' p.1 = some p.2) ∧ (∀ z, z ≠ x → (∀ p ∈ ps c, z ≠ p.1) → stored.contains z = false → m' z = m₀ z)
def OnPost (Led : σ → List (Addr × Obj)) (ps : σ → List (Str × Value)) (Facts : σ → Prop) (x : Str) (stored : List Str) (m₀ : Str → Option Value) (h₀ : Heap) (L : Addr) (s₁ : Shared) (I : Addr × Obj) (Q : Flow → Shared → Prop) (f : Flow) (s₂ : Shared) : Prop :=
  match f with
  | .ret v => Q (.ret v) s₂
  | .brk => Q .next s₂
  | _ => On Led ps Facts x stored m₀ h₀ L s₁ I s₂

theorem range_loop (Led : σ → List (Addr × Obj)) (ps : σ → List (Str × Value)) (Facts : Nat → σ → Prop) (stored : List Str) {r : Addr} {a₀ b₀ : Int} {t₀ u₀ v₀ : Tok} {n : Nat} {m₀ : Str → Option Value} (c₀ : σ)
    (hh : A.handled = none) (hr : IsRange s.heap r a₀ b₀ 1 t₀ u₀ v₀) (hsmall : Builtin.Range.small a₀ b₀ 1 = true) (hn : Builtin.Range.rangeSize a₀ b₀ 1 = (n : Int)) (F : Fr h₀ env.locals s.heap m₀) (N : News h₀ env.locals s.heap (Led c₀)) (hf : Facts 0 c₀) (hk : ∀ p ∈ ps c₀, m₀ p.1 = some p.2)
    (turn : ∀ (c : σ) (i : Nat) t (u : Str → Option Value) I io h tk, i < n → Facts i c →
      Fr h₀ env.locals h (fun y => if y = x then some (.int (a₀ + i) t) else kstB (fun z => if stored.contains z then u z else m₀ z) (ps c) y) → News h₀ env.locals h ((I, io) :: Led c) → (∀ p ∈ Led c, p.1 ≠ I) →
      wpAny (model prog w) A (execs body env) (OnPost Led ps (Facts (i + 1)) x stored m₀ h₀ env.locals { s with heap := h, toks := tk } (I, io) Q) E { s with heap := h, toks := tk })
    (done : ∀ (c : σ) (u : Str → Option Value) h tk, Facts n c → Fr h₀ env.locals h (fun y => if y = x then u y else kstB (fun z => if stored.contains z then u z else m₀ z) (ps c) y) → News h₀ env.locals h (Led c) → Q .next { s with heap := h, toks := tk }) :
    wpAny (model prog w) A (pyIter (.ref r)) (fun it s₂ => LoopAtV prog w A h₀ env x body Q E it s₂) E s := by
  refine wpAny_pyIter_range hr hsmall ?_
  have W : Walks prog w A s.heap.objs.size [s.heap.objs.size] [s.heap.objs.size] n (fun i v => i < n ∧ ∃ t, v = .int (a₀ + i * 1) t)
      (fun i h => IsRangeIter h s.heap.objs.size (a₀ + (i : Nat) * 1) ((n : Int) - (i : Nat)) 1) := (Walks.range hh _ a₀ 1 n).bound
  refine ⟨_, _, _, n, _, _, m₀, Led c₀, (fun i m nx => ∃ c : σ, nx = Led c ∧ Facts i c ∧ (∀ p ∈ ps c, m p.1 = some p.2) ∧ (∀ z, z ≠ x → (∀ p ∈ ps c, z ≠ p.1) → stored.contains z = false → m z = m₀ z)), rfl, W, ?_, ?_, ?_, ?_, F.push _, (fun p hp => ⟨Heap.get?_push_of_some _ (N p hp).1, (N p hp).2⟩), ⟨c₀, rfl, hf, hk, fun _ _ _ _ => rfl⟩, ?_, ?_⟩
  · intro hm
    exact absurd F.ns.lt ((List.mem_singleton.mp hm) ▸ Nat.lt_irrefl _)
  · intro b hb
    rw [List.mem_singleton.mp hb]
    exact next_is_new F
  · intro p hp hI
    exact absurd (Heap.lt_size (N p hp).1) ((List.mem_singleton.mp hI) ▸ Nat.lt_irrefl _)
  · show IsRangeIter _ _ _ _ _
    rw [hn]
    simpa using Heap.get?_push_size _ rfl
  · rintro i v m₁ nx s₁ own ⟨hp, tk₁, rfl⟩ hin ⟨_, t, rfl⟩ ⟨c, rfl, hf', h1, h2⟩ hoff hown hget hall hst F₁ N₁
    have e1 : a₀ + (i : Int) * 1 = a₀ + (i : Int) := by omega
    rw [e1] at F₁
    obtain ⟨io, hio⟩ : ∃ io, hp.get? s.heap.objs.size = some io := ⟨_, hst⟩
    have hI : (s.heap.objs.size, io) ∈ own := hall _ (List.mem_singleton.mpr rfl) (next_is_new F) _ hio
    refine wpAny_mono (turn c i t m₁ s.heap.objs.size io hp tk₁ hin hf' (kst_fr h1 h2 F₁) (fun p hp' => ?_) (fun p hp' q => hoff p hp' (List.mem_singleton.mpr q))) (fun f s₂ p => ?_) fun _ _ e => e
    · rcases List.mem_cons.mp hp' with rfl | hp'
      · exact N₁ _ (List.mem_append_left _ hI)
      · exact N₁ _ (List.mem_append_right _ hp')
    · have fin : On Led ps (Facts (i + 1)) x stored m₀ h₀ env.locals { s with heap := hp, toks := tk₁ } (s.heap.objs.size, io) s₂ → LoopStepU h₀ env.locals [s.heap.objs.size] own (fun m nx => ∃ c : σ, nx = Led c ∧ Facts (i + 1) c ∧ (∀ p ∈ ps c, m p.1 = some p.2) ∧ (∀ z, z ≠ x → (∀ p ∈ ps c, z ≠ p.1) → stored.contains z = false → m z = m₀ z)) { s with heap := hp, toks := tk₁ } .next s₂ := by
        rintro ⟨c', h', tk', m', news', e, F', N', hi, hl, hne, hf2, hp2, hs2⟩
        refine ⟨rfl, h', tk', m', Led c', e, F', fun p hp' => ?_, fun p hp' q => hne p hp' (List.mem_singleton.mp q), c', rfl, hf2, hp2, hs2⟩
        rcases List.mem_append.mp hp' with hp' | hp'
        · have e2 := List.mem_singleton.mp (hown p hp')
          have e3 := hget p hp'
          have e4 := hget _ hI
          rw [e2] at e3
          dsimp only at e4
          rw [e3] at e4
          have e5 := Option.some.inj e4
          have e6 : p = (s.heap.objs.size, p.2) := by rw [← e2]
          rw [e6, e5]
          exact N' _ hi
        · exact N' p (hl p hp')
      cases f with
      | ret v => exact .ret p
      | brk => exact .brk p
      | next => exact .next (fin p)
      | cont => exact .cont (fin p)
  · rintro h' tk m' news' F' N' _ ⟨c, rfl, hf', h1, h2⟩
    exact done c m' h' tk hf' (kst_frOut h1 h2 F') N'

theorem On.intro {Led : σ → List (Addr × Obj)} {ps : σ → List (Str × Value)} {Facts : σ → Prop} {stored : List Str} {m₀ : Str → Option Value} {L : Addr} {s₁ : Shared} {I : Addr × Obj} (c : σ) {h' : Heap} {tk : Nat} {m' : Str → Option Value} {news' : List (Addr × Obj)} (F : Fr h₀ L h' m') (N : News h₀ L h' news') (hi : I ∈ news') (hl : ∀ p ∈ Led c, p ∈ news') (hne : ∀ p ∈ Led c, p.1 ≠ I.1) (hf : Facts c)
    (hp : ∀ p ∈ ps c, m' p.1 = some p.2) (hs : ∀ z, z ≠ x → (∀ p ∈ ps c, z ≠ p.1) → stored.contains z = false → m' z = m₀ z) : On Led ps Facts x stored m₀ h₀ L s₁ I { s₁ with heap := h', toks := tk } :=
  ⟨c, h', tk, m', news', rfl, F, N, hi, hl, hne, hf, hp, hs⟩
end
end Mine
end

section
namespace Mine

section
variable {prog : Program} {w : World} {A : Around} {E : Value → Shared → Prop} {s : Shared} {env : Env} {h₀ : Heap} {x : Str} {body : List Stmt} {Q : Flow → Shared → Prop} {σ : Type}
theorem range_loop_c (Led : σ → List (Addr × Obj)) (ps : σ → List (Str × Value)) (Facts : Nat → σ → Prop) (stored : List Str) {r : Addr} {a₀ b₀ cc : Int} {t₀ u₀ v₀ : Tok} {n : Nat} {m₀ : Str → Option Value} (c₀ : σ)
    (hh : A.handled = none) (hr : IsRange s.heap r a₀ b₀ cc t₀ u₀ v₀) (hsmall : Builtin.Range.small a₀ b₀ cc = true) (hn : Builtin.Range.rangeSize a₀ b₀ cc = (n : Int)) (F : Fr h₀ env.locals s.heap m₀) (N : News h₀ env.locals s.heap (Led c₀)) (hf : Facts 0 c₀) (hk : ∀ p ∈ ps c₀, m₀ p.1 = some p.2)
    (turn : ∀ (c : σ) (i : Nat) t (u : Str → Option Value) I io h tk, i < n → Facts i c →
      Fr h₀ env.locals h (fun y => if y = x then some (.int (a₀ + i * cc) t) else kstB (fun z => if stored.contains z then u z else m₀ z) (ps c) y) → News h₀ env.locals h ((I, io) :: Led c) → (∀ p ∈ Led c, p.1 ≠ I) →
      wpAny (model prog w) A (execs body env) (OnPost Led ps (Facts (i + 1)) x stored m₀ h₀ env.locals { s with heap := h, toks := tk } (I, io) Q) E { s with heap := h, toks := tk })
    (done : ∀ (c : σ) (u : Str → Option Value) h tk, Facts n c → Fr h₀ env.locals h (fun y => if y = x then u y else kstB (fun z => if stored.contains z then u z else m₀ z) (ps c) y) → News h₀ env.locals h (Led c) → Q .next { s with heap := h, toks := tk }) :
    wpAny (model prog w) A (pyIter (.ref r)) (fun it s₂ => LoopAtV prog w A h₀ env x body Q E it s₂) E s := by
  refine wpAny_pyIter_range hr hsmall ?_
  have W : Walks prog w A s.heap.objs.size [s.heap.objs.size] [s.heap.objs.size] n (fun i v => i < n ∧ ∃ t, v = .int (a₀ + i * cc) t)
      (fun i h => IsRangeIter h s.heap.objs.size (a₀ + (i : Nat) * cc) ((n : Int) - (i : Nat)) cc) := (Walks.range hh _ a₀ cc n).bound
  refine ⟨_, _, _, n, _, _, m₀, Led c₀, (fun i m nx => ∃ c : σ, nx = Led c ∧ Facts i c ∧ (∀ p ∈ ps c, m p.1 = some p.2) ∧ (∀ z, z ≠ x → (∀ p ∈ ps c, z ≠ p.1) → stored.contains z = false → m z = m₀ z)), rfl, W, ?_, ?_, ?_, ?_, F.push _, (fun p hp => ⟨Heap.get?_push_of_some _ (N p hp).1, (N p hp).2⟩), ⟨c₀, rfl, hf, hk, fun _ _ _ _ => rfl⟩, ?_, ?_⟩
  · intro hm
    exact absurd F.ns.lt ((List.mem_singleton.mp hm) ▸ Nat.lt_irrefl _)
  · intro b hb
    rw [List.mem_singleton.mp hb]
    exact next_is_new F
  · intro p hp hI
    exact absurd (Heap.lt_size (N p hp).1) ((List.mem_singleton.mp hI) ▸ Nat.lt_irrefl _)
  · show IsRangeIter _ _ _ _ _
    rw [hn]
    simpa using Heap.get?_push_size _ rfl
  · rintro i v m₁ nx s₁ own ⟨hp, tk₁, rfl⟩ hin ⟨_, t, rfl⟩ ⟨c, rfl, hf', h1, h2⟩ hoff hown hget hall hst F₁ N₁
    obtain ⟨io, hio⟩ : ∃ io, hp.get? s.heap.objs.size = some io := ⟨_, hst⟩
    have hI : (s.heap.objs.size, io) ∈ own := hall _ (List.mem_singleton.mpr rfl) (next_is_new F) _ hio
    refine wpAny_mono (turn c i t m₁ s.heap.objs.size io hp tk₁ hin hf' (kst_fr h1 h2 F₁) (fun p hp' => ?_) (fun p hp' q => hoff p hp' (List.mem_singleton.mpr q))) (fun f s₂ p => ?_) fun _ _ e => e
    · rcases List.mem_cons.mp hp' with rfl | hp'
      · exact N₁ _ (List.mem_append_left _ hI)
      · exact N₁ _ (List.mem_append_right _ hp')
    · have fin : On Led ps (Facts (i + 1)) x stored m₀ h₀ env.locals { s with heap := hp, toks := tk₁ } (s.heap.objs.size, io) s₂ → LoopStepU h₀ env.locals [s.heap.objs.size] own (fun m nx => ∃ c : σ, nx = Led c ∧ Facts (i + 1) c ∧ (∀ p ∈ ps c, m p.1 = some p.2) ∧ (∀ z, z ≠ x → (∀ p ∈ ps c, z ≠ p.1) → stored.contains z = false → m z = m₀ z)) { s with heap := hp, toks := tk₁ } .next s₂ := by
        rintro ⟨c', h', tk', m', news', e, F', N', hi, hl, hne, hf2, hp2, hs2⟩
        refine ⟨rfl, h', tk', m', Led c', e, F', fun p hp' => ?_, fun p hp' q => hne p hp' (List.mem_singleton.mp q), c', rfl, hf2, hp2, hs2⟩
        rcases List.mem_append.mp hp' with hp' | hp'
        · have e2 := List.mem_singleton.mp (hown p hp')
          have e3 := hget p hp'
          have e4 := hget _ hI
          rw [e2] at e3
          dsimp only at e4
          rw [e3] at e4
          have e5 := Option.some.inj e4
          have e6 : p = (s.heap.objs.size, p.2) := by rw [← e2]
          rw [e6, e5]
          exact N' _ hi
        · exact N' p (hl p hp')
      cases f with
      | ret v => exact .ret p
      | brk => exact .brk p
      | next => exact .next (fin p)
      | cont => exact .cont (fin p)
  · rintro h' tk m' news' F' N' _ ⟨c, rfl, hf', h1, h2⟩
    exact done c m' h' tk hf' (kst_frOut h1 h2 F') N'

end
end Mine
end

section
namespace Mine

section
variable {prog : Program} {w : World} {A : Around} {E : Value → Shared → Prop} {s : Shared} {env : Env} {h₀ : Heap} {x : Str} {body : List Stmt} {Q : Flow → Shared → Prop} {σ : Type}

theorem it_loop (Led : σ → List (Addr × Obj)) (ps : σ → List (Str × Value)) (Facts : Nat → σ → Prop) (stored : List Str) {I : Addr} {fp : List Addr} {n : Nat} {P : Nat → Value → Prop} {St : Nat → Heap → Prop} {m₀ : Str → Option Value} (c₀ : σ)
    (W : Walks prog w A I fp [I] n P St) (hL : env.locals ∉ fp) (hI0 : h₀.get? I = none) (hLI : I ≠ env.locals) (hfp : ∀ b ∈ fp, b = I ∨ ∃ o, ∀ c, (b, o) ∈ Led c) (hIo : ∀ i h, St i h → ∃ o, h.get? I = some o) (hst : St 0 s.heap)
    (F : Fr h₀ env.locals s.heap m₀) (N : News h₀ env.locals s.heap (Led c₀)) (hne : ∀ p ∈ Led c₀, p.1 ≠ I) (hf : Facts 0 c₀) (hk : ∀ p ∈ ps c₀, m₀ p.1 = some p.2)
    (turn : ∀ (c : σ) (i : Nat) v (u : Str → Option Value) io h tk, i < n → Facts i c → P i v →
      Fr h₀ env.locals h (fun y => if y = x then some v else kstB (fun z => if stored.contains z then u z else m₀ z) (ps c) y) → News h₀ env.locals h ((I, io) :: Led c) → (∀ p ∈ Led c, p.1 ≠ I) →
      wpAny (model prog w) A (execs body env) (OnPost Led ps (Facts (i + 1)) x stored m₀ h₀ env.locals { s with heap := h, toks := tk } (I, io) Q) E { s with heap := h, toks := tk })
    (done : ∀ (c : σ) (u : Str → Option Value) h tk, Facts n c → Fr h₀ env.locals h (fun y => if y = x then u y else kstB (fun z => if stored.contains z then u z else m₀ z) (ps c) y) → News h₀ env.locals h (Led c) → Q .next { s with heap := h, toks := tk }) :
    LoopAtV prog w A h₀ env x body Q E (.ref I) s := by
  have hIf : I ∈ fp := W.sub I (List.mem_singleton.mpr rfl)
  refine ⟨_, _, _, n, _, _, m₀, Led c₀, (fun i m nx => ∃ c : σ, nx = Led c ∧ Facts i c ∧ (∀ p ∈ ps c, m p.1 = some p.2) ∧ (∀ z, z ≠ x → (∀ p ∈ ps c, z ≠ p.1) → stored.contains z = false → m z = m₀ z)), rfl, W, hL, ?_, ?_, hst, F, N, ⟨c₀, rfl, hf, hk, fun _ _ _ _ => rfl⟩, ?_, ?_⟩
  · intro b hb
    rw [List.mem_singleton.mp hb]
    exact hI0
  · intro p hp hm
    exact hne p hp (List.mem_singleton.mp hm)
  · rintro i v m₁ nx s₁ own ⟨hp, tk₁, rfl⟩ hin hPv ⟨c, rfl, hf', h1, h2⟩ hoff hown hget hall hst F₁ N₁
    obtain ⟨io, hio⟩ := hIo _ _ hst
    have hI : (I, io) ∈ own := hall _ hIf hI0 _ hio
    refine wpAny_mono (turn c i v m₁ io hp tk₁ hin hf' hPv (kst_fr h1 h2 F₁) (fun p hp' => ?_) (fun p hp' q => hoff p hp' (List.mem_singleton.mpr q))) (fun f s₂ p => ?_) fun _ _ e => e
    · rcases List.mem_cons.mp hp' with rfl | hp'
      · exact N₁ _ (List.mem_append_left _ hI)
      · exact N₁ _ (List.mem_append_right _ hp')
    · have fin : On Led ps (Facts (i + 1)) x stored m₀ h₀ env.locals { s with heap := hp, toks := tk₁ } (I, io) s₂ → LoopStepU h₀ env.locals [I] own (fun m nx => ∃ c : σ, nx = Led c ∧ Facts (i + 1) c ∧ (∀ p ∈ ps c, m p.1 = some p.2) ∧ (∀ z, z ≠ x → (∀ p ∈ ps c, z ≠ p.1) → stored.contains z = false → m z = m₀ z)) { s with heap := hp, toks := tk₁ } .next s₂ := by
        rintro ⟨c', h', tk', m', news', e, F', N', hi, hl, hne', hf2, hp2, hs2⟩
        refine ⟨rfl, h', tk', m', Led c', e, F', fun p hp' => ?_, fun p hp' q => hne' p hp' (List.mem_singleton.mp q), c', rfl, hf2, hp2, hs2⟩
        rcases List.mem_append.mp hp' with hp' | hp'
        · have e3 := hget p hp'
          rcases hfp p.1 (hown p hp') with e2 | ⟨o, ho⟩
          · have e4 := hget _ hI
            rw [e2] at e3
            dsimp only at e4
            rw [e3] at e4
            have e5 := Option.some.inj e4
            have e6 : p = (I, p.2) := by rw [← e2]
            rw [e6, e5]
            exact N' _ hi
          · have e4 := (N₁ _ (List.mem_append_right _ (ho c))).1
            dsimp only at e4 e3
            rw [e3] at e4
            have e5 := Option.some.inj e4
            have e6 : p = (p.1, o) := by rw [← e5]
            rw [e6]
            exact N' _ (hl _ (ho c'))
        · exact N' p (hl p hp')
      cases f with
      | ret v => exact .ret p
      | brk => exact .brk p
      | next => exact .next (fin p)
      | cont => exact .cont (fin p)
  · rintro h' tk m' news' F' N' _ ⟨c, rfl, hf', h1, h2⟩
    exact done c m' h' tk hf' (kst_frOut h1 h2 F') N'

theorem str_loop (Led : σ → List (Addr × Obj)) (ps : σ → List (Str × Value)) (Facts : Nat → σ → Prop) (stored : List Str) {z : Str} {tz : Tok} {m₀ : Str → Option Value} (c₀ : σ)
    (hh : A.handled = none) (F : Fr h₀ env.locals s.heap m₀) (N : News h₀ env.locals s.heap (Led c₀)) (hf : Facts 0 c₀) (hk : ∀ p ∈ ps c₀, m₀ p.1 = some p.2)
    (turn : ∀ (c : σ) (i : Nat) k t (u : Str → Option Value) I io h tk, z.cps[i]? = some k → Facts i c →
      Fr h₀ env.locals h (fun y => if y = x then some (.str ⟨#[k]⟩ t) else kstB (fun z => if stored.contains z then u z else m₀ z) (ps c) y) → News h₀ env.locals h ((I, io) :: Led c) → (∀ p ∈ Led c, p.1 ≠ I) →
      wpAny (model prog w) A (execs body env) (OnPost Led ps (Facts (i + 1)) x stored m₀ h₀ env.locals { s with heap := h, toks := tk } (I, io) Q) E { s with heap := h, toks := tk })
    (done : ∀ (c : σ) (u : Str → Option Value) h tk, Facts z.cps.size c → Fr h₀ env.locals h (fun y => if y = x then u y else kstB (fun z => if stored.contains z then u z else m₀ z) (ps c) y) → News h₀ env.locals h (Led c) → Q .next { s with heap := h, toks := tk }) :
    wpAny (model prog w) A (pyIter (.str z tz)) (fun it s₂ => LoopAtV prog w A h₀ env x body Q E it s₂) E s := by
  have lt : ∀ p ∈ Led c₀, p.1 ≠ s.heap.objs.size := fun p hp => Nat.ne_of_lt (Heap.lt_size (N p hp).1)
  have key : ∀ (ob : Obj) (St : Nat → Heap → Prop), Walks prog w A s.heap.objs.size [s.heap.objs.size] [s.heap.objs.size] z.cps.size (SignAt z) St → (∀ i h, St i h → ∃ o, h.get? s.heap.objs.size = some o) → St 0 (s.heap.push ob) →
      LoopAtV prog w A h₀ env x body Q E (.ref s.heap.objs.size) { s with heap := s.heap.push ob } := by
    intro ob St W hIo hst
    refine it_loop (s := { s with heap := s.heap.push ob }) Led ps Facts stored c₀ W ?_ (next_is_new F) (Nat.ne_of_gt F.ns.lt) (fun b hb => .inl (List.mem_singleton.mp hb)) hIo hst (F.push _) (fun p hp => ⟨Heap.get?_push_of_some _ (N p hp).1, (N p hp).2⟩) lt hf hk ?_ ?_
    · intro hm
      exact absurd F.ns.lt ((List.mem_singleton.mp hm) ▸ Nat.lt_irrefl _)
    · rintro c i v u io h tk _ hf' ⟨k, t, hk', rfl⟩ F' N' hne
      exact turn c i k t u _ io h tk hk' hf' F' N' hne
    · exact done
  cases ha : z.cps.all (· < 128)
  · exact wpAny_pyIter_wide ha (key _ _ (Walks.strWide hh _ z tz) (fun _ _ ⟨o, ho, _⟩ => ⟨o, ho⟩) ⟨_, Heap.get?_push_size _ rfl, rfl, rfl⟩)
  · exact wpAny_pyIter_ascii ha (key _ _ (Walks.strAscii hh _ z tz) (fun _ _ ⟨o, ho, _⟩ => ⟨o, ho⟩) ⟨_, Heap.get?_push_size _ rfl, rfl, rfl⟩)

theorem list_loop (Led : σ → List (Addr × Obj)) (ps : σ → List (Str × Value)) (Facts : Nat → σ → Prop) (stored : List Str) {l : Addr} {its : Array Value} {k0 : Nat} {m₀ : Str → Option Value} (c₀ : σ)
    (hh : A.handled = none) (F : Fr h₀ env.locals s.heap m₀) (N : News h₀ env.locals s.heap (Led c₀)) (hl : ∀ c, (l, W.listOf its k0) ∈ Led c) (hf : Facts 0 c₀) (hk : ∀ p ∈ ps c₀, m₀ p.1 = some p.2)
    (turn : ∀ (c : σ) (i : Nat) v (u : Str → Option Value) I io h tk, its[i]? = some v → Facts i c →
      Fr h₀ env.locals h (fun y => if y = x then some v else kstB (fun z => if stored.contains z then u z else m₀ z) (ps c) y) → News h₀ env.locals h ((I, io) :: Led c) → (∀ p ∈ Led c, p.1 ≠ I) →
      wpAny (model prog w) A (execs body env) (OnPost Led ps (Facts (i + 1)) x stored m₀ h₀ env.locals { s with heap := h, toks := tk } (I, io) Q) E { s with heap := h, toks := tk })
    (done : ∀ (c : σ) (u : Str → Option Value) h tk, Facts its.size c → Fr h₀ env.locals h (fun y => if y = x then u y else kstB (fun z => if stored.contains z then u z else m₀ z) (ps c) y) → News h₀ env.locals h (Led c) → Q .next { s with heap := h, toks := tk }) :
    wpAny (model prog w) A (pyIter (.ref l)) (fun it s₂ => LoopAtV prog w A h₀ env x body Q E it s₂) E s := by
  have zl := N _ (hl c₀)
  have ll : s.heap.IsList l its := ⟨_, zl.1, rfl, _, rfl⟩
  have hlt : l < s.heap.objs.size := Heap.lt_size zl.1
  refine wpAny_pyIter_list ll ?_
  refine it_loop (s := { s with heap := s.heap.push { cls := .type "list_iterator", data := .fields #[.ref l, .int 0 0] } }) Led ps Facts stored c₀ (Walks.list hh s.heap.objs.size l (Nat.ne_of_lt hlt) its) ?_ (next_is_new F) (Nat.ne_of_gt F.ns.lt) ?_ (fun i h st => by obtain ⟨o, e, _⟩ := st.1; exact ⟨o, e⟩) ⟨⟨_, Heap.get?_push_size _ rfl, rfl, rfl⟩, ll.push _⟩ (F.push _) (fun p hp => ⟨Heap.get?_push_of_some _ (N p hp).1, (N p hp).2⟩)
    (fun p hp => Nat.ne_of_lt (Heap.lt_size (N p hp).1)) hf hk ?_ ?_
  · intro hm
    rcases List.mem_cons.mp hm with e | hm
    · exact absurd F.ns.lt (e ▸ Nat.lt_irrefl _)
    · have e := List.mem_singleton.mp hm
      exact zl.2.1 e.symm
  · intro b hb
    rcases List.mem_cons.mp hb with e | hb
    · exact .inl e
    · rw [List.mem_singleton.mp hb]
      exact .inr ⟨_, hl⟩
  · intro c i v u io h tk _ hf' hv F' N' hne
    exact turn c i v u _ io h tk hv hf' F' N' hne
  · exact done
end
end Mine
end

section
set_option linter.unusedSectionVars false
namespace Mine

def lev {α : Type} [DecidableEq α] : List α → List α → Nat
  | [], b => b.length
  | x :: a, [] => a.length + 1
  | x :: a, y :: b => min (lev a b + if x = y then 0 else 1) (min (lev a (y :: b) + 1) (lev (x :: a) b + 1))
termination_by a b => a.length + b.length

section
variable {α : Type} [DecidableEq α]

theorem lev_nil_left (b : List α) : lev [] b = b.length := by rw [lev]
theorem lev_nil_right (a : List α) : lev a [] = a.length := by cases a <;> simp [lev]
theorem lev_cons (x y : α) (a b : List α) : lev (x :: a) (y :: b) = min (lev a b + if x = y then 0 else 1) (min (lev a (y :: b) + 1) (lev (x :: a) b + 1)) := by rw [lev]

inductive Ali : List α → List α → Nat → Prop
  | nil : Ali [] [] 0
  | del {x a b k} : Ali a b k → Ali (x :: a) b (k + 1)
  | ins {y a b k} : Ali a b k → Ali a (y :: b) (k + 1)
  | same {x a b k} : Ali a b k → Ali (x :: a) (x :: b) k
  | sub {x y a b k} : Ali a b k → Ali (x :: a) (y :: b) (k + 1)

theorem Ali.dels : ∀ a : List α, Ali a [] a.length
  | [] => .nil
  | _ :: a => .del (Ali.dels a)
theorem Ali.inss : ∀ b : List α, Ali [] b b.length
  | [] => .nil
  | _ :: b => .ins (Ali.inss b)

theorem ali_lev : ∀ (n : Nat) (a b : List α), a.length + b.length ≤ n → Ali a b (lev a b)
  | _, [], b, _ => by rw [lev_nil_left]; exact Ali.inss b
  | _, x :: a, [], _ => by rw [lev_nil_right]; exact Ali.dels _
  | 0, _ :: _, _ :: _, h => by simp at h
  | n + 1, x :: a, y :: b, h => by
    rw [lev_cons]
    simp only [List.length_cons] at h
    have h1 := ali_lev n a b (by omega)
    have h2 := ali_lev n a (y :: b) (by simp only [List.length_cons]; omega)
    have h3 := ali_lev n (x :: a) b (by simp only [List.length_cons]; omega)
    rcases Nat.le_total (lev a b + if x = y then 0 else 1) (min (lev a (y :: b) + 1) (lev (x :: a) b + 1)) with q | q
    · rw [Nat.min_eq_left q]
      by_cases e : x = y
      · subst e; simpa using Ali.same h1
      · simpa [e] using Ali.sub h1
    · rw [Nat.min_eq_right q]
      rcases Nat.le_total (lev a (y :: b) + 1) (lev (x :: a) b + 1) with q' | q'
      · rw [Nat.min_eq_left q']; exact .del h2
      · rw [Nat.min_eq_right q']; exact .ins h3

theorem lev_del (x : α) (a b : List α) : lev (x :: a) b ≤ lev a b + 1 := by
  cases b with
  | nil => rw [lev_nil_right, lev_nil_right]; simp
  | cons y b => rw [lev_cons]; omega
theorem lev_ins (y : α) (a b : List α) : lev a (y :: b) ≤ lev a b + 1 := by
  cases a with
  | nil => rw [lev_nil_left, lev_nil_left]; simp
  | cons x a => rw [lev_cons]; omega
theorem lev_sub (x y : α) (a b : List α) : lev (x :: a) (y :: b) ≤ lev a b + if x = y then 0 else 1 := by rw [lev_cons]; omega

theorem lev_le {a b : List α} {k : Nat} (h : Ali a b k) : lev a b ≤ k := by
  induction h with
  | nil => simp [lev]
  | del _ ih => exact Nat.le_trans (lev_del ..) (by omega)
  | ins _ ih => exact Nat.le_trans (lev_ins ..) (by omega)
  | same _ ih => exact Nat.le_trans (lev_sub ..) (by simp; omega)
  | sub _ ih => exact Nat.le_trans (lev_sub ..) (by split <;> omega)
theorem ali (a b : List α) : Ali a b (lev a b) := ali_lev _ a b (Nat.le_refl _)

theorem Ali.append {a b c d : List α} {k l : Nat} (h : Ali a b k) (h' : Ali c d l) : Ali (a ++ c) (b ++ d) (k + l) := by
  induction h with
  | nil => simpa using h'
  | @del x a b k _ ih => rw [Nat.add_right_comm]; exact Ali.del ih
  | @ins y a b k _ ih => rw [Nat.add_right_comm]; exact Ali.ins ih
  | same _ ih => exact Ali.same ih
  | @sub x y a b k _ ih => rw [Nat.add_right_comm]; exact Ali.sub ih

theorem Ali.rev {a b : List α} {k : Nat} (h : Ali a b k) : Ali a.reverse b.reverse k := by
  induction h with
  | nil => exact .nil
  | @del x a b k _ ih => rw [List.reverse_cons]; have := Ali.append ih (Ali.del (x := x) .nil); simpa using this
  | @ins y a b k _ ih => rw [List.reverse_cons]; have := Ali.append ih (Ali.ins (y := y) .nil); simpa using this
  | @same x a b k _ ih => rw [List.reverse_cons, List.reverse_cons]; exact Ali.append ih (Ali.same (x := x) .nil)
  | @sub x y a b k _ ih => rw [List.reverse_cons, List.reverse_cons]; exact Ali.append ih (Ali.sub (x := x) (y := y) .nil)

theorem lev_rev (a b : List α) : lev a.reverse b.reverse = lev a b := by
  apply Nat.le_antisymm
  · exact lev_le (ali a b).rev
  · have := lev_le (ali a.reverse b.reverse).rev
    simpa using this

theorem Ali.symm {a b : List α} {k : Nat} (h : Ali a b k) : Ali b a k := by
  induction h with
  | nil => exact .nil
  | del _ ih => exact .ins ih
  | ins _ ih => exact .del ih
  | same _ ih => exact .same ih
  | sub _ ih => exact .sub ih
theorem lev_symm (a b : List α) : lev a b = lev b a := Nat.le_antisymm (lev_le (ali b a).symm) (lev_le (ali a b).symm)

theorem lev_self (a : List α) : lev a a = 0 := by
  have h : Ali a a 0 := by
    induction a with
    | nil => exact .nil
    | cons x a ih => exact .same ih
  exact Nat.le_zero.mp (lev_le h)
theorem Ali.zero {a b : List α} {k : Nat} (h : Ali a b k) (e : k = 0) : a = b := by
  induction h with
  | nil => rfl
  | del | ins | sub => cases e
  | same _ ih => rw [ih e]
theorem lev_zero {a b : List α} (h : lev a b = 0) : a = b := (ali a b).zero h

theorem Ali.trans : ∀ (n : Nat) {a b c : List α} {k l : Nat}, a.length + b.length + c.length ≤ n → Ali a b k → Ali b c l → ∃ m, m ≤ k + l ∧ Ali a c m
  | n, _, _, _, _, _, hn, .nil, h' => ⟨_, Nat.le_add_left _ _, h'⟩
  | 0, _, _, _, _, _, hn, .del _, _ => by simp at hn
  | 0, _, _, _, _, _, hn, .ins _, _ => by simp at hn
  | 0, _, _, _, _, _, hn, .same _, _ => by simp at hn
  | 0, _, _, _, _, _, hn, .sub _, _ => by simp at hn
  | n + 1, _, _, _, _, _, hn, .del h, h' => by
    simp only [List.length_cons] at hn
    obtain ⟨m, hm, ha⟩ := Ali.trans n (by omega) h h'
    exact ⟨m + 1, by omega, .del ha⟩
  | n + 1, _, _, _, _, _, hn, h, .ins h' => by
    simp only [List.length_cons] at hn
    obtain ⟨m, hm, ha⟩ := Ali.trans n (by omega) h h'
    exact ⟨m + 1, by omega, .ins ha⟩
  | n + 1, _, _, _, _, _, hn, .ins h, .del h' => by
    simp only [List.length_cons] at hn
    obtain ⟨m, hm, ha⟩ := Ali.trans n (by omega) h h'
    exact ⟨m, by omega, ha⟩
  | n + 1, _, _, _, _, _, hn, .ins h, .same h' => by
    simp only [List.length_cons] at hn
    obtain ⟨m, hm, ha⟩ := Ali.trans n (by omega) h h'
    exact ⟨m + 1, by omega, .ins ha⟩
  | n + 1, _, _, _, _, _, hn, .ins h, .sub h' => by
    simp only [List.length_cons] at hn
    obtain ⟨m, hm, ha⟩ := Ali.trans n (by omega) h h'
    exact ⟨m + 1, by omega, .ins ha⟩
  | n + 1, _, _, _, _, _, hn, .same h, .del h' => by
    simp only [List.length_cons] at hn
    obtain ⟨m, hm, ha⟩ := Ali.trans n (by omega) h h'
    exact ⟨m + 1, by omega, .del ha⟩
  | n + 1, _, _, _, _, _, hn, .same h, .same h' => by
    simp only [List.length_cons] at hn
    obtain ⟨m, hm, ha⟩ := Ali.trans n (by omega) h h'
    exact ⟨m, by omega, .same ha⟩
  | n + 1, _, _, _, _, _, hn, .same h, .sub h' => by
    simp only [List.length_cons] at hn
    obtain ⟨m, hm, ha⟩ := Ali.trans n (by omega) h h'
    exact ⟨m + 1, by omega, .sub ha⟩
  | n + 1, _, _, _, _, _, hn, .sub h, .del h' => by
    simp only [List.length_cons] at hn
    obtain ⟨m, hm, ha⟩ := Ali.trans n (by omega) h h'
    exact ⟨m + 1, by omega, .del ha⟩
  | n + 1, _, _, _, _, _, hn, .sub h, .same h' => by
    simp only [List.length_cons] at hn
    obtain ⟨m, hm, ha⟩ := Ali.trans n (by omega) h h'
    exact ⟨m + 1, by omega, .sub ha⟩
  | n + 1, _, _, _, _, _, hn, .sub h, .sub h' => by
    simp only [List.length_cons] at hn
    obtain ⟨m, hm, ha⟩ := Ali.trans n (by omega) h h'
    exact ⟨m + 1, by omega, .sub ha⟩

theorem lev_tri (a b c : List α) : lev a c ≤ lev a b + lev b c := by
  obtain ⟨m, hm, h⟩ := Ali.trans _ (Nat.le_refl _) (ali a b) (ali b c)
  exact Nat.le_trans (lev_le h) hm

theorem Ali.len {a b : List α} {k : Nat} (h : Ali a b k) : a.length ≤ b.length + k ∧ b.length ≤ a.length + k := by
  induction h <;> simp only [List.length_nil, List.length_cons] <;> omega
theorem lev_ge (a b : List α) : a.length ≤ b.length + lev a b ∧ b.length ≤ a.length + lev a b := (ali a b).len
theorem lev_max : ∀ a b : List α, lev a b ≤ max a.length b.length
  | [], b => by rw [lev_nil_left]; simp
  | x :: a, [] => by rw [lev_nil_right]; simp
  | x :: a, y :: b => by
    have h1 := lev_sub x y a b
    have h2 := lev_max a b
    simp only [List.length_cons]
    split at h1 <;> omega

theorem lev_head (x : α) (a b : List α) : lev (x :: a) (x :: b) = lev a b := by
  apply Nat.le_antisymm
  · have := lev_sub x x a b; simpa using this
  · rw [lev_cons]
    have h1 : lev a b ≤ lev a (x :: b) + 1 := by
      have q := lev_tri a (x :: b) b
      have q2 : lev (x :: b) b ≤ 1 := by have := lev_del x b b; rw [lev_self] at this; omega
      omega
    have h2 : lev a b ≤ lev (x :: a) b + 1 := by
      have q := lev_tri a (x :: a) b
      have q2 : lev a (x :: a) ≤ 1 := by have := lev_ins x a a; rw [lev_self] at this; omega
      omega
    simp only [if_true]
    omega
theorem lev_front : ∀ c a b : List α, lev (c ++ a) (c ++ b) = lev a b
  | [], _, _ => rfl
  | x :: c, a, b => by rw [List.cons_append, List.cons_append, lev_head, lev_front c]
theorem lev_back (a b c : List α) : lev (a ++ c) (b ++ c) = lev a b := by
  rw [← lev_rev, List.reverse_append, List.reverse_append, lev_front, lev_rev]
theorem lev_put (a b : List α) (x : α) : lev (a ++ b) (a ++ x :: b) = 1 := by
  rw [lev_front]
  apply Nat.le_antisymm
  · have := lev_ins x b b; rw [lev_self] at this; omega
  · have := lev_ge b (x :: b); simp only [List.length_cons] at this; omega

def tab (xs ys : List α) (i j : Nat) : Nat := lev (xs.take i).reverse (ys.take j).reverse
theorem tab_zero_left (xs ys : List α) {j : Nat} (h : j ≤ ys.length) : tab xs ys 0 j = j := by simp [tab, lev_nil_left, Nat.min_eq_left h]
theorem tab_zero_right (xs ys : List α) {i : Nat} (h : i ≤ xs.length) : tab xs ys i 0 = i := by simp [tab, lev_nil_right, Nat.min_eq_left h]
theorem tab_succ (xs ys : List α) {i j : Nat} {x y : α} (hi : xs[i]? = some x) (hj : ys[j]? = some y) :
    tab xs ys (i + 1) (j + 1) = min (tab xs ys i j + if x = y then 0 else 1) (min (tab xs ys i (j + 1) + 1) (tab xs ys (i + 1) j + 1)) := by
  have e1 : (xs.take (i + 1)).reverse = x :: (xs.take i).reverse := by rw [List.take_add_one, hi]; simp
  have e2 : (ys.take (j + 1)).reverse = y :: (ys.take j).reverse := by rw [List.take_add_one, hj]; simp
  unfold tab
  rw [e1, e2, lev_cons]
theorem tab_end (xs ys : List α) : tab xs ys xs.length ys.length = lev xs ys := by simp [tab, lev_rev]
theorem tab_le (xs ys : List α) (i j : Nat) : tab xs ys i j ≤ i + j := by
  unfold tab
  have := lev_max (xs.take i).reverse (ys.take j).reverse
  simp only [List.length_reverse, List.length_take] at this
  omega
end
end Mine
end

section
set_option linter.unusedSectionVars false
namespace Mine
section
variable {α : Type} [DecidableEq α]

def rowI (xs ys : List α) (i : Nat) : List Int := (List.range (ys.length + 1)).map fun j => ((tab xs ys i j : Nat) : Int)
def rowP (xs ys : List α) (i j : Nat) : List Int := (List.range (ys.length + 1)).map fun k => if k ≤ j then ((tab xs ys (i + 1) k : Nat) : Int) else 0
theorem rowI_length (xs ys : List α) (i : Nat) : (rowI xs ys i).length = ys.length + 1 := by simp [rowI]
theorem rowP_length (xs ys : List α) (i j : Nat) : (rowP xs ys i j).length = ys.length + 1 := by simp [rowP]
theorem rowI_getD (xs ys : List α) (i : Nat) {k : Int} (h0 : 0 ≤ k) (h : k ≤ ys.length) : (rowI xs ys i).getD k.toNat 0 = (tab xs ys i k.toNat : Nat) := by
  have : k.toNat < ys.length + 1 := by omega
  simp [rowI, List.getD_eq_getElem?_getD, this]
theorem rowP_getD (xs ys : List α) (i j : Nat) {k : Int} (h0 : 0 ≤ k) (h : k ≤ ys.length) (hj : k ≤ j) : (rowP xs ys i j).getD k.toNat 0 = (tab xs ys (i + 1) k.toNat : Nat) := by
  have : k.toNat < ys.length + 1 := by omega
  have : k.toNat ≤ j := by omega
  simp [rowP, List.getD_eq_getElem?_getD, *]
theorem row_zero (xs ys : List α) {n : Nat} (h : n = ys.length + 1) : rangeKs 0 n = rowI xs ys 0 := by
  subst h
  unfold rangeKs rowI
  refine List.map_congr_left fun j hj => ?_
  have := List.mem_range.mp hj
  rw [tab_zero_left xs ys (by omega)]
  omega
theorem row_start (xs ys : List α) {i : Nat} {r : Int} (hr : r = i + 1) (h : i < xs.length) {zs : List Int} (hz : zs = List.replicate ys.length 0) : r :: zs = rowP xs ys i 0 := by
  subst hr hz
  refine List.ext_getElem? fun k => ?_
  cases k with
  | zero => simp [rowP, tab_zero_right xs ys (show i + 1 ≤ xs.length from h)]
  | succ k =>
    simp only [rowP, List.getElem?_cons_succ, List.getElem?_map, List.getElem?_replicate, List.getElem?_range']
    by_cases hk : k < ys.length
    · rw [List.getElem?_range (by omega)]; simp [hk]
    · rw [List.getElem?_eq_none (by simp; omega)]; simp [hk]
theorem row_set (xs ys : List α) (i j : Nat) (v : Int) (hv : v = (tab xs ys (i + 1) (j + 1) : Nat)) : (rowP xs ys i j).set (j + 1) v = rowP xs ys i (j + 1) := by
  subst hv
  refine List.ext_getElem? fun k => ?_
  rw [List.getElem?_set]
  by_cases hk : j + 1 = k
  · subst hk
    rw [if_pos rfl]
    simp only [rowP, List.length_map, List.length_range]
    by_cases hl : j + 1 < ys.length + 1
    · rw [if_pos hl]; simp [List.getElem?_range, hl]
    · rw [if_neg hl]; rw [List.getElem?_eq_none (by simp; omega)]
  · rw [if_neg hk]
    simp only [rowP, List.getElem?_map]
    by_cases hl : k < ys.length + 1
    · rw [List.getElem?_range hl]
      simp only [Option.map_some]
      congr 1
      by_cases h1 : k ≤ j
      · rw [if_pos h1, if_pos (by omega)]
      · rw [if_neg h1, if_neg (by omega)]
    · rw [List.getElem?_eq_none (by simp; omega)]; rfl
theorem row_last (xs ys : List α) : (rowI xs ys xs.length).getD (-1 + ((rowI xs ys xs.length).length : Int)).toNat 0 = (lev xs ys : Nat) := by
  rw [rowI_length, rowI_getD xs ys _ (by omega) (by omega), ← tab_end]
  congr 2
  omega
theorem cell_next (xs ys : List α) {i j : Nat} {x y : α} (hx : xs[i]? = some x) (hy : ys[j]? = some y) :
    (rowP xs ys i j).set (1 + (j : Int)).toNat (min ((rowI xs ys i).getD (1 + (j : Int) - 1).toNat 0 + if (!decide (x = y)) = true then 1 else 0) (min ((rowI xs ys i).getD (1 + (j : Int)).toNat 0 + 1) ((rowP xs ys i j).getD (1 + (j : Int) - 1).toNat 0 + 1))) = rowP xs ys i (j + 1) := by
  have hj : j < ys.length := (List.getElem?_eq_some_iff.mp hy).1
  have e1 : (1 + (j : Int)).toNat = j + 1 := by omega
  have e2 : (1 + (j : Int) - 1).toNat = j := by omega
  rw [rowI_getD xs ys i (k := 1 + (j : Int) - 1) (by omega) (by omega), rowI_getD xs ys i (k := 1 + (j : Int)) (by omega) (by omega), rowP_getD xs ys i j (k := 1 + (j : Int) - 1) (by omega) (by omega) (by omega), e1, e2]
  refine row_set xs ys i j _ ?_
  rw [tab_succ xs ys hx hy]
  by_cases h : x = y
  · simp only [h, decide_true, Bool.not_true, Bool.false_eq_true, if_false, if_true]; omega
  · simp only [h, decide_false, Bool.not_false, if_true, if_false]; omega
theorem row_end (xs ys : List α) (i : Nat) : rowP xs ys i ys.length = rowI xs ys (i + 1) := by
  unfold rowP rowI
  refine List.map_congr_left fun j hj => ?_
  have := List.mem_range.mp hj
  rw [if_pos (by omega)]
end
end Mine
end

section
set_option linter.unusedSectionVars false
namespace Mine
section
variable {α : Type} [DecidableEq α]
def sav (xs ys : List α) (i j : Nat) : Int := ((xs.drop i).length : Int) + (ys.drop j).length - (lev (xs.drop i) (ys.drop j) : Nat)
theorem sav_right (xs ys : List α) (i : Nat) {j : Nat} (h : ys.length ≤ j) : sav xs ys i j = 0 := by
  unfold sav
  rw [List.drop_of_length_le h, lev_nil_right]
  simp
theorem sav_down (xs ys : List α) {i : Nat} (j : Nat) (h : xs.length ≤ i) : sav xs ys i j = 0 := by
  unfold sav
  rw [List.drop_of_length_le h, lev_nil_left]
  simp
theorem sav_step (xs ys : List α) {i j : Nat} {x y : α} (hx : xs[i]? = some x) (hy : ys[j]? = some y) :
    sav xs ys i j = max (sav xs ys (i + 1) j) (max (sav xs ys i (j + 1)) (sav xs ys (i + 1) (j + 1) + if x = y then 2 else 1)) := by
  have hi : i < xs.length := (List.getElem?_eq_some_iff.mp hx).1
  have hj : j < ys.length := (List.getElem?_eq_some_iff.mp hy).1
  have e1 : xs.drop i = x :: xs.drop (i + 1) := by
    rw [List.drop_eq_getElem_cons hi]
    congr 1
    rw [List.getElem?_eq_getElem hi] at hx
    exact Option.some.inj hx
  have e2 : ys.drop j = y :: ys.drop (j + 1) := by
    rw [List.drop_eq_getElem_cons hj]
    congr 1
    rw [List.getElem?_eq_getElem hj] at hy
    exact Option.some.inj hy
  unfold sav
  rw [e1, e2, lev_cons]
  simp only [List.length_cons]
  by_cases h : x = y
  · simp only [h, if_true]; omega
  · simp only [h, if_false]; omega
theorem sav_all (xs ys : List α) : (xs.length : Int) + ys.length - sav xs ys 0 0 = (lev xs ys : Nat) := by
  unfold sav
  simp only [List.drop_zero]
  omega
def TS (xs ys : List α) (i jj k l : Nat) : Int := if xs.length ≤ k + i ∨ (xs.length = k + 1 + i ∧ ys.length ≤ l + jj) then sav xs ys k l else 0
theorem TS_start (xs ys : List α) (k l : Nat) : 0 = TS xs ys 0 0 k l := by
  unfold TS
  by_cases h : xs.length ≤ k + 0 ∨ (xs.length = k + 1 + 0 ∧ ys.length ≤ l + 0)
  · rw [if_pos h]
    rcases h with h | ⟨_, h⟩
    · rw [sav_down xs ys l (by omega)]
    · rw [sav_right xs ys k (by omega)]
  · rw [if_neg h]
theorem TS_next (xs ys : List α) (i k l : Nat) : TS xs ys i ys.length k l = TS xs ys (i + 1) 0 k l := by
  unfold TS
  by_cases h : xs.length ≤ k + i ∨ (xs.length = k + 1 + i ∧ ys.length ≤ l + ys.length)
  · rw [if_pos h, if_pos (by omega)]
  · rw [if_neg h]
    by_cases h2 : xs.length ≤ k + (i + 1) ∨ (xs.length = k + 1 + (i + 1) ∧ ys.length ≤ l + 0)
    · rw [if_pos h2, sav_right xs ys k (by omega)]
    · rw [if_neg h2]
theorem TS_step (xs ys : List α) {i j r c : Nat} {x y : α} (hr : xs.length = r + 1 + i) (hc : ys.length = c + 1 + j) (hx : xs[r]? = some x) (hy : ys[c]? = some y) (k l : Nat) :
    (if k = r ∧ l = c then max (TS xs ys i j (r + 1) c) (max (TS xs ys i j r (c + 1)) (TS xs ys i j (r + 1) (c + 1) + if x = y then 2 else 1)) else TS xs ys i j k l) = TS xs ys i (j + 1) k l := by
  have e1 : TS xs ys i j (r + 1) c = sav xs ys (r + 1) c := by unfold TS; rw [if_pos (by omega)]
  have e2 : TS xs ys i j r (c + 1) = sav xs ys r (c + 1) := by unfold TS; rw [if_pos (by omega)]
  have e3 : TS xs ys i j (r + 1) (c + 1) = sav xs ys (r + 1) (c + 1) := by unfold TS; rw [if_pos (by omega)]
  have e4 : TS xs ys i (j + 1) r c = sav xs ys r c := by unfold TS; rw [if_pos (by omega)]
  by_cases h : k = r ∧ l = c
  · rw [if_pos h, e1, e2, e3]
    obtain ⟨rfl, rfl⟩ := h
    rw [e4, sav_step xs ys hx hy]
  · rw [if_neg h]
    unfold TS
    by_cases h2 : xs.length ≤ k + i ∨ (xs.length = k + 1 + i ∧ ys.length ≤ l + j)
    · rw [if_pos h2, if_pos (by omega)]
    · rw [if_neg h2, if_neg (by omega)]
theorem TS_end (xs ys : List α) : (xs.length : Int) + ys.length - TS xs ys xs.length 0 0 0 = (lev xs ys : Nat) := by
  unfold TS
  rw [if_pos (by omega), sav_all]
end
end Mine
end

section
namespace Mine
section
variable {α β : Type} [DecidableEq α] [DecidableEq β]
theorem lev_map_n {f : α → β} (hf : ∀ x y, f x = f y → x = y) : ∀ (n : Nat) (a b : List α), a.length + b.length ≤ n → lev (a.map f) (b.map f) = lev a b
  | _, [], b, _ => by rw [List.map_nil, lev_nil_left, lev_nil_left, List.length_map]
  | _, x :: a, [], _ => by rw [List.map_nil, lev_nil_right, lev_nil_right, List.length_map]
  | 0, _ :: _, _ :: _, h => by simp at h
  | n + 1, x :: a, y :: b, h => by
    simp only [List.length_cons] at h
    have h1 := lev_map_n hf n a b (by omega)
    have h2 := lev_map_n hf n a (y :: b) (by simp only [List.length_cons]; omega)
    have h3 := lev_map_n hf n (x :: a) b (by simp only [List.length_cons]; omega)
    rw [List.map_cons] at h2 h3
    rw [List.map_cons, List.map_cons, lev_cons, lev_cons, h1, h2, h3]
    by_cases e : x = y
    · simp [e]
    · have e' : f x ≠ f y := fun q => e (hf x y q)
      simp [e, e']
theorem lev_map {f : α → β} (hf : ∀ x y, f x = f y → x = y) (a b : List α) : lev (a.map f) (b.map f) = lev a b := lev_map_n hf _ a b (Nat.le_refl _)
end
end Mine
end

section
namespace Mine

theorem m_owner : Manifest.owners.lookup (String.ofList ['p', 'a', 'm'].reverse) = some Manifest.sig_map := by kernel_rfl
theorem m_slot_init : Slot "map" "__init__" "object.__init__" :=
  .of (owner := "object") (n := "__init__") (by rw [typeLookup_type, builtinLookup_eq_fast]; kernel_rfl) (by decide +kernel) (by decide +kernel) (by decide +kernel)
    (by first | exact .inl (by decide +kernel) | exact .inr (by decide +kernel)) (by rw [isSubtype_type]; kernel_rfl)
theorem m_slot_iter : Slot "map" "__iter__" "map.__iter__" :=
  .of (owner := "map") (n := "__iter__") (by rw [typeLookup_type, builtinLookup_eq_fast]; kernel_rfl) (by decide +kernel) (by decide +kernel) (by decide +kernel)
    (by first | exact .inl (by decide +kernel) | exact .inr (by decide +kernel)) (by rw [isSubtype_type]; kernel_rfl)
theorem m_slot_next : Slot "map" "__next__" "map.__next__" :=
  .of (owner := "map") (n := "__next__") (by rw [typeLookup_type, builtinLookup_eq_fast]; kernel_rfl) (by decide +kernel) (by decide +kernel) (by decide +kernel)
    (by first | exact .inl (by decide +kernel) | exact .inr (by decide +kernel)) (by rw [isSubtype_type]; kernel_rfl)
theorem m_args_iter (a : Value) : argsOk "map.__iter__" ⟨[a], []⟩ := by
  unfold argsOk; rw [signature?_of (id := "map.__iter__") (n := ['_', '_', 'r', 'e', 't', 'i', '_', '_']) (o := ['p', 'a', 'm']) (by kernel_rfl) m_owner]; kernel_rfl
theorem m_args_next (a : Value) : argsOk "map.__next__" ⟨[a], []⟩ := by
  unfold argsOk; rw [signature?_of (id := "map.__next__") (n := ['_', '_', 't', 'x', 'e', 'n', '_', '_']) (o := ['p', 'a', 'm']) (by kernel_rfl) m_owner]; kernel_rfl
theorem m_entry_iter : entryFor table "map.__iter__" = some Builtin.«dict_keyiterator.__iter__» :=
  entryFor_alias (id' := "dict_keyiterator.__iter__") (by kernel_rfl) (by first | rfl | decide +kernel | (unfold String.splitOn; simp +decide [String.splitOnAux])) (by decide +kernel) (by kernel_rfl)
theorem m_entry_next : entryFor table "map.__next__" = some Builtin.«map.__next__» := entryFor_of_tree (by kernel_rfl)
theorem m_entry_new : entryFor table "map.__new__" = some Builtin.«map.__new__» := entryFor_of_tree (by kernel_rfl)
theorem m_mro : mroOf (.type "map") = pure [.type "map", .type "object"] := by rw [mroOf_type]; kernel_rfl
theorem m_lookup_new : typeLookup (.type "map") "__new__" = pure (some (.builtin "map.__new__")) := by rw [typeLookup_type, builtinLookup_eq_fast]; kernel_rfl
theorem m_called : TypeCalled "map" "map.__new__" "object.__init__" :=
  ⟨by decide +kernel, by decide +kernel, ⟨_, _, m_mro⟩, madeBy_type m_mro m_lookup_new (by decide +kernel), by decide +kernel, by rw [isSubtype_type]; kernel_rfl, m_slot_init⟩
theorem m_typeCall (a b : Value) : checkTypeCall "map" ⟨[a, b], []⟩ = pure () := by kernel_rfl
theorem m_newCall (a b : Value) : checkBuiltinCall "map.__new__" ⟨[.type "map", a, b], []⟩ = pure () := by kernel_rfl
theorem m_sub : isSubtype (.type "map") (.type "map") = pure true := by rw [isSubtype_type]; kernel_rfl

abbrev mt1 (h : Heap) (l1 : Addr) : Heap := h.push { cls := .type "tuple_iterator", data := .fields #[.ref l1, .int 0 0] }
abbrev mt2 (h : Heap) (l1 : Addr) : Heap := (mt1 h l1).push { cls := .type "tuple", data := .seq #[.ref h.objs.size] }
abbrev mt3 (h : Heap) (l1 : Addr) (f : Value) : Heap := (mt2 h l1).push { cls := .type "map", data := .fields #[.ref (mt1 h l1).objs.size, f] }

theorem map_new_tup (f : Value) (l1 : Addr) (xs : Array Value) :
    Meets (Builtin.«map.__new__» ⟨[.type "map", f, .ref l1], []⟩) (fun _ R s => s.heap.IsTuple l1 xs ∧
      R (.ok (.ret (.ref (mt2 s.heap l1).objs.size))) { s with heap := mt3 s.heap l1 f }) :=
  .of_wp fun prog w A R s h => by
    obtain ⟨hp, g, d, tk, os⟩ := s; obtain ⟨hl1, h⟩ := h
    have hsub := m_sub
    have hL1 : Heap.IsTuple (Shared.heap ⟨hp, g, d, tk, os⟩) l1 xs := hl1
    wp_walk using wpAny_pyIter_tuple hL1
    exact ⟨_, rfl, h⟩

section
variable {prog : Program} {w : World} {A : Around} {E : Value → Shared → Prop} {s : Shared}

abbrev IsMap (h : Heap) (z T : Addr) (f : Value) : Prop := h.get? z = some { cls := .type "map", data := .fields #[.ref T, f] }
abbrev IsOne (h : Heap) (T : Addr) (a : Value) : Prop := h.get? T = some { cls := .type "tuple", data := .seq #[a] }

theorem call_map_tup {f : Value} {l1 : Addr} {xs : Array Value} {Q : Value → Shared → Prop} (hl1 : s.heap.IsTuple l1 xs)
    (h : ∀ h', IsMap h' (s.heap.objs.size + 2) (s.heap.objs.size + 1) f → IsOne h' (s.heap.objs.size + 1) (.ref s.heap.objs.size) → h'.IsTupleIter s.heap.objs.size l1 0 → 
      (∀ c o, s.heap.get? c = some o → h'.get? c = some o) → Q (.ref (s.heap.objs.size + 2)) { s with heap := h' }) :
    wpAny (model prog w) A (call (.type "map") [f, .ref l1]) Q E s := by
  refine callType_new m_called (by decide) (m_typeCall _ _) (m_newCall _ _) (fun obj => F.args_object_init_3 obj _ _) m_entry_new
    (map_new_tup f l1 xs) ⟨hl1, ?_⟩
  have z1 : (mt1 s.heap l1).objs.size = s.heap.objs.size + 1 := Heap.size_push ..
  have z2 : (mt2 s.heap l1).objs.size = s.heap.objs.size + 2 := by rw [Heap.size_push, z1]
  have g3 : (mt3 s.heap l1 f).get? (mt2 s.heap l1).objs.size = some _ := Heap.get?_push_size _ rfl
  have g2 : (mt3 s.heap l1 f).get? (mt1 s.heap l1).objs.size = some _ := Heap.get?_push_of_some _ (Heap.get?_push_size _ rfl)
  have g1 : (mt3 s.heap l1 f).get? s.heap.objs.size = some _ := Heap.get?_push_of_some _ (Heap.get?_push_of_some _ (Heap.get?_push_size _ rfl))
  show _ ∧ _
  rw [z2, z1] at g3
  rw [z1] at g2
  rw [z2]
  exact ⟨⟨_, g3, rfl⟩, h _ g3 g2 ⟨_, g1, rfl, rfl⟩ fun c o x => Heap.get?_push_of_some _ (Heap.get?_push_of_some _ (Heap.get?_push_of_some _ x))⟩

theorem pyIter_map {z T : Addr} {f : Value} {Q : Value → Shared → Prop} (hz : IsMap s.heap z T f) (h : Q (.ref z) s) : wpAny (model prog w) A (pyIter (.ref z)) Q E s := by
  have hT : s.TypeIs (.ref z) "map" := ⟨_, hz, rfl⟩
  refine wpAny_pyIter_slot hT m_slot_iter (wpAny_call_entry m_slot_iter hT m_entry_iter ?_ (m_args_iter _))
  show wpAny _ _ (ret (.ref z)) _ _ s
  exact wpAny_pure ⟨_, rfl, "map", _, hT, m_slot_next.lookup, h⟩

theorem pyNext_map_item {z T it l : Addr} {k : Nat} {xs : Array Value} {x f : Value} {Q : Option Value → Shared → Prop} (hne : l ≠ it) (hzi : z ≠ it)
    (hz : IsMap s.heap z T f) (hT : IsOne s.heap T (.ref it)) (h1 : s.heap.IsTupleIter it l k) (hl : s.heap.IsTuple l xs) (hx : xs[k]? = some x)
    (hQ : ∀ h', h'.IsTupleIter it l (k + 1) → Heap.SameBut it s.heap h' → wpAny (model prog w) A.in1 (call f [x]) (fun v s' => Q (some v) s') (fun _ _ => False) { s with heap := h' }) :
    wpAny (model prog w) A (pyNext (.ref z)) Q E s := by
  have hTy : s.TypeIs (.ref z) "map" := ⟨_, hz, rfl⟩
  unfold pyNext
  refine wpAny_bind (wpAny_attempt (wpAny_callSpecial?_slot (name := Str.ofString "__next__") hTy m_slot_next
    (wpAny_call_entry m_slot_next hTy m_entry_next ?_ (m_args_next _))))
  show wpAny _ _ (field (.ref z) 0 >>= _) _ _ _
  refine wpAny_bind (wpAny_field hz rfl (x := .ref T) rfl ?_)
  refine wpAny_bind (wpAny_seqItems hT rfl ?_)
  refine wpAny_bind ?_
  simp only [List.forIn_cons, List.forIn_nil]
  refine wpAny_bind ?_
  show wpAny _ _ (holding _ (Builtin.SmallTypes.nextOf (.ref it)) >>= _) _ _ _
  refine wpAny_bind (wpAny_holding (nextOf_tuple_item h1 hl hx fun h₁ h1₁ hs₁ => wpAny_pure ?_))
  refine wpAny_pure ?_
  show wpAny _ _ (field (.ref z) 1 >>= _) _ _ _
  refine wpAny_bind (wpAny_field (hs₁.extBut _ _ hzi hz) rfl (x := f) rfl ?_)
  refine wpAny_bind (wpAny_holding (wpAny_mono (hQ h₁ h1₁ hs₁) (fun v s' q => ?_) fun _ _ e => e.elim))
  exact wpAny_bind (wpAny_letGo (wpAny_pure ⟨v, rfl, wpAny_pure q⟩))

theorem stop_n {α : Type} {Q : α → Shared → Prop} (hh : A.handled = none)
    (h : ∀ h' e, (∀ b o, s.heap.get? b = some o → h'.get? b = some o) → (∃ o, h'.get? e = some o ∧ o.cls = .type "StopIteration") → E (.ref e) { s with heap := h' }) :
    wpAny (model prog w) A ((newExc (.type "StopIteration") [] >>= fun e => raiseNew e) : Sem α) Q E s := by
  refine wpAny_bind ?_
  simp only [newExc, newTuple]
  refine wpAny_bind (wpAny_newObj_type ?_ (by size_fits))
  refine wpAny_bind (m := firstArgMember _ _) (wpAny_of_eq (a := Value.none) (by first | rfl | (simp only [firstArgMember]; rfl)) ?_)
  refine wpAny_newObj_type ?_ (by size_fits)
  simp only [raiseNew]
  refine wpAny_bind (wpAny_handled ?_)
  rw [hh]
  refine wpAny_bind (wpAny_pure (wpAny_throw ?_))
  exact h _ _ (fun b o e => Heap.get?_push_of_some _ (Heap.get?_push_of_some _ e)) ⟨_, Heap.get?_push_size _ rfl, rfl⟩

theorem nextOf_tuple_end_n {it t : Addr} {i : Nat} {items : Array Value} {Q : Value → Shared → Prop} (hh : A.handled = none)
    (hit : s.heap.IsTupleIter it t i) (ht : s.heap.IsTuple t items) (hx : items[i]? = none)
    (hE : ∀ h' e, Heap.ExtBut it s.heap h' → (∃ o, h'.get? e = some o ∧ o.cls = .type "StopIteration") → E (.ref e) { s with heap := h' }) :
    wpAny (model prog w) A (Builtin.SmallTypes.nextOf (.ref it)) Q E s := by
  obtain ⟨o, ho, hc, hd⟩ := id hit
  obtain ⟨ol, hol, _, nl, hdl⟩ := ht
  unfold Builtin.SmallTypes.nextOf
  refine wpAny_bind (wpAny_callSpecial?_slot (name := Str.ofString "__next__") hit.typeIs F.slot_tuple_iterator_next
    (wpAny_call_entry F.slot_tuple_iterator_next hit.typeIs F.entry_tuple_iterator_next ?_ (F.args_tuple_iterator_next_1 _)))
  show wpAny _ _ (field (.ref it) 0 >>= _) _ _ s
  refine wpAny_bind (wpAny_field ho hd (x := .ref t) rfl ?_)
  show wpAny _ _ (if (Value.ref t == Value.none) = true then _ else _) _ _ s
  rw [if_neg (show ¬ ((Value.ref t == Value.none) = true) from Bool.false_ne_true)]
  show wpAny _ _ (field (.ref it) 1 >>= _) _ _ s
  refine wpAny_bind (wpAny_field ho hd (x := .int i 0) rfl ?_)
  show wpAny _ _ (seqItems? (.ref t) >>= _) _ _ s
  refine wpAny_bind (wpAny_seqItems hol hdl ?_)
  simp only [Int.toNat_natCast, hx]
  refine wpAny_bind (wpAny_rule (wpAny_bind (wpAny_setField ho hd (by simp) ?_)))
  refine stop_n hh fun h' e hk he => hE h' e (fun b o hb x => hk b o ((Heap.SameBut.update ..).extBut b o hb x)) he

theorem pyNext_map_end {z T it l : Addr} {k : Nat} {xs : Array Value} {f : Value} {Q : Option Value → Shared → Prop} (hh : A.handled = none)
    (hz : IsMap s.heap z T f) (hT : IsOne s.heap T (.ref it)) (h1 : s.heap.IsTupleIter it l k) (hl : s.heap.IsTuple l xs) (hx : xs[k]? = none)
    (hQ : ∀ h', Heap.ExtBut it s.heap h' → Q none { s with heap := h' }) :
    wpAny (model prog w) A (pyNext (.ref z)) Q E s := by
  have hTy : s.TypeIs (.ref z) "map" := ⟨_, hz, rfl⟩
  unfold pyNext
  refine wpAny_bind (wpAny_attempt (wpAny_callSpecial?_slot (name := Str.ofString "__next__") hTy m_slot_next
    (wpAny_call_entry m_slot_next hTy m_entry_next ?_ (m_args_next _))))
  show wpAny _ _ (field (.ref z) 0 >>= _) _ _ _
  refine wpAny_bind (wpAny_field hz rfl (x := .ref T) rfl ?_)
  refine wpAny_bind (wpAny_seqItems hT rfl ?_)
  refine wpAny_bind ?_
  simp only [List.forIn_cons, List.forIn_nil]
  refine wpAny_bind ?_
  show wpAny _ _ (holding _ (Builtin.SmallTypes.nextOf (.ref it)) >>= _) _ _ _
  refine wpAny_bind (wpAny_holding (nextOf_tuple_end_n hh h1 hl hx fun h₁ e hk he => ?_))
  obtain ⟨o, ho, hc⟩ := he
  refine wpAny_bind (wpAny_isInstance (T := "StopIteration") (b := true) ⟨o, ho, hc⟩ isSubtype_stop ?_)
  exact wpAny_pure (hQ _ hk)

theorem max_map_len {z T it l : Addr} {a b : Value} {na nb : Nat} {Q : Value → Shared → Prop} (hh : A.handled = none)
    (hlt : l < it) (hiT : it < T) (hTz : T < z) (hz : IsMap s.heap z T (.builtin "len")) (hT : IsOne s.heap T (.ref it)) (h1 : s.heap.IsTupleIter it l 0) (hl : s.heap.IsTuple l #[a, b])
    (hla : ∀ {A : Around} {E Q : Value → Shared → Prop} {s' : Shared}, (∀ c o, c ≠ it → s.heap.get? c = some o → s'.heap.get? c = some o) → (∀ t tk, Q (.int na t) { s' with toks := tk }) → wpAny (model prog w) A (call (.builtin "len") [a]) Q E s')
    (hlb : ∀ {A : Around} {E Q : Value → Shared → Prop} {s' : Shared}, (∀ c o, c ≠ it → s.heap.get? c = some o → s'.heap.get? c = some o) → (∀ t tk, Q (.int nb t) { s' with toks := tk }) → wpAny (model prog w) A (call (.builtin "len") [b]) Q E s')
    (h : ∀ t h' tk, (∀ c o, c ≠ it → s.heap.get? c = some o → h'.get? c = some o) → Q (.int (max na nb : Nat) t) { s with heap := h', toks := tk }) :
    wpAny (model prog w) A (call (.builtin "max") [.ref z]) Q E s := by
  have hin : A.in1.handled = none := hh
  have hli : l ≠ it := Nat.ne_of_lt hlt
  have hzi : z ≠ it := Nat.ne_of_gt (Nat.lt_trans hiT hTz)
  have hTi : T ≠ it := Nat.ne_of_gt hiT
  have hzlt : z < s.heap.objs.size := Heap.lt_size hz
  have W : Walks prog w A.in1 z (List.range s.heap.objs.size) [it] 2 (fun i v => ∃ t, v = .int (if i = 0 then na else nb : Nat) t)
      (fun i h => (∀ c o, c ≠ it → s.heap.get? c = some o → h.get? c = some o) ∧ h.IsTupleIter it l i) := by
    constructor
    · intro c hc
      rw [List.mem_singleton.mp hc]
      exact List.mem_range.mpr (Nat.lt_trans hiT (Nat.lt_trans hTz hzlt))
    · rintro i h₁ h₂ ⟨k, I⟩ hk
      have lts : ∀ c o, s.heap.get? c = some o → c ∈ List.range s.heap.objs.size := fun c o e => List.mem_range.mpr (Heap.lt_size e)
      refine ⟨fun c o hc e => hk c (lts c o e) o (k c o hc e), I.at fun o e => hk it (List.mem_range.mpr (Nat.lt_trans hiT (Nat.lt_trans hTz hzlt))) o e⟩
    · rintro i s₁ Q E hi ⟨k, I⟩ hQ
      have hl' : s₁.heap.IsTuple l #[a, b] := hl.at fun o e => k _ o hli e
      have go : ∀ (x : Value) (n : Nat), (#[a, b] : Array Value)[i]? = some x → (if i = 0 then na else nb : Nat) = n → (∀ {A : Around} {E Q : Value → Shared → Prop} {s' : Shared}, (∀ c o, c ≠ it → s.heap.get? c = some o → s'.heap.get? c = some o) → (∀ t tk, Q (.int n t) { s' with toks := tk }) → wpAny (model prog w) A (call (.builtin "len") [x]) Q E s') →
          wpAny (model prog w) A.in1 (pyNext (.ref z)) Q E s₁ := by
        intro x n hx hn hlen
        refine pyNext_map_item hli hzi (k _ _ hzi hz) (k _ _ hTi hT) I hl' hx fun h' I' hs' => ?_
        refine hlen (fun c o hc e => hs'.extBut _ _ hc (k c o hc e)) fun t tk => ?_
        exact hQ _ h' tk ⟨t, by rw [hn]⟩ ⟨fun c o hc e => hs'.extBut _ _ hc (k c o hc e), I'⟩ fun c o hc e => hs'.extBut _ _ (fun y => hc (by simp [y])) e
      by_cases e0 : i = 0
      · exact go a na (by subst e0; rfl) (if_pos e0) hla
      · have e1 : i = 1 := by omega
        exact go b nb (by subst e1; rfl) (if_neg e0) hlb
    · rintro s₁ Q E ⟨k, I⟩ hQ
      exact pyNext_map_end hin (k _ _ hzi hz) (k _ _ hTi hT) I (hl.at fun o e => k _ o hli e) rfl fun h' hk => hQ h' s₁.toks fun c o hc e => hk c o (fun y => hc (by simp [y])) e
    · rintro i s₁ Q E ⟨k, I⟩ hQ
      exact pyIter_map (k _ _ hzi hz) hQ
  refine call_max_walk (pyIter_map hz ?_)
  refine ⟨z, _, _, 2, _, _, _, rfl, W, ⟨fun _ _ _ e => e, h1⟩, fun c hc => List.mem_range.mp hc, by decide, CmpOf.ints_gt (fun i => ((if i = 0 then na else nb : Nat) : Int)) (fun i v p => p), fun v h' tk hP hk => ?_⟩
  obtain ⟨t, rfl⟩ := hP
  have key := h t h' tk fun c o hc e => hk c o (fun y => hc (List.mem_singleton.mp y)) e
  have e1 : ((if argBest (fun i j => decide (((if i = 0 then na else nb : Nat) : Int) > ((if j = 0 then na else nb : Nat) : Int))) (2 - 1) = 0 then na else nb : Nat)) = max na nb := by
    by_cases q : na < nb
    · simp [argBest, q]; omega
    · simp [argBest, q]; omega
  rw [e1]
  exact key
end
end Mine
end

section
namespace Mine
section
variable {prog : Program} {w : World} {A : Around} {E : Value → Shared → Prop} {s : Shared}

theorem all_loop_tup {it l : Addr} {a b : Value} {ta tb : Bool} (hne : l ≠ it) (h₀ : Heap)
    (hta : ∀ {A : Around} {E : Value → Shared → Prop} {Q : Bool → Shared → Prop} {s' : Shared}, (∀ c o, c ≠ it → h₀.get? c = some o → s'.heap.get? c = some o) → (∀ tk, Q ta { s' with toks := tk }) → wpAny (model prog w) A (truthy a) Q E s')
    (htb : ∀ {A : Around} {E : Value → Shared → Prop} {Q : Bool → Shared → Prop} {s' : Shared}, (∀ c o, c ≠ it → h₀.get? c = some o → s'.heap.get? c = some o) → (∀ tk, Q tb { s' with toks := tk }) → wpAny (model prog w) A (truthy b) Q E s')
    (hl : h₀.IsTuple l #[a, b]) :
    ∀ (k i : Nat) (s : Shared) (A : Around) (R : Result → Shared → Prop), A.handled = none → 2 - i = k → i ≤ 2 → s.heap.IsTupleIter it l i → (∀ c o, c ≠ it → h₀.get? c = some o → s.heap.get? c = some o) →
      (∀ h' tk, (∀ c o, c ≠ it → h₀.get? c = some o → h'.get? c = some o) → R (.ok (.ret (.bool (([ta, tb].drop i).all id)))) { s with heap := h', toks := tk }) →
      codeAny (model prog w) A (.builtin "all.loop" ⟨[.ref it], []⟩) R s := by
  intro k
  induction k with
  | zero =>
    intro i s A R hh hk hi hit hkeep hR
    have hin : i = 2 := by omega
    subst hin
    refine codeAny_builtin F.entry_all_loop ?_
    rw [Around.under_plainId F.plain_all_loop _]
    show wpAny _ A.in1 (pyNext (.ref it) >>= _) _ _ s
    refine wpAny_bind (wpAny_pyNext_tuple_end (A := A.in1) hh hit (hl.at fun o e => hkeep _ o hne e) rfl fun h' hk' => ?_)
    refine wpAny_bind (wpAny_rule (wpAny_pure ?_))
    exact hR h' s.toks fun c o hc e => hk' c o hc (hkeep c o hc e)
  | succ k ih =>
    intro i s A R hh hk hi hit hkeep hR
    have hlt : i < 2 := by omega
    refine codeAny_builtin F.entry_all_loop ?_
    rw [Around.under_plainId F.plain_all_loop _]
    show wpAny _ A.in1 (pyNext (.ref it) >>= _) _ _ s
    obtain ⟨x, tx, hx, hd, ht⟩ : ∃ (x : Value) (tx : Bool), (#[a, b] : Array Value)[i]? = some x ∧ [ta, tb].drop i = tx :: [ta, tb].drop (i + 1) ∧
        (∀ (A : Around) (E : Value → Shared → Prop) (Q : Bool → Shared → Prop) (s' : Shared), (∀ c o, c ≠ it → h₀.get? c = some o → s'.heap.get? c = some o) → (∀ tk, Q tx { s' with toks := tk }) → wpAny (model prog w) A (truthy x) Q E s') := by
      by_cases e0 : i = 0
      · subst e0; exact ⟨a, ta, rfl, rfl, fun _ _ _ _ => hta⟩
      · have e1 : i = 1 := by omega
        subst e1; exact ⟨b, tb, rfl, rfl, fun _ _ _ _ => htb⟩
    refine wpAny_bind (wpAny_pyNext_tuple_item hit (hl.at fun o e => hkeep _ o hne e) hx fun h' hit' hs' => ?_)
    have hkeep' : ∀ c o, c ≠ it → h₀.get? c = some o → h'.get? c = some o := fun c o hc e => hs'.extBut c o hc (hkeep c o hc e)
    refine wpAny_bind (wpAny_holding (ht _ _ _ _ hkeep' fun tk => ?_))
    refine wpAny_bind (wpAny_letGo ?_)
    cases hb : tx with
    | true =>
      simp only [if_true]
      refine wpAny_pure ⟨plainId_quiet F.plain_all_loop _, ih (i + 1) _ A R hh (by omega) (by omega) hit' hkeep' fun h'' tk'' hk'' => ?_⟩
      have := hR h'' tk'' hk''
      rw [hd, List.all_cons, hb, id, Bool.true_and] at this
      exact this
    | false =>
      simp only [Bool.false_eq_true, if_false]
      refine wpAny_bind (wpAny_rule (wpAny_pure ?_))
      have := hR h' tk hkeep'
      rw [hd, List.all_cons, hb, id, Bool.false_and] at this
      exact this

theorem call_all_tup {l : Addr} {a b : Value} {ta tb : Bool} {Q : Value → Shared → Prop} (hh : A.handled = none) (hl : s.heap.IsTuple l #[a, b])
    (hta : ∀ {A : Around} {E : Value → Shared → Prop} {Q : Bool → Shared → Prop} {s' : Shared}, (∀ c o, s.heap.get? c = some o → s'.heap.get? c = some o) → (∀ tk, Q ta { s' with toks := tk }) → wpAny (model prog w) A (truthy a) Q E s')
    (htb : ∀ {A : Around} {E : Value → Shared → Prop} {Q : Bool → Shared → Prop} {s' : Shared}, (∀ c o, s.heap.get? c = some o → s'.heap.get? c = some o) → (∀ tk, Q tb { s' with toks := tk }) → wpAny (model prog w) A (truthy b) Q E s')
    (h : ∀ h' tk, (∀ c o, s.heap.get? c = some o → h'.get? c = some o) → Q (.bool (ta && tb)) { s with heap := h', toks := tk }) :
    wpAny (model prog w) A (call (.builtin "all") [.ref l]) Q E s := by
  refine call_function_tree F.kind_all F.plain_all F.entry_all (F.args_all1 _) ?_
  unfold Builtin.«all»
  refine wpAny_bind (m := oneArg "all" _) (wpAny_pure ?_)
  refine wpAny_bind (wpAny_pyIter_tuple hl ?_)
  have hlt : l < s.heap.objs.size := by obtain ⟨o, ho, _⟩ := hl; exact Heap.lt_size ho
  have up : ∀ {h' : Heap}, (∀ c o, c ≠ s.heap.objs.size → (s.heap.push { cls := .type "tuple_iterator", data := .fields #[.ref l, .int 0 0] }).get? c = some o → h'.get? c = some o) → ∀ c o, s.heap.get? c = some o → h'.get? c = some o :=
    fun k c o e => k c o (Nat.ne_of_lt (Heap.lt_size e)) (Heap.get?_push_of_some _ e)
  refine wpAny_pure ⟨plainId_quiet F.plain_all_loop _, all_loop_tup (ta := ta) (tb := tb) (it := s.heap.objs.size) (Nat.ne_of_lt hlt) (s.heap.push { cls := .type "tuple_iterator", data := .fields #[.ref l, .int 0 0] }) (fun k q => hta (up k) q) (fun k q => htb (up k) q) (isTuple_push hl _) 2 0 _ _ _ hh rfl (by omega) ⟨_, Heap.get?_push_size _ rfl, rfl, rfl⟩ (fun _ _ _ e => e) fun h' tk hk => ?_⟩
  have := h h' tk (up hk)
  simpa using this
end
end Mine
end

section
namespace Mine

theorem starMethod {M : Model} {A : Around} {E : Value → Shared → Prop} {s : Shared} {name : Str} {env : Env} {o e : PySem.Expr} {apos pos p : Pos} {Q : Value → Shared → Prop}
    (h : wpAny M A (eval o env) (fun ov s₁ => wpAny M A (getAttr ov name true) (fun f s₂ => wpAny M A (callWith pos f [] (backTo pos (starEach [.Starred e p] env)) []) Q E s₂) E s₁) E s)
    (he : eval (.Call (.Attribute o name apos) [.Starred e p] [] pos) env = (do
      let ov ← eval o env
      standAt apos.atName
      let (f, first) ← holding [ov] (do pure (← getAttr ov name true, []))
      callWith pos f first (backTo pos (starEach [.Starred e p] env)) []) := by rfl) :
    wpAny M A (eval (.Call (.Attribute o name apos) [.Starred e p] [] pos) env) Q E s := by
  rw [he]
  refine wpAny_bind (wpAny_mono h (fun ov s₁ h₁ => wpAny_bind (wpAny_standAt (wpAny_bind (wpAny_holding (wpAny_bind (wpAny_mono h₁ (fun f s₂ h₂ => wpAny_pure ?_) fun _ _ x => x)))))) fun _ _ x => x)
  exact h₂

theorem getAttr_sm {prog : Program} {w : World} {A : Around} {E : Value → Shared → Prop} {s : Shared} {K : Frag} {x C p L : Addr} {ox : Obj} {name : Str} {h₀ : Heap} {m : Str → Option Value} {es : List DictEntry} {n : Nat} {expr : Bool} {Q : Value → Shared → Prop} {fv : Value} {rest : List Value}
    (F : Fr h₀ L s.heap m) (X₀ : K.In h₀) (I : InstAt s.heap x ox C (some (dictOf es n))) (hg : plainGet K C name = true) (hh : hasDictIn K C = true) (ha : findIn K (.ref C) name = some (some (.ref p)))
    (hgf : specialIn K (.ref p) "__get__" = some (some (.builtin "staticmethod.__get__"))) (hts : takesIn K (.ref p) = some false) (hc : copiedNames.contains name = false) (hl : getL name es = some none) (hp : recIn K p "staticmethod" = some (fv :: rest)) (hv : handedIn fv = true)
    (h : Q fv { s with toks := s.toks + 1 }) : wpAny (model prog w) A (getAttr (.ref x) name expr) Q E s :=
  get_bind (X₀.keeps F.keep) I (plainGet_of hg).1 (findObj_fn hh ha hgf hts hc (by show lookIn name (dictOf es n) = _; rw [lookIn_dict, hl])) (plainGet_of hg).2
      (wpAny_call (sm_get (s := { s with toks := s.toks + 1 }) (X₀.keeps F.keep) hp (handed_on hv h)))
theorem callWith_SI {M : Model} {A : Around} {E : Value → Shared → Prop} {s : Shared} {K : Frag} {env : Env} {pos p : Pos} {x C : Addr} {ox : Obj} {od : Option Obj} {first : List Value} {e : PySem.Expr} {Q : Value → Shared → Prop} (hd : ox.data = .plain)
    (h : wpAny M A (eval e env) (fun v s₁ => StarOf M A E v (fun vs s₂ => kco_P K x C ox od s₂.heap ∧ wpAny M A (call (.ref x) (first ++ vs)) Q E s₂) s₁) E s)
    (he : starEach [.Starred e p] env = [(true, eval e env)] := by rfl) :
    wpAny M A (callWith pos (.ref x) first (backTo pos (starEach [.Starred e p] env)) []) Q E s := by
  rw [he]
  have z := ks_lone (f := .ref x) (pos := pos) (Q := fun a s₁ => kco_P K x C ox od s₁.heap ∧ wpAny M A (call (.ref x) (first ++ a.pos) a.kw) Q E s₁) h
  unfold callWith
  refine wpAny_bind (wpAny_holding (wpAny_mono z (fun a s₁ h₁ => wpAny_bind (wpAny_standAt ?_)) fun _ _ y => y))
  have L := kco_keeper (M := M) h₁.1.2 hd
  refine wpAny_bind (L.here ?_)
  have tail : ∀ {t : Sem Value}, wpAny M A t Q E s₁ → wpAny M A (t >>= fun r => holding [r] point >>= fun _ => pure r) Q E s₁ :=
    fun ht => wpAny_bind (wpAny_mono ht (fun r s₂ hr => wpAny_bind (wpAny_holding (wpAny_point (wpAny_pure hr)))) fun _ _ y => y)
  exact tail (wpAny_operateT h₁.2)

theorem callWith_SM {M : Model} {A : Around} {E : Value → Shared → Prop} {s : Shared} {K : Frag} {env : Env} {pos p : Pos} {first : List Value} {e : PySem.Expr} {Q : Value → Shared → Prop} {h₀ : Heap} {L : Addr} {news : List (Addr × Obj)} {q g : Addr} {self : Value} (_X : K.In h₀) (_N : News h₀ L s.heap news) (_q : (q, methodObj (.ref g) self) ∈ news) (hf : fnIn K g = true)
    (h : wpAny M A (eval e env) (fun v s₁ => StarOf M A E v (fun vs s₂ => MethP K q g self s₂.heap ∧ wpAny M A (call (.ref q) (first ++ vs)) Q E s₂) s₁) E s)
    (he : starEach [.Starred e p] env = [(true, eval e env)] := by rfl) :
    wpAny M A (callWith pos (.ref q) first (backTo pos (starEach [.Starred e p] env)) []) Q E s := by
  rw [he]
  exact ks_call rfl (keeps_M hf) (ks_lone h)
end Mine
end

section
namespace Mine

theorem instUp {h h' : Heap} {x C : Addr} {ox : Obj} {od : Option Obj} (I : InstAt h x ox C od) (k : ∀ b o, h.get? b = some o → h'.get? b = some o) : InstAt h' x ox C od := by
  refine ⟨k _ _ I.at_, I.cls, I.no, ?_⟩
  have d := I.dict
  revert d
  cases ox.dict <;> cases od
  · exact id
  · exact id
  · exact id
  · exact k _ _

structure SelfAt (outer : List Env) (h : Heap) (x : Addr) (ox : Obj) (C : Addr) (od : Obj) : Prop where
  inst : InstAt h x ox C (some od)
  offx : x ∉ fAdr outer
  offd : ∀ dx, ox.dict = some dx → dx ∉ fAdr outer

section
variable {outer : List Env} {h g g' h' : Heap} {x C L a : Addr} {ox od : Obj} {m : Str → Option Value} {name : Str} {scope : Scope} {cd : Value}

theorem SelfAt.at_dict (I : SelfAt outer h x ox C od) : ∀ dx, ox.dict = some dx → h.get? dx = some od := fun dx e => by
  have d := I.inst.dict
  rw [e] at d
  exact d
theorem SelfAt.push (I : SelfAt outer g x ox C od) (F : Fr g L h m) : SelfAt (envOf name scope L a cd :: outer) h x ox C od := by
  have hL : g.get? L = none := kts_self F
  refine ⟨instUp I.inst F.keep, fun q => ?_, fun dx e q => ?_⟩
  · rcases kts_mem q with z | z
    · have := I.inst.at_; rw [z, hL] at this; cases this
    · exact I.offx z
  · rcases kts_mem q with z | z
    · have := I.at_dict dx e; rw [z, hL] at this; cases this
    · exact I.offd dx e z
theorem SelfAt.turn (I : SelfAt outer g x ox C od) (T : KtsTurn (fAdr outer) g g') : SelfAt outer g' x ox C od := by
  refine ⟨⟨T.other _ _ I.inst.at_ I.offx, I.inst.cls, I.inst.no, ?_⟩, I.offx, I.offd⟩
  have d := I.inst.dict
  have f := I.offd
  revert d f
  cases ox.dict
  · exact fun d _ => d
  · exact fun d f => T.other _ _ d (f _ rfl)
end

section
variable {K : Frag} {p : Program} {loose : List Str} {A₀ : Around} {base h₀ h h' : Heap} {outer : List Env} {L a : Addr} {m : Str → Option Value} {name : Str} {scope : Scope} {cd : Value} {news : List (Addr × Obj)}
  {mean : ExcName → Option Value} {mg mb : Str → Option Value}
theorem after_call {P : Prop} (B : Below A₀ base outer h₀) (XB : K.In base) (TB : Top p loose mean mg mb base) (D : KtsDicts (fAdr outer) h₀) (F : Fr h₀ L h m) (N : News h₀ L h news) (t : TurnTo (envOf name scope L a cd :: outer) h h')
    (next : ∀ g, KtsTurn (fAdr outer) h₀ g → Fr g L h' m → News g L h' news → Below A₀ base outer g → KtsDicts (fAdr outer) g → K.In g → Top p loose mean mg mb g → P) : P := by
  obtain ⟨g, T, F', N', B', D'⟩ := turned B D F N t
  exact next g T F' N' B' D' (XB.keeps B'.stays) (TB.keeps B'.stays)
end

theorem TurnTo.turn {outer : List Env} {h g h' : Heap} (T : KtsTurn (fAdr outer) h g) (k : TurnTo outer g h') : TurnTo outer h h' := 
  TurnTo.trans (TurnTo.of_turn T fun _ _ e => e) k
end Mine
end

section
namespace Mine
section
variable {prog : Program} {w : World} {A A₀ : Around} {base : Heap} {outer : List Env} {s : Shared} {K : Frag} {p : Program} {loose : List Str} {mean : ExcName → Option Value} {mg mb : Str → Option Value}
    {R : Result → Shared → Prop} {name qual : Str} {params : Arguments} {body : List Stmt} {scope : Scope} {dV kV doc pm cdv ct oc : Value} {an od : Option Addr} {osl : Array (Option Value)} {f : Addr} {args : Args}

theorem enterSC {vs : List Value} {binds : Value → List (Str × Value)} (C : Ctx K p loose outer s.heap)
    (ho : K.lookup f = some ⟨oc, od, .func (fnOf name qual params body scope dV kV doc pm an cdv ct), osl⟩) (hcd : codeIn K cdv qual = true) (hroom : A.depth < recursionLimit)
    (hbind : bindArgs (fnOf name qual params body scope dV kV doc pm an cdv ct) args = (newTuple vs >>= fun t => pure (binds t)))
    (hkind : ∀ t, ((binds t).all fun y => scope.names.lookup y.1 == some .local || scope.names.lookup y.1 == some .cell) = true)
    (hnd : ((cellsFrom 0 scope.names []).map (·.1)).Nodup)
    (hsz : vs.length ≤ sizeLine)
    (h : ∀ A₀ base mean mg mb g D' L' h₁ tk cells, g = s.heap → Fr g L' h₁ (bindL (envOfC qual scope L' f cdv).kindOf (binds (.ref D')) fun _ => none) → News g L' h₁ (cells ++ [(D', ({ cls := .type "tuple", data := .seq vs.toArray } : Obj))]) →
      CellsAre (bindC (envOfC qual scope L' f cdv).kindOf (binds (.ref D')) fun _ => none) (cellsFrom (L' + 1) scope.names []) cells → D' < L' →
      Below A₀ base outer g → K.In base → Top p loose mean mg mb base → KtsDicts (fAdr outer) g → K.In g → Top p loose mean mg mb g →
      wpAny (model prog w) (A.deeper (envOfC qual scope L' f cdv)) (execs body (envOfC qual scope L' f cdv))
        (fun fl s' => R (.ok (.ret (match fl with | .ret v => v | _ => .none))) s')
        (fun e s' => wpAny (model prog w) (A.deeper (envOfC qual scope L' f cdv)) (leaving (envOfC qual scope L' f cdv) e) (fun _ s'' => R (.error e) s'') (fun e' s'' => R (.error e') s'') s')
        { s with heap := h₁, toks := tk })
    (hco : scope.isCoroutine = false := by rfl) (hgen : scope.isGenerator = false := by rfl) (hk : scope.kind = .function := by rfl) : codeAny (model prog w) A (.call (.ref f) args) R s := by
  obtain ⟨A₀, base, mean, mg, mb, B, X, T, D⟩ := C.ex
  have Xs : K.In s.heap := X.keeps B.stays
  have Ts : Top p loose mean mg mb s.heap := T.keeps B.stays
  refine codeAny_call_function (fd := fnOf name qual params body scope dV kV doc pm an cdv ct) (body := body) hroom (Xs _ _ ho) rfl hco hgen rfl (codeRec_of Xs hcd) ?_
  rw [hbind]
  refine wpAny_bind (wpAny_newTuple (wpAny_pure ?_) hsz)
  refine wpAny_newFunctionEnv_cells hk (kindsX (hkind _) _) fun env' he s' x => ?_
  subst he
  refine ⟨(Ts.nolimit.keeps fun b o e => Heap.get?_push_of_some _ e).keeps x.toInCall.keep, codeAny_func ?_⟩
  obtain ⟨h₁, tk, rfl, _⟩ := x.done
  have hk₀ := x.toInCall.keep
  have hk₁ : ∀ b o, s.heap.get? b = some o → h₁.get? b = some o := fun b o e => hk₀ b o (Heap.get?_push_of_some _ e)
  obtain ⟨cells, NC, Y⟩ := Cl.news (h₀ := s.heap.push ({ cls := .type "tuple", data := .seq vs.toArray } : Obj)) (Nat.le_refl _) fun n c hm => ⟨x.cell n c (lookup_of_mem_nodup (cellsFrom_names scope.names 0 _ [] [] rfl ▸ hnd) hm), x.above n c hm⟩
  have hD := Heap.get?_push_size s.heap (o := ({ cls := .type "tuple", data := .seq vs.toArray } : Obj)) rfl
  refine h A₀ base mean mg mb s.heap s.heap.objs.size _ h₁ tk cells rfl ⟨x.toInCall.ns, hk₁, by simp [Heap.size_push]⟩ (fun q hq => ?_) Y (by simp [Heap.size_push]) B X T D Xs Ts
  rcases List.mem_append.mp hq with hq | hq
  · refine ⟨(NC q hq).1, (NC q hq).2.1, ?_⟩
    cases e : s.heap.get? q.1 with
    | none => rfl
    | some o => have := (NC q hq).2.2; rw [Heap.get?_push_of_some _ e] at this; cases this
  · rw [List.mem_singleton.mp hq]
    exact ⟨hk₀ _ _ hD, by simp [Heap.size_push], get_new _⟩
end
end Mine
end

section
namespace Mine

theorem addNews {g h h' : Heap} {L l : Addr} {o : Obj} {m : Str → Option Value} {news : List (Addr × Obj)} (F : Fr g L h m) (N : News g L h news) (kk : ∀ c o, h.get? c = some o → h'.get? c = some o) (hn : h.get? l = none) (hl : h'.get? l = some o) :
    News g L h' ((l, o) :: news) := fun p hp => by
  rcases List.mem_cons.mp hp with rfl | hp
  · refine ⟨hl, fun e => ?_, ?_⟩
    · obtain ⟨o', es, ep, ho, _⟩ := F.ns
      rw [← e] at ho; dsimp only at ho; rw [hn] at ho; cases ho
    · show g.get? l = none
      cases q : g.get? l with
      | none => rfl
      | some o' => exact absurd (hn.symm.trans (F.keep _ _ q)) (by simp)
  · exact ⟨kk _ _ (N p hp).1, (N p hp).2⟩

theorem SK.of_call {A₀ : Around} {base g h h' : Heap} {outer : List Env} {L a : Addr} {name : Str} {scope : Scope} {cd : Value} {m : Str → Option Value} (B : Below A₀ base outer g) (D : KtsDicts (fAdr outer) g) (F : Fr g L h m) (t : TurnTo (envOf name scope L a cd :: outer) h h') : SK h h' :=
  SK.of_turnTo (ktsDicts_push D B F) t

theorem extras {g h : Heap} {L : Addr} {m : Str → Option Value} {news : List (Addr × Obj)} (F : Fr g L h m) (N : News g L h news) :
    ∃ extra, News g L h (news ++ extra) ∧ ∀ {h2 : Heap} {m2 : Str → Option Value}, Fr g L h2 m2 → News g L h2 extra → SK h h2 := by
  classical
  let extra : List (Addr × Obj) := (List.range h.objs.size).filterMap fun b => if g.get? b = none ∧ b ≠ L then (h.get? b).map fun o => (b, o) else none
  have ex : ∀ p ∈ extra, h.get? p.1 = some p.2 ∧ p.1 ≠ L ∧ g.get? p.1 = none := by
    intro p hp
    obtain ⟨b, _, hb⟩ := List.mem_filterMap.mp hp
    by_cases q : g.get? b = none ∧ b ≠ L
    · rw [if_pos q] at hb
      obtain ⟨o, ho, rfl⟩ := Option.map_eq_some_iff.mp hb
      exact ⟨ho, q.2, q.1⟩
    · rw [if_neg q] at hb; cases hb
  refine ⟨extra, fun p hp => (List.mem_append.mp hp).elim (N p) (ex p), fun {h2 m2} F2 N2 b o e ⟨its, n, hd⟩ => ?_⟩
  cases q : g.get? b with
  | some o' =>
    have := F.keep _ _ q
    rw [e] at this; cases this
    exact F2.keep _ _ q
  | none =>
    have hbL : b ≠ L := fun z => by
      obtain ⟨oL, es, ep, ho, hd', _⟩ := F.ns
      rw [← z, e] at ho; cases ho; rw [hd] at hd'; cases hd'
    have hm : (b, o) ∈ extra := List.mem_filterMap.mpr ⟨b, List.mem_range.mpr (Heap.lt_size e), by rw [if_pos ⟨q, hbL⟩, e]; rfl⟩
    exact (N2 _ hm).1
end Mine
end

section
namespace Mine
theorem after_call0 {g h h' : Heap} {L a : Addr} {m : Str → Option Value} {name : Str} {scope : Scope} {cd : Value} {news : List (Addr × Obj)} (F : Fr g L h m) (N : News g L h news) (t : TurnTo [envOf name scope L a cd] h h') : Fr g L h' m ∧ News g L h' news := by
  have hL : g.get? L = none := kts_self F
  have fa : ∀ b, b ∈ fAdr [envOf name scope L a cd] → b = L := fun b hb => by
    rcases kts_mem hb with z | z
    · exact z
    · cases z
  refine ⟨⟨?_, fun b o e => t.1 b o (F.keep b o e) fun q => (by rw [fa b q, hL] at e; cases e), F.above⟩, fun p hp => ⟨t.1 _ _ (N p hp).1 fun q => (N p hp).2.1 (fa _ q), (N p hp).2⟩⟩
  obtain ⟨o, es, ep, ho, hd, r⟩ := F.ns
  obtain ⟨sl, hs⟩ := t.2 L o ho (by exact List.mem_cons_self)
  exact ⟨_, es, ep, hs, hd, r⟩
end Mine
end

section
namespace Mine

theorem newEnv_cell {M : Model} {A : Around} {E : Value → Shared → Prop} {s : Shared} {scope : Scope} {g : Addr} {cl : List (Str × Addr)} {q : Str} {env : Env} {Q : Env → Shared → Prop} {n0 x n2 n3 n4 : Str} {k0 k2 k3 k4 : NameKind}
    (hn : scope.names = [(n0, k0), (x, .cell), (n2, k2), (n3, k3), (n4, k4)]) (h0 : (k0 == .cell) = false) (h2 : (k2 == .cell) = false) (h3 : (k3 == .cell) = false) (h4 : (k4 == .cell) = false)
    (h : Q { scope := scope, locals := s.heap.objs.size, globals := g, cells := (x, s.heap.objs.size + 1) :: cl, qual := q, func := none, code := env.code, frame := env.frame, builtins := env.builtins }
      { s with heap := (s.heap.push { cls := .type "dict", data := .dict #[] }).push { cls := .type "cell", data := .cell none } }) :
    wpAny M A (newFunctionEnv scope g cl [] q none .none (some env)) Q E s := by
  unfold newFunctionEnv
  simp only [Option.isSome_some, if_true]
  refine wpAny_bind (wpAny_alloc ?_)
  rw [hn]
  simp only [List.forIn_cons, List.forIn_nil, h0, h2, h3, h4, beq_self_eq_true, if_true, if_false, Bool.false_eq_true]
  refine wpAny_bind ?_
  refine wpAny_bind (wpAny_pure ?_)
  refine wpAny_bind (wpAny_bind (wpAny_alloc (wpAny_pure ?_)))
  refine wpAny_bind (wpAny_pure ?_)
  refine wpAny_bind (wpAny_pure ?_)
  refine wpAny_bind (wpAny_pure ?_)
  refine wpAny_pure ?_
  refine wpAny_bind (wpAny_pure (wpAny_pure ?_))
  have e : (s.heap.push ({ cls := .type "dict", data := .dict #[] } : Obj)).objs.size = s.heap.objs.size + 1 := Heap.size_push ..
  simpa only [e] using h

structure CellHead (h₀ : Heap) (L : Addr) (h : Heap) (m : Str → Option Value) (I : Addr) (oI : Obj) (c : Addr) (oc : Obj) (C : Addr) (oC : Obj) (D : Addr) (ys : List Value) (made news : List (Addr × Obj)) : Prop where
  F : Fr h₀ L h m
  N : News h₀ L h ((I, oI) :: (c, oc) :: (C, oC) :: (D, LCg.lst ys) :: (made ++ news))
  off : ∀ p ∈ made ++ news, p.1 ≠ I ∧ p.1 ≠ c ∧ p.1 ≠ C ∧ p.1 ≠ D
  ne : (@Ne Nat I c) ∧ (@Ne Nat I C) ∧ (@Ne Nat I D) ∧ (@Ne Nat c C) ∧ (@Ne Nat c D) ∧ (@Ne Nat C D)

theorem frBut {h₀ h h' : Heap} {L q : Addr} {m : Str → Option Value} (F : Fr h₀ L h m) (hk : ∀ b o, b ≠ q → h.get? b = some o → h'.get? b = some o) (hL : q ≠ L) (h0 : h₀.get? q = none) : Fr h₀ L h' m :=
  ⟨F.ns.at' fun o e => hk L o (Ne.symm hL) e, fun b o e => hk b o (fun z => by rw [z, h0] at e; cases e) (F.keep b o e), F.above⟩
theorem newsBut {h₀ h h' : Heap} {L q : Addr} {l : List (Addr × Obj)} (N : News h₀ L h l) (hk : ∀ b o, b ≠ q → h.get? b = some o → h'.get? b = some o) (off : ∀ p ∈ l, p.1 ≠ q) : News h₀ L h' l :=
  fun p hp => ⟨hk _ _ (off p hp) (N p hp).1, (N p hp).2⟩

section
variable {h₀ h h' : Heap} {L I c C D : Addr} {m : Str → Option Value} {oI oI' oc oc' oC : Obj} {ys ys' : List Value} {made news : List (Addr × Obj)}
theorem CellHead.setI (H : CellHead h₀ L h m I oI c oc C oC D ys made news) (hk : ∀ b o, b ≠ I → h.get? b = some o → h'.get? b = some o) (hI : h'.get? I = some oI') : CellHead h₀ L h' m I oI' c oc C oC D ys made news := by
  obtain ⟨F, N, off, n1, n2, n3, n4, n5, n6⟩ := H
  have zI := N _ (.head _)
  refine ⟨frBut F hk zI.2.1 zI.2.2, ?_, off, n1, n2, n3, n4, n5, n6⟩
  intro p hp
  rcases List.mem_cons.mp hp with rfl | hp
  · exact ⟨hI, zI.2⟩
  · refine newsBut (fun p hp => N p (.tail _ hp)) hk ?_ p hp
    intro p hp
    rcases List.mem_cons.mp hp with rfl | hp
    · exact fun e => n1 e.symm
    · rcases List.mem_cons.mp hp with rfl | hp
      · exact fun e => n2 e.symm
      · rcases List.mem_cons.mp hp with rfl | hp
        · exact fun e => n3 e.symm
        · exact (off p hp).1
theorem CellHead.setc (H : CellHead h₀ L h m I oI c oc C oC D ys made news) (hk : ∀ b o, b ≠ c → h.get? b = some o → h'.get? b = some o) (hc : h'.get? c = some oc') : CellHead h₀ L h' m I oI c oc' C oC D ys made news := by
  obtain ⟨F, N, off, n1, n2, n3, n4, n5, n6⟩ := H
  have zI := N _ (.tail _ (.head _))
  refine ⟨frBut F hk zI.2.1 zI.2.2, ?_, off, n1, n2, n3, n4, n5, n6⟩
  intro p hp
  rcases List.mem_cons.mp hp with rfl | hp
  · exact ⟨hk _ _ n1 (N _ (.head _)).1, (N _ (.head _)).2⟩
  · rcases List.mem_cons.mp hp with rfl | hp
    · exact ⟨hc, zI.2⟩
    · refine newsBut (fun p hp => N p (.tail _ (.tail _ hp))) hk ?_ p hp
      intro p hp
      rcases List.mem_cons.mp hp with rfl | hp
      · exact fun e => n4 e.symm
      · rcases List.mem_cons.mp hp with rfl | hp
        · exact fun e => n5 e.symm
        · exact (off p hp).2.1
theorem CellHead.setD (H : CellHead h₀ L h m I oI c oc C oC D ys made news) (hk : ∀ b o, b ≠ D → h.get? b = some o → h'.get? b = some o) (hD : h'.get? D = some (LCg.lst ys')) : CellHead h₀ L h' m I oI c oc C oC D ys' made news := by
  obtain ⟨F, N, off, n1, n2, n3, n4, n5, n6⟩ := H
  have zI := N _ (.tail _ (.tail _ (.tail _ (.head _))))
  refine ⟨frBut F hk zI.2.1 zI.2.2, ?_, off, n1, n2, n3, n4, n5, n6⟩
  intro p hp
  rcases List.mem_cons.mp hp with rfl | hp
  · exact ⟨hk _ _ n3 (N _ (.head _)).1, (N _ (.head _)).2⟩
  · rcases List.mem_cons.mp hp with rfl | hp
    · exact ⟨hk _ _ n5 (N _ (.tail _ (.head _))).1, (N _ (.tail _ (.head _))).2⟩
    · rcases List.mem_cons.mp hp with rfl | hp
      · exact ⟨hk _ _ n6 (N _ (.tail _ (.tail _ (.head _)))).1, (N _ (.tail _ (.tail _ (.head _)))).2⟩
      · rcases List.mem_cons.mp hp with rfl | hp
        · exact ⟨hD, zI.2⟩
        · exact newsBut (fun p hp => N p (.tail _ (.tail _ (.tail _ (.tail _ hp))))) hk (fun p hp => (off p hp).2.2.2) p hp
end

section
variable {prog : Program} {w : World} {A : Around} {E : Value → Shared → Prop} {s : Shared} {h₀ : Heap} {L : Addr} {m : Str → Option Value} {env : Env}

theorem assign_comp_cell {elt iter : PySem.Expr} {x y : Str} {px py : Pos} {scope : Scope} {cl : List (Str × Addr)} {pos spos : Pos} {Q : Flow → Shared → Prop} {n0 n2 n3 n4 : Str} {k0 k2 k3 k4 : NameKind} (J : Nat → List Value → List (Addr × Obj) → Prop)
    (hLe : env.locals = L)
    (hsw : swapsWith (.ListComp elt [⟨.Name x px, iter, [], 0⟩] scope pos) (some (.Name y py)) spos.line env = pure true)
    (hclos : closureFor scope env = pure cl) (hsn : scope.names = [(n0, k0), (x, .cell), (n2, k2), (n3, k3), (n4, k4)]) (e0 : (k0 == .cell) = false) (e2 : (k2 == .cell) = false) (e3 : (k3 == .cell) = false) (e4 : (k4 == .cell) = false)
    (hkind : scope.kind = .function)
    (hnames : ∀ z ∈ scope.names, z.2 = .local → scope.names.lookup z.1 = some .local) (hx : ∀ c C, (compEnvC scope ((x, c) :: cl) C env).kindOf x = some .cell)
    (hy : env.kindOf y = some .local) (hp : (env.scope.kind == .class || (env.scope.kind == .module && env.locals != env.globals)) = false)
    (h : wpAny (model prog w) A (eval iter env) (fun xv s₁ => ∃ r a b t u v n news, xv = .ref r ∧ A.handled = none ∧ Fr h₀ L s₁.heap m ∧ News h₀ L s₁.heap news ∧ IsRange s₁.heap r a b 1 t u v ∧ Builtin.Range.small a b 1 = true ∧ Builtin.Range.rangeSize a b 1 = ((n : Nat) : Int) ∧ n ≤ sizeLine ∧ J 0 [] [] ∧
      (∀ i t I oI c oc C oC D ys made h tk, i < n → J i ys made → oc.data = .cell (some (.int (a + (i : Int)) t)) → LCg.NsObj oC (fun _ => none) → CellHead h₀ L h m I oI c oc C oC D ys made news →
        wpAny (model prog w) A (eval elt (compEnvC scope ((x, c) :: cl) C env)) (fun v s₂ => ∃ h' tk' made', s₂ = { s₁ with heap := h', toks := tk' } ∧ J (i + 1) (ys ++ [v]) made' ∧ CellHead h₀ L h' m I oI c oc C oC D ys made' news) (fun _ _ => False) { s₁ with heap := h, toks := tk }) ∧
      (∀ D h tk ys made, ys.length = n → J n ys made → Fr h₀ L h (fun z => if z = y then some (.ref D) else m z) → News h₀ L h ((D, LCg.lst ys) :: (made ++ news)) → (∀ p ∈ made ++ news, p.1 ≠ D) → Q .next { s₁ with heap := h, toks := tk })) E s)
    (hs : ∀ x, foldedSetIterable iter env x = pure x := by intro _; rfl) :
    wpAny (model prog w) A (exec (.Assign [.Name y py] (.ListComp elt [⟨.Name x px, iter, [], 0⟩] scope pos) spos) env) Q E s := by
  subst hLe
  rw [exec_Assign_Name_used _ _ _ _ hsw]
  refine wpAny_bind (wpAny_standAt (wpAny_bind ?_))
  show wpAny _ A (do let _ ← comprehension (.ListComp elt [⟨.Name x px, iter, [], 0⟩] scope pos) scope env _ (newList []) false (eval iter env) (some (assign (.Name y py) env))) _ _ s
  refine wpAny_bind (wpAny_mono (wpAny_comprehension_free (use := some (assign (.Name y py) env)) (Q := fun _ s' => Q .next s') rfl hs hclos hkind hnames
    (wpAny_mono h (fun xv s₁ h₁ => ?_) fun _ _ e => e)) (fun _ s' hq => wpAny_pure (wpAny_pure hq)) fun _ _ e => e)
  obtain ⟨r, a, b, t, u, v, n, news, rfl, hh, F, N, hr, hsm, hn, hsz, hJ, turn, fin⟩ := h₁
  refine wpAny_pyIter_range hr hsm ?_
  refine wpAny_newObj_type (newEnv_cell hsn e0 e2 e3 e4 ?_)
  dsimp only
  have W := LCg.range_walks (prog := prog) (w := w) (A := A) (I := s₁.heap.objs.size) hh a n
  -- the loop, from any head
  have loop : ∀ (I c C D : Addr) (oC : Obj), LCg.NsObj oC (fun _ => none) → (W' : Walks prog w A I [I] [I] n (fun i v => ∃ t, v = .int (a + (i : Int)) t) (fun i h => IsRangeIter h I (a + (i : Nat) * 1) ((n : Int) - (i : Nat)) 1)) →
      ∀ (s₃ : Shared), (∃ h' tk i ys made oI oc v0, s₃ = { s₁ with heap := h', toks := tk } ∧ i ≤ n ∧ ys.length = i ∧ J i ys made ∧ oc.data = .cell v0 ∧ IsRangeIter h' I (a + (i : Nat) * 1) ((n : Int) - (i : Nat)) 1 ∧ CellHead h₀ env.locals h' m I oI c oc C oC D ys made news) →
      codeAny (model prog w) A (.compLoop (.ListComp elt [⟨.Name x px, iter, [], 0⟩] scope pos) 0 (.ref I) (.ref D) (compEnvC scope ((x, c) :: cl) C env)) (compPost (model prog w) A E (some (assign (.Name y py) env)) (fun _ s' => Q .next s') (.ref D) C) s₃ := by
    rintro I c C D oC hoC W' s₃ ⟨h', tk, i, ys, made, oI, oc, v0, rfl, hi, hyl, hJ', hoc, hst, H⟩
    refine codeAny_compLoop_tests
      (fun k s' => ∃ h' tk i ys made oI oc v0, s' = { s₁ with heap := h', toks := tk } ∧ k = n + 1 - i ∧ i ≤ n ∧ ys.length = i ∧ J i ys made ∧ oc.data = .cell v0 ∧ IsRangeIter h' I (a + (i : Nat) * 1) ((n : Int) - (i : Nat)) 1 ∧ CellHead h₀ env.locals h' m I oI c oc C oC D ys made news) ?_ (n + 1 - i)
      ⟨h', tk, i, ys, made, oI, oc, v0, rfl, rfl, hi, hyl, hJ', hoc, hst, H⟩
    clear hst H hoc hJ' hyl hi
    rintro k s' ⟨h', tk, i, ys, made, oI, oc, v0, rfl, rfl, hi, hyl, hJ', hoc, hst, H⟩
    by_cases hlt : i < n
    · refine W'.item i _ _ _ hlt hst fun v h₂ tk₂ hPv hst₂ hk₂ => ?_
      obtain ⟨t, rfl⟩ := hPv
      have hk2 : ∀ b o, b ≠ I → h'.get? b = some o → h₂.get? b = some o := fun b o hb e => hk₂ b o (by simpa using hb) e
      have H2 := H.setI hk2 hst₂
      have hcI := H2.N (c, oc) (.tail _ (.head _))
      dsimp only
      refine wpAny_assign_Name (wpAny_storeName_cell hkind (hx c C) (by simp [compEnvC]) ⟨oc, hcI.1, hoc⟩ fun h₃ hc₃ hs₃ => ?_)
      obtain ⟨oc', ho', hd'⟩ := hc₃
      have H3 := H2.setc hs₃.extBut ho'
      have hst₃ : IsRangeIter h₃ I (a + ((i + 1 : Nat) : Int) * 1) ((n : Int) - ((i + 1 : Nat) : Int)) 1 := hs₃.extBut _ _ H2.ne.1 hst₂
      refine wpAny_tests_nil ?_
      simp only [if_true]
      refine wpAny_mono (turn i t I _ c oc' C oC D ys made h₃ _ hlt hJ' hd' hoC H3) (fun y s₄ h₄ => ?_) fun _ _ e => e.elim
      obtain ⟨h₄, tk₄, made', rfl, hJ4, H4⟩ := h₄
      have zD := (H4.N (D, LCg.lst ys) (.tail _ (.tail _ (.tail _ (.head _))))).1
      refine append_at (hsz := by show ys.toArray.size ≤ sizeLine; rw [List.size_toArray, hyl]; exact Nat.le_trans hi hsz) zD fun h₅ hs₅ hD₅ => ?_
      have H5 := H4.setD hs₅.extBut (hD₅.trans (congrArg some (LCg.lst_snoc ys y)))
      have zI := (H4.N (I, _) (.head _)).1
      have zI3 : h₃.get? I = some _ := hst₃
      have zI3' := (H3.N (I, _) (.head _)).1
      refine ⟨n + 1 - (i + 1), by omega, h₅, tk₄, i + 1, ys ++ [y], made', _, oc', _, rfl, rfl, hlt, by rw [List.length_append, List.length_singleton, hyl], hJ4, hd', ?_, H5⟩
      have zz := hs₅.extBut _ _ H4.ne.2.2.1 zI
      exact zz
    · obtain rfl : i = n := Nat.le_antisymm hi (Nat.not_lt.mp hlt)
      refine W'.done _ _ _ hst fun h₂ tk₂ hk₂ => ?_
      have hk2 : ∀ b o, b ≠ I → h'.get? b = some o → h₂.get? b = some o := fun b o hb e => hk₂ b o (by simpa using hb) e
      dsimp only
      show wpAny _ A (assign (.Name y py) env (.ref D)) _ _ _
      have zI := H.N _ (.head _)
      have F2 : Fr h₀ env.locals h₂ m := frBut H.F hk2 zI.2.1 zI.2.2
      have N2 : News h₀ env.locals h₂ ((C, oC) :: (D, LCg.lst ys) :: (made ++ news)) := by
        refine newsBut (fun p hp => H.N p (.tail _ (.tail _ hp))) hk2 ?_
        intro p hp
        rcases List.mem_cons.mp hp with rfl | hp
        · exact fun e => H.ne.2.1 e.symm
        · rcases List.mem_cons.mp hp with rfl | hp
          · exact fun e => H.ne.2.2.1 e.symm
          · exact (H.off p hp).1
      have zC := N2 _ (.head _)
      refine wpAny_assign_Name (wpAny_storeName_local hy F2.ns (fun h₃ hn₃ hs₃ => ?_) hp)
      have hL0 : h₀.get? env.locals = none := Heap.get?_none_of_le F2.above
      have F3 : Fr h₀ env.locals h₃ (fun z => if z = y then some (.ref D) else m z) := ⟨hn₃, fun b o e => hs₃.extBut b o (fun q => by rw [q, hL0] at e; cases e) (F2.keep b o e), F2.above⟩
      refine ⟨fun _ => none, (hoC.ns zC.1).sameBut hs₃ zC.2.1, fun h'' hs'' => fin D h'' _ ys made hyl hJ' (F3.change hs'' zC.2.1 zC.2.2) (fun p hp => ?_) fun p hp => (H.off p hp).2.2.2⟩
      have z3 : h₃.get? p.1 = some p.2 := hs₃.extBut _ _ (N2 p (.tail _ hp)).2.1 (N2 p (.tail _ hp)).1
      refine ⟨hs''.extBut _ _ ?_ z3, (N2 p (.tail _ hp)).2⟩
      rcases List.mem_cons.mp hp with rfl | hp
      · exact fun e => H.ne.2.2.2.2.2 e.symm
      · exact (H.off p hp).2.2.1
  have e1 := Heap.size_push s₁.heap ({ cls := .type "range_iterator", data := .fields #[rawInt a, rawInt (Builtin.Range.rangeSize a b 1), rawInt 1] } : Obj)
  generalize hq1 : s₁.heap.push ({ cls := .type "range_iterator", data := .fields #[rawInt a, rawInt (Builtin.Range.rangeSize a b 1), rawInt 1] } : Obj) = q1 at e1 ⊢
  have e2 := Heap.size_push q1 ({ cls := .type "list", data := .seq #[] } : Obj)
  generalize hq2 : q1.push ({ cls := .type "list", data := .seq #[] } : Obj) = q2 at e2 ⊢
  have e3 := Heap.size_push q2 ({ cls := .type "dict", data := .dict #[] } : Obj)
  generalize hq3 : q2.push ({ cls := .type "dict", data := .dict #[] } : Obj) = q3 at e3 ⊢
  generalize hq4 : q3.push ({ cls := .type "cell", data := .cell none } : Obj) = q4
  have up4 : ∀ c o, q3.get? c = some o → q4.get? c = some o := fun c o e => hq4 ▸ Heap.get?_push_of_some _ e
  have up3 : ∀ c o, q2.get? c = some o → q4.get? c = some o := fun c o e => up4 _ _ (hq3 ▸ Heap.get?_push_of_some _ e)
  have up2 : ∀ c o, q1.get? c = some o → q4.get? c = some o := fun c o e => up3 _ _ (hq2 ▸ Heap.get?_push_of_some _ e)
  have up1 : ∀ c o, s₁.heap.get? c = some o → q4.get? c = some o := fun c o e => up2 _ _ (hq1 ▸ Heap.get?_push_of_some _ e)
  have gI : q4.get? s₁.heap.objs.size = some ({ cls := .type "range_iterator", data := .fields #[rawInt a, rawInt (Builtin.Range.rangeSize a b 1), rawInt 1] } : Obj) := up2 _ _ (hq1 ▸ Heap.get?_push_size _ rfl)
  have gD : q4.get? q1.objs.size = some (LCg.lst []) := up3 _ _ (hq2 ▸ Heap.get?_push_size _ rfl)
  have gC : q4.get? q2.objs.size = some ({ cls := .type "dict", data := .dict #[] } : Obj) := up4 _ _ (hq3 ▸ Heap.get?_push_size _ rfl)
  have gc : q4.get? (q2.objs.size + 1) = some ({ cls := .type "cell", data := .cell none } : Obj) := by rw [← e3]; exact hq4 ▸ Heap.get?_push_size _ rfl
  have hLlt : env.locals < s₁.heap.objs.size := F.ns.lt
  have fresh₀ : ∀ a, s₁.heap.objs.size ≤ a → h₀.get? a = none := fun a ha => by
    cases e : h₀.get? a with
    | none => rfl
    | some o' => exact absurd (Heap.lt_size (F.keep a o' e)) (Nat.not_lt.mpr ha)
  have lt0 : ∀ p ∈ news, @LT.lt Nat _ p.1 s₁.heap.objs.size := fun p hp => Heap.lt_size (N p hp).1
  have H : CellHead h₀ env.locals q4 m s₁.heap.objs.size ({ cls := .type "range_iterator", data := .fields #[rawInt a, rawInt (Builtin.Range.rangeSize a b 1), rawInt 1] } : Obj) (q2.objs.size + 1) ({ cls := .type "cell", data := .cell none } : Obj) q2.objs.size ({ cls := .type "dict", data := .dict #[] } : Obj) q1.objs.size [] [] news := by
    refine ⟨F.keeps up1, ?_, ?_, ?_⟩
    · intro p hp
      rcases List.mem_cons.mp hp with rfl | hp
      · exact ⟨gI, Ne.symm (Nat.ne_of_lt hLlt), fresh₀ _ (Nat.le_refl _)⟩
      · rcases List.mem_cons.mp hp with rfl | hp
        · exact ⟨gc, Ne.symm (Nat.ne_of_lt (Nat.lt_trans hLlt (by show _ < _ + 1; omega))), fresh₀ _ (by show _ ≤ _ + 1; omega)⟩
        · rcases List.mem_cons.mp hp with rfl | hp
          · exact ⟨gC, Ne.symm (Nat.ne_of_lt (Nat.lt_of_lt_of_le hLlt (by show s₁.heap.objs.size ≤ q2.objs.size; omega))), fresh₀ _ (by show s₁.heap.objs.size ≤ q2.objs.size; omega)⟩
          · rcases List.mem_cons.mp hp with rfl | hp
            · exact ⟨gD, Ne.symm (Nat.ne_of_lt (Nat.lt_of_lt_of_le hLlt (by show s₁.heap.objs.size ≤ q1.objs.size; omega))), fresh₀ _ (by show s₁.heap.objs.size ≤ q1.objs.size; omega)⟩
            · exact ⟨up1 _ _ (N p hp).1, (N p hp).2⟩
    · intro p hp
      have := lt0 p hp
      exact ⟨Nat.ne_of_lt this, Nat.ne_of_lt (show @LT.lt Nat _ p.1 (q2.objs.size + 1) by omega), Nat.ne_of_lt (show @LT.lt Nat _ p.1 (q2.objs.size) by omega), Nat.ne_of_lt (show @LT.lt Nat _ p.1 (q1.objs.size) by omega)⟩
    · refine ⟨?_, ?_, ?_, ?_, ?_, ?_⟩ <;> omega
  have hst : IsRangeIter q4 s₁.heap.objs.size (a + ((0 : Nat) : Int) * 1) ((n : Int) - ((0 : Nat) : Int)) 1 := by
    show q4.get? _ = _
    rw [gI, hn]
    simp
  have go := loop s₁.heap.objs.size (q2.objs.size + 1) q2.objs.size q1.objs.size _ ⟨#[], 0, rfl, by intro e he; simp at he, fun _ => rfl⟩ W { s₁ with heap := q4 } ⟨q4, s₁.toks, 0, [], [], _, _, _, rfl, Nat.zero_le _, rfl, hJ, rfl, hst, H⟩
  exact codeAny_compStart_list go (W.self 0 _ _ _ hst go)
end
end Mine
end

section
namespace Mine

abbrev RowV := Addr × List Value × Nat
def rowO (r : RowV) : Addr × Obj := (r.1, W.listOf r.2.1.toArray r.2.2)
def TabIs (T : Nat → Nat → Int) (w : Nat) (rows : List RowV) : Prop := (rows.map (·.1)).Nodup ∧ ∀ (k : Nat) (r : RowV), rows[k]? = some r → IntsAre r.2.1 ((List.range w).map fun j => T k j)

theorem TabIs.congr {T T' : Nat → Nat → Int} {w : Nat} {rows : List RowV} (h : TabIs T w rows) (e : ∀ k j, k < rows.length → j < w → T k j = T' k j) : TabIs T' w rows := by
  refine ⟨h.1, fun k r hr => ?_⟩
  have hk : k < rows.length := (List.getElem?_eq_some_iff.mp hr).1
  have q := h.2 k r hr
  rw [List.map_congr_left (g := fun j => T' k j) fun j hj => e k j hk (List.mem_range.mp hj)] at q
  exact q

theorem upd_rows {rows : List RowV} {k : Nat} {r : RowV} (v : List Value) (hd : (rows.map (·.1)).Nodup) (hr : rows[k]? = some r) :
    Upd r.1 (W.listOf r.2.1.toArray r.2.2) (W.listOf v.toArray r.2.2) (rows.map rowO) ((rows.set k (r.1, v, r.2.2)).map rowO) := by
  induction rows generalizing k with
  | nil => simp at hr
  | cons q rows ih =>
    rw [List.map_cons, List.nodup_cons] at hd
    cases k with
    | zero =>
      simp only [List.getElem?_cons_zero, Option.some.injEq] at hr
      subst hr
      refine Upd.head ?_
      intro p hp
      obtain ⟨q', hq', rfl⟩ := List.mem_map.mp hp
      exact fun e => hd.1 (List.mem_map.mpr ⟨q', hq', e⟩)
    | succ k =>
      simp only [List.getElem?_cons_succ] at hr
      refine Upd.tail ?_ (ih hd.2 hr)
      exact fun e => hd.1 (List.mem_map.mpr ⟨r, List.mem_of_getElem? hr, e.symm⟩)

theorem upd_pre {D : Addr} {o o' : Obj} {l l' : List (Addr × Obj)} : ∀ {pre : List (Addr × Obj)}, (∀ p ∈ pre, p.1 ≠ D) → Upd D o o' l l' → Upd D o o' (pre ++ l) (pre ++ l')
  | [], _, U => U
  | _ :: _, h, U => Upd.tail (h _ (.head _)) (upd_pre (fun p hp => h p (.tail _ hp)) U)
theorem adr_ne {c c2 : List RowV} {I : Addr} (e : c2.map (·.1) = c.map (·.1)) (h : ∀ p ∈ c.map rowO, p.1 ≠ I) : ∀ p ∈ c2.map rowO, p.1 ≠ I := by
  intro p hp
  obtain ⟨r, hr, rfl⟩ := List.mem_map.mp hp
  have : r.1 ∈ c.map (·.1) := e ▸ List.mem_map.mpr ⟨r, hr, rfl⟩
  obtain ⟨r', hr', e'⟩ := List.mem_map.mp this
  have := h _ (List.mem_map.mpr ⟨r', hr', rfl⟩)
  exact fun q => this (e'.trans q)
theorem set_adr (rows : List RowV) {kk : Nat} {r : RowV} (v : List Value) (hr : rows[kk]? = some r) : (rows.set kk (r.1, v, r.2.2)).map (·.1) = rows.map (·.1) := by
  refine List.ext_getElem? fun i => ?_
  simp only [List.getElem?_map, List.getElem?_set]
  by_cases q : kk = i
  · subst q
    have hk : kk < rows.length := (List.getElem?_eq_some_iff.mp hr).1
    rw [if_pos rfl, if_pos hk, hr]
    rfl
  · rw [if_neg q]

section
variable {prog : Program} {w : World} {A : Around} {E : Value → Shared → Prop} {s : Shared} {h₀ : Heap} {L R I : Addr} {m : Str → Option Value} {io : Obj} {rows : List RowV} {refs : List Value} {n0 : Nat} {T : Nat → Nat → Int} {wd : Nat} {k j : Int} {t u : Tok} {r : RowV}

theorem rows_get {value slice : PySem.Expr} {Q : Value → Shared → Prop} {news : List (Addr × Obj)} (N : News h₀ L s.heap news) (hm : (R, W.listOf refs.toArray n0) ∈ news) (hr : refs = rows.map fun r => .ref r.1) (h0 : 0 ≤ k) (h1 : k < rows.length) (hn : rows.length < 1000)
    (h : ∀ r, rows[k.toNat]? = some r → Q (.ref r.1) s) (hs : subscripted slice false (.ref R) (.int k u) = operate [.ref R, .int k u] (getItem (.ref R) (.int k u)) := by with_unfolding_all rfl)
    (hg : ∀ v, letTemporaryGo value (.ref R) v = pure () := by intro _; with_unfolding_all rfl) :
    wpAny (model prog w) A (subscriptTail value slice (.ref R) (.int k u)) Q E s := by
  have hk : k.toNat < rows.length := by omega
  refine item_list (PySem.IsL.isList (n := n0) (N _ hm).1) h0 (by omega) (x := .ref (rows[k.toNat]).1) ?_ (h _ (List.getElem?_eq_getElem hk)) hs hg
  subst hr
  simp [hk]

theorem cell_get {value slice : PySem.Expr} {Q : Value → Shared → Prop} {news : List (Addr × Obj)} (N : News h₀ L s.heap news) (hsub : ∀ p ∈ rows.map rowO, p ∈ news) (hT : TabIs T wd rows) {kk : Nat} (hr : rows[kk]? = some r) (h0 : 0 ≤ j) (h1 : j < wd) (hn : wd < 1000)
    (h : ∀ t, Q (.int (T kk j.toNat) t) s) (hs : subscripted slice false (.ref r.1) (.int j u) = operate [.ref r.1, .int j u] (getItem (.ref r.1) (.int j u)) := by with_unfolding_all rfl) :
    wpAny (model prog w) A (subscriptTail value slice (.ref r.1) (.int j u)) Q E s := by
  refine ksa_sub N (hsub _ (List.mem_map.mpr ⟨r, List.mem_of_getElem? hr, rfl⟩)) (hT.2 _ _ hr) h0 (by simp; omega) (by omega) (fun t => ?_) hs
  have e : (((List.range wd).map fun j => T kk j).getD j.toNat 0) = T kk j.toNat := by
    rw [List.getD_eq_getElem?_getD]
    have : j.toNat < wd := by omega
    simp [this]
  rw [e]
  exact h t

theorem cell_set {Q : Unit → Shared → Prop} {x : Int} (F : Fr h₀ L s.heap m) {pre : List (Addr × Obj)} (N : News h₀ L s.heap (pre ++ rows.map rowO)) (hpre : ∀ p ∈ pre, ∀ r ∈ rows, p.1 ≠ r.1) (hT : TabIs T wd rows) {kk : Nat} (hr : rows[kk]? = some r) (h0 : 0 ≤ j) (h1 : j < wd) (hn : wd < 1000)
    (h : ∀ h' rows', Fr h₀ L h' m → News h₀ L h' (pre ++ rows'.map rowO) → TabIs (fun a b => if a = kk ∧ b = j.toNat then x else T a b) wd rows' → rows'.map (·.1) = rows.map (·.1) → Q () { s with heap := h' }) :
    wpAny (model prog w) A (setItem (.ref r.1) (.int j t) (.int x u)) Q E s := by
  have hi := hT.2 _ _ hr
  have hm := List.mem_of_getElem? hr
  have U := upd_rows (r.2.1.set j.toNat (.int x u)) hT.1 hr
  have U2 := upd_pre (pre := pre) (fun p hp => hpre p hp r hm) U
  refine ksa_set F N U2 hi h0 (by simp; omega) (by omega) fun h' F' N' hi' _ _ => h h' _ F' N' ?_ ?_
  · refine ⟨by rw [set_adr _ _ hr]; exact hT.1, fun k r' hr' => ?_⟩
    have hk : kk < rows.length := (List.getElem?_eq_some_iff.mp hr).1
    rw [List.getElem?_set] at hr'
    by_cases e : kk = k
    · subst e
      rw [if_pos rfl, if_pos hk] at hr'
      simp only [Option.some.injEq] at hr'
      subst hr'
      have e2 : ((List.range wd).map fun b => if kk = kk ∧ b = j.toNat then x else T kk b) = ((List.range wd).map fun b => T kk b).set j.toNat x := by
        refine List.ext_getElem? fun i => ?_
        rw [List.getElem?_set]
        simp only [List.getElem?_map, List.length_map, List.length_range]
        by_cases q : j.toNat = i
        · subst q
          have : j.toNat < wd := by omega
          simp [this]
        · have q2 : i ≠ j.toNat := fun z => q z.symm
          rw [if_neg q]
          by_cases z : i < wd
          · rw [List.getElem?_range z]; simp [q2]
          · rw [List.getElem?_eq_none (by simp; omega)]; rfl
      rw [e2]
      exact hi'
    · rw [if_neg e] at hr'
      have q := hT.2 k r' hr'
      have e2 : (fun b => if k = kk ∧ b = j.toNat then x else T k b) = fun b => T k b := by
        funext b
        rw [if_neg fun z => e z.1.symm]
      rw [e2]
      exact q
  · exact set_adr _ _ hr
end
end Mine
end

section
namespace Mine
section
variable {prog : Program} {w : World} {A : Around} {h₀ : Heap} {L : Addr} {m : Str → Option Value} {env : Env} {elt : PySem.Expr} {x : Str} {scope : Scope} {cl : List (Str × Addr)} {s : Shared} {Fin : List Value → List (Addr × Obj) → Prop} {news : List (Addr × Obj)}
theorem comp_made {n : Nat} {a : Int} (J : Nat → List Value → List (Addr × Obj) → Prop) (hJ : J 0 [] [])
    (turn : ∀ i t I oI C oC D m₂ ys made h tk (E' : Value → Shared → Prop), i < n → J i ys made → LCg.NsObj oC m₂ → m₂ x = some (.int (a + (i : Int)) t) → Fr h₀ L h m → News h₀ L h ((I, oI) :: (C, oC) :: (D, LCg.lst ys) :: (made ++ news)) → LCg.Off3 I C D (made ++ news) → ((@Ne Nat I C) ∧ (@Ne Nat I D) ∧ (@Ne Nat C D)) →
      wpAny (model prog w) A (eval elt (compEnvC scope cl C env)) (LCg.CompEnd h₀ L m { s with heap := h, toks := tk } I oI C oC D (LCg.lst ys) (fun _ => True) (fun y news' => ∃ made', news' = made' ++ news ∧ J (i + 1) (ys ++ [y]) made')) E' { s with heap := h, toks := tk })
    (fin : ∀ (ys : List Value) made, ys.length = n → J n ys made → Fin ys (made ++ news)) : LCg.CompRest prog w A h₀ L m env elt x scope cl s (fun _ => True) (fun i v => ∃ t, v = .int (a + (i : Int)) t) Fin n 0 [] news := by
  have key : ∀ (j i : Nat) (ys : List Value) made, i + j = n → ys.length = i → J i ys made → LCg.CompRest prog w A h₀ L m env elt x scope cl s (fun _ => True) (fun i v => ∃ t, v = .int (a + (i : Int)) t) Fin j i ys (made ++ news) := by
    intro j
    induction j with
    | zero =>
      intro i ys made hi hlen hy
      have e : i = n := by omega
      subst e
      exact LCg.CompRest.zero (fin ys made hlen hy)
    | succ j ih =>
      intro i ys made hi hlen hy
      refine LCg.CompRest.succ ?_
      intro v I oI C oC D m₂ h tk E' hv hC hx F N off ne
      obtain ⟨t, hv'⟩ := hv
      rw [hv'] at hx
      refine wpAny_mono (turn i t I oI C oC D m₂ ys made h tk E' (by omega) hy hC hx F N off ne) (fun y s₂ hq => ?_) fun _ _ e => e
      obtain ⟨h', tk', nw, e, F', N', off', hS, made', hn, hy'⟩ := hq
      rw [hn] at N' off'
      exact ⟨h', tk', made' ++ news, e, F', N', off', trivial, ih (i + 1) _ made' (by omega) (by simp [hlen]) hy'⟩
  exact key n 0 [] [] (by omega) rfl hJ
end
end Mine
end

section
namespace Mine

theorem enterPC {prog : Program} {w : World} {A : Around} {outer : List Env} {s : Shared} {K : Frag} {p : Program} {loose : List Str} 
    {R : Result → Shared → Prop} {name qual : Str} {params : Arguments} {body : List Stmt} {scope : Scope} {dV kV doc pm cdv ct oc : Value} {an od : Option Addr} {osl : Array (Option Value)} {f : Addr} {args : Args}
    {binds : List (Str × Value)} (C : Ctx K p loose outer s.heap)
    (ho : K.lookup f = some ⟨oc, od, .func (fnOf name qual params body scope dV kV doc pm an cdv ct), osl⟩) (hcd : codeIn K cdv qual = true) (hroom : A.depth < recursionLimit)
    (hbind : K.In s.heap → BindsTo s (fnOf name qual params body scope dV kV doc pm an cdv ct) args binds) 
    (hkind : (binds.all fun y => scope.names.lookup y.1 == some .local || scope.names.lookup y.1 == some .cell) = true)
    (hnd : ((cellsFrom 0 scope.names []).map (·.1)).Nodup)
    (h : ∀ A₀ base mean mg mb g L' h₁ tk cells, g = s.heap → Fr g L' h₁ (bindL (envOfC qual scope L' f cdv).kindOf binds fun _ => none) → News g L' h₁ cells →
      CellsAre (bindC (envOfC qual scope L' f cdv).kindOf binds fun _ => none) (cellsFrom (L' + 1) scope.names []) cells → 
      Below A₀ base outer g → K.In base → Top p loose mean mg mb base → KtsDicts (fAdr outer) g → K.In g → Top p loose mean mg mb g →
      wpAny (model prog w) (A.deeper (envOfC qual scope L' f cdv)) (execs body (envOfC qual scope L' f cdv))
        (fun fl s' => R (.ok (.ret (match fl with | .ret v => v | _ => .none))) s')
        (fun e s' => wpAny (model prog w) (A.deeper (envOfC qual scope L' f cdv)) (leaving (envOfC qual scope L' f cdv) e) (fun _ s'' => R (.error e) s'') (fun e' s'' => R (.error e') s'') s')
        { s with heap := h₁, toks := tk })
    (hco : scope.isCoroutine = false := by rfl) (hgen : scope.isGenerator = false := by rfl) (hk : scope.kind = .function := by rfl) : codeAny (model prog w) A (.call (.ref f) args) R s := by
  obtain ⟨A₀, base, mean, mg, mb, B, X, T, D⟩ := C.ex
  have Xs : K.In s.heap := X.keeps B.stays
  have Ts : Top p loose mean mg mb s.heap := T.keeps B.stays
  refine codeAny_call_function (fd := fnOf name qual params body scope dV kV doc pm an cdv ct) (body := body) hroom (Xs _ _ ho) rfl hco hgen rfl (codeRec_of Xs hcd) (hbind Xs _ _ _ _ ?_)
  refine wpAny_newFunctionEnv_cells hk (kindsX hkind _) fun env' he s' x => ?_
  subst he
  refine ⟨Ts.nolimit.keeps x.toInCall.keep, codeAny_func ?_⟩
  obtain ⟨h₁, tk, rfl, _⟩ := x.done
  have hk₁ := x.toInCall.keep
  obtain ⟨cells, NC, Y⟩ := Cl.news (h₀ := s.heap) (Nat.le_refl _) fun n c hm => ⟨x.cell n c (lookup_of_mem_nodup (cellsFrom_names scope.names 0 _ [] [] rfl ▸ hnd) hm), x.above n c hm⟩
  exact h A₀ base mean mg mb s.heap _ h₁ tk cells rfl ⟨x.toInCall.ns, hk₁, Nat.le_refl _⟩ NC Y B X T D Xs Ts

section
variable {prog : Program} {w : World} {A : Around} {h₀ : Heap} {L : Addr} {m : Str → Option Value} {env : Env} {elt : PySem.Expr} {x : Str} {scope : Scope} {cl : List (Str × Addr)} {s : Shared} {S : List (Addr × Obj) → Prop} {Fin : List Value → List (Addr × Obj) → Prop} {news : List (Addr × Obj)}
theorem comp_all {n : Nat} {a : Int} (El : Int → Value → Prop)
    (turn : ∀ k t I oI C oC D m₂ ys h tk (E' : Value → Shared → Prop), a ≤ k → k < a + (n : Int) → LCg.NsObj oC m₂ → m₂ x = some (.int k t) → Fr h₀ L h m → News h₀ L h ((I, oI) :: (C, oC) :: (D, LCg.lst ys) :: news) → LCg.Off3 I C D news → ((@Ne Nat I C) ∧ (@Ne Nat I D) ∧ (@Ne Nat C D)) →
      wpAny (model prog w) A (eval elt (compEnvC scope cl C env)) (LCg.CompEnd h₀ L m { s with heap := h, toks := tk } I oI C oC D (LCg.lst ys) S (fun y news' => news' = news ∧ El k y)) E' { s with heap := h, toks := tk })
    (fin : ∀ ys : List Value, ys.length = n → (∀ (i : Nat) y, ys[i]? = some y → El (a + i) y) → Fin ys news) : LCg.CompRest prog w A h₀ L m env elt x scope cl s S (fun i v => ∃ t, v = .int (a + (i : Int)) t) Fin n 0 [] news := by
  have key : ∀ (j i : Nat) (ys : List Value), i + j = n → ys.length = i → (∀ (i : Nat) y, ys[i]? = some y → El (a + i) y) → LCg.CompRest prog w A h₀ L m env elt x scope cl s S (fun i v => ∃ t, v = .int (a + (i : Int)) t) Fin j i ys news := by
    intro j
    induction j with
    | zero =>
      intro i ys hi hlen hy
      exact LCg.CompRest.zero (fin ys (by omega) hy)
    | succ j ih =>
      intro i ys hi hlen hy
      refine LCg.CompRest.succ ?_
      intro v I oI C oC D m₂ h tk E' hv hC hx F N off ne
      obtain ⟨t, hv'⟩ := hv
      rw [hv'] at hx
      refine wpAny_mono (turn (a + i) t I oI C oC D m₂ ys h tk E' (by omega) (by omega) hC hx F N off ne) (fun y s₂ hq => ?_) fun _ _ e => e
      obtain ⟨h', tk', nw, e, F', N', off', hS, hn, hy'⟩ := hq
      rw [hn] at N' off' hS
      refine ⟨h', tk', news, e, F', N', off', hS, ?_⟩
      refine ih (i + 1) _ (by omega) (by simp [hlen]) ?_
      intro i' y' e'
      by_cases q : i' < ys.length
      · rw [List.getElem?_append_left q] at e'; exact hy _ _ e'
      · rw [List.getElem?_append_right (by omega)] at e'
        have e2 : i' - ys.length = 0 := by
          by_cases z : i' - ys.length = 0
          · exact z
          · rw [List.getElem?_eq_none (by simp; omega)] at e'; cases e'
        rw [e2] at e'
        simp only [List.getElem?_cons_zero, Option.some.injEq] at e'
        have e3 : i' = i := by omega
        subst e' e3
        exact hy'
  exact key n 0 [] (by omega) rfl (fun _ _ e => by simp at e)
end

theorem kts_memC {name : Str} {scope : Scope} {L a b : Addr} {cd : Value} {outer : List Env} (hm : b ∈ (envOfC name scope L a cd :: outer).filterMap (·.frame)) : b = L ∨ b ∈ outer.filterMap (·.frame) := by
  obtain ⟨env, he, hf⟩ := List.mem_filterMap.mp hm
  rcases List.mem_cons.mp he with rfl | he
  · exact .inl (Option.some.inj hf).symm
  · exact .inr (List.mem_filterMap.mpr ⟨env, he, hf⟩)
theorem belowC {A : Around} {base h₀ h : Heap} {outer : List Env} {L a : Addr} {m : Str → Option Value} {name : Str} {scope : Scope} {cd : Value}
    (K : Below A base outer h₀) (F : Fr h₀ L h m) (hk : scope.kind = .function := by rfl) : Below (A.deeper (envOfC name scope L a cd)) base (envOfC name scope L a cd :: outer) h := by
  have hnew : base.get? L = none := by
    cases hq : base.get? L with
    | none => rfl
    | some o => exact absurd (Nat.lt_of_lt_of_le (Heap.lt_size (K.stays L o hq)) F.above) (Nat.lt_irrefl _)
  refine ⟨Around.frames_deeper K.stack, fun b o e => F.keep b o (K.stays b o e), ?_⟩
  exact .cons (by show scope.kind ≠ .module; rw [hk]; decide) rfl F.ns hnew (K.frames.of_keeps fun b o e _ => ⟨o, F.keep b o e, rfl⟩)
theorem Ctx.pushC {K : Frag} {p : Program} {loose : List Str} {A₀ : Around} {base h₀ h : Heap} {outer : List Env} {L a : Addr} {m : Str → Option Value} {name : Str} {scope : Scope} {cd : Value}
    {mean : ExcName → Option Value} {mg mb : Str → Option Value} (B : Below A₀ base outer h₀) (X : K.In base) (T : Top p loose mean mg mb base) (D : KtsDicts (fAdr outer) h₀) (F : Fr h₀ L h m) (hk : scope.kind = .function := by rfl) : Ctx K p loose (envOfC name scope L a cd :: outer) h :=
  ⟨A₀.deeper (envOfC name scope L a cd), base, mean, mg, mb, belowC B F hk, X, T, fun b hb => by
    rcases kts_memC hb with rfl | hb'
    · obtain ⟨o, es, ep, ho, hd, _⟩ := F.ns
      exact ⟨o, es, ep, ho, hd⟩
    · obtain ⟨o, es, n, ho, hd⟩ := D b hb'
      exact ⟨o, es, n, F.keep _ _ ho, hd⟩⟩

theorem strs_one : ∀ ys : List Value, (∀ (i : Nat) y, ys[i]? = some y → ∃ z t, y = .str z t ∧ z.length = 1) → ∃ zs : List Str, StrsAre ys zs ∧ (zs.map (·.length)).sum = ys.length ∧ zs.length = ys.length ∧ ∀ a ∈ zs, a.length = 1
  | [], _ => ⟨[], .nil, rfl, rfl, fun _ h => nomatch h⟩
  | y :: ys, h => by
    obtain ⟨z, t, e, hz⟩ := h 0 y rfl
    obtain ⟨zs, h1, h2, h3, h4⟩ := strs_one ys fun i y' e' => h (i + 1) y' (by simpa using e')
    subst e
    refine ⟨z :: zs, .cons _ _ h1, by simp only [List.map_cons, List.sum_cons, List.length_cons]; omega, by simp only [List.length_cons]; omega, ?_⟩
    intro a ha
    rcases List.mem_cons.mp ha with rfl | ha
    · exact hz
    · exact h4 a ha

theorem off1_mem {D : Addr} : ∀ {l : List (Addr × Obj)}, LCg.Off1 D l → ∀ p ∈ l, p.1 ≠ D
  | [], _, _, h => nomatch h
  | _ :: _, x, p, h => by
    rcases List.mem_cons.mp h with rfl | h
    · exact x.1
    · exact off1_mem x.2 p h
theorem ints_of {ys : List Value} {f : Nat → Int} (h : ∀ (j : Nat) v, ys[j]? = some v → ∃ t, v = .int (f j) t) : IntsAre ys ((List.range ys.length).map f) := by
  refine kdy_ints (by simp) fun j v hv => ?_
  obtain ⟨t, e⟩ := h j v hv
  have hj : j < ys.length := (List.getElem?_eq_some_iff.mp hv).1
  exact ⟨f j, by simp [hj], t, e⟩

end Mine
end

section
namespace Mine
abbrev tupO (its : Array Value) : Obj := { cls := .type "tuple", data := .seq its }

def SrcTup (prog : Program) (w : World) (A : Around) (h₀ : Heap) (L : Addr) (m : Str → Option Value) (env : Env) (elt : PySem.Expr) (x : Str) (scope : Scope) (cl : List (Str × Addr)) (Fin : Shared → List Value → List (Addr × Obj) → Prop) (xv : Value) (s₁ : Shared) : Prop :=
  ∃ ax its news, xv = .ref ax ∧ A.handled = none ∧ Fr h₀ L s₁.heap m ∧ News h₀ L s₁.heap news ∧ (ax, tupO its) ∈ news ∧ its.size ≤ sizeLine ∧
    ∀ s₂ : Shared, (∃ h, s₂ = { s₁ with heap := h }) → LCg.CompRest prog w A h₀ L m env elt x scope cl s₂ (fun news => (ax, tupO its) ∈ news) (fun i v => its[i]? = some v) (Fin s₂) its.size 0 [] news

section
variable {prog : Program} {w : World} {A : Around} {E : Value → Shared → Prop} {s : Shared} {h₀ : Heap} {L : Addr} {m : Str → Option Value} {env : Env}

theorem SrcTup.of {elt : PySem.Expr} {x : Str} {scope : Scope} {cl : List (Str × Addr)} {Fin : Shared → List Value → List (Addr × Obj) → Prop} {ax : Addr} {its : Array Value} {news : List (Addr × Obj)} {s₁ : Shared}
    (hh : A.handled = none) (F : Fr h₀ L s₁.heap m) (N : News h₀ L s₁.heap news) (hm : (ax, tupO its) ∈ news) (hsz : its.size ≤ sizeLine)
    (h : ∀ g, LCg.CompRest prog w A h₀ L m env elt x scope cl { s₁ with heap := g } (fun news => (ax, tupO its) ∈ news) (fun i v => its[i]? = some v) (Fin { s₁ with heap := g }) its.size 0 [] news) :
    SrcTup prog w A h₀ L m env elt x scope cl Fin (.ref ax) s₁ := ⟨ax, its, news, rfl, hh, F, N, hm, hsz, fun _ ⟨g, e⟩ => e ▸ h g⟩

theorem tup_st {ax I : Addr} {its : Array Value} : ∀ i (h h' : Heap) (o : Obj) (nw : List (Addr × Obj)), (h.IsTupleIter I ax i ∧ h.IsTuple ax its) → h.get? I = some o → h'.get? I = some o → (∀ b o, h₀.get? b = some o → h'.get? b = some o) → News h₀ L h' nw → (ax, tupO its) ∈ nw → (h'.IsTupleIter I ax i ∧ h'.IsTuple ax its) :=
  fun i h h' o nw st e e' _ N S => ⟨by obtain ⟨o', q, r⟩ := st.1; rw [e] at q; cases q; exact ⟨o, e', r⟩, ⟨_, (N _ S).1, rfl, _, rfl⟩⟩

theorem ListComp_tup (_F₀ : Fr h₀ L s.heap m) {elt iter : PySem.Expr} {x : Str} {px : Pos} {scope : Scope} {cl : List (Str × Addr)} {pos : Pos} {Q : Value → Shared → Prop} 
    (hclos : closureFor scope env = pure cl) (hcell : ∀ y ∈ scope.names, y.2 ≠ .cell) (hkind : scope.kind = .function)
    (hnames : ∀ y ∈ scope.names, y.2 = .local → scope.names.lookup y.1 = some .local) (hx : scope.names.lookup x = some .local)
    (h : wpAny (model prog w) A (eval iter env) (SrcTup prog w A h₀ L m env elt x scope cl (fun s₂ => LCg.FinE h₀ L m s₂ Q)) E s)
    (hs : ∀ x, foldedSetIterable iter env x = pure x := by intro _; rfl) :
    wpAny (model prog w) A (eval (.ListComp elt [⟨.Name x px, iter, [], 0⟩] scope pos) env) Q E s := by
  rw [eval_ListComp]
  refine wpAny_comprehension_free (use := none) rfl hs hclos hkind hnames (wpAny_mono h (fun xv s₁ h₁ => ?_) fun _ _ e => e)
  obtain ⟨ax, its, news, rfl, hh, F, N, S, hsz, R⟩ := h₁
  have hl : s₁.heap.IsTuple ax its := ⟨_, (N _ S).1, rfl, _, rfl⟩
  have hlt : ax < s₁.heap.objs.size := Heap.lt_size (N _ S).1
  refine wpAny_pyIter_tuple hl ?_
  have up : ∀ b o, s₁.heap.get? b = some o → (s₁.heap.push { cls := .type "tuple_iterator", data := .fields #[.ref ax, .int 0 0] }).get? b = some o := fun b o e => Heap.get?_push_of_some _ e
  refine LCg.block_U (Walks.tuple hh s₁.heap.objs.size ax (Nat.ne_of_lt hlt) its) hsz (fun i h st => by obtain ⟨o, e, _⟩ := st.1; exact ⟨o, e⟩) tup_st hcell hkind hx ⟨⟨_, Heap.get?_push_size _ rfl, rfl, rfl⟩, isTuple_push hl _⟩ (fun b hb => ?_)
    (F.keeps up) (N.grown up) (Nat.ne_of_lt F.ns.lt) (next_is_new F) (fun p hp => Nat.ne_of_lt (Heap.lt_size (N p hp).1)) S (R _ ⟨_, rfl⟩) ?_
  · show b < (s₁.heap.push _).objs.size
    rw [Heap.size_push]
    rcases List.mem_cons.mp hb with rfl | hb
    · exact Nat.lt_succ_self _
    · rw [List.mem_singleton.mp hb]; exact Nat.lt_succ_of_lt hlt
  · intro D C h' tk m' ys news' F' N' o1 hn hC₀ hD₀ hCL hDL hCD offC fin
    refine ⟨m', hn, fun h'' hs'' => fin D h'' tk (F'.change hs'' hCL hC₀) (fun p hp => ?_) o1⟩
    refine ⟨hs''.extBut _ _ ?_ (N' p hp).1, (N' p hp).2⟩
    rcases List.mem_cons.mp hp with rfl | hp
    · exact Ne.symm hCD
    · exact offC p hp
end
end Mine
end

section
namespace Mine
theorem callWith_TS {M : Model} {A : Around} {E : Value → Shared → Prop} {s : Shared} {env : Env} {pos p : Pos} {T : String} {e : PySem.Expr} {Q : Value → Shared → Prop}
    (h : wpAny M A (eval e env) (fun v s₁ => StarOf M A E v (fun vs s₂ => wpAny M A (call (.type T) vs) Q E s₂) s₁) E s)
    (he : starEach [.Starred e p] env = [(true, eval e env)] := by rfl) :
    wpAny M A (callWith pos (.type T) [] (backTo pos (starEach [.Starred e p] env)) []) Q E s := by
  rw [he]
  refine ks_call (P := fun _ => True) rfl (fun h _ => ⟨.machine, .inr (.inl rfl), ?_⟩) (ks_lone (wpAny_mono h (fun v s₁ h₁ => ?_) fun _ _ x => x))
  · intro A Q E s _ hq
    unfold keeperOf
    exact wpAny_pure hq
  · unfold StarOf at h₁ ⊢
    refine wpAny_mono h₁ (fun b s₂ h₂ => ⟨h₂.1, wpAny_mono h₂.2 (fun vs s₃ h₃ => ⟨trivial, by simpa using h₃⟩) fun _ _ x => x⟩) fun _ _ x => x
end Mine
end

section
namespace Mine

abbrev tabOne (j : Nat) (led b : Bool) : SetTable := { mask := 7, place := #[j], dummies := #[], finger := 0, led := led, moves := 0, plain := b }
abbrev setOne (led b : Bool) (j : Nat) (hs : Int) (v : Value) : Obj := { cls := .type "set", dict := none, data := .set #[(hs, v)] 1 (tabOne j led b) }

theorem slot_none (q : Nat) (led : Bool) : (SetTable.fresh 0 0 led).slot q = .empty := rfl
theorem slot_one (j q : Nat) (led b : Bool) : (tabOne j led b).slot q = if q = j then .live 0 else .empty := by
  by_cases h : j < q
  · have e : SetTable.below #[j] q = 1 := by simp [SetTable.below, SetTable.below.go, h]
    have hne : q ≠ j := by omega
    simp only [SetTable.slot, e]
    rw [if_neg hne]
    rfl
  · have e : SetTable.below #[j] q = 0 := by simp [SetTable.below, SetTable.below.go, h]
    simp only [SetTable.slot, e]
    by_cases hq : q = j
    · subst hq
      simp
    · rw [if_neg hq]
      have h2 : ((#[j] : Array Nat)[0]? == some q) = false := by simpa using fun z : j = q => hq z.symm
      rw [h2]
      rfl

abbrev pr (q pt : Nat) : SetTable.Probe := { j := q, more := 0, i := q, perturb := pt, dummy := none }
theorem pr_advance (j q pt : Nat) (led b : Bool) : (tabOne j led b).advance (pr q pt) = pr ((q * 5 + 1 + pt / 32) % 8) (pt / 32) := by
  have e : SetTable.runEnd 7 ((q * 5 + 1 + pt / 32) % 8) = (q * 5 + 1 + pt / 32) % 8 := by
    unfold SetTable.runEnd
    rw [if_neg (by omega)]
  simp only [SetTable.advance, SetTable.leap, Nat.lt_irrefl, if_false]
  show ({ j := (q * 5 + 1 + pt / 32) % 8, more := SetTable.runEnd 7 ((q * 5 + 1 + pt / 32) % 8) - (q * 5 + 1 + pt / 32) % 8, i := (q * 5 + 1 + pt / 32) % 8, perturb := pt / 32, dummy := none } : SetTable.Probe) = _
  rw [e, Nat.sub_self]
theorem pr_start (t : SetTable) (ht : t.mask = 7) (h : Int) : t.probeStart h = pr (SetTable.bits h % 8) (SetTable.bits h) := by
  have e : SetTable.runEnd 7 (SetTable.bits h % 8) = SetTable.bits h % 8 := by
    unfold SetTable.runEnd
    rw [if_neg (by omega)]
  unfold SetTable.probeStart
  rw [ht]
  show ({ j := SetTable.bits h % 8, more := SetTable.runEnd 7 (SetTable.bits h % 8) - SetTable.bits h % 8, i := SetTable.bits h % 8, perturb := SetTable.bits h, dummy := none } : SetTable.Probe) = _
  rw [e, Nat.sub_self]
theorem next_ne {j : Nat} (hj : j < 8) : (j * 5 + 1 + 0 / 32) % 8 ≠ j := by omega
theorem bits_lt (h : Int) : SetTable.bits h < 32 ^ 13 := by
  unfold SetTable.bits
  omega

theorem probe_out {j : Nat} {led b : Bool} {hashAt : Nat → Int} {h2 : Int} (hj : j < 8) (hne : (hashAt 0 == h2) = false) : ∀ (k q pt fuel : Nat), pt < 32 ^ k → k + 2 ≤ fuel →
    ∃ j2, j2 ≠ j ∧ SetTable.probe.go (tabOne j led b) hashAt h2 fuel (pr q pt) = some (.empty j2 none)
  | k, q, pt, 0, _, hf => absurd hf (by omega)
  | 0, q, pt, fuel + 1, hp, hf => by
    by_cases hq : q = j
    · have hpt : pt = 0 := by simpa using hp
      obtain ⟨f, rfl⟩ : ∃ f, fuel = f + 1 := ⟨fuel - 1, by omega⟩
      refine ⟨(j * 5 + 1 + 0 / 32) % 8, next_ne hj, ?_⟩
      rw [SetTable.probe.go, slot_one, if_pos hq]
      dsimp only
      rw [hne, pr_advance, hq, hpt]
      simp only [Bool.false_eq_true, if_false]
      rw [SetTable.probe.go, slot_one, if_neg (next_ne hj)]
    · refine ⟨q, hq, ?_⟩
      rw [SetTable.probe.go, slot_one, if_neg hq]
  | k + 1, q, pt, fuel + 1, hp, hf => by
    by_cases hq : q = j
    · obtain ⟨j2, h1, h3⟩ := probe_out hj hne k ((q * 5 + 1 + pt / 32) % 8) (pt / 32) fuel (by rw [Nat.pow_succ] at hp; omega) (by omega)
      refine ⟨j2, h1, ?_⟩
      rw [SetTable.probe.go, slot_one, if_pos hq]
      dsimp only
      rw [hne, pr_advance]
      simp only [Bool.false_eq_true, if_false]
      exact h3
    · refine ⟨q, hq, ?_⟩
      rw [SetTable.probe.go, slot_one, if_neg hq]
theorem probe_hit {j : Nat} {led b : Bool} {hashAt : Nat → Int} {h2 : Int} (he : (hashAt 0 == h2) = true) (pt fuel : Nat) : SetTable.probe.go (tabOne j led b) hashAt h2 (fuel + 1) (pr j pt) = some (.candidate j 0 (pr ((j * 5 + 1 + pt / 32) % 8) (pt / 32))) := by
  rw [SetTable.probe.go, slot_one, if_pos rfl]
  dsimp only
  rw [he, pr_advance]
  simp only [if_true]
theorem probe_miss {j q : Nat} {led b : Bool} {hashAt : Nat → Int} {h2 : Int} (hq : q ≠ j) (pt fuel : Nat) : SetTable.probe.go (tabOne j led b) hashAt h2 (fuel + 1) (pr q pt) = some (.empty q none) := by
  rw [SetTable.probe.go, slot_one, if_neg hq]
end Mine
end

section
namespace Mine

section
variable {prog : Program} {w : World} {A : Around} {E : Value → Shared → Prop} {s : Shared}

theorem items_str {ks : List Str} {vs : List Value} (h : ItemsAre (strKind prog w) ks vs) : ∀ v ∈ vs, ∃ z t, v = .str z t := by
  induction h with
  | nil => intro v hv; simp at hv
  | @cons k v' ks vs h1 _ ih =>
    intro v hv
    rcases List.mem_cons.mp hv with rfl | hv
    · cases v <;> first | exact ⟨_, _, rfl⟩ | exact absurd (show false = true from h1) Bool.false_ne_true
    · exact ih v hv

theorem hashBy_tup {ks : List Str} {a : Addr} {Q : Bool → Shared → Prop} (hk : IsTupleKey (strKind prog w) s.heap ks a) (h : ∀ b, Q b s) : wpAny (model prog w) A (hashByValue 8 (.ref a)) Q E s := by
  have hT := hk.typeIs
  obtain ⟨o, items, n, ho, _, hd, hi⟩ := hk
  unfold hashByValue
  refine wpAny_bind (wpAny_specialOf hT F.slot_tuple_hash.lookup ?_)
  show wpAny _ _ (seqItems? (.ref a) >>= _) _ _ _
  refine wpAny_bind (wpAny_seqItems ho hd ?_)
  refine wpAny_bind ?_
  simp only [Option.getD_some]
  rw [← Array.forIn_toList]
  have hall := items_str hi
  refine wpAny_forIn_list _ (fun rest r s' => r.1 = none ∧ s' = s ∧ ∀ v ∈ rest, ∃ z t, v = .str z t) _ ?_ ?_ _ _ ⟨rfl, rfl, hall⟩
  · rintro v rest r s' ⟨hr, rfl, hall⟩
    obtain ⟨z, t, rfl⟩ := hall v List.mem_cons_self
    have e : hashByValue 7 (.str z t) = pure false := by unfold hashByValue; rfl
    rw [e]
    refine wpAny_bind (wpAny_pure ?_)
    simp only [Bool.not_false, if_true]
    exact wpAny_pure (wpAny_pure (h _))
  · rintro ⟨r1, r2⟩ s' ⟨hr, rfl, _⟩
    simp only at hr
    subst hr
    exact wpAny_pure (h _)

theorem class_tup {ks : List Str} {a : Addr} {Q : Bool → Shared → Prop} (hk : IsTupleKey (strKind prog w) s.heap ks a) (h : Q false s) : wpAny (model prog w) A (ofAClassStatement 8 (.ref a)) Q E s := by
  have hT := hk.typeIs
  obtain ⟨o, items, n, ho, _, hd, hi⟩ := hk
  unfold ofAClassStatement
  refine wpAny_bind (wpAny_typeOf hT ?_)
  have e : ("tuple" == "tuple") = true := by decide
  simp only [beq_self_eq_true, if_true]
  refine wpAny_bind (wpAny_pure ?_)
  simp only [Bool.not_true, Bool.false_eq_true, if_false]
  refine wpAny_bind (wpAny_seqItems ho hd ?_)
  refine wpAny_bind ?_
  show wpAny _ _ (forIn items _ _) _ _ s
  rw [← Array.forIn_toList]
  have hall := items_str hi
  refine wpAny_forIn_list _ (fun rest r s' => r.1 = none ∧ s' = s ∧ ∀ v ∈ rest, ∃ z t, v = .str z t) _ ?_ ?_ _ _ ⟨rfl, rfl, hall⟩
  · rintro v rest r s' ⟨hr, rfl, hall⟩
    obtain ⟨z, t, rfl⟩ := hall v List.mem_cons_self
    have e : ofAClassStatement 7 (.str z t) = pure false := by unfold ofAClassStatement; rfl
    rw [e]
    refine wpAny_bind (wpAny_pure ?_)
    simp only [Bool.false_eq_true, if_false]
    exact wpAny_pure ⟨rfl, rfl, fun u hu => hall u (List.mem_cons_of_mem _ hu)⟩
  · rintro ⟨r1, r2⟩ s' ⟨hr, rfl, _⟩
    simp only at hr
    subst hr
    exact wpAny_pure h

theorem unseen_tups {ks ks2 : List Str} {a a2 : Addr} {Q : Bool → Shared → Prop} (hk : IsTupleKey (strKind prog w) s.heap ks a) (hk2 : IsTupleKey (strKind prog w) s.heap ks2 a2) (h : Q false s) : wpAny (model prog w) A (searchCouldBeSeen (.ref a2) [.ref a]) Q E s := by
  unfold searchCouldBeSeen
  simp only [List.forIn_cons, List.forIn_nil]
  refine wpAny_bind ?_
  refine wpAny_bind ?_
  by_cases e : (a2 == a) = true
  · have e1 : (a2 == a || carriedByValue (.ref a2) && carriedByValue (.ref a)) = true := by simp [e]
    simp only [e, Bool.true_or, if_true]
    exact wpAny_pure (wpAny_pure (wpAny_pure h))
  · have e1 : (carriedByValue (.ref a2) && carriedByValue (.ref a)) = false := by simp [carriedByValue]
    have e2 : (a2 == a) = false := by simpa using e
    simp only [e2, e1, Bool.or_false, Bool.false_eq_true, if_false]
    refine wpAny_bind (wpAny_eqIsQuiet_tuple hk2 ?_)
    simp only [Bool.not_true, Bool.false_eq_true, if_false]
    refine wpAny_bind (wpAny_eqIsQuiet_tuple hk ?_)
    simp only [Bool.not_true, Bool.false_eq_true, if_false]
    refine wpAny_bind (class_tup hk2 ?_)
    simp only [Bool.false_eq_true, if_false]
    refine wpAny_bind (class_tup hk ?_)
    simp only [Bool.false_eq_true, if_false]
    exact wpAny_pure (wpAny_pure (wpAny_pure h))
end
end Mine
end

section
namespace Mine

section
variable {prog : Program} {w : World} {A : Around} {E : Value → Shared → Prop} {s : Shared}

theorem fits_one (j : Nat) (led b : Bool) : (tabOne j led b).fits 1 = true := rfl
theorem state_one {S j : Nat} {led b : Bool} {hs : Int} {v : Value} {Q : (Array (Int × Value) × Nat × SetTable) → Shared → Prop} (ho : s.heap.get? S = some (setOne led b j hs v)) (h : Q (#[(hs, v)], 1, tabOne j led b) s) : wpAny (model prog w) A (setState S) Q E s :=
  wpAny_setState_of ho rfl (fits_one j led b) h

theorem met_diff {j : Nat} {led b : Bool} {hashAt : Nat → Int} {h2 : Int} {met : Option SetTable.Met} {q pt : Nat} (e : (tabOne j led b).probe hashAt h2 (pr q pt) = met) (hj : j < 8) (hne : (hashAt 0 == h2) = false) {k : Nat} (hp : pt < 32 ^ k) (hk : k ≤ 200) : ∃ j2, j2 ≠ j ∧ met = some (.empty j2 none) := by
  obtain ⟨j2, h1, h3⟩ := probe_out (led := led) (b := b) hj hne k q pt 220 hp (by omega)
  exact ⟨j2, h1, e.symm.trans h3⟩
theorem met_hit {j : Nat} {led b : Bool} {hashAt : Nat → Int} {h2 : Int} {met : Option SetTable.Met} {q pt : Nat} (e : (tabOne j led b).probe hashAt h2 (pr q pt) = met) (hq : q = j) (he : (hashAt 0 == h2) = true) : met = some (.candidate j 0 (pr ((j * 5 + 1 + pt / 32) % 8) (pt / 32))) := by
  subst hq
  exact e.symm.trans (probe_hit he pt 219)
theorem met_miss {j : Nat} {led b : Bool} {hashAt : Nat → Int} {h2 : Int} {met : Option SetTable.Met} {q pt : Nat} (e : (tabOne j led b).probe hashAt h2 (pr q pt) = met) (hq : q ≠ j) : met = some (.empty q none) := e.symm.trans (probe_miss hq pt 219)

theorem search_diff {S j : Nat} {led b : Bool} {ks ks2 : List Str} {a a2 : Addr} (hj : j < 8) (hu : A.units < cLine) (hS : s.heap.get? S = some (setOne led b j (tupleKeyHash (strKind prog w) ks) (.ref a))) (hk : IsTupleKey (strKind prog w) s.heap ks a) (hk2 : IsTupleKey (strKind prog w) s.heap ks2 a2) (hne : ks ≠ ks2)
    {Q : SetFound → Shared → Prop} (h : ∀ j2, j2 ≠ j → Q (.free j2 false) s) : ∀ (fuel k q pt : Nat) (stand : Option SetTable.Probe), stand.getD ((tabOne j led b).probeStart (tupleKeyHash (strKind prog w) ks2)) = pr q pt → pt < 32 ^ k → k ≤ 200 → (q ≠ j ∧ 1 ≤ fuel) ∨ k + 2 ≤ fuel →
    wpAny (model prog w) A (setSearchFrom S (.ref a2) (tupleKeyHash (strKind prog w) ks2) true fuel stand) Q E s
  | 0, k, q, pt, _, _, _, _, hf => absurd hf (by omega)
  | fuel + 1, k, q, pt, stand, hst, hp, hk200, hf => by
    unfold setSearchFrom
    refine wpAny_bind (state_one hS ?_)
    dsimp only
    have hg : (tabOne j led b).gaveWay = false := by simp [SetTable.gaveWay]
    rw [hg]
    simp only [Bool.false_eq_true, if_false]
    rw [hst]
    generalize hm : SetTable.probe (tabOne j led b) _ _ _ = met
    by_cases hh : (tupleKeyHash (strKind prog w) ks == tupleKeyHash (strKind prog w) ks2) = true
    · by_cases hq : q = j
      · have e := met_hit hm hq hh
        subst e
        dsimp only
        have found : wpAny (model prog w) A (do
            let equal ← holding [Value.ref a] (eqBool (Value.ref a) (Value.ref a2))
            let x ← setState S
            if (true && equal) = true then pure (SetFound.there none)
              else
                match x.2.snd.sameMemory 0 7 with
                | some same =>
                  match if same = true then x.2.snd.slot j else SetTable.Slot.empty with
                  | SetTable.Slot.live i' =>
                    match x.fst[i']? with
                    | some (fst, y') => do
                      let d ← isSame y' (Value.ref a)
                      let still ← pure (if d = true then some i' else none)
                      match still with
                        | none => do
                          rule "set.search.anew"
                          setSearchFrom S (Value.ref a2) (tupleKeyHash (PySem.strKind prog w) ks2) true fuel none
                        | some i' =>
                          if equal = true then pure (SetFound.there (some i'))
                          else
                            setSearchFrom S (Value.ref a2) (tupleKeyHash (PySem.strKind prog w) ks2) true fuel
                              (some (pr ((j * 5 + 1 + pt / 32) % 8) (pt / 32)))
                    | none => do
                      let still ← pure none
                      match still with
                        | none => do
                          rule "set.search.anew"
                          setSearchFrom S (Value.ref a2) (tupleKeyHash (PySem.strKind prog w) ks2) true fuel none
                        | some i' =>
                          if equal = true then pure (SetFound.there (some i'))
                          else
                            setSearchFrom S (Value.ref a2) (tupleKeyHash (PySem.strKind prog w) ks2) true fuel
                              (some (pr ((j * 5 + 1 + pt / 32) % 8) (pt / 32)))
                  | _ => do
                    let still ← pure none
                    match still with
                      | none => do
                        rule "set.search.anew"
                        setSearchFrom S (Value.ref a2) (tupleKeyHash (PySem.strKind prog w) ks2) true fuel none
                      | some i' =>
                        if equal = true then pure (SetFound.there (some i'))
                        else
                          setSearchFrom S (Value.ref a2) (tupleKeyHash (PySem.strKind prog w) ks2) true fuel
                            (some (pr ((j * 5 + 1 + pt / 32) % 8) (pt / 32)))
                | _ => unsupported "set.changed-during-lookup:is-the-new-block-at-the-old-address") Q E s := by
          refine wpAny_bind (wpAny_holding (wpAny_eqBool_tuple hu hk hk2 ?_))
          rw [decide_eq_false hne]
          refine wpAny_bind (state_one hS ?_)
          simp only [Bool.and_false, Bool.false_eq_true, if_false]
          have hsm : (tabOne j led b).sameMemory 0 7 = some true := rfl
          rw [hsm]
          dsimp only
          rw [if_pos rfl, slot_one, if_pos rfl]
          dsimp only
          refine wpAny_bind (wpAny_isSame_ref_self ?_)
          refine wpAny_bind (wpAny_pure ?_)
          simp only [if_true]
          cases k with
          | zero =>
            have hpt : pt = 0 := by simpa using hp
            subst hpt
            refine search_diff hj hu hS hk hk2 hne h fuel 0 _ _ _ rfl (by simp) (by omega) (.inl ⟨next_ne hj, ?_⟩)
            rcases hf with hf | hf
            · exact absurd hq hf.1
            · omega
          | succ k =>
            refine search_diff hj hu hS hk hk2 hne h fuel k _ _ _ rfl (by rw [Nat.pow_succ] at hp; omega) (by omega) (.inr ?_)
            rcases hf with hf | hf
            · exact absurd hq hf.1
            · omega
        cases led with
        | true => exact found
        | false =>
          simp only [Bool.not_false, if_true]
          have hfil : (List.map (fun x => x.snd) (Array.filter (fun x => x.fst == tupleKeyHash (PySem.strKind prog w) ks2) #[(tupleKeyHash (PySem.strKind prog w) ks, Value.ref a)]).toList) = [Value.ref a] := by simp [hh]
          rw [hfil]
          refine wpAny_bind (unseen_tups hk hk2 ?_)
          simp only [Bool.false_eq_true, if_false]
          exact found
      · have e := met_miss hm hq
        subst e
        exact wpAny_pure (h q hq)
    · have hh2 : (tupleKeyHash (PySem.strKind prog w) ks == tupleKeyHash (PySem.strKind prog w) ks2) = false := by simpa using hh
      obtain ⟨j2, hj2, e⟩ := met_diff hm hj hh2 hp hk200
      subst e
      exact wpAny_pure (h j2 hj2)
end
end Mine
end

section
namespace Mine

section
variable {prog : Program} {w : World} {A : Around} {E : Value → Shared → Prop} {s : Shared}

abbrev slotOf (h : Int) : Nat := SetTable.bits h % 8
theorem slotOf_lt (h : Int) : slotOf h < 8 := by unfold slotOf; omega

theorem search_same {S : Nat} {led b : Bool} {ks : List Str} {a a2 : Addr} (hu : A.units < cLine) (hS : s.heap.get? S = some (setOne led b (slotOf (tupleKeyHash (strKind prog w) ks)) (tupleKeyHash (strKind prog w) ks) (.ref a))) (hk : IsTupleKey (strKind prog w) s.heap ks a) (hk2 : IsTupleKey (strKind prog w) s.heap ks a2)
    {Q : SetFound → Shared → Prop} (h : Q (.there none) s) (fuel : Nat) :
    wpAny (model prog w) A (setSearchFrom S (.ref a2) (tupleKeyHash (strKind prog w) ks) true (fuel + 1) none) Q E s := by
  unfold setSearchFrom
  refine wpAny_bind (state_one hS ?_)
  dsimp only
  have hg : (tabOne (slotOf (tupleKeyHash (strKind prog w) ks)) led b).gaveWay = false := by simp [SetTable.gaveWay]
  rw [hg]
  simp only [Bool.false_eq_true, if_false, Option.getD_none]
  rw [pr_start _ rfl]
  generalize hm : SetTable.probe (tabOne (slotOf (tupleKeyHash (strKind prog w) ks)) led b) _ _ _ = met
  have hh : (tupleKeyHash (strKind prog w) ks == tupleKeyHash (strKind prog w) ks) = true := beq_self_eq_true _
  have e := met_hit hm rfl hh
  subst e
  dsimp only
  cases led with
  | true =>
    simp only [Bool.not_true, Bool.false_eq_true, if_false]
    show wpAny _ _ (holding [Value.ref a] (eqBool (.ref a) (.ref a2)) >>= _) _ _ _
    refine wpAny_bind (wpAny_holding (wpAny_eqBool_tuple hu hk hk2 ?_))
    refine wpAny_bind (state_one hS ?_)
    rw [decide_eq_true rfl]
    simp only [Bool.and_self, if_true]
    exact wpAny_pure h
  | false =>
    simp only [Bool.not_false, if_true]
    have hfil : (List.map (fun x => x.snd) (Array.filter (fun x => x.fst == tupleKeyHash (PySem.strKind prog w) ks) #[(tupleKeyHash (PySem.strKind prog w) ks, Value.ref a)]).toList) = [Value.ref a] := by simp
    rw [hfil]
    refine wpAny_bind (unseen_tups hk hk2 ?_)
    simp only [Bool.false_eq_true, if_false]
    show wpAny _ _ (holding [Value.ref a] (eqBool (.ref a) (.ref a2)) >>= _) _ _ _
    refine wpAny_bind (wpAny_holding (wpAny_eqBool_tuple hu hk hk2 ?_))
    refine wpAny_bind (state_one hS ?_)
    rw [decide_eq_true rfl]
    simp only [Bool.and_self, if_true]
    exact wpAny_pure h

theorem search_none {S : Nat} {led : Bool} {h1 : Int} {a : Addr} (hS : s.heap.get? S = some (freshSet led)) {Q : SetFound → Shared → Prop} (h : Q (.free (slotOf h1) false) s) (fuel : Nat) :
    wpAny (model prog w) A (setSearchFrom S (.ref a) h1 true (fuel + 1) none) Q E s := by
  unfold setSearchFrom
  refine wpAny_bind (wpAny_setState_of hS rfl (by rfl) ?_)
  dsimp only
  have hg : (SetTable.fresh 0 0 led).gaveWay = false := by simp [SetTable.gaveWay, SetTable.fresh]
  rw [hg]
  simp only [Bool.false_eq_true, if_false, Option.getD_none]
  rw [pr_start _ rfl]
  exact wpAny_pure h

theorem put_fresh (j : Nat) (led : Bool) : (SetTable.fresh 0 0 led).put j = (tabOne j led true, 0) := rfl
theorem insert_none {α : Type} (x : α) : SetTable.insertAt #[] 0 x = #[x] := by simp [SetTable.insertAt]
theorem full_one (j : Nat) (led b : Bool) : (tabOne j led b).tooFull = false := rfl

theorem add_first {S : Nat} {led : Bool} {ks : List Str} {a : Addr} {Q : Bool → Shared → Prop} (hu : A.units < cLine) (hS : s.heap.get? S = some (freshSet led)) (hk : IsTupleKey (strKind prog w) s.heap ks a)
    (h : ∀ h' tk b r, Heap.SameBut S s.heap h' → h'.get? S = some (setOne led b (slotOf (tupleKeyHash (strKind prog w) ks)) (tupleKeyHash (strKind prog w) ks) (.ref a)) → Q r { s with heap := h', toks := tk }) :
    wpAny (model prog w) A (setAdd S (.ref a)) Q E s := by
  unfold setAdd
  refine wpAny_holding (wpAny_bind (wpAny_pyHash_tuple hu hk ?_))
  unfold setAddHashed
  refine wpAny_holding ?_
  show wpAny _ _ (setAddHashedIn S (.ref a) (tupleKeyHash (strKind prog w) ks) (99999 + 1)) _ _ _
  unfold setAddHashedIn
  refine wpAny_bind (wpAny_setState_of (s := { s with toks := s.toks + (ks.length + 1) }) hS rfl (by rfl) ?_)
  dsimp only
  have hb : byScan (.ref a) #[] = false := rfl
  rw [hb]
  simp only [Bool.false_eq_true, if_false]
  refine wpAny_bind ?_
  unfold setSearch
  show wpAny _ _ (setSearchFrom S (.ref a) (tupleKeyHash (strKind prog w) ks) true (99999 + 1) none) _ _ _
  refine search_none (s := { s with toks := s.toks + (ks.length + 1) }) hS ?_ 99999
  dsimp only
  refine wpAny_bind (wpAny_setState_of (s := { s with toks := s.toks + (ks.length + 1) }) hS rfl (by rfl) ?_)
  dsimp only
  rw [put_fresh, insert_none]
  dsimp only
  simp only [if_true]
  refine wpAny_bind (hashBy_tup (s := { s with toks := s.toks + (ks.length + 1) }) hk fun b => ?_)
  have e1 : (if b = true then tabOne (slotOf (tupleKeyHash (strKind prog w) ks)) led true else { mask := 7, place := #[slotOf (tupleKeyHash (strKind prog w) ks)], dummies := #[], finger := 0, led := led, moves := 0, plain := false }) = tabOne (slotOf (tupleKeyHash (strKind prog w) ks)) led b := by cases b <;> rfl
  rw [e1]
  refine wpAny_bind (wpAny_storeSet_of (s := { s with toks := s.toks + (ks.length + 1) }) hS rfl ?_ (by rw [PySem.sizeLine_eq]; simp))
  rw [full_one]
  simp only [Bool.and_false, Bool.false_eq_true, if_false]
  refine wpAny_pure (h _ _ b _ (Heap.SameBut.update ..) ?_)
  have := Heap.get?_update_self (Obj.putSet #[(tupleKeyHash (strKind prog w) ks, Value.ref a)] (tabOne (slotOf (tupleKeyHash (strKind prog w) ks)) led b)) hS rfl
  exact this

theorem insertAt_size {α : Type} (xs : Array α) (p : Nat) (x : α) (h : p ≤ xs.size) : (SetTable.insertAt xs p x).size = xs.size + 1 := by
  simp [SetTable.insertAt]; omega
theorem put_one (j q : Nat) (led b : Bool) : ∃ p pl, (tabOne j led b).put q = ({ mask := 7, place := pl, dummies := #[], finger := 0, led := led, moves := 0, plain := b }, p) ∧ p ≤ 1 ∧ pl.size = 2 := by
  refine ⟨SetTable.below #[j] q, SetTable.insertAt #[j] (SetTable.below #[j] q) q, rfl, ?_, ?_⟩
  · by_cases h : j < q <;> simp [SetTable.below, SetTable.below.go, h]
  · exact insertAt_size _ _ _ (by by_cases h : j < q <;> simp [SetTable.below, SetTable.below.go, h])

theorem add_second {S : Nat} {led b : Bool} {ks ks2 : List Str} {a a2 : Addr} {Q : Bool → Shared → Prop} (hu : A.units < cLine) (hS : s.heap.get? S = some (setOne led b (slotOf (tupleKeyHash (strKind prog w) ks)) (tupleKeyHash (strKind prog w) ks) (.ref a))) (hk : IsTupleKey (strKind prog w) s.heap ks a) (hk2 : IsTupleKey (strKind prog w) s.heap ks2 a2)
    (h : ∀ h' tk o' r, Heap.SameBut S s.heap h' → h'.get? S = some o' → o'.ExactSet → (∃ es ep t, o'.data = .set es ep t ∧ es.size = (if ks = ks2 then 1 else 2) ∧ t.fits es.size = true) → Q r { s with heap := h', toks := tk }) :
    wpAny (model prog w) A (setAdd S (.ref a2)) Q E s := by
  unfold setAdd
  refine wpAny_holding (wpAny_bind (wpAny_pyHash_tuple hu hk2 ?_))
  unfold setAddHashed
  refine wpAny_holding ?_
  show wpAny _ _ (setAddHashedIn S (.ref a2) (tupleKeyHash (strKind prog w) ks2) (99999 + 1)) _ _ _
  unfold setAddHashedIn
  refine wpAny_bind (state_one (s := { s with toks := s.toks + (ks2.length + 1) }) hS ?_)
  dsimp only
  have hb : byScan (.ref a2) #[(tupleKeyHash (strKind prog w) ks, Value.ref a)] = false := rfl
  rw [hb]
  simp only [Bool.false_eq_true, if_false]
  refine wpAny_bind ?_
  unfold setSearch
  by_cases hq : ks = ks2
  · subst hq
    show wpAny _ _ (setSearchFrom S (.ref a2) (tupleKeyHash (strKind prog w) ks) true (99999 + 1) none) _ _ _
    refine search_same (s := { s with toks := s.toks + (ks.length + 1) }) hu hS hk hk2 ?_ 99999
    dsimp only
    exact wpAny_pure (h s.heap _ _ _ (Heap.SameBut.refl _ _) hS ⟨rfl, rfl, rfl⟩ ⟨_, _, _, rfl, by simp, rfl⟩)
  · refine search_diff (s := { s with toks := s.toks + (ks2.length + 1) }) (slotOf_lt _) hu hS hk hk2 hq (fun j2 hj2 => ?_) 100000 13 _ _ none (pr_start _ rfl _) (bits_lt _) (by omega) (.inr (by omega))
    dsimp only
    refine wpAny_bind (state_one (s := { s with toks := s.toks + (ks2.length + 1) }) hS ?_)
    dsimp only
    obtain ⟨p, pl, e, hp, hpl⟩ := put_one (slotOf (tupleKeyHash (strKind prog w) ks)) j2 led b
    rw [e]
    dsimp only
    have hes : (SetTable.insertAt #[(tupleKeyHash (strKind prog w) ks, Value.ref a)] p (tupleKeyHash (strKind prog w) ks2, Value.ref a2)).size = 2 := insertAt_size _ _ _ (by simpa using hp)
    have fin : ∀ (t' : SetTable), t'.place = pl → t'.dummies = #[] → t'.mask = 7 → wpAny (model prog w) A (do
        storeSet S (SetTable.insertAt #[(tupleKeyHash (strKind prog w) ks, Value.ref a)] p (tupleKeyHash (strKind prog w) ks2, Value.ref a2)) t'
        if (!false && t'.tooFull) = true then do
            setRelay S (SetTable.grown (#[(tupleKeyHash (strKind prog w) ks, Value.ref a)].size + 1))
            pure true
          else pure true) Q E { s with toks := s.toks + (ks2.length + 1) } := by
      intro t' h1 h2 h3
      refine wpAny_bind (wpAny_storeSet_of (s := { s with toks := s.toks + (ks2.length + 1) }) hS rfl ?_ (by rw [hes, PySem.sizeLine_eq]; omega))
      have hf : t'.tooFull = false := by simp [SetTable.tooFull, SetTable.fill, h1, h2, h3, hpl]
      rw [hf]
      simp only [Bool.and_false, Bool.false_eq_true, if_false]
      have hg := Heap.get?_update_self (Obj.putSet (SetTable.insertAt #[(tupleKeyHash (strKind prog w) ks, Value.ref a)] p (tupleKeyHash (strKind prog w) ks2, Value.ref a2)) t') hS rfl
      refine wpAny_pure (h _ _ _ _ (Heap.SameBut.update ..) hg ⟨rfl, rfl, rfl⟩ ⟨_, _, t', rfl, by rw [if_neg hq]; exact hes, ?_⟩)
      rw [hes]
      simp [SetTable.fits, SetTable.fill, h1, h2, h3, hpl]
    cases b with
    | true =>
      simp only [if_true]
      refine wpAny_bind (hashBy_tup (s := { s with toks := s.toks + (ks2.length + 1) }) hk2 fun b2 => ?_)
      exact fin _ (by cases b2 <;> rfl) (by cases b2 <;> rfl) (by cases b2 <;> rfl)
    | false =>
      simp only [Bool.false_eq_true, if_false]
      refine wpAny_bind (wpAny_pure ?_)
      exact fin _ rfl rfl rfl
end
end Mine
end

section
namespace Mine

section
variable {prog : Program} {w : World} {A : Around} {E : Value → Shared → Prop} {s : Shared}

theorem key_at {h h' : Heap} {ks : List Str} {a : Addr} (x : IsTupleKey (strKind prog w) h ks a) (hk : ∀ o, h.get? a = some o → h'.get? a = some o) : IsTupleKey (strKind prog w) h' ks a := by
  obtain ⟨o, items, n, ho, r⟩ := x
  exact ⟨o, items, n, hk o ho, r⟩
def SetSized (o : Obj) (n : Nat) : Prop := o.ExactSet ∧ ∃ es ep t, o.data = .set es ep t ∧ es.size = n ∧ SetTable.fits t es.size = true

theorem call_set_tups {D a b : Addr} {ks ks2 : List Str} {Q : Value → Shared → Prop} (hh : A.handled = none) (hu : A.units + 8 < cLine) (ht : s.heap.IsTuple D #[.ref a, .ref b]) (hk : IsTupleKey (strKind prog w) s.heap ks a) (hk2 : IsTupleKey (strKind prog w) s.heap ks2 b)
    (h : ∀ h' tk o, SetSized o (if ks = ks2 then 1 else 2) → (∀ b o, s.heap.get? b = some o → h'.get? b = some o) → h'.get? s.heap.objs.size = some o → Q (.ref s.heap.objs.size) { s with heap := h', toks := tk }) :
    wpAny (model prog w) A (call (.type "set") [.ref D]) Q E s := by
  refine call_set_tup ht fun s₁ led R g1 g2 g3 hkp hS hI hR hE => ?_
  have hD : D < s.heap.objs.size := by obtain ⟨o, ho, _⟩ := ht; exact Heap.lt_size ho
  have ha : a < s.heap.objs.size := by obtain ⟨o, _, _, ho, _⟩ := hk; exact Heap.lt_size ho
  have hb : b < s.heap.objs.size := by obtain ⟨o, _, _, ho, _⟩ := hk2; exact Heap.lt_size ho
  have hun : A.in1.in1.in1.units < cLine := by simp only [units_in1]; omega
  have na : ∀ c : Nat, c < s.heap.objs.size → c ≠ s.heap.objs.size := fun c hc => Nat.ne_of_lt hc
  have na1 : ∀ c : Nat, c < s.heap.objs.size → c ≠ s.heap.objs.size + 1 := fun c hc => Nat.ne_of_lt (Nat.lt_succ_of_lt hc)
  refine setloop_two (P0 := fun o => o = freshSet led) (P1 := fun o => ∃ b, o = setOne led b (slotOf (tupleKeyHash (strKind prog w) ks)) (tupleKeyHash (strKind prog w) ks) (.ref a))
    (P2 := fun o => SetSized o (if ks = ks2 then 1 else 2)) (D := D) (u := .ref a) (v := .ref b) (by simp [hh]) (Nat.ne_of_lt (Nat.lt_succ_self _)) (Nat.ne_of_gt hD) (Nat.ne_of_lt (Nat.lt_succ_of_lt hD))
    (ht.at fun o e => hkp _ _ e) hI hS rfl ?_ ?_ ?_
  · intro s₂ o E' Q₁ hp k2 hS₂ hq
    subst hp
    exact add_first hun hS₂ (key_at hk fun o e => k2 _ _ (na a ha) (na1 a ha) (hkp _ _ e)) fun h' tk b' r hsb ho' => hq h' tk _ r ⟨b', rfl⟩ hsb ho'
  · rintro s₂ o E' Q₁ ⟨b', rfl⟩ k2 hS₂ hq
    exact add_second hun hS₂ (key_at hk fun o e => k2 _ _ (na a ha) (na1 a ha) (hkp _ _ e)) (key_at hk2 fun o e => k2 _ _ (na b hb) (na1 b hb) (hkp _ _ e)) fun h' tk o' r hsb ho' hex hes => hq h' tk o' r ⟨hex, hes⟩ hsb ho'
  · rintro h' tk o hp hk' hS'
    obtain ⟨hp₁, g₁, d₁, t₁, os₁⟩ := s₁
    dsimp only at g1 g2 g3 hkp hk' hS' ⊢
    subst g1 g2 g3
    refine hR h' tk (h h' tk o hp (fun b o e => hk' b o ?_ ?_ (hkp b o e)) hS')
    · exact Nat.ne_of_lt (Heap.lt_size e)
    · exact Nat.ne_of_lt (Nat.lt_succ_of_lt (Heap.lt_size e))

theorem len_sized {S : Addr} {o : Obj} {n : Nat} {Q : Value → Shared → Prop} (ho : s.heap.get? S = some o) (hs : SetSized o n) (hn : n < 100)
    (h : ∀ tk t, Q (.int n t) { s with toks := tk }) : wpAny (model prog w) A (call (.builtin "len") [.ref S]) Q E s := by
  obtain ⟨hex, es, ep, t, hd, rfl, hf⟩ := hs
  exact call_len_set ho hex hd hf (by omega) (h _ _)
end

section
variable {prog : Program} {w : World} {A : Around} {E : Value → Shared → Prop} {s : Shared} {h₀ : Heap} {L : Addr} {m : Str → Option Value} {news : List (Addr × Obj)}
theorem setTups_N {D a b : Addr} {ks ks2 : List Str} {Q : Value → Shared → Prop} (F : Fr h₀ L s.heap m) (N : News h₀ L s.heap news) (hh : A.handled = none) (hu : A.units + 8 < cLine)
    (ht : (D, ({ cls := .type "tuple", data := .seq #[.ref a, .ref b] } : Obj)) ∈ news) (hk : IsTupleKey (strKind prog w) s.heap ks a) (hk2 : IsTupleKey (strKind prog w) s.heap ks2 b)
    (h : ∀ S h' tk o, Fr h₀ L h' m → News h₀ L h' ((S, o) :: news) → (∀ p ∈ news, p.1 < S) → SetSized o (if ks = ks2 then 1 else 2) → Q (.ref S) { s with heap := h', toks := tk }) :
    wpAny (model prog w) A (call (.type "set") [.ref D]) Q E s :=
  call_set_tups hh hu ⟨_, (N _ ht).1, rfl, 0, rfl⟩ hk hk2 fun h' tk o hs hkp ho => h _ h' tk o (F.after hkp) (newsSet F N hkp ho) (fun p hp => Heap.lt_size (N p hp).1) hs
theorem lenSized_N {S : Addr} {o : Obj} {n : Nat} {Q : Value → Shared → Prop} (N : News h₀ L s.heap news) (hm : (S, o) ∈ news) (hs : SetSized o n) (hn : n < 100)
    (h : ∀ tk t, Q (.int n t) { s with toks := tk }) : wpAny (model prog w) A (call (.builtin "len") [.ref S]) Q E s := len_sized (N _ hm).1 hs hn h
end
end Mine
end

section
namespace Mine

theorem draws_str {prog : Program} {w : World} {A : Around} (hh : A.handled = none) (it : Addr) (x : Str) (t : Tok) :
    Draws prog w A it [it] x.cps.size (fun i v => ∃ c u, x.cps[i]? = some c ∧ v = .str ⟨#[c]⟩ u) (fun i h => h.IsStrIter it (strIterType x) x t i) := by
  unfold strIterType
  split
  · exact Draws.strAscii hh it x t
  · exact Draws.strWide hh it x t

abbrev ZObj (f0 f1 : Value) (TI TO : Addr) : Obj := { cls := .type "zip", dict := none, data := .fields #[f0, f1, .bool false, .ref TI, .ref TO], slots := #[] }
abbrev itsV (b n : Nat) : Array Value := ((List.range n).map fun k => Value.ref (b + k)).toArray
abbrev tupA (its : Array Value) : Obj := { cls := .type "tuple", data := .seq its }
def ItsAt (h : Heap) (b : Nat) (xs : List (Str × Tok)) (f : Nat → Nat) : Prop := ∀ (k : Nat) x t, xs[k]? = some (x, t) → h.IsStrIter (b + k) (strIterType x) x t (f k)
def Drawn (xs : List (Str × Tok)) (i : Nat) (vs : Array Value) : Prop := ∀ (k : Nat) x t v, xs[k]? = some (x, t) → vs[k]? = some v → ∃ c u, x.cps[i]? = some c ∧ v = .str ⟨#[c]⟩ u
def Out (b n : Nat) (h h' : Heap) : Prop := ∀ (c : Nat) o, (c < b ∨ b + n + 2 < c) → h.get? c = some o → h'.get? c = some o

section
variable {prog : Program} {w : World} {A : Around} {E : Value → Shared → Prop} {s : Shared}

theorem wpAny_loadIfAlive {a : Addr} {Q : Option Obj → Shared → Prop} (h : Q (s.heap.get? a) s) : wpAny (model prog w) A (loadIfAlive a) Q E s := fun _ _ _ => h
theorem out_refl {b n : Nat} {h : Heap} : Out b n h h := fun _ _ _ e => e
theorem out_same {b n q : Nat} {h h₁ h₂ : Heap} (x : Out b n h h₁) (hs : Heap.SameBut q h₁ h₂) (h1 : b ≤ q) (h2 : q ≤ b + n + 2) : Out b n h h₂ := fun c o hc e => hs.extBut c o (by rintro rfl; rcases hc with hc | hc <;> omega) (x c o hc e)
theorem ItsAt.keep {b : Nat} {h h₁ : Heap} {xs : List (Str × Tok)} {f : Nat → Nat} (x : ItsAt h b xs f) (hk : ∀ (c : Nat) o, c < b + xs.length → b ≤ c → h.get? c = some o → h₁.get? c = some o) : ItsAt h₁ b xs f := fun k z t hz => by
  obtain ⟨o, ho, r⟩ := x k z t hz
  have := (List.getElem?_eq_some_iff.mp hz).1
  exact ⟨o, hk _ o (by omega) (by omega) ho, r⟩

theorem zipB {b n i : Nat} {xs : List (Str × Tok)} {T TO : Addr} {fl : Bool} {oT : Obj} {Q : Option Value → Shared → Prop} (hh : A.handled = none) (hn : xs.length = n) (hpos : 0 < n) (hbig : n ≤ sizeLine)
    (hz : s.heap.get? (b + n + 2) = some (ZObj (rawInt T) (.bool fl) (b + n) TO)) (hTI : s.heap.get? (b + n) = some (tupA (itsV b n))) (hT : s.heap.get? T = some oT) (hit : ItsAt s.heap b xs (fun _ => i)) (hle : ∀ p ∈ xs, i ≤ p.1.cps.size)
    (some_ : (∀ p ∈ xs, i < p.1.cps.size) → ∀ h' tk vs, h'.get? (b + n + 2) = some (ZObj (rawInt T) (.bool true) (b + n) TO) → h'.get? (b + n) = some (tupA (itsV b n)) → ItsAt h' b xs (fun _ => i + 1) → vs.size = n → Drawn xs i vs →
      h'.get? s.heap.objs.size = some (tupA vs) → h'.objs.size = s.heap.objs.size + 1 → Out b n s.heap h' → Q (some (.ref s.heap.objs.size)) { s with heap := h', toks := tk })
    (none_ : ¬ (∀ p ∈ xs, i < p.1.cps.size) → ∀ h' tk, Out b n s.heap h' → Q none { s with heap := h', toks := tk }) : wpAny (model prog w) A (pyNext (.ref (b + n + 2))) Q E s := by
  have hTy : s.TypeIs (.ref (b + n + 2)) "zip" := ⟨_, hz, rfl⟩
  have hI1 : A.in1.in1.handled = none := hh
  unfold pyNext
  refine wpAny_bind (wpAny_attempt (wpAny_callSpecial?_slot (name := Str.ofString "__next__") hTy F.slot_zip_next
    (wpAny_call_entry F.slot_zip_next hTy F.entry_zip_next ?_ (F.args_zip_next_1 _))))
  show wpAny _ _ (field (.ref (b + n + 2)) 2 >>= _) _ _ _
  refine wpAny_bind (wpAny_field hz rfl (x := .bool false) rfl ?_)
  show wpAny _ _ (field (.ref (b + n + 2)) 3 >>= _) _ _ _
  refine wpAny_bind (wpAny_field hz rfl (x := .ref (b + n)) rfl ?_)
  refine wpAny_bind (wpAny_seqItems hTI rfl ?_)
  have hne : (itsV b n).isEmpty = false := by simp; omega
  dsimp only
  rw [hne]
  simp only [Bool.false_eq_true, if_false]
  refine wpAny_bind ?_
  have free : ∀ (Q₁ : Bool → Shared → Prop) (E₁ : Value → Shared → Prop), (∀ h₁, h₁.get? (b + n + 2) = some (ZObj (rawInt T) (.bool true) (b + n) TO) → Heap.SameBut (b + n + 2) s.heap h₁ → Q₁ false { s with heap := h₁ }) →
      wpAny (model prog w) A.in1 (Builtin.SmallTypes.ownedTupleIsFree (.ref (b + n + 2))) Q₁ E₁ s := by
    intro Q₁ E₁ hq
    unfold Builtin.SmallTypes.ownedTupleIsFree
    refine wpAny_bind (wpAny_field hz rfl (x := rawInt T) rfl ?_)
    show wpAny _ _ (loadIfAlive T >>= _) _ _ _
    refine wpAny_bind (wpAny_loadIfAlive ?_)
    rw [hT]
    simp only [Option.isNone_some, Bool.false_eq_true, if_false]
    refine wpAny_bind (wpAny_field hz rfl (x := .bool fl) rfl ?_)
    cases fl with
    | true =>
      have e : (Value.bool true != Value.bool true) = false := by decide
      rw [e]
      exact wpAny_pure (hq s.heap hz (Heap.SameBut.refl _ _))
    | false =>
      have e : (Value.bool false != Value.bool true) = true := by decide
      rw [e]
      simp only [if_true]
      exact wpAny_bind (wpAny_setField_rec hz (by simp) fun h₁ hz₁ hs₁ => wpAny_pure (hq h₁ hz₁ hs₁))
  refine free _ _ fun h₁ hz₁ hs₁ => ?_
  simp only [Bool.false_eq_true, if_false]
  refine wpAny_bind ?_
  rw [← Array.forIn_toList]
  refine wpAny_forIn_list _ (fun rest r s' => r.1 = none ∧ ∃ k h tk, k ≤ n ∧ s' = { s with heap := h, toks := tk } ∧ rest = ((List.range n).drop k).map (fun k => Value.ref (b + k)) ∧ r.2.size = k ∧
    h.get? (b + n + 2) = some (ZObj (rawInt T) (.bool true) (b + n) TO) ∧ h.get? (b + n) = some (tupA (itsV b n)) ∧ ItsAt h b xs (fun j => if j < k then i + 1 else i) ∧ (∀ j < k, ∀ p, xs[j]? = some p → i < p.1.cps.size) ∧
    (∀ (j : Nat) x t v, j < k → xs[j]? = some (x, t) → r.2[j]? = some v → ∃ c u, x.cps[i]? = some c ∧ v = .str ⟨#[c]⟩ u) ∧ h.objs.size = s.heap.objs.size ∧ Out b n s.heap h) _ ?_ ?_ _ _ ?_
  · rintro v rest r s' ⟨hr, k, h, tk, hkn, rfl, hrest, hsz, hz2, hTI2, hit2, hall, hdr, hos, hout⟩
    have hk : k < n := by
      by_cases q : k < n
      · exact q
      · rw [List.drop_of_length_le (by simp; omega)] at hrest; cases hrest
    rw [List.drop_eq_getElem_cons (by simpa using hk)] at hrest
    simp only [List.getElem_range, List.map_cons, List.cons.injEq] at hrest
    obtain ⟨rfl, hrest⟩ := hrest
    obtain ⟨⟨x, t⟩, hx⟩ : ∃ p, xs[k]? = some p := ⟨_, List.getElem?_eq_getElem (by omega)⟩
    have D := draws_str (prog := prog) (w := w) (A := A.in1) hh (b + k) x t
    have hst := hit2 k x t hx
    simp only [Nat.lt_irrefl, if_false] at hst
    refine wpAny_bind (wpAny_holding ?_)
    show wpAny _ _ (Builtin.SmallTypes.nextOf (.ref (b + k)) >>= _) _ _ _
    by_cases hi : i < x.cps.size
    · refine wpAny_bind (D.item i _ _ _ hi hst fun v h3 tk3 hP hst3 hs3 => wpAny_pure ?_)
      refine wpAny_pure ⟨rfl, k + 1, h3, tk3, hk, rfl, hrest, by simp [hsz], ?_⟩
      obtain ⟨c, u, hc, rfl⟩ := hP
      refine ⟨hs3.extBut _ _ (show @Ne Nat _ _ by omega) hz2, hs3.extBut _ _ (show @Ne Nat _ _ by omega) hTI2, ?_, ?_, ?_, hs3.1.trans hos, out_same hout hs3 (by omega) (by omega)⟩
      · intro j y t' hy
        by_cases q : j = k
        · subst q
          rw [hx] at hy; cases hy
          simp only [Nat.lt_succ_self, if_true]
          exact hst3
        · obtain ⟨o, ho, r9⟩ := hit2 j y t' hy
          have e9 : (if j < k + 1 then i + 1 else i) = if j < k then i + 1 else i := by
            by_cases q2 : j < k
            · rw [if_pos q2, if_pos (by omega)]
            · rw [if_neg q2, if_neg (by omega)]
          show h3.IsStrIter (b + j) (strIterType y) y t' (if j < k + 1 then i + 1 else i)
          rw [e9]
          exact ⟨o, hs3.extBut _ _ (show @Ne Nat _ _ by omega) ho, r9⟩
      · intro j hj p hp
        by_cases q : j = k
        · subst q
          rw [hx] at hp; cases hp
          exact hi
        · exact hall j (by omega) p hp
      · intro j y t' v' hj hy hv
        by_cases q : j = k
        · subst q
          rw [hx] at hy; cases hy
          have e9 : (r.2.push (Value.str ⟨#[c]⟩ u))[j]? = some (Value.str ⟨#[c]⟩ u) := by rw [← hsz]; simp
          have hv' : (r.2.push (Value.str ⟨#[c]⟩ u))[j]? = some v' := hv
          rw [e9] at hv'; cases hv'
          exact ⟨c, u, hc, rfl⟩
        · have hv' : (r.2.push (Value.str ⟨#[c]⟩ u))[j]? = some v' := hv
          rw [Array.getElem?_push, if_neg (by omega)] at hv'
          exact hdr j y t' v' (by omega) hy hv'
    · have e : i = x.cps.size := by have := hle (x, t) (List.mem_of_getElem? hx); dsimp only at this; omega
      subst e
      refine wpAny_bind (D.done _ _ _ hst fun h3 e3 hs3 he3 => ?_)
      obtain ⟨o, ho, hc⟩ := he3
      refine wpAny_bind (wpAny_isInstance (T := "StopIteration") (b := true) ⟨o, ho, hc⟩ isSubtype_stop ?_)
      refine wpAny_pure (none_ (fun q => hi (q (x, t) (List.mem_of_getElem? hx))) _ _ ?_)
      exact fun c o' hc' e' => hs3 c o' (show @Ne Nat _ _ by rcases hc' with hc' | hc' <;> omega) (hout c o' hc' e')
  · rintro r s' ⟨hr, k, h, tk, hkn, rfl, hrest, hsz, hz2, hTI2, hit2, hall, hdr, hos, hout⟩
    have hk : k = n := by
      by_cases q : k < n
      · have := congrArg List.length hrest; simp at this; omega
      · omega
    subst hk
    rw [hr]
    dsimp only
    refine wpAny_bind (wpAny_newTuple ?_ (by rw [Array.length_toList, hsz]; exact hbig))
    refine wpAny_pure ⟨_, rfl, wpAny_pure ?_⟩
    have e9 : r.2.toList.toArray = r.2 := by simp
    rw [e9, hos]
    refine some_ (fun p hp => ?_) _ tk r.2 (Heap.get?_push_of_some _ hz2) (Heap.get?_push_of_some _ hTI2) ?_ hsz (fun j x t v hx hv => hdr j x t v (by have := (List.getElem?_eq_some_iff.mp hx).1; omega) hx hv) (by rw [← hos]; exact Heap.get?_push_size _ rfl) (by rw [Heap.size_push, hos]) (fun c o hc e => Heap.get?_push_of_some _ (hout c o hc e))
    · obtain ⟨j, hj⟩ := List.mem_iff_getElem?.mp hp
      exact hall j (by have := (List.getElem?_eq_some_iff.mp hj).1; omega) p hj
    · intro j x t hx
      obtain ⟨o, ho, r9⟩ := hit2 j x t hx
      dsimp only at r9
      rw [if_pos (by have := (List.getElem?_eq_some_iff.mp hx).1; omega)] at r9
      exact ⟨o, Heap.get?_push_of_some _ ho, r9⟩
  · refine ⟨rfl, 0, h₁, s.toks, Nat.zero_le _, rfl, rfl, rfl, hz₁, hs₁.extBut _ _ (show @Ne Nat _ _ by omega) hTI, ?_, fun j hj => absurd hj (Nat.not_lt_zero _), fun j _ _ _ hj => absurd hj (Nat.not_lt_zero _), hs₁.1, out_same out_refl hs₁ (by omega) (Nat.le_refl _)⟩
    simp only [Nat.not_lt_zero, if_false]
    exact hit.keep fun c o h1 h2 e => hs₁.extBut _ _ (show @Ne Nat _ _ by omega) e

theorem zipA {b n i : Nat} {xs : List (Str × Tok)} {kept : Array Value} {Q : Option Value → Shared → Prop} (hh : A.handled = none) (hn : xs.length = n) (hpos : 0 < n) (hbig : n ≤ sizeLine)
    (hz : s.heap.get? (b + n + 2) = some (ZObj .none (.bool false) (b + n) (b + n + 1))) (hTI : s.heap.get? (b + n) = some (tupA (itsV b n))) (hTO : s.heap.get? (b + n + 1) = some (tupA kept)) (hks : kept.size = n) (hit : ItsAt s.heap b xs (fun _ => i)) (hle : ∀ p ∈ xs, i ≤ p.1.cps.size)
    (some_ : (∀ p ∈ xs, i < p.1.cps.size) → ∀ h' tk vs, h'.get? (b + n + 2) = some (ZObj (rawInt s.heap.objs.size) (.bool false) (b + n) (b + n + 1)) → h'.get? (b + n) = some (tupA (itsV b n)) → ItsAt h' b xs (fun _ => i + 1) → vs.size = n → Drawn xs i vs →
      h'.get? s.heap.objs.size = some (tupA vs) → h'.objs.size = s.heap.objs.size + 1 → Out b n s.heap h' → Q (some (.ref s.heap.objs.size)) { s with heap := h', toks := tk })
    (none_ : ¬ (∀ p ∈ xs, i < p.1.cps.size) → ∀ h' tk, Out b n s.heap h' → Q none { s with heap := h', toks := tk }) : wpAny (model prog w) A (pyNext (.ref (b + n + 2))) Q E s := by
  have hTy : s.TypeIs (.ref (b + n + 2)) "zip" := ⟨_, hz, rfl⟩
  unfold pyNext
  refine wpAny_bind (wpAny_attempt (wpAny_callSpecial?_slot (name := Str.ofString "__next__") hTy F.slot_zip_next
    (wpAny_call_entry F.slot_zip_next hTy F.entry_zip_next ?_ (F.args_zip_next_1 _))))
  show wpAny _ _ (field (.ref (b + n + 2)) 2 >>= _) _ _ _
  refine wpAny_bind (wpAny_field hz rfl (x := .bool false) rfl ?_)
  show wpAny _ _ (field (.ref (b + n + 2)) 3 >>= _) _ _ _
  refine wpAny_bind (wpAny_field hz rfl (x := .ref (b + n)) rfl ?_)
  refine wpAny_bind (wpAny_seqItems hTI rfl ?_)
  have hne : (itsV b n).isEmpty = false := by simp; omega
  dsimp only
  rw [hne]
  simp only [Bool.false_eq_true, if_false]
  refine wpAny_bind ?_
  unfold Builtin.SmallTypes.ownedTupleIsFree
  refine wpAny_bind (wpAny_field hz rfl (x := .none) rfl (wpAny_pure ?_))
  simp only [if_true]
  refine wpAny_bind (wpAny_rule ?_)
  refine wpAny_bind (wpAny_field hz rfl (x := .ref (b + n + 1)) rfl ?_)
  refine wpAny_bind (wpAny_setField_rec hz (by simp) fun h₁ hz₁ hs₁ => ?_)
  replace hz₁ : h₁.get? (b + n + 2) = some (ZObj .ellipsis (.bool false) (b + n) (b + n + 1)) := hz₁
  refine wpAny_bind ?_
  refine wpAny_forIn_list _ (fun rest r s' => r.1 = none ∧ ∃ k h tk kp, k ≤ n ∧ s' = { s with heap := h, toks := tk } ∧ rest = (((List.range n).drop k).map (fun k => (Value.ref (b + k), k))) ∧ Array.size kp = n ∧
    h.get? (b + n + 2) = some (ZObj .ellipsis (.bool false) (b + n) (b + n + 1)) ∧ h.get? (b + n) = some (tupA (itsV b n)) ∧ h.get? (b + n + 1) = some (tupA kp) ∧ ItsAt h b xs (fun j => if j < k then i + 1 else i) ∧ (∀ j < k, ∀ p, xs[j]? = some p → i < p.1.cps.size) ∧
    (∀ (j : Nat) x t v, j < k → xs[j]? = some (x, t) → kp[j]? = some v → ∃ c u, x.cps[i]? = some c ∧ v = .str ⟨#[c]⟩ u) ∧ h.objs.size = s.heap.objs.size ∧ Out b n s.heap h) _ ?_ ?_ _ _ ?_
  · rintro ⟨v, k'⟩ rest r s' ⟨hr, k, h, tk, kp, hkn, rfl, hrest, hsz, hz2, hTI2, hTO2, hit2, hall, hdr, hos, hout⟩
    have hk : k < n := by
      by_cases q : k < n
      · exact q
      · rw [List.drop_of_length_le (by simp; omega)] at hrest; cases hrest
    rw [List.drop_eq_getElem_cons (by simpa using hk)] at hrest
    simp only [List.getElem_range, List.map_cons, List.cons.injEq, Prod.mk.injEq] at hrest
    obtain ⟨⟨rfl, rfl⟩, hrest⟩ := hrest
    obtain ⟨⟨x, t⟩, hx⟩ : ∃ p, xs[k']? = some p := ⟨_, List.getElem?_eq_getElem (by omega)⟩
    have D := draws_str (prog := prog) (w := w) (A := A.in1) hh (b + k') x t
    have hst := hit2 k' x t hx
    simp only [Nat.lt_irrefl, if_false] at hst
    dsimp only
    refine wpAny_bind (wpAny_onRaise ?_)
    show wpAny _ _ (Builtin.SmallTypes.nextOf (.ref (b + k')) >>= _) _ _ _
    by_cases hi : i < x.cps.size
    · refine wpAny_bind (D.item i _ _ _ hi hst fun v h3 tk3 hP hst3 hs3 => wpAny_pure ?_)
      have hTO3 := hs3.extBut _ _ (show @Ne Nat _ _ by omega) hTO2
      refine wpAny_bind (wpAny_seqItems hTO3 rfl ?_)
      refine wpAny_bind (wpAny_updateSeq hTO3 rfl ?_ (by rw [hsz]; exact hbig) (by simp [hsz]; omega))
      refine wpAny_bind (wpAny_letGo (wpAny_pure ?_))
      have hs4 := Heap.SameBut.update h3 (b + n + 1) (Obj.mapSeq (·.setIfInBounds k' v))
      have hTO4 : (h3.update (b + n + 1) (Obj.mapSeq (·.setIfInBounds k' v))).get? (b + n + 1) = some (tupA (kp.setIfInBounds k' v)) := by
        rw [Heap.get?_update_self _ hTO3 rfl]
        simp [Obj.mapSeq]
      obtain ⟨c, u, hc, rfl⟩ := hP
      refine ⟨rfl, k' + 1, _, tk3, _, hk, rfl, hrest, by simp [hsz], hs4.extBut _ _ (show @Ne Nat _ _ by omega) (hs3.extBut _ _ (show @Ne Nat _ _ by omega) hz2), hs4.extBut _ _ (show @Ne Nat _ _ by omega) (hs3.extBut _ _ (show @Ne Nat _ _ by omega) hTI2), hTO4, ?_, ?_, ?_, hs4.1.trans (hs3.1.trans hos), out_same (out_same hout hs3 (by omega) (by omega)) hs4 (by omega) (by omega)⟩
      · intro j y t' hy
        have hjn := (List.getElem?_eq_some_iff.mp hy).1
        by_cases q : j = k'
        · subst q
          rw [hx] at hy; cases hy
          simp only [Nat.lt_succ_self, if_true]
          obtain ⟨o, ho, r9⟩ := hst3
          exact ⟨o, hs4.extBut _ _ (show @Ne Nat _ _ by omega) ho, r9⟩
        · obtain ⟨o, ho, r9⟩ := hit2 j y t' hy
          have e9 : (if j < k' + 1 then i + 1 else i) = if j < k' then i + 1 else i := by
            by_cases q2 : j < k'
            · rw [if_pos q2, if_pos (by omega)]
            · rw [if_neg q2, if_neg (by omega)]
          show Heap.IsStrIter _ (b + j) (strIterType y) y t' (if j < k' + 1 then i + 1 else i)
          rw [e9]
          exact ⟨o, hs4.extBut _ _ (show @Ne Nat _ _ by omega) (hs3.extBut _ _ (show @Ne Nat _ _ by omega) ho), r9⟩
      · intro j hj p hp
        by_cases q : j = k'
        · subst q
          rw [hx] at hp; cases hp
          exact hi
        · exact hall j (by omega) p hp
      · intro j y t' v' hj hy hv
        rw [Array.getElem?_setIfInBounds] at hv
        by_cases q : @Eq Nat k' j
        · subst q
          rw [hx] at hy; cases hy
          rw [if_pos rfl, if_pos (by omega)] at hv
          cases hv
          exact ⟨c, u, hc, rfl⟩
        · rw [if_neg q] at hv
          exact hdr j y t' v' (by omega) hy hv
    · have e : i = x.cps.size := by have := hle (x, t) (List.mem_of_getElem? hx); dsimp only at this; omega
      subst e
      refine wpAny_bind (D.done _ _ _ hst fun h3 e3 hs3 he3 => ?_)
      obtain ⟨o, ho, hc⟩ := he3
      have hz3 := hs3 _ _ (show @Ne Nat (b + n + 2) (b + k') by omega) hz2
      have hez : e3 ≠ b + n + 2 := fun q => by subst q; rw [hz3] at ho; cases ho; simp at hc
      refine wpAny_setField_rec hz3 (by simp) fun h₅ _ hs₅ => ?_
      refine wpAny_bind (wpAny_isInstance (T := "StopIteration") (b := true) ⟨o, hs₅.extBut _ _ hez ho, hc⟩ isSubtype_stop ?_)
      refine wpAny_pure (none_ (fun q => hi (q (x, t) (List.mem_of_getElem? hx))) _ _ ?_)
      exact fun c o' hc' e' => hs₅.extBut c o' (show @Ne Nat _ _ by rcases hc' with hc' | hc' <;> omega) (hs3 c o' (show @Ne Nat _ _ by rcases hc' with hc' | hc' <;> omega) (hout c o' hc' e'))
  · rintro r s' ⟨hr, k, h, tk, kp, hkn, rfl, hrest, hsz, hz2, hTI2, hTO2, hit2, hall, hdr, hos, hout⟩
    have hk : k = n := by
      by_cases q : k < n
      · have := congrArg List.length hrest; simp at this; omega
      · omega
    subst hk
    rw [hr]
    dsimp only
    refine wpAny_bind (wpAny_seqItems hTO2 rfl ?_)
    refine wpAny_bind (wpAny_newTuple ?_ (by rw [Array.length_toList, hsz]; exact hbig))
    have e9 : kp.toList.toArray = kp := by simp
    rw [e9]
    refine wpAny_bind ?_
    unfold Builtin.SmallTypes.ownedTupleHandOut
    have hz6 : (h.push (tupA kp)).get? (b + k + 2) = some (ZObj .ellipsis (.bool false) (b + k) (b + k + 1)) := Heap.get?_push_of_some _ hz2
    have hzlt : b + k + 2 < h.objs.size := Heap.lt_size hz2
    refine wpAny_bind (wpAny_setField_rec hz6 (by simp) fun h₇ hz₇ hs₇ => ?_)
    replace hz₇ : h₇.get? (b + k + 2) = some (ZObj (rawInt h.objs.size) (.bool false) (b + k) (b + k + 1)) := hz₇
    refine wpAny_setField_rec hz₇ (by simp) fun h₈ hz₈ hs₈ => ?_
    replace hz₈ : h₈.get? (b + k + 2) = some (ZObj (rawInt h.objs.size) (.bool false) (b + k) (b + k + 1)) := hz₈
    have up : ∀ (c : Nat) o, c ≠ b + k + 2 → h.get? c = some o → h₈.get? c = some o := fun c o c1 e => hs₈.extBut _ _ c1 (hs₇.extBut _ _ c1 (Heap.get?_push_of_some _ e))
    have hT8 : h₈.get? h.objs.size = some (tupA kp) := hs₈.extBut _ _ (Nat.ne_of_gt hzlt) (hs₇.extBut _ _ (Nat.ne_of_gt hzlt) (Heap.get?_push_size _ rfl))
    refine wpAny_pure ⟨_, rfl, wpAny_pure ?_⟩
    rw [hos] at hz₈ hT8
    show Q (some (.ref h.objs.size)) _
    rw [hos]
    refine some_ (fun p hp => ?_) h₈ tk kp hz₈ (up _ _ (by omega) hTI2) ?_ hsz (fun j x t v hx hv => hdr j x t v (by have := (List.getElem?_eq_some_iff.mp hx).1; omega) hx hv) hT8 (by rw [hs₈.1, hs₇.1, Heap.size_push, hos]) (fun c o hc e => up _ _ (by rcases hc with hc | hc <;> omega) (hout c o hc e))
    · obtain ⟨j, hj⟩ := List.mem_iff_getElem?.mp hp
      exact hall j (by have := (List.getElem?_eq_some_iff.mp hj).1; omega) p hj
    · intro j x t hx
      have hjn := (List.getElem?_eq_some_iff.mp hx).1
      obtain ⟨o, ho, r9⟩ := hit2 j x t hx
      dsimp only at r9
      rw [if_pos (by omega)] at r9
      exact ⟨o, up _ _ (by omega) ho, r9⟩
  · refine ⟨rfl, 0, h₁, s.toks, kept, Nat.zero_le _, rfl, ?_, hks, hz₁, hs₁.extBut _ _ (show @Ne Nat _ _ by omega) hTI, hs₁.extBut _ _ (show @Ne Nat _ _ by omega) hTO, ?_, fun j hj => absurd hj (Nat.not_lt_zero _), fun j _ _ _ hj => absurd hj (Nat.not_lt_zero _), hs₁.1, out_same out_refl hs₁ (by omega) (Nat.le_refl _)⟩
    · show ((List.range n).map fun k => Value.ref (b + k)).zipIdx = _
      refine List.ext_getElem? fun j => ?_
      by_cases q : j < n
      · simp [List.getElem?_range q, List.getElem?_zipIdx]
      · rw [List.getElem?_eq_none (by simp; omega), List.getElem?_eq_none (by simp; omega)]
    · simp only [Nat.not_lt_zero, if_false]
      exact hit.keep fun c o h1 h2 e => hs₁.extBut _ _ (show @Ne Nat _ _ by omega) e
end
end Mine
end

section
namespace Mine

structure ZL (h : Heap) (b n S : Nat) (xs : List (Str × Tok)) (i : Nat) (acc : Array Value) : Prop where
  lst : ∃ c, h.get? S = some { cls := .type "list", dict := none, data := .seq acc c, slots := #[] }
  size : acc.size = i
  acc_at : ∀ (j : Nat) v, acc[j]? = some v → ∃ (T : Nat) (vs : Array Value), v = .ref T ∧ S < T ∧ h.get? T = some (tupA vs) ∧ vs.size = n ∧ Drawn xs j vs
  TI : h.get? (b + n) = some (tupA (itsV b n))
  its : ItsAt h b xs (fun _ => i)
  zst : (h.get? (b + n + 2) = some (ZObj .none (.bool false) (b + n) (b + n + 1)) ∧ ∃ kept, h.get? (b + n + 1) = some (tupA kept) ∧ Array.size kept = n) ∨
    (∃ (T : Nat) (fl : Bool) (o : Obj), h.get? (b + n + 2) = some (ZObj (rawInt T) (.bool fl) (b + n) (b + n + 1)) ∧ h.get? T = some o ∧ S < T)

theorem zip_no_len : typeLookup (.type "zip") "__len__" = pure none := by rw [typeLookup_type, builtinLookup_eq_fast]; kernel_rfl
theorem zip_no_hint : typeLookup (.type "zip") "__length_hint__" = pure none := by rw [typeLookup_type, builtinLookup_eq_fast]; kernel_rfl

def OutS (b n S : Nat) (h h' : Heap) : Prop := ∀ (c : Nat) o, (c < b ∨ b + n + 2 < c) → c ≠ S → h.get? c = some o → h'.get? c = some o
def AccAt (h : Heap) (n S : Nat) (xs : List (Str × Tok)) (acc : Array Value) : Prop := ∀ (j : Nat) v, acc[j]? = some v → ∃ (T : Nat) (vs : Array Value), v = .ref T ∧ S < T ∧ h.get? T = some (tupA vs) ∧ vs.size = n ∧ Drawn xs j vs

section
variable {prog : Program} {w : World} {A : Around} {E : Value → Shared → Prop} {s : Shared}

theorem zip_fill {b n S m : Nat} {xs : List (Str × Tok)} {R : Result → Shared → Prop} (hh : A.handled = none) (hn : xs.length = n) (hpos : 0 < n) (hbig : n ≤ 1000) (hS : b + n + 2 < S) (hm1 : ∀ i < m, ∀ p ∈ xs, i < p.1.cps.size) (hm2 : ¬ ∀ p ∈ xs, m < p.1.cps.size) (hm : m ≤ 1000) (res : Value) :
    ∀ (k i : Nat) (s : Shared) (acc : Array Value), i + k = m → ZL s.heap b n S xs i acc →
      (∀ h' tk acc', OutS b n S s.heap h' → (∃ c, h'.get? S = some { cls := .type "list", dict := none, data := .seq acc' c, slots := #[] }) → Array.size acc' = m →
        AccAt h' n S xs acc' → R (.ok (.ret res)) { s with heap := h', toks := tk }) →
      codeAny (model prog w) A (.builtin "list.extend.loop" ⟨[.ref S, .ref (b + n + 2), res], []⟩) R s := by
  have hbig' : n ≤ sizeLine := by rw [PySem.sizeLine_eq]; omega
  intro k
  induction k with
  | zero =>
    intro i s acc hk Z hR
    have hi : i = m := by omega
    subst hi
    refine codeAny_builtin F.entry_extend_loop ?_
    rw [Around.under_plainId F.plain_extend_loop _]
    show wpAny _ A.in1 (pyNext (.ref (b + n + 2)) >>= _) _ _ s
    have hle : ∀ p ∈ xs, i ≤ p.1.cps.size := fun p hp => by
      cases i with
      | zero => exact Nat.zero_le _
      | succ i => exact hm1 i (Nat.lt_succ_self _) p hp
    have none_ : ∀ h' tk, Out b n s.heap h' → wpAny (model prog w) A.in1 (ret res) (fun fin s' => match fin with | .done f => R (.ok f) s' | .again c' => c'.quiet = true ∧ codeAny (model prog w) A c' R s') (fun e s' => R (.error e) s') { s with heap := h', toks := tk } := by
      intro h' tk ho
      obtain ⟨c, hl⟩ := Z.lst
      refine wpAny_pure (hR h' tk acc (fun c o hc _ e => ho c o hc e) ⟨c, ho S _ (.inr hS) hl⟩ Z.size fun j v hj => ?_)
      obtain ⟨T, vs, e, hT, hg, hs, hd⟩ := Z.acc_at j v hj
      exact ⟨T, vs, e, hT, ho T _ (.inr (by omega)) hg, hs, hd⟩
    rcases Z.zst with ⟨hz, kept, hTO, hks⟩ | ⟨T, fl, o, hz, hT, hST⟩
    · refine wpAny_bind (zipA (A := A.in1) hh hn hpos hbig' hz Z.TI hTO hks Z.its hle (fun q => absurd q hm2) fun _ h' tk ho => ?_)
      exact none_ h' tk ho
    · refine wpAny_bind (zipB (A := A.in1) hh hn hpos hbig' hz Z.TI hT Z.its hle (fun q => absurd q hm2) fun _ h' tk ho => ?_)
      exact none_ h' tk ho
  | succ k ih =>
    intro i s acc hk Z hR
    have hi : i < m := by omega
    refine codeAny_builtin F.entry_extend_loop ?_
    rw [Around.under_plainId F.plain_extend_loop _]
    show wpAny _ A.in1 (pyNext (.ref (b + n + 2)) >>= _) _ _ s
    have hle : ∀ p ∈ xs, i ≤ p.1.cps.size := fun p hp => Nat.le_of_lt (hm1 i hi p hp)
    have hall := hm1 i hi
    obtain ⟨c, hl⟩ := Z.lst
    have hSlt : S < s.heap.objs.size := Heap.lt_size hl
    have go : ∀ (T : Nat) fl o h' tk vs, h'.get? (b + n + 2) = some (ZObj (rawInt T) (.bool fl) (b + n) (b + n + 1)) → h'.get? T = some o → S < T → h'.get? (b + n) = some (tupA (itsV b n)) → ItsAt h' b xs (fun _ => i + 1) → Array.size vs = n → Drawn xs i vs →
        h'.get? s.heap.objs.size = some (tupA vs) → Out b n s.heap h' →
        wpAny (model prog w) A.in1 (Builtin.List.listUpdate (.ref S) (·.push (.ref s.heap.objs.size)) >>= fun _ => again (.builtin "list.extend.loop" ⟨[.ref S, .ref (b + n + 2), res], []⟩)) (fun fin s' => match fin with | .done f => R (.ok f) s' | .again c' => c'.quiet = true ∧ codeAny (model prog w) A c' R s') (fun e s' => R (.error e) s') { s with heap := h', toks := tk } := by
      intro T fl o h' tk vs hz hT hST hTI hits hvs hd hnew ho
      have hl' := ho S _ (.inr hS) hl
      show wpAny _ A.in1 (updateSeq S (·.push (.ref s.heap.objs.size)) >>= _) _ _ _
      refine wpAny_bind ?_
      refine wpAny_updateSeq hl' rfl ?_ (by rw [Z.size, PySem.sizeLine_eq]; omega) (by show (acc.push _).size ≤ _; rw [Array.size_push, Z.size, PySem.sizeLine_eq]; omega)
      have hsb := Heap.SameBut.update h' S (Obj.mapSeq (·.push (.ref s.heap.objs.size)))
      have up : ∀ (c : Nat) o, c ≠ S → h'.get? c = some o → (h'.update S (Obj.mapSeq (·.push (.ref s.heap.objs.size)))).get? c = some o := fun c o hc e => hsb.extBut c o hc e
      refine wpAny_pure ⟨plainId_quiet F.plain_extend_loop _, ih (i + 1) _ (acc.push (.ref s.heap.objs.size)) (by omega) ⟨⟨_, Heap.get?_update_self _ hl' rfl⟩, by rw [Array.size_push, Z.size], ?_, up _ _ (by omega) hTI, ?_, .inr ⟨T, fl, o, up _ _ (by omega) hz, up _ _ (by omega) hT, hST⟩⟩ fun h9 tk9 acc9 ho9 hl9 hs9 ha9 => ?_⟩
      · intro j v hj
        rw [Array.getElem?_push] at hj
        by_cases q : j = acc.size
        · rw [if_pos q] at hj
          cases hj
          refine ⟨s.heap.objs.size, vs, rfl, hSlt, up _ _ (by omega) hnew, hvs, ?_⟩
          rw [q, Z.size]; exact hd
        · rw [if_neg q] at hj
          obtain ⟨T', vs', e, hT', hg, hs, hd'⟩ := Z.acc_at j v hj
          exact ⟨T', vs', e, hT', up _ _ (by omega) (ho T' _ (.inr (by omega)) hg), hs, hd'⟩
      · intro j x t hx
        have hjn := (List.getElem?_eq_some_iff.mp hx).1
        obtain ⟨o', ho', r9⟩ := hits j x t hx
        exact ⟨o', up _ _ (by omega) ho', r9⟩
      · refine hR h9 tk9 acc9 (fun c o hc hcS e => ho9 c o hc hcS (up _ _ hcS (ho c o hc e))) hl9 hs9 ha9
    rcases Z.zst with ⟨hz, kept, hTO, hks⟩ | ⟨T, fl, o, hz, hT, hST⟩
    · refine wpAny_bind (zipA (A := A.in1) hh hn hpos hbig' hz Z.TI hTO hks Z.its hle (fun _ h' tk vs a1 a2 a3 a4 a5 a6 a7 a8 => ?_) fun q => absurd hall q)
      exact go _ false _ h' tk vs a1 a6 hSlt a2 a3 a4 a5 a6 a8
    · refine wpAny_bind (zipB (A := A.in1) hh hn hpos hbig' hz Z.TI hT Z.its hle (fun _ h' tk vs a1 a2 a3 a4 a5 a6 a7 a8 => ?_) fun q => absurd hall q)
      exact go T true o h' tk vs a1 (a8 T o (.inr (by omega)) hT) hST a2 a3 a4 a5 a6 a8
end
end Mine
end

section
namespace Mine

section
variable {prog : Program} {w : World} {A : Around} {E : Value → Shared → Prop} {s : Shared}

theorem call_list_zip {b n m : Nat} {xs : List (Str × Tok)} {kept : Array Value} {Q : Value → Shared → Prop} (hh : A.handled = none) (hn : xs.length = n) (hpos : 0 < n) (hbig : n ≤ 1000) (hm1 : ∀ i < m, ∀ p ∈ xs, i < p.1.cps.size) (hm2 : ¬ ∀ p ∈ xs, m < p.1.cps.size) (hm : m ≤ 1000)
    (hz : s.heap.get? (b + n + 2) = some (ZObj .none (.bool false) (b + n) (b + n + 1))) (hTI : s.heap.get? (b + n) = some (tupA (itsV b n))) (hTO : s.heap.get? (b + n + 1) = some (tupA kept)) (hks : kept.size = n) (hit : ItsAt s.heap b xs (fun _ => 0))
    (hQ : ∀ h' tk acc c, Out b n s.heap h' → h'.get? s.heap.objs.size = some { cls := .type "list", dict := none, data := .seq acc c, slots := #[] } → acc.size = m → AccAt h' n s.heap.objs.size xs acc → Q (.ref s.heap.objs.size) { s with heap := h', toks := tk }) :
    wpAny (model prog w) A (call (.type "list") [.ref (b + n + 2)]) Q E s := by
  have hS : b + n + 2 < s.heap.objs.size := Heap.lt_size hz
  refine callType_codes (Q₁ := fun obj s₁ => obj = .ref s.heap.objs.size ∧ s₁ = { s with heap := s.heap.push { cls := .type "list", data := .seq #[] } }) F.called_list (F.typeCall_list_1 _) F.entry_list_init
    (code_list_new _ ⟨rfl, rfl⟩) fun obj s₁ h₁ => ?_
  obtain ⟨rfl, rfl⟩ := h₁
  have hS0 : (s.heap.push { cls := .type "list", data := .seq #[] }).get? s.heap.objs.size = some { cls := .type "list", data := .seq #[] } := Heap.get?_push_size _ rfl
  refine ⟨⟨_, hS0, rfl⟩, F.args_list_init_2 _ _, ?_⟩
  generalize hg0 : s.heap.push { cls := .type "list", data := .seq #[] } = g0 at hS0 ⊢
  have up0 : ∀ c o, s.heap.get? c = some o → g0.get? c = some o := fun c o e => hg0 ▸ Heap.get?_push_of_some _ e
  show wpAny _ A.in1.in1 (do let old ← Builtin.List.listItems (.ref s.heap.objs.size); Builtin.List.listUpdate (.ref s.heap.objs.size) (fun _ => #[]); letGo old.toList.reverse; Builtin.List.listExtendWith (.ref s.heap.objs.size) (.ref (b + n + 2)) .none) _ _ _
  refine wpAny_bind ?_
  unfold Builtin.List.listItems
  refine wpAny_bind (wpAny_seqItems hS0 rfl (wpAny_pure ?_))
  show wpAny _ _ (updateSeq s.heap.objs.size (fun _ => #[]) >>= fun _ => letGo (#[] : Array Value).toList.reverse >>= fun _ => Builtin.List.listExtendWith (.ref s.heap.objs.size) (.ref (b + n + 2)) .none) _ _ _
  refine wpAny_bind (wpAny_updateSeq hS0 rfl ?_)
  have hS1 := Heap.get?_update_self (Obj.mapSeq (fun _ => (#[] : Array Value))) hS0 rfl
  have up1 : ∀ c o, c ≠ s.heap.objs.size → s.heap.get? c = some o → (g0.update s.heap.objs.size (Obj.mapSeq (fun _ => (#[] : Array Value)))).get? c = some o := fun c o hc e => (Heap.get?_update_other _ _ (Ne.symm hc)).trans (up0 c o e)
  generalize hg1 : g0.update s.heap.objs.size (Obj.mapSeq (fun _ => (#[] : Array Value))) = g1 at hS1 up1 ⊢
  refine wpAny_bind (wpAny_letGo ?_)
  have old : ∀ (c : Nat) o, s.heap.get? c = some o → g1.get? c = some o := fun c o e => up1 c o (Nat.ne_of_lt (Heap.lt_size e)) e
  unfold Builtin.List.listExtendWith
  have hT : Shared.TypeIs { s with heap := g1 } (.ref (b + n + 2)) "zip" := ⟨_, old _ _ hz, rfl⟩
  refine wpAny_bind (wpAny_typeOf hT ?_)
  have h1 : Builtin.List.listSameRef (.ref s.heap.objs.size) (.ref (b + n + 2)) = false := by
    have : (s.heap.objs.size == b + n + 2) = false := by simpa using (show ¬ @Eq Nat s.heap.objs.size (b + n + 2) by omega)
    simpa [Builtin.List.listSameRef] using this
  have h2 : (Value.type "zip" == Value.type "list") = false := by decide
  have h3 : (Value.type "zip" == Value.type "tuple") = false := by decide
  simp only [h1, h2, h3, Bool.or_false, Bool.false_eq_true, if_false]
  refine wpAny_bind (wpAny_pyIter_zip (s := { s with heap := g1 }) (old _ _ hz) ?_)
  refine wpAny_bind (wpAny_holding ?_)
  unfold Builtin.List.listLengthHint
  refine wpAny_bind (wpAny_specialOf hT zip_no_len ?_)
  show wpAny _ _ (specialOf (Value.ref (b + n + 2)) (Str.ofString "__length_hint__") >>= _) _ _ _
  refine wpAny_bind (wpAny_specialOf hT zip_no_hint ?_)
  refine wpAny_pure ?_
  show wpAny _ _ (rule "list.extend.makes-room" >>= fun _ => Builtin.List.listTouch (.ref s.heap.objs.size) >>= fun _ =>
    again (.builtin "list.extend.loop" ⟨[.ref s.heap.objs.size, .ref (b + n + 2), .none], []⟩)) _ _ _
  refine wpAny_bind (wpAny_rule ?_)
  refine wpAny_bind ?_
  show wpAny _ _ (updateSeq s.heap.objs.size (·.push .none) >>= fun _ => updateSeq s.heap.objs.size (·.pop)) _ _ _
  refine wpAny_bind (wpAny_updateSeq hS1 rfl ?_)
  have hS2 := Heap.get?_update_self (Obj.mapSeq (·.push Value.none)) hS1 rfl
  refine wpAny_updateSeq (hz := by seq_fits) hS2 rfl ?_
  have hS3 := Heap.get?_update_self (Obj.mapSeq (·.pop)) hS2 rfl
  have old3 : ∀ (c : Nat) o, s.heap.get? c = some o → ((g1.update s.heap.objs.size (Obj.mapSeq (·.push Value.none))).update s.heap.objs.size (Obj.mapSeq (·.pop))).get? c = some o := fun c o e =>
    (Heap.get?_update_other _ _ (Ne.symm (Nat.ne_of_lt (Heap.lt_size e)))).trans ((Heap.get?_update_other _ _ (Ne.symm (Nat.ne_of_lt (Heap.lt_size e)))).trans (old c o e))
  refine wpAny_pure ⟨plainId_quiet F.plain_extend_loop _, zip_fill (A := A.in1) (b := b) (n := n) (m := m) (S := s.heap.objs.size) hh hn hpos hbig hS hm1 hm2 hm .none m 0 _ #[] (by omega) ⟨⟨_, hS3⟩, rfl, fun j v hj => by simp at hj, old3 _ _ hTI, fun k x t hx => ?_, .inl ⟨old3 _ _ hz, kept, old3 _ _ hTO, hks⟩⟩ fun h' tk acc' ho hl hs ha => ?_⟩
  · obtain ⟨o, ho, r⟩ := hit k x t hx
    exact ⟨o, old3 _ _ ho, r⟩
  · obtain ⟨c, hl⟩ := hl
    exact ⟨rfl, hQ h' tk acc' c (fun c o hc e => ho c o hc (Nat.ne_of_lt (Heap.lt_size e)) (old3 c o e)) hl hs ha⟩
end
end Mine
end

section
namespace Mine

theorem typeCall_zip_3 (a b c : Value) : checkTypeCall "zip" ⟨[a, b, c], []⟩ = pure () := by kernel_rfl
theorem newCall_zip_3 (a b c : Value) : checkBuiltinCall "zip.__new__" ⟨[.type "zip", a, b, c], []⟩ = pure () := by kernel_rfl
theorem args_object_init_4 (a b c d : Value) : argsOk "object.__init__" ⟨[a, b, c, d], []⟩ := by
  unfold argsOk; rw [signature?_of (id := "object.__init__") (n := ['_', '_', 't', 'i', 'n', 'i', '_', '_']) (o := ['t', 'c', 'e', 'j', 'b', 'o']) (by kernel_rfl) F.owner_object]; kernel_rfl

abbrev sitO (x : Str) (t : Tok) : Obj := { cls := .type (strIterType x), data := .fields #[.str x t, .int 0 0] }
abbrev zs1 (h : Heap) (x : Str) (t : Tok) : Heap := h.push (sitO x t)
abbrev zs2 (h : Heap) (x : Str) (t : Tok) (y : Str) (u : Tok) : Heap := (zs1 h x t).push (sitO y u)
abbrev zs3 (h : Heap) (x : Str) (t : Tok) (y : Str) (u : Tok) : Heap := (zs2 h x t y u).push { cls := .type "tuple", data := .seq #[.ref h.objs.size, .ref (zs1 h x t).objs.size] }
abbrev zs4 (h : Heap) (x : Str) (t : Tok) (y : Str) (u : Tok) : Heap := (zs3 h x t y u).push { cls := .type "tuple", data := .seq #[.none, .none] }
abbrev zs5 (h : Heap) (x : Str) (t : Tok) (y : Str) (u : Tok) : Heap := (zs4 h x t y u).push { cls := .type "zip", data := .fields #[.none, .bool false, .bool false, .ref (zs2 h x t y u).objs.size, .ref (zs3 h x t y u).objs.size] }

set_option maxHeartbeats 3200000 in
theorem zip_new_2s (x : Str) (t : Tok) (y : Str) (u : Tok) :
    Meets (Builtin.«zip.__new__» ⟨[.type "zip", .str x t, .str y u], []⟩) (fun _ R s =>
      R (.ok (.ret (.ref (zs4 s.heap x t y u).objs.size))) { s with heap := zs5 s.heap x t y u }) :=
  .of_wp fun prog w A R s h => by
    obtain ⟨hp, g, d, tk, os⟩ := s
    have hsub := sub_zip
    unfold Builtin.«zip.__new__» Builtin.SmallTypes.iterAll
    generalize hPI : pyIter = PI
    wp_walk
    subst hPI
    refine wpAny_pyIter_strU ?_
    generalize hPI : pyIter = PI
    wp_walk
    subst hPI
    refine wpAny_pyIter_strU ?_
    generalize hPI : pyIter = PI
    wp_walk
    exact ⟨_, rfl, h⟩

abbrev zt3a (h : Heap) (x : Str) (t : Tok) (y : Str) (u : Tok) (z : Str) (v : Tok) : Heap := (zs2 h x t y u).push (sitO z v)
abbrev zt4a (h : Heap) (x : Str) (t : Tok) (y : Str) (u : Tok) (z : Str) (v : Tok) : Heap := (zt3a h x t y u z v).push { cls := .type "tuple", data := .seq #[.ref h.objs.size, .ref (zs1 h x t).objs.size, .ref (zs2 h x t y u).objs.size] }
abbrev zt5a (h : Heap) (x : Str) (t : Tok) (y : Str) (u : Tok) (z : Str) (v : Tok) : Heap := (zt4a h x t y u z v).push { cls := .type "tuple", data := .seq #[.none, .none, .none] }
abbrev zt6a (h : Heap) (x : Str) (t : Tok) (y : Str) (u : Tok) (z : Str) (v : Tok) : Heap := (zt5a h x t y u z v).push { cls := .type "zip", data := .fields #[.none, .bool false, .bool false, .ref (zt3a h x t y u z v).objs.size, .ref (zt4a h x t y u z v).objs.size] }

set_option maxHeartbeats 3200000 in
theorem zip_new_3s (x : Str) (t : Tok) (y : Str) (u : Tok) (z : Str) (v : Tok) :
    Meets (Builtin.«zip.__new__» ⟨[.type "zip", .str x t, .str y u, .str z v], []⟩) (fun _ R s =>
      R (.ok (.ret (.ref (zt5a s.heap x t y u z v).objs.size))) { s with heap := zt6a s.heap x t y u z v }) :=
  .of_wp fun prog w A R s h => by
    obtain ⟨hp, g, d, tk, os⟩ := s
    have hsub := sub_zip
    unfold Builtin.«zip.__new__» Builtin.SmallTypes.iterAll
    generalize hPI : pyIter = PI
    wp_walk
    subst hPI
    refine wpAny_pyIter_strU ?_
    generalize hPI : pyIter = PI
    wp_walk
    subst hPI
    refine wpAny_pyIter_strU ?_
    generalize hPI : pyIter = PI
    wp_walk
    subst hPI
    refine wpAny_pyIter_strU ?_
    generalize hPI : pyIter = PI
    wp_walk
    exact ⟨_, rfl, h⟩

section
variable {prog : Program} {w : World} {A : Around} {E : Value → Shared → Prop} {s : Shared}

theorem sit_at {h : Heap} {a : Addr} {x : Str} {t : Tok} (e : h.get? a = some (sitO x t)) : h.IsStrIter a (strIterType x) x t 0 := ⟨_, e, rfl, rfl⟩

theorem call_zip_2s {x : Str} {t : Tok} {y : Str} {u : Tok} {Q : Value → Shared → Prop}
    (h : ∀ (b : Nat) h', b = s.heap.objs.size → h'.get? (b + 2 + 2) = some (ZObj .none (.bool false) (b + 2) (b + 2 + 1)) → h'.get? (b + 2) = some (tupA (itsV b 2)) → h'.get? (b + 2 + 1) = some (tupA #[.none, .none]) → ItsAt h' b [(x, t), (y, u)] (fun _ => 0) →
      (∀ c o, s.heap.get? c = some o → h'.get? c = some o) → Q (.ref (b + 2 + 2)) { s with heap := h' }) :
    wpAny (model prog w) A (call (.type "zip") [.str x t, .str y u]) Q E s := by
  refine callType_new F.called_zip (by decide) (F.typeCall_zip_2 _ _) (F.newCall_zip_2 _ _) (fun obj => F.args_object_init_3 obj _ _) F.entry_zip_new
    (zip_new_2s x t y u) ?_
  have z1 : (zs1 s.heap x t).objs.size = s.heap.objs.size + 1 := Heap.size_push ..
  have z2 : (zs2 s.heap x t y u).objs.size = s.heap.objs.size + 2 := by rw [Heap.size_push, z1]
  have z3 : (zs3 s.heap x t y u).objs.size = s.heap.objs.size + 3 := by rw [Heap.size_push, z2]
  have z4 : (zs4 s.heap x t y u).objs.size = s.heap.objs.size + 4 := by rw [Heap.size_push, z3]
  have g5 : (zs5 s.heap x t y u).get? (zs4 s.heap x t y u).objs.size = some _ := Heap.get?_push_size _ rfl
  have g4 : (zs5 s.heap x t y u).get? (zs3 s.heap x t y u).objs.size = some _ := Heap.get?_push_of_some _ (Heap.get?_push_size _ rfl)
  have g3 : (zs5 s.heap x t y u).get? (zs2 s.heap x t y u).objs.size = some _ := Heap.get?_push_of_some _ (Heap.get?_push_of_some _ (Heap.get?_push_size _ rfl))
  have g2 : (zs5 s.heap x t y u).get? (zs1 s.heap x t).objs.size = some _ := Heap.get?_push_of_some _ (Heap.get?_push_of_some _ (Heap.get?_push_of_some _ (Heap.get?_push_size _ rfl)))
  have g1 : (zs5 s.heap x t y u).get? s.heap.objs.size = some _ := Heap.get?_push_of_some _ (Heap.get?_push_of_some _ (Heap.get?_push_of_some _ (Heap.get?_push_of_some _ (Heap.get?_push_size _ rfl))))
  show _ ∧ _
  rw [z2, z3, z4] at g5
  rw [z1, z2] at g3
  rw [z3] at g4
  rw [z1] at g2
  rw [z4]
  refine ⟨⟨_, g5, rfl⟩, h s.heap.objs.size _ rfl g5 g3 g4 ?_ fun c o e =>
    Heap.get?_push_of_some _ (Heap.get?_push_of_some _ (Heap.get?_push_of_some _ (Heap.get?_push_of_some _ (Heap.get?_push_of_some _ e))))⟩
  intro k x' t' hk
  match k, hk with
  | 0, hk => cases hk; exact sit_at g1
  | 1, hk => cases hk; exact sit_at g2

theorem call_zip_3s {x : Str} {t : Tok} {y : Str} {u : Tok} {z : Str} {v : Tok} {Q : Value → Shared → Prop}
    (h : ∀ (b : Nat) h', b = s.heap.objs.size → h'.get? (b + 3 + 2) = some (ZObj .none (.bool false) (b + 3) (b + 3 + 1)) → h'.get? (b + 3) = some (tupA (itsV b 3)) → h'.get? (b + 3 + 1) = some (tupA #[.none, .none, .none]) → ItsAt h' b [(x, t), (y, u), (z, v)] (fun _ => 0) →
      (∀ c o, s.heap.get? c = some o → h'.get? c = some o) → Q (.ref (b + 3 + 2)) { s with heap := h' }) :
    wpAny (model prog w) A (call (.type "zip") [.str x t, .str y u, .str z v]) Q E s := by
  refine callType_new F.called_zip (by decide) (typeCall_zip_3 _ _ _) (newCall_zip_3 _ _ _) (fun obj => args_object_init_4 obj _ _ _) F.entry_zip_new
    (zip_new_3s x t y u z v) ?_
  have z1 : (zs1 s.heap x t).objs.size = s.heap.objs.size + 1 := Heap.size_push ..
  have z2 : (zs2 s.heap x t y u).objs.size = s.heap.objs.size + 2 := by rw [Heap.size_push, z1]
  have z3 : (zt3a s.heap x t y u z v).objs.size = s.heap.objs.size + 3 := by rw [Heap.size_push, z2]
  have z4 : (zt4a s.heap x t y u z v).objs.size = s.heap.objs.size + 4 := by rw [Heap.size_push, z3]
  have z5 : (zt5a s.heap x t y u z v).objs.size = s.heap.objs.size + 5 := by rw [Heap.size_push, z4]
  have g6 : (zt6a s.heap x t y u z v).get? (zt5a s.heap x t y u z v).objs.size = some _ := Heap.get?_push_size _ rfl
  have g5 : (zt6a s.heap x t y u z v).get? (zt4a s.heap x t y u z v).objs.size = some _ := Heap.get?_push_of_some _ (Heap.get?_push_size _ rfl)
  have g4 : (zt6a s.heap x t y u z v).get? (zt3a s.heap x t y u z v).objs.size = some _ := Heap.get?_push_of_some _ (Heap.get?_push_of_some _ (Heap.get?_push_size _ rfl))
  have g3 : (zt6a s.heap x t y u z v).get? (zs2 s.heap x t y u).objs.size = some _ := Heap.get?_push_of_some _ (Heap.get?_push_of_some _ (Heap.get?_push_of_some _ (Heap.get?_push_size _ rfl)))
  have g2 : (zt6a s.heap x t y u z v).get? (zs1 s.heap x t).objs.size = some _ := Heap.get?_push_of_some _ (Heap.get?_push_of_some _ (Heap.get?_push_of_some _ (Heap.get?_push_of_some _ (Heap.get?_push_size _ rfl))))
  have g1 : (zt6a s.heap x t y u z v).get? s.heap.objs.size = some _ := Heap.get?_push_of_some _ (Heap.get?_push_of_some _ (Heap.get?_push_of_some _ (Heap.get?_push_of_some _ (Heap.get?_push_of_some _ (Heap.get?_push_size _ rfl)))))
  show _ ∧ _
  rw [z3, z4, z5] at g6
  rw [z4] at g5
  rw [z1, z2, z3] at g4
  rw [z2] at g3
  rw [z1] at g2
  rw [z5]
  refine ⟨⟨_, g6, rfl⟩, h s.heap.objs.size _ rfl g6 g4 g5 ?_ fun c o e =>
    Heap.get?_push_of_some _ (Heap.get?_push_of_some _ (Heap.get?_push_of_some _ (Heap.get?_push_of_some _ (Heap.get?_push_of_some _ (Heap.get?_push_of_some _ e)))))⟩
  intro k x' t' hk
  match k, hk with
  | 0, hk => cases hk; exact sit_at g1
  | 1, hk => cases hk; exact sit_at g2
  | 2, hk => cases hk; exact sit_at g3
end
end Mine
end

set_option maxHeartbeats 8000000 in
open_top Mine.hd for PySem.Challenge.rw_br0030_02

section
namespace Mine

local macro_rules | `(tactic| walk_at "call type:set") => `(tactic| (k_here; k_dflt (refine' setRaise_N ?k1 ?k2 ?k3 ?k4 ?k5 ?k6 ?_; (case k1 => k_asm); (case k2 => k_asm); (case k3 => rfl); (case k4 => ktr_units); (case k5 => k_mem); (case k6 => exact stays_list (Fr.keep (by assumption)) (by assumption)); k_whole); intro h' tk' e' k1' k2' k3'))

set_option maxHeartbeats 4000000 in
theorem ident_lists {w : World} {dp un : Nat} {gd : Option (List Code)} {outer : List Env} {s : Shared} {Q E : Value → Shared → Prop} {α : Type} [DecidableEq α] (R : Items PySem.Challenge.rw_br0030_02.row.prog w α)
    {a b : Addr} {xs ys : List α} 
    (hdp : dp + 1 < recursionLimit) (hun : un + 100 < cLine) (ha : LsIs R.It s.heap a xs) (hb : LsIs R.It s.heap b ys) 
    (ret : ∀ h' tk', TurnTo outer s.heap h' → Q (.bool (decide (xs = ys))) { s with heap := h', toks := tk' }) :
    Ctx (hd.heap_39 w.params) hd.view_39 (looseW hd.view_39 [Str.ofString "Base", Str.ofString "Levenshtein"]) outer s.heap → wpAny (model PySem.Challenge.rw_br0030_02.row.prog w) (AA dp un gd outer) (call (.ref 100) [.ref a, .ref b]) Q E s := by
  w_on
  w_strict (
  k_fill
  intro C
  refine wpAny_call ?_
  refine enterS (binds := fun t => [(Str.ofString "elements", t)]) (vs := [.ref a, .ref b]) C (by k_is) (by k_is) (by ktr_room) (by rfl) (fun t => locs rfl) (Nat.le_of_ble_eq_true rfl) ?_
  intro A₀ base mean mg mb g D' L h hg F N B XB TB DD X' T'
  have ha' : LsIs R.It g a xs := hg ▸ ha
  have hb' : LsIs R.It g b ys := hg ▸ hb
  have hL := ha'
  obtain ⟨vsa, hL, _⟩ := hL
  k_steps
  rename_i h1 tk1 e1 k1 k2 k3
  refine caughtT rfl B DD XB TB F N k1 k2 k3 (by k_is) PyProof.Rows.Boot.«TypeError» (by decide +kernel) PySem.F.isExc_TypeError PySem.F.notTuple_TypeError (by rw [isSubtype_type]; kernel_rfl) ?_
  clear F N B X' T' k1 k2 k3 hL
  intro h' g' oe KT F' N' hoe hne B' DT X' T'
  replace ha' := LsIs.sk R (SK.of_turn DD KT) ha'
  replace hb' := LsIs.sk R (SK.of_turn DD KT) hb'
  refine wpAny_execs_cons ?_
  refine For_turns F' ?_
  k_steps
  refine tup_slice1 F' N' (.tail _ (.head _)) ?_
  clear F' N'
  intro D2 h2 F' N' l1
  dsimp only at F' N' ⊢
  k_steps
  obtain ⟨vs, hv1, hv2⟩ := hoe
  refine zip_turns (xs = ys) F' N' rfl (.tail _ (.head _)) hv1 hv2 (.tail _ (.tail _ (.head _))) rfl ⟨_, rfl⟩ (.head _) rfl ⟨_, rfl⟩ ?_ ?_
  · clear F' N'
    intro T h1 tk1 own F' N' hown hT
    replace F' : Fr g' L h1 _ := F'
    replace N' : News g' L h1 _ := N'
    refine assign_pair_h ⟨_, _, _, rfl, (N' _ (List.mem_append_right _ (.tail _ (.head _)))).1, hv1, hv2⟩ hT rfl rfl ?_
    intro h2 hk2
    replace F' := F'.after (ext_keeps hk2)
    replace N' : News g' L h2 _ := fun p hp => ⟨ext_keeps hk2 _ _ (N' p hp).1, (N' p hp).2⟩
    clear hk2 hT
    dsimp only
    k_steps
    rename Fr _ _ _ _ => F'
    refine R.ne (by ktr_units) (LsIs.sk R (SK.of_keeps F'.keep) ha') (LsIs.sk R (SK.of_keeps F'.keep) hb') ?_
    k_steps
    · rename News _ _ _ _ => N'
      rename xs = ys => hxy
      exact ⟨hxy, _, _, _, rfl, F', N'⟩
    · rename ¬ xs = ys => hxy
      subst hg
      rw [decide_eq_false hxy] at ret
      exact ret _ _ (TurnTo.of_turn KT F'.keep)
  · clear F' N'
    intro h1 tk1 m1 hxy F' N'
    k_steps
    rename Fr _ _ _ _ => F'
    subst hg
    rw [decide_eq_true hxy] at ret
    exact ret _ _ (TurnTo.of_turn KT F'.keep))

end Mine
end

section
namespace Mine

abbrev selfD (h1 h2 h3 : Int) (t1 t2 t3 : Tok) (q e : Value) (n : Nat) : Obj :=
  dictOf [⟨h1, .str (Str.ofString "qval") t1, q⟩, ⟨h2, .str (Str.ofString "test_func") t2, .ref 100⟩, ⟨h3, .str (Str.ofString "external") t3, e⟩] n

def IdentOn {α : Type} [DecidableEq α] (w : World) (It : Heap → Value → α → Prop) : Prop :=
  ∀ (dp un : Nat) (gd : Option (List Code)) (outer : List Env) (s : Shared) (Q E : Value → Shared → Prop) (u v : Value) (x y : α), dp + 1 < recursionLimit → un + 100 < cLine → It s.heap u x → It s.heap v y →
    Ctx (hd.heap_39 w.params) hd.view_39 (looseW hd.view_39 [Str.ofString "Base", Str.ofString "Levenshtein"]) outer s.heap →
    (∀ h' tk', (∀ b o, s.heap.get? b = some o → h'.get? b = some o) → Q (.bool (decide (x = y))) { s with heap := h', toks := tk' }) →
    wpAny (model PySem.Challenge.rw_br0030_02.row.prog w) (AA dp un gd outer) (call (.ref 100) [u, v]) Q E s

local macro_rules | `(tactic| k_inst) => `(tactic| exact instUp (by assumption) (Fr.keep (by assumption)))
local macro_rules | `(tactic| walk_at "call builtin:len") => `(tactic| (k_here; (refine RowsK.len_ _ (RowsK.skR _ (SK.of_keeps (Fr.keep (by assumption))) (by assumption)) ?_); intro t' tk'; dsimp only))
local macro_rules | `(tactic| walk_at "getMethod ref") => `(tactic| (k_here; k_dflt (refine' kmu_own ?k1 ?k2 ?k3 ?k4 ?k5 ?_; (case k1 => k_asm); (case k2 => k_asm); (case k3 => k_inst); (case k4 => k_is); (case k5 => k_is); k_whole)))
theorem min3_N {prog : Program} {w : World} {A : Around} {E : Value → Shared → Prop} {s : Shared} {h₀ : Heap} {L : Addr} {m : Str → Option Value} {news : List (Addr × Obj)} {a b c : Int} {t u x : Tok} {Q : Value → Shared → Prop} (hh : A.handled = none) (F : Fr h₀ L s.heap m) (N : News h₀ L s.heap news)
    (h : ∀ h' tk tk', Fr h₀ L h' m → News h₀ L h' news → Q (.int (min a (min b c)) tk) { s with heap := h', toks := tk' }) :
    wpAny (model prog w) A (call (.builtin "min") [.int a t, .int b u, .int c x]) Q E s := by
  refine min_three_ints hh fun h' tk hk => ?_
  have key := fun tok => h h' tok tk (F.grownK hk) (N.grown hk)
  have e : min a (min b c) = (if b < a then (if c < b then c else b) else (if c < a then c else a)) := by
    split <;> split <;> omega
  rw [e] at key
  by_cases hba : b < a <;> by_cases hc1 : c < b <;> by_cases hc2 : c < a <;> simp only [hba, hc1, hc2, if_true, if_false] at key ⊢ <;> exact key _

local macro_rules | `(tactic| walk_at "call builtin:min") => `(tactic| (k_here; (refine min3_N rfl (by assumption) (by assumption) ?_); intro _ _ _ _ _; dsimp only))
local macro_rules | `(tactic| k_steps) => `(tactic| repeat' ((fail_if_success (with_reducible show wpAny _ _ (exec (Stmt.For _ _ _ _ _) _) _ _ _)); (fail_if_success (with_reducible show wpAny _ _ (pyIter _) (fun it s₂ => LoopAtV _ _ _ _ _ _ _ _ _ it s₂) _ _)); (fail_if_success (with_reducible show wpAny _ _ (subscriptTail _ _ _ (Value.int _ _)) _ _ _)); (first | (k_unfold; (try dsimp only)) | (k_end; wrow_close) | walk1 | (dsimp only; walk1) | (leave1; walk_say "STEP leave1"; try dsimp only) | fail "no step")))

set_option maxHeartbeats 4000000 in
theorem cycled_ok {w : World} {dp un : Nat} {gd : Option (List Code)} {outer : List Env} {s : Shared} {Q E : Value → Shared → Prop} {α : Type} [DecidableEq α] (R : RowsK PySem.Challenge.rw_br0030_02.row.prog w α) (hid : IdentOn w R.It)
    {a b : Value} {self : Addr} {ox : Obj} {h1 h2 h3 : Int} {t1 t2 t3 : Tok} {q e : Value} {nd : Nat} {xs ys : List α} 
    (hdp : dp + 3 < recursionLimit) (hun : un + 200 < cLine) (ha : R.Row s.heap a xs) (hb : R.Row s.heap b ys) (hs : InstAt s.heap self ox 189 (some (selfD h1 h2 h3 t1 t2 t3 q e nd)))
    (ret : ∀ t h' tk', TurnTo outer s.heap h' → Q (.int (lev xs ys : Nat) t) { s with heap := h', toks := tk' }) :
    Ctx (hd.heap_39 w.params) hd.view_39 (looseW hd.view_39 [Str.ofString "Base", Str.ofString "Levenshtein"]) outer s.heap → wpAny (model PySem.Challenge.rw_br0030_02.row.prog w) (AA dp un gd outer) (call (.ref 179) [.ref self, a, b]) Q E s := by
  w_on
  w_strict (
  k_fill
  intro C
  refine wpAny_call ?_
  refine enterP (binds := [(Str.ofString "self", .ref self), (Str.ofString "s1", a), (Str.ofString "s2", b)]) C (by k_is) (by k_is) (by ktr_room) (fun _ => BindsTo.of_eq rfl) (locs rfl) ?_
  intro A₀ base mean mg mb g L h hg F N B XB TB DD X' T'
  have ha' : R.Row g a xs := hg ▸ ha
  have hx1 := R.small ha
  have hy1 := R.small hb
  have hb' : R.Row g b ys := hg ▸ hb
  replace hs : InstAt g self ox 189 (some (selfD h1 h2 h3 t1 t2 t3 q e nd)) := hg ▸ hs
  k_steps
  rename Fr _ _ _ _ => F
  rename News _ _ _ _ => N; try rename IntsAre _ _ => hi0
  rename IntsAre _ _ => hi
  have hi0 : IntsAre _ (rowI xs ys 0) := (row_zero xs ys (show ((ys.length : Int) + 1 - 0).toNat = ys.length + 1 from by omega)) ▸ hi
  clear hi
  refine For_invVF F rfl rfl ?_
  k_steps
  (try clear F); (try clear N)
  rename IsRange _ _ _ _ _ _ _ _ => hr
  rename Fr _ _ _ _ => F
  rename News _ _ _ _ => N; try rename IntsAre _ _ => hi0
  refine range_loop (σ := Addr × List Value × Nat) (fun c => [(c.1, W.listOf c.2.1.toArray c.2.2)]) (fun c => [(Str.ofString "cur", .ref c.1)]) (fun i c => IntsAre c.2.1 (rowI xs ys i))
    [Str.ofString "prev", Str.ofString "c", Str.ofString "deletion", Str.ofString "insertion", Str.ofString "dist", Str.ofString "edit"] (n := xs.length) (_, _, _) rfl hr
    (small_one (by omega) (by omega) (by omega) (by omega)) ((rangeSize_nat _ _).trans (by omega)) F N hi0 (List.forall_mem_singleton.mpr rfl) ?_ ?_
  · clear F N hr hi0
    rintro ⟨ca, cv, cn⟩ i t u I io h tk hi hf F N hne
    dsimp only at hf F N hne ⊢
    k_steps
    rename_i D1 ws hA hI l1 D3 hB l3 hC F1 N1 hD hE F2 N2
    have hI0 : IntsAre ws (rowP xs ys i 0) := by
      rw [← row_start xs ys (r := 1 + (i : Int)) (by omega) hi (zs := (List.replicate ((ys.length : Int) + 1 - 1).toNat [(0 : Int)]).flatten) ?_]
      · exact hI
      · rw [show ((ys.length : Int) + 1 - 1).toNat = ys.length from by omega]
        simp
    have q1 : @Ne Nat D1 I := Nat.ne_of_gt l1.2.2.2.1
    have q2 : @Ne Nat D1 ca := Nat.ne_of_gt l1.2.2.2.2
    have q3 : @Ne Nat ca I := hne _ (.head _)
    have N3 : News g L hE [(D1, W.listOf ws.toArray 0), (ca, W.listOf cv.toArray cn), (I, io)] := kst_newsOf N2 (by kst_inAny)
    clear hI l1 l3 F1 N1 N2
    refine For_invVF F2 rfl rfl ?_
    k_steps
    rename IsRange _ _ _ _ _ _ _ _ => hr
    rename Fr _ _ _ _ => F
    rename News _ _ _ _ => N
    rename IntsAre _ (rowP _ _ _ _) => hI0
    rename IntsAre _ (rowI _ _ _) => hf
    refine range_loop (σ := List Value × Nat) (fun c => [(D1, W.listOf c.1.toArray c.2), (ca, W.listOf cv.toArray cn), (I, io)]) (fun _ => []) (fun j c => IntsAre c.1 (rowP xs ys i j))
      [Str.ofString "deletion", Str.ofString "insertion", Str.ofString "dist", Str.ofString "edit"] (n := ys.length) (_, _) rfl hr
      (small_one (by omega) (by omega) (by omega) (by omega)) ((rangeSize_nat _ _).trans (by omega)) F N hI0 (fun _ hp => nomatch hp) ?_ ?_
    · clear F N hr
      rintro ⟨dv, dn⟩ j t5 u5 I5 io5 h5 tk5 hj hf5 F N hne5
      dsimp only [kstB] at hf5 F N hne5 ⊢
      k_steps
      refine ksa_sub (by assumption) (by k_mem) (by assumption) (by omega) (by rw [rowI_length]; omega) (by omega) ?_ (by with_unfolding_all rfl)
      intro _
      k_steps
      refine ksa_sub (by assumption) (by k_mem) hf5 (by omega) (by rw [rowP_length]; omega) (by omega) ?_ (by with_unfolding_all rfl)
      intro _
      k_steps
      rename Fr _ _ _ _ => F
      refine R.item (xs := xs) (R.skR (SK.of_keeps F.keep) ha') (by omega) (by omega) ?_
      intro ux tkx hux
      dsimp only at hux ⊢
      k_steps
      refine R.item (xs := ys) (R.skR (SK.of_keeps F.keep) hb') (by omega) (by omega) ?_
      intro uy tky huy
      dsimp only at huy ⊢
      k_steps
      rename News _ _ _ _ => N
      obtain ⟨x, hx⟩ : ∃ x, xs[i]? = some x := ⟨_, List.getElem?_eq_getElem hi⟩
      obtain ⟨y, hy⟩ : ∃ y, ys[j]? = some y := ⟨_, List.getElem?_eq_getElem hj⟩
      replace hux := hux x (by rw [← hx]; congr 1; omega)
      replace huy := huy y (by rw [← hy]; congr 1; omega)
      refine hid (dp + 1) _ gd (_ :: outer) _ _ _ ux uy x y (by omega) ?_ hux huy ?_ ?_
      · dsimp only [AA]; omega
      · exact Ctx.push B XB TB DD F rfl
      intro h' tk' kk
      replace F := F.after kk
      replace N : News _ _ h' _ := fun p hp => ⟨kk _ _ (N p hp).1, (N p hp).2⟩
      dsimp only at F N ⊢
      k_steps
      refine ksa_sub (by assumption) (by k_mem) (by assumption) (by omega) (by rw [rowI_length]; omega) (by omega) ?_ (by with_unfolding_all rfl)
      intro _
      k_steps
      rename Fr _ _ _ _ => F
      rename News _ _ _ _ => N
      have q4 : @Ne Nat D1 I5 := hne5 _ (.head _)
      refine ksa_set F N (by k_upd) hf5 (by omega) (by rw [rowP_length]; omega) (by omega) ?_
      clear F N
      intro h9 F N hf9 _ _
      rw [cell_next xs ys hx hy] at hf9
      k_steps
      rename Fr _ _ _ _ => F
      rename News _ _ _ _ => N
      refine On.intro (_, dn) F N (by k_mem) ?_ ?_ hf9 ?_ ?_
      · kst_inAny
      · exact List.forall_mem_cons.mpr ⟨q4, List.forall_mem_cons.mpr ⟨hne5 _ (.tail _ (.head _)), List.forall_mem_singleton.mpr (hne5 _ (.tail _ (.tail _ (.head _))))⟩⟩
      · exact fun _ hp => nomatch hp
      · kst_same
    · (try clear F N); rintro ⟨dv, dn⟩ u6 h6 tk6 hf6 F N
      rw [row_end] at hf6
      dsimp only [kstB] at hf6 F N ⊢
      k_steps
      rename Fr _ _ _ _ => F
      rename News _ _ _ _ => N
      refine On.intro (D1, dv, dn) F N (by k_mem) ?_ ?_ hf6 ?_ ?_
      · exact List.forall_mem_singleton.mpr (.head _)
      · exact List.forall_mem_singleton.mpr q1
      · exact List.forall_mem_singleton.mpr rfl
      · kst_same
  · (try clear F N); rintro ⟨c1, dv, dn⟩ u6 h6 tk6 hf6 F N
    dsimp only [kstB] at hf6 F N ⊢
    k_steps
    refine item_list_ints_neg (PySem.IsL.isList (n := dn) (N _ (.head _)).1) hf6 (by decide) (by rw [rowI_length]; omega) (by decide) ?_ (by with_unfolding_all rfl) (by intro _; with_unfolding_all rfl)
    intro t9
    rw [row_last]
    k_steps
    subst hg
    exact ret _ _ _ (TurnTo.of_keeps F.keep))

end Mine
end

section
namespace Mine

local macro_rules | `(tactic| walk_at "call type:set") => `(tactic| (k_here; k_dflt (refine' setStrs_N ?k1 ?k2 ?k3 ?k4 ?_; (case k1 => k_asm); (case k2 => k_asm); (case k3 => rfl); (case k4 => k_mem); k_whole); intro S' h' tk' o' F' N' l1 hs'; (try k_lt l1); (try k_sweep)))
local macro_rules | `(tactic| walk_at "call builtin:len") => `(tactic| (k_here; (with_reducible show wpAny _ _ (call (Value.builtin _) [Value.ref _]) _ _ _); k_dflt (refine' lenSet_N ?k1 ?k2 ?k3 ?k4 ?_; (case k1 => k_asm); (case k2 => k_mem); (case k3 => assumption); (case k4 => (split <;> decide)); k_whole); intro tk' t'))

theorem two_is (x y : Str) : ((((if x = y then 1 else 2 : Nat) : Int)) == 1) = decide (x = y) := by by_cases h : x = y <;> simp [h]

set_option maxHeartbeats 4000000 in
theorem ident_strs {w : World} {dp un : Nat} {gd : Option (List Code)} {outer : List Env} {s : Shared} {Q E : Value → Shared → Prop}
    {x y : Str} {tx ty : Tok} (hdp : dp + 1 < recursionLimit)
    (ret : ∀ h' tk', (∀ b o, s.heap.get? b = some o → h'.get? b = some o) → Q (.bool (decide (x = y))) { s with heap := h', toks := tk' }) :
    Ctx (hd.heap_39 w.params) hd.view_39 (looseW hd.view_39 [Str.ofString "Base", Str.ofString "Levenshtein"]) outer s.heap → wpAny (model PySem.Challenge.rw_br0030_02.row.prog w) (AA dp un gd outer) (call (.ref 100) [.str x tx, .str y ty]) Q E s := by
  w_on
  w_strict (
  k_fill
  intro C
  refine wpAny_call ?_
  refine enterS (binds := fun t => [(Str.ofString "elements", t)]) (vs := [.str x tx, .str y ty]) C (by k_is) (by k_is) (by ktr_room) (by rfl) (fun t => locs rfl) (Nat.le_of_ble_eq_true rfl) ?_
  intro A₀ base mean mg mb g D' L h hg F N B XB TB DD X' T'
  k_steps
  rename Fr _ _ _ _ => F
  subst hg
  rw [← two_is x y] at ret
  exact ret _ _ F.keep)

def strIt (_ : Heap) (v : Value) (x : Str) : Prop := ∃ t, v = .str x t

theorem ident_str_on (w : World) : IdentOn w strIt := by
  intro dp un gd outer s Q E u v x y hdp _ hu hv C ret
  obtain ⟨t, rfl⟩ := hu
  obtain ⟨t', rfl⟩ := hv
  exact ident_strs hdp ret C

structure Seqs (prog : Program) (w : World) (α : Type) [DecidableEq α] extends RowsK prog w α where
  on : IdentOn w It
  ident : ∀ {dp un : Nat} {gd : Option (List Code)} {outer : List Env} {s : Shared} {Q E : Value → Shared → Prop} {a b : Value} {xs ys : List α}, dp + 1 < recursionLimit → un + 100 < cLine → Row s.heap a xs → Row s.heap b ys →
    (∀ h' tk', TurnTo outer s.heap h' → Q (.bool (decide (xs = ys))) { s with heap := h', toks := tk' }) →
    Ctx (hd.heap_39 w.params) hd.view_39 (looseW hd.view_39 [Str.ofString "Base", Str.ofString "Levenshtein"]) outer s.heap → wpAny (model PySem.Challenge.rw_br0030_02.row.prog w) (AA dp un gd outer) (call (.ref 100) [a, b]) Q E s
  truth : ∀ {A : Around} {E : Value → Shared → Prop} {Q : Bool → Shared → Prop} {s : Shared} {v : Value} {xs : List α}, Row s.heap v xs → (∀ tk, Q (decide (0 < xs.length)) { s with toks := tk }) → wpAny (model prog w) A (truthy v) Q E s
end Mine
end

section
namespace Mine

local macro_rules | `(tactic| walk_at "getAttr ref") => `(tactic| (k_here; k_dflt (refine' getAttr_sm ?k1 ?k2 ?k4 ?k5 ?k6 ?k7 ?k9 ?k10 ?k11 ?k12 ?k13 ?k14 ?_; (case k1 => k_asm); (case k2 => k_asm); (case k4 => k_inst); (case k5 => k_is); (case k6 => k_is); (case k7 => k_is); (case k9 => k_is); (case k10 => k_is); (case k11 => decide +kernel); (case k12 => k_get); (case k13 => k_is); (case k14 => k_handed); k_whole)))
local macro_rules | `(tactic| walk_at "eval Call Attribute") => `(tactic| (k_here; refine starMethod ?_))
local macro_rules | `(tactic| k_inst) => `(tactic| exact instUp (SelfAt.inst (by assumption)) (Fr.keep (by assumption)))
local macro_rules | `(tactic| k_steps) => `(tactic| repeat' ((fail_if_success (with_reducible show wpAny _ _ (call (Value.ref _) _) _ _ _)); (fail_if_success (with_reducible show wpAny _ _ (call (Value.type "map") _) _ _ _)); (fail_if_success (with_reducible show wpAny _ _ (call (Value.builtin "max") _) _ _ _)); (fail_if_success (with_reducible show wpAny _ _ (call (Value.builtin "all") _) _ _ _)); (first | (k_unfold; (try dsimp only)) | (k_end; wrow_close) | walk1 | (dsimp only; walk1) | (leave1; walk_say "STEP leave1"; try dsimp only) | fail "no step")))

theorem all2 {P Q : Prop} [Decidable P] [Decidable Q] : (decide P && decide Q) = decide (P ∧ Q) := by by_cases h : P <;> by_cases h2 : Q <;> simp [h, h2]

set_option maxHeartbeats 4000000 in
theorem maximum_ok {w : World} {dp un : Nat} {gd : Option (List Code)} {outer : List Env} {s : Shared} {Q E : Value → Shared → Prop} {α : Type} [DecidableEq α] (R : Seqs PySem.Challenge.rw_br0030_02.row.prog w α)
    {a b : Value} {xs ys : List α} (hdp : dp + 1 < recursionLimit) (hun : un + 100 < cLine) (ha : R.Row s.heap a xs) (hb : R.Row s.heap b ys)
    (ret : ∀ t h' tk', TurnTo outer s.heap h' → Q (.int (max xs.length ys.length : Nat) t) { s with heap := h', toks := tk' }) :
    Ctx (hd.heap_39 w.params) hd.view_39 (looseW hd.view_39 [Str.ofString "Base", Str.ofString "Levenshtein"]) outer s.heap → wpAny (model PySem.Challenge.rw_br0030_02.row.prog w) (AA dp un gd outer) (call (.ref 55) [a, b]) Q E s := by
  w_on
  w_strict (
  k_fill
  intro C
  refine wpAny_call ?_
  refine enterS (binds := fun t => [(Str.ofString "sequences", t)]) (vs := [a, b]) C (by k_is) (by k_is) (by ktr_room) (by rfl) (fun t => locs rfl) (Nat.le_of_ble_eq_true rfl) ?_
  intro A₀ base mean mg mb g D' L h hg F N B XB TB DD X' T'
  have ha' : R.Row g a xs := hg ▸ ha
  have hb' : R.Row g b ys := hg ▸ hb
  k_steps
  have hT : h.IsTuple D' #[a, b] := ⟨_, (N _ (.head _)).1, rfl, 0, rfl⟩
  have hDlt : D' < h.objs.size := Heap.lt_size (N _ (.head _)).1
  refine call_map_tup hT ?_
  intro h1 hz hT1 hi hk
  dsimp only at hz hT1 hi hk ⊢
  have F1 := F.after hk
  k_steps
  have ski : ∀ {h2 : Heap}, (∀ c o, c ≠ h.objs.size → h1.get? c = some o → h2.get? c = some o) → SK g h2 := fun {h2} k c o e _ => k c o (Nat.ne_of_lt (Heap.lt_size (F.keep c o e))) (F1.keep c o e)
  refine max_map_len (na := xs.length) (nb := ys.length) rfl hDlt (Nat.lt_succ_self _) (Nat.lt_succ_self _) hz hT1 hi (hT.at fun o e => hk _ o e) (fun k q => R.len_ (R.skR (ski k) ha') q) (fun k q => R.len_ (R.skR (ski k) hb') q) ?_
  intro t h2 tk2 k2
  dsimp only
  have k3 : ∀ c o, g.get? c = some o → h2.get? c = some o := fun c o e => k2 c o (Nat.ne_of_lt (Heap.lt_size (F.keep c o e))) (F1.keep c o e)
  subst hg
  k_steps
  exact ret _ _ _ (TurnTo.of_keeps k3))

set_option maxHeartbeats 4000000 in
theorem quick_ok {w : World} {dp un : Nat} {gd : Option (List Code)} {outer : List Env} {s : Shared} {Q E : Value → Shared → Prop} {α : Type} [DecidableEq α] (R : Seqs PySem.Challenge.rw_br0030_02.row.prog w α)
    {self : Addr} {ox : Obj} {h1 h2 h3 : Int} {t1 t2 t3 : Tok} {q e : Value} {nd : Nat} {a b : Value} {xs ys : List α} (hdp : dp + 3 < recursionLimit) (hun : un + 200 < cLine) (ha : R.Row s.heap a xs) (hb : R.Row s.heap b ys)
    (hs : SelfAt outer s.heap self ox 189 (selfD h1 h2 h3 t1 t2 t3 q e nd))
    (ret : ∀ v h' tk', (if xs = ys then ∃ t, v = .int (0 : Nat) t else if 0 < xs.length ∧ 0 < ys.length then v = .none else ∃ t, v = .int (max xs.length ys.length : Nat) t) → TurnTo outer s.heap h' → Q v { s with heap := h', toks := tk' }) :
    Ctx (hd.heap_39 w.params) hd.view_39 (looseW hd.view_39 [Str.ofString "Base", Str.ofString "Levenshtein"]) outer s.heap → wpAny (model PySem.Challenge.rw_br0030_02.row.prog w) (AA dp un gd outer) (call (.ref 93) [.ref self, a, b]) Q E s := by
  w_on
  w_strict (
  k_fill
  intro C
  refine wpAny_call ?_
  refine enterS (binds := fun t => [(Str.ofString "self", .ref self), (Str.ofString "sequences", t)]) (vs := [a, b]) C (by k_is) (by k_is) (by ktr_room) (by rfl) (fun t => locs rfl) (Nat.le_of_ble_eq_true rfl) ?_
  intro A₀ base mean mg mb g D' L h hg F N B XB TB DD X' T'
  have ha' : R.Row g a xs := hg ▸ ha
  have hb' : R.Row g b ys := hg ▸ hb
  replace hs : SelfAt outer g self ox 189 (selfD h1 h2 h3 t1 t2 t3 q e nd) := hg ▸ hs
  k_steps
  rename Fr _ _ _ _ => F
  rename News _ _ _ _ => N
  refine R.ident (dp := dp + 1) (xs := xs) (ys := ys) (by omega) ?_ (R.skR (SK.of_keeps F.keep) ha') (R.skR (SK.of_keeps F.keep) hb') ?_ ?_
  · dsimp only [AA]; omega
  · intro h' tk' t
    refine after_call B XB TB DD F N t ?_
    clear F N X' T' t
    intro g1 KT F N B1 DD1 X' T'
    replace hs := hs.turn KT
    replace ha' := R.skR (SK.of_turn DD KT) ha'
    replace hb' := R.skR (SK.of_turn DD KT) hb'
    dsimp only at F N ⊢
    k_steps
    · rename Fr _ _ _ _ => F
      rename xs = ys => hxy
      subst hg
      exact ret _ _ _ (by rw [if_pos hxy]; exact ⟨_, rfl⟩) (TurnTo.turn KT (TurnTo.of_keeps F.keep))
    · rename Fr _ _ _ _ => F
      rename News _ _ _ _ => N
      rename ¬ xs = ys => hxy
      refine call_all_tup (ta := decide (0 < xs.length)) (tb := decide (0 < ys.length)) rfl ⟨_, (N _ (.head _)).1, rfl, 0, rfl⟩
        (fun k q => R.truth (R.skR (SK.trans (SK.of_keeps F.keep) (SK.of_keeps k)) ha') q) (fun k q => R.truth (R.skR (SK.trans (SK.of_keeps F.keep) (SK.of_keeps k)) hb') q) ?_
      intro h2 tk2 kk
      rw [all2]
      replace F := F.after kk
      replace N : News _ _ h2 _ := fun p hp => ⟨kk _ _ (N p hp).1, (N p hp).2⟩
      dsimp only at F N ⊢
      k_steps
      · rename _ ∧ _ => hpos
        subst hg
        exact ret _ _ _ (by rw [if_neg hxy, if_pos hpos]) (TurnTo.turn KT (TurnTo.of_keeps F.keep))
      · rename ¬ (_ ∧ _) => hpos
        rename Fr _ _ _ _ => F
        rename News _ _ _ _ => N
        refine maximum_ok R (dp := dp + 1) (xs := xs) (ys := ys) (by omega) ?_ (R.skR (SK.of_keeps F.keep) ha') (R.skR (SK.of_keeps F.keep) hb') ?_ ?_
        · dsimp only [AA]; omega
        · intro t3 h3 tk3 t
          refine after_call B1 XB TB DD1 F N t ?_
          clear F N X' T' t
          intro g2 KT2 F N B2 DD2 X' T'
          subst hg
          exact ret _ _ _ (by rw [if_neg hxy, if_neg hpos]; exact ⟨_, rfl⟩) (TurnTo.turn KT (TurnTo.turn KT2 (TurnTo.of_keeps F.keep)))
        · exact Ctx.push B1 XB TB DD1 F rfl
  · exact Ctx.push B XB TB DD F rfl)
end Mine
end

section
namespace Mine

local macro_rules | `(tactic| k_inst) => `(tactic| first | exact instUp (SelfAt.inst (by assumption)) (Fr.keep (by assumption)) | exact instUp (by assumption) (Fr.keep (by assumption)))
local macro_rules | `(tactic| k_steps) => `(tactic| repeat' ((fail_if_success (with_reducible show wpAny _ _ (call (Value.ref _) _) _ _ _)); (first | (k_unfold; (try dsimp only)) | (k_end; wrow_close) | walk1 | (dsimp only; walk1) | (leave1; walk_say "STEP leave1"; try dsimp only) | fail "no step")))

set_option maxHeartbeats 4000000 in
theorem gets_one {w : World} {dp un : Nat} {gd : Option (List Code)} {outer : List Env} {s : Shared} {Q E : Value → Shared → Prop}
    {self : Addr} {ox : Obj} {h1 h2 h3 : Int} {t1 t2 t3 tq : Tok} {e : Value} {nd : Nat} {a b : Value} (hdp : dp + 1 < recursionLimit)
    (hs : InstAt s.heap self ox 189 (some (selfD h1 h2 h3 t1 t2 t3 (.int 1 tq) e nd)))
    (ret : ∀ l n h' tk', (∀ c o, s.heap.get? c = some o → h'.get? c = some o) → s.heap.get? l = none → h'.get? l = some (W.listOf #[a, b] n) → Q (.ref l) { s with heap := h', toks := tk' }) :
    Ctx (hd.heap_39 w.params) hd.view_39 (looseW hd.view_39 [Str.ofString "Base", Str.ofString "Levenshtein"]) outer s.heap → wpAny (model PySem.Challenge.rw_br0030_02.row.prog w) (AA dp un gd outer) (call (.ref 108) [.ref self, a, b]) Q E s := by
  w_on
  w_strict (
  k_fill
  intro C
  refine wpAny_call ?_
  refine enterSC (binds := fun t => [(Str.ofString "self", .ref self), (Str.ofString "sequences", t)]) (vs := [a, b]) C (by k_is) (by k_is) (by ktr_room) (by rfl) (fun t => rfl) (by decide +kernel) (Nat.le_of_ble_eq_true rfl) ?_
  intro A₀ base mean mg mb g D' L h tk cells hg F N Y l1 B XB TB DD X' T'
  k_cells Y
  (try simp only [List.cons_append, List.nil_append] at N)
  replace hs : InstAt g self ox 189 (some (selfD h1 h2 h3 t1 t2 t3 (.int 1 tq) e nd)) := hg ▸ hs
  k_steps
  rename Fr _ _ _ _ => F
  rename News _ _ _ _ => N
  subst hg
  exact ret _ _ _ _ F.keep (N _ (.head _)).2.2 (N _ (.head _)).1)

def Gets {α : Type} [DecidableEq α] {w : World} (R : Seqs PySem.Challenge.rw_br0030_02.row.prog w α) (self : Addr) (a b : Value) (xs ys : List α) (h : Heap) (outer : List Env) : Prop :=
  ∀ (dp un : Nat) (gd : Option (List Code)) (s : Shared) (Q E : Value → Shared → Prop) (env : Env), (∀ c o, h.get? c = some o → s.heap.get? c = some o) → dp + 5 < recursionLimit → un + 300 < cLine →
    Ctx (hd.heap_39 w.params) hd.view_39 (looseW hd.view_39 [Str.ofString "Base", Str.ofString "Levenshtein"]) (env :: outer) s.heap →
    (∀ a' b' l n h' tk', (∀ c o, s.heap.get? c = some o → h'.get? c = some o) → s.heap.get? l = none → h'.get? l = some (W.listOf #[a', b'] n) → R.Row h' a' xs → R.Row h' b' ys → Q (.ref l) { s with heap := h', toks := tk' }) →
    wpAny (model PySem.Challenge.rw_br0030_02.row.prog w) (AA dp un gd (env :: outer)) (call (.ref 108) [.ref self, a, b]) Q E s

set_option maxHeartbeats 4000000 in
theorem call_code {w : World} {dp un : Nat} {gd : Option (List Code)} {outer : List Env} {s : Shared} {P : Result → Shared → Prop} {α : Type} [DecidableEq α] (R : Seqs PySem.Challenge.rw_br0030_02.row.prog w α)
    {self : Addr} {ox : Obj} {h1 h2 h3 : Int} {t1 t2 t3 : Tok} {q e : Value} {nd : Nat} {a b : Value} {xs ys : List α} (hdp : dp + 7 < recursionLimit) (hun : un + 400 < cLine) 
    (hs : SelfAt outer s.heap self ox 189 (selfD h1 h2 h3 t1 t2 t3 q e nd)) (gets : Gets R self a b xs ys s.heap outer)
    (ret : ∀ t h' tk', TurnTo outer s.heap h' → P (.ok (.ret (.int (lev xs ys : Nat) t))) { s with heap := h', toks := tk' }) :
    Ctx (hd.heap_39 w.params) hd.view_39 (looseW hd.view_39 [Str.ofString "Base", Str.ofString "Levenshtein"]) outer s.heap → codeAny (model PySem.Challenge.rw_br0030_02.row.prog w) (AA dp un gd outer) (.call (.ref 186) ⟨[.ref self, a, b], []⟩) P s := by
  w_on
  w_strict (
  k_fill
  intro C
  refine enterP (binds := [(Str.ofString "self", .ref self), (Str.ofString "s1", a), (Str.ofString "s2", b)]) C (by k_is) (by k_is) (by ktr_room) (fun _ => BindsTo.of_eq rfl) (locs rfl) ?_
  intro A₀ base mean mg mb g L h hg F N B XB TB DD X' T'
  replace hs : SelfAt outer g self ox 189 (selfD h1 h2 h3 t1 t2 t3 q e nd) := hg ▸ hs
  k_steps
  refine gets (dp + 1) _ gd _ _ _ _ (fun c o e => F.keep c o (hg ▸ e)) (by omega) (by dsimp only [AA]; omega) (Ctx.push B XB TB DD F rfl) ?_
  intro a' b' l n h1 tk1 kk hn hl hA hB
  replace N := addNews F N kk hn hl
  replace F := F.after kk
  (try dsimp only at F N)
  obtain ⟨ex, N1, hx⟩ := extras F N
  clear N
  simp only [List.cons_append, List.nil_append] at N1
  k_steps
  rename Fr _ _ _ _ => F
  rename News _ _ _ _ => N
  have N2 : News _ _ _ ex := fun p hp => N p (by repeat (first | exact hp | apply List.mem_cons_of_mem))
  replace hA := R.skR (hx F N2) hA
  replace hB := R.skR (hx F N2) hB
  clear N2 hx
  refine quick_ok R (dp := dp + 1) (xs := xs) (ys := ys) (by omega) ?_ hA hB (hs.push F) ?_ (Ctx.push B XB TB DD F rfl)
  · dsimp only [AA]; omega
  intro v h2 tk2 hv t
  replace hA := R.skR (SK.of_call B DD F t) hA
  replace hB := R.skR (SK.of_call B DD F t) hB
  refine after_call B XB TB DD F N t ?_
  clear F N X' T' t
  intro g1 KT F N B1 DD1 X' T'
  replace hs := hs.turn KT
  obtain ⟨ex2, N2, hx⟩ := extras F N
  clear N
  simp only [List.cons_append, List.nil_append] at N2
  dsimp only at F N2 ⊢
  by_cases hxy : xs = ys
  · rw [if_pos hxy] at hv
    obtain ⟨t, rfl⟩ := hv
    k_steps
    rename Fr _ _ _ _ => F
    have e0 : lev xs ys = 0 := by rw [hxy]; exact lev_self ys
    subst hg
    rw [e0] at ret
    exact ret _ _ _ (TurnTo.turn KT (TurnTo.of_keeps F.keep))
  rw [if_neg hxy] at hv
  by_cases hpos : 0 < xs.length ∧ 0 < ys.length
  · rw [if_pos hpos] at hv
    subst hv
    k_steps
    rename Fr _ _ _ _ => F
    rename News _ _ _ _ => N
    have N3 : News _ _ _ ex2 := fun p hp => N p (by repeat (first | exact hp | exact List.mem_append_right _ hp | apply List.mem_cons_of_mem))
    replace hA := R.skR (hx F N3) hA
    replace hB := R.skR (hx F N3) hB
    clear N3 hx
    refine cycled_ok R.toRowsK R.on (dp := dp + 1) (xs := xs) (ys := ys) (by omega) ?_ hA hB (instUp hs.inst F.keep) ?_ (Ctx.push B1 XB TB DD1 F rfl)
    · dsimp only [AA]; omega
    intro t h3 tk3 tt
    refine after_call B1 XB TB DD1 F N tt ?_
    clear F N X' T' tt
    intro g2 KT2 F N B2 DD2 X' T'
    subst hg
    exact ret _ _ _ (TurnTo.turn KT (TurnTo.turn KT2 (TurnTo.of_keeps F.keep)))
  · rw [if_neg hpos] at hv
    obtain ⟨t, rfl⟩ := hv
    k_steps
    rename Fr _ _ _ _ => F
    have e0 : lev xs ys = max xs.length ys.length := by
      cases xs with
      | nil => rw [lev_nil_left]; simp
      | cons x xs => 
        cases ys with
        | nil => rw [lev_nil_right]; simp
        | cons y ys => exact absurd ⟨Nat.succ_pos _, Nat.succ_pos _⟩ hpos
    subst hg
    rw [e0] at ret
    exact ret _ _ _ (TurnTo.turn KT (TurnTo.of_keeps F.keep)))
end Mine
end

section
namespace Mine

local macro_rules | `(tactic| walk_at "getAttr ref") => `(tactic| (k_here; k_dflt (refine' getAttr_sm ?k1 ?k2 ?k4 ?k5 ?k6 ?k7 ?k9 ?k10 ?k11 ?k12 ?k13 ?k14 ?_; (case k1 => k_asm); (case k2 => k_asm); (case k4 => k_inst); (case k5 => k_is); (case k6 => k_is); (case k7 => k_is); (case k9 => k_is); (case k10 => k_is); (case k11 => decide +kernel); (case k12 => k_get); (case k13 => k_is); (case k14 => k_handed); k_whole)))
local macro_rules | `(tactic| walk_at "eval Call Attribute") => `(tactic| (k_here; refine starMethod ?_))
local macro_rules | `(tactic| k_inst) => `(tactic| exact instUp (SelfAt.inst (by assumption)) (Fr.keep (by assumption)))
local macro_rules | `(tactic| k_steps) => `(tactic| repeat' ((fail_if_success (with_reducible show wpAny _ _ (call (Value.ref _) _) _ _ _)); (first | (k_unfold; (try dsimp only)) | (k_end; wrow_close) | walk1 | (dsimp only; walk1) | (leave1; walk_say "STEP leave1"; try dsimp only) | fail "no step")))

def GetsUp {α : Type} [DecidableEq α] {w : World} (R : Seqs PySem.Challenge.rw_br0030_02.row.prog w α) (self : Addr) (ox : Obj) (od : Obj) (a b : Value) (xs ys : List α) (h : Heap) : Prop :=
  ∀ (outer : List Env) (h1 : Heap), SK h h1 → SelfAt outer h1 self ox 189 od → Gets R self a b xs ys h1 outer

set_option maxHeartbeats 4000000 in
theorem distance_code {w : World} {dp un : Nat} {gd : Option (List Code)} {outer : List Env} {s : Shared} {P : Result → Shared → Prop} {α : Type} [DecidableEq α] (R : Seqs PySem.Challenge.rw_br0030_02.row.prog w α)
    {self : Addr} {ox : Obj} {h1 h2 h3 : Int} {t1 t2 t3 : Tok} {q e : Value} {nd : Nat} {a b : Value} {xs ys : List α} (hox : ox.data = .plain) (hdp : dp + 9 < recursionLimit) (hun : un + 500 < cLine) 
    (hs : SelfAt outer s.heap self ox 189 (selfD h1 h2 h3 t1 t2 t3 q e nd)) (gets : GetsUp R self ox (selfD h1 h2 h3 t1 t2 t3 q e nd) a b xs ys s.heap)
    (ret : ∀ t h' tk', TurnTo outer s.heap h' → P (.ok (.ret (.int (lev xs ys : Nat) t))) { s with heap := h', toks := tk' }) :
    Ctx (hd.heap_39 w.params) hd.view_39 (looseW hd.view_39 [Str.ofString "Base", Str.ofString "Levenshtein"]) outer s.heap → codeAny (model PySem.Challenge.rw_br0030_02.row.prog w) (AA dp un gd outer) (.call (.ref 65) ⟨[.ref self, a, b], []⟩) P s := by
  w_on
  w_strict (
  k_fill
  intro C
  refine enterS (binds := fun t => [(Str.ofString "self", .ref self), (Str.ofString "sequences", t)]) (vs := [a, b]) C (by k_is) (by k_is) (by ktr_room) (by rfl) (fun t => locs rfl) (Nat.le_of_ble_eq_true rfl) ?_
  intro A₀ base mean mg mb g D' L h hg F N B XB TB DD X' T'
  replace hs : SelfAt outer g self ox 189 (selfD h1 h2 h3 t1 t2 t3 q e nd) := hg ▸ hs
  k_steps
  refine callWith_SI (K := hd.heap_39 w.params) (C := 189) (ox := ox) (od := some (selfD h1 h2 h3 t1 t2 t3 q e nd)) hox ?_
  k_steps
  rename Fr _ _ _ _ => F
  rename News _ _ _ _ => N
  refine wpAny_call (kco_code (K := hd.heap_39 w.params) (f := 186) (C := 189) (X'.keeps F.keep) (instUp hs.inst F.keep) hox (by k_is) (by k_is) (by k_is) ?_)
  refine call_code R (dp := dp + 1) (xs := xs) (ys := ys) (by omega) ?_ (hs.push F) (gets _ _ (hg ▸ SK.of_keeps F.keep) (hs.push F)) ?_ (Ctx.push B XB TB DD F rfl)
  · dsimp only [AA]; omega
  intro t h2 tk2 tt
  refine after_call B XB TB DD F N tt ?_
  clear F N X' T' tt
  intro g1 KT F N B1 DD1 X' T'
  subst hg
  exact ret _ _ _ (TurnTo.turn KT (TurnTo.of_keeps F.keep)))

theorem distance_ok {w : World} {dp un : Nat} {gd : Option (List Code)} {outer : List Env} {s : Shared} {Q E : Value → Shared → Prop} {α : Type} [DecidableEq α] (R : Seqs PySem.Challenge.rw_br0030_02.row.prog w α)
    {self : Addr} {ox : Obj} {h1 h2 h3 : Int} {t1 t2 t3 : Tok} {q e : Value} {nd : Nat} {a b : Value} {xs ys : List α} (hox : ox.data = .plain) (hdp : dp + 9 < recursionLimit) (hun : un + 500 < cLine) 
    (hs : SelfAt outer s.heap self ox 189 (selfD h1 h2 h3 t1 t2 t3 q e nd)) (gets : GetsUp R self ox (selfD h1 h2 h3 t1 t2 t3 q e nd) a b xs ys s.heap)
    (ret : ∀ t h' tk', TurnTo outer s.heap h' → Q (.int (lev xs ys : Nat) t) { s with heap := h', toks := tk' }) 
    (C : Ctx (hd.heap_39 w.params) hd.view_39 (looseW hd.view_39 [Str.ofString "Base", Str.ofString "Levenshtein"]) outer s.heap) : wpAny (model PySem.Challenge.rw_br0030_02.row.prog w) (AA dp un gd outer) (call (.ref 65) [.ref self, a, b]) Q E s :=
  wpAny_call (distance_code R hox hdp hun hs gets ret C)

set_option maxHeartbeats 4000000 in
theorem similarity_ok {w : World} {dp un : Nat} {gd : Option (List Code)} {outer : List Env} {s : Shared} {Q E : Value → Shared → Prop} {α β : Type} [DecidableEq α] [DecidableEq β] (R : Seqs PySem.Challenge.rw_br0030_02.row.prog w α) (T : Seqs PySem.Challenge.rw_br0030_02.row.prog w β)
    {self : Addr} {ox : Obj} {h1 h2 h3 : Int} {t1 t2 t3 : Tok} {q e : Value} {nd : Nat} {a b : Value} {xs ys : List α} {us vs : List β} (hox : ox.data = .plain) (hdp : dp + 12 < recursionLimit) (hun : un + 600 < cLine) 
    (hs : SelfAt outer s.heap self ox 189 (selfD h1 h2 h3 t1 t2 t3 q e nd)) (gets : GetsUp R self ox (selfD h1 h2 h3 t1 t2 t3 q e nd) a b xs ys s.heap) (ha : T.Row s.heap a us) (hb : T.Row s.heap b vs)
    (ret : ∀ t h' tk', TurnTo outer s.heap h' → Q (.int ((max us.length vs.length : Nat) - (lev xs ys : Nat)) t) { s with heap := h', toks := tk' }) :
    Ctx (hd.heap_39 w.params) hd.view_39 (looseW hd.view_39 [Str.ofString "Base", Str.ofString "Levenshtein"]) outer s.heap → wpAny (model PySem.Challenge.rw_br0030_02.row.prog w) (AA dp un gd outer) (call (.ref 72) [.ref self, a, b]) Q E s := by
  w_on
  w_strict (
  k_fill
  intro C
  refine wpAny_call ?_
  refine enterS (binds := fun t => [(Str.ofString "self", .ref self), (Str.ofString "sequences", t)]) (vs := [a, b]) C (by k_is) (by k_is) (by ktr_room) (by rfl) (fun t => locs rfl) (Nat.le_of_ble_eq_true rfl) ?_
  intro A₀ base mean mg mb g D' L h hg F N B XB TB DD X' T'
  replace hs : SelfAt outer g self ox 189 (selfD h1 h2 h3 t1 t2 t3 q e nd) := hg ▸ hs
  k_steps
  rename Fr _ _ _ _ => F
  rename News _ _ _ _ => N
  refine maximum_ok T (dp := dp + 1) (xs := us) (ys := vs) (by omega) ?_ (T.skR (hg ▸ SK.of_keeps F.keep) ha) (T.skR (hg ▸ SK.of_keeps F.keep) hb) ?_ (Ctx.push B XB TB DD F rfl)
  · dsimp only [AA]; omega
  intro t2 h2 tk2 tt
  refine after_call B XB TB DD F N tt ?_
  clear F N X' T' tt
  intro g1 KT F N B1 DD1 X' T'
  replace hs := hs.turn KT
  dsimp only at F N ⊢
  k_steps
  rename Fr _ _ _ _ => F
  rename News _ _ _ _ => N
  refine callWith_SM X' N (.head _) (by k_is) ?_
  k_steps
  rename Fr _ _ _ _ => F
  rename News _ _ _ _ => N
  refine call_meth N (.head _) ?_
  refine distance_code R (dp := dp + 1) (xs := xs) (ys := ys) hox (by omega) ?_ (hs.push F) ?_ ?_ (Ctx.push B1 XB TB DD1 F rfl)
  · dsimp only [AA]; omega
  · have k3 : SK s.heap _ := hg ▸ (SK.of_turn DD KT).trans (SK.of_keeps F.keep)
    exact fun o' h' k' I' => gets o' h' (k3.trans k') I'
  intro t3 h3 tk3 tt
  refine after_call B1 XB TB DD1 F N tt ?_
  clear F N X' T' tt
  intro g2 KT2 F N B2 DD2 X' T'
  dsimp only at F N ⊢
  k_steps
  subst hg
  exact ret _ _ _ (TurnTo.turn KT (TurnTo.turn KT2 (TurnTo.of_keeps F.keep))))
end Mine
end

section
namespace Mine

def ItEq {α : Type} [DecidableEq α] (It : Heap → Value → α → Prop) : Prop :=
  ∀ {A : Around} {s : Shared} {u v : Value} {x y : α}, A.units + 40 < cLine → It s.heap u x → It s.heap v y → SeqAt.EqAt A s u v (decide (x = y))

theorem lists_ne {α : Type} [DecidableEq α] {It : Heap → Value → α → Prop} (ieq : ItEq It) {prog : Program} {w : World} {A : Around} {E Q : Value → Shared → Prop} {s : Shared} {a b : Addr} {xs ys : List α} (hu : A.units + 70 < cLine)
    (ha : LsIs It s.heap a xs) (hb : LsIs It s.heap b ys) (h : Q (.bool (!decide (xs = ys))) s) : wpAny (model prog w) A (compareOp .NotEq (.ref a) (.ref b)) Q E s := by
  obtain ⟨vs, hl, hlen, hv⟩ := ha
  obtain ⟨us, hm, hlen', hw⟩ := hb
  refine cmp_ofNotEq ?_
  by_cases e : xs.length = ys.length
  · have key : (List.range vs.toArray.size).all (fun j => decide (xs[j]? = ys[j]?)) = decide (xs = ys) := by
      rw [Bool.eq_iff_iff]
      simp only [List.all_eq_true, List.mem_range, decide_eq_true_eq, List.size_toArray]
      constructor
      · intro q
        refine List.ext_getElem? fun j => ?_
        by_cases hj : j < vs.length
        · exact q j hj
        · rw [List.getElem?_eq_none (by omega), List.getElem?_eq_none (by omega)]
      · intro q j _; rw [q]
    rw [← key] at h
    refine SeqAt.RcNeAt.lists hl hm (by simp; omega) (by omega) (fun j h1 h2 => ?_) prog w E Q h
    have j1 : j < xs.length := by simp at h1; omega
    have j2 : j < ys.length := by simp at h2; omega
    have z := ieq (A := A.in1) (s := s) (by simp only [units_in1]; omega) (hv j vs[j] xs[j] (List.getElem?_eq_getElem _) (List.getElem?_eq_getElem _)) (hw j us[j] ys[j] (List.getElem?_eq_getElem _) (List.getElem?_eq_getElem _))
    rw [List.getElem?_eq_getElem j1, List.getElem?_eq_getElem j2]
    simpa using z
  · have key : (!decide (xs = ys)) = true := by
      have : xs ≠ ys := fun q => e (by rw [q])
      simp [this]
    rw [key] at h
    exact SeqAt.RcNeAt.lists_lengths hl hm (by simp; omega) (by omega) prog w E Q h

def rowOf {α : Type} (It : Heap → Value → α → Prop) (h : Heap) (v : Value) (xs : List α) : Prop := ∃ a, v = .ref a ∧ LsIs It h a xs ∧ xs.length < 1000

def listSeqs {α : Type} [DecidableEq α] (w : World) (It : Heap → Value → α → Prop) (ieq : ItEq It) (skI : ∀ {h h' v x}, SK h h' → It h v x → It h' v x) (on : IdentOn w It) : Seqs PySem.Challenge.rw_br0030_02.row.prog w α where
  It := It
  Row := rowOf It
  skI := skI
  skR := fun k ⟨a, e, ⟨vs, h1, h2⟩, n⟩ => ⟨a, e, ⟨vs, k.list h1, h2.mono fun _ _ => skI k⟩, n⟩
  small := fun ⟨_, _, _, n⟩ => n
  len_ := fun {A E Q s v xs} ⟨a, e, ⟨vs, h1, h2⟩, n⟩ q => by
    subst e
    refine call_len_list h1 (by simp [h2.1]; omega) ?_
    have : (vs.toArray.size : Int) = xs.length := by simp [h2.1]
    rw [this]
    exact q _ _
  item := fun {A E Q s v xs i t nx nn p1 p2 p3 p4 kk} ⟨a, e, ⟨vs, h1, h2⟩, n⟩ h0 hi q => by
    subst e
    have hj : i.toNat < xs.length := by omega
    have hj2 : i.toNat < vs.length := by rw [h2.1]; exact hj
    refine item_list h1 h0 (by omega) (x := vs[i.toNat]) (by simp [hj2]) ?_ (by with_unfolding_all rfl) (by intro _; with_unfolding_all rfl)
    exact q _ s.toks fun x hx => h2.2 i.toNat _ x (List.getElem?_eq_getElem hj2) hx
  on := on
  ident := fun {dp un gd outer s Q E a b xs ys} hdp hun ⟨a', ea, la, na⟩ ⟨b', eb, lb, nb⟩ ret C => by
    subst ea eb
    exact ident_lists ⟨It, skI, fun hu ha hb h => lists_ne ieq hu ha hb h⟩ hdp hun la lb ret C
  truth := fun {A E Q s v xs} ⟨a, e, ⟨vs, h1, h2⟩, n⟩ q => by
    subst e
    refine wpAny_truthy_list h1 (by simp [h2.1]; omega) ?_
    have : (!vs.toArray.isEmpty) = decide (0 < xs.length) := by
      rw [← h2.1]
      cases vs <;> simp
    rw [this]
    exact q _

theorem map_sign_inj : ∀ {a b : List Nat}, a.map (fun n => (⟨#[n]⟩ : Str)) = b.map (fun n => (⟨#[n]⟩ : Str)) → a = b
  | [], [], _ => rfl
  | [], _ :: _, h => by simp at h
  | _ :: _, [], h => by simp at h
  | x :: a, y :: b, h => by
    simp only [List.map_cons, List.cons.injEq] at h
    have e : x = y := by simpa using h.1
    rw [e, map_sign_inj h.2]
theorem signs_inj {x y : Str} (h : signs x = signs y) : x = y := by
  have h' : x.cps.toList = y.cps.toList := by
    exact map_sign_inj h
  cases x; cases y
  simp only [Str.mk.injEq]
  exact Array.toList_inj.mp h'
theorem signs_get (x : Str) (i : Nat) : (signs x)[i]? = x.cps[i]?.map fun c => (⟨#[c]⟩ : Str) := by
  simp [signs]

def textSeqs (w : World) : Seqs PySem.Challenge.rw_br0030_02.row.prog w Str where
  It := strIt
  Row := fun _ v xs => ∃ x t, v = .str x t ∧ xs = signs x ∧ x.length < 1000
  skI := fun _ h => h
  skR := fun _ h => h
  small := fun ⟨x, _, _, e, n⟩ => by rw [e, signs_length]; exact n
  len_ := fun {A E Q s v xs} ⟨x, t, e, e2, n⟩ q => by
    subst e e2
    rw [signs_length] at q
    exact len_str (by omega) (q _ _)
  item := fun {A E Q s v xs i t nx nn p1 p2 p3 p4 kk} ⟨x, tx, e, e2, n⟩ h0 hi q => by
    subst e e2
    rw [signs_length] at hi
    have hj : i.toNat < x.cps.size := by show _ < x.length; omega
    refine subscriptTail_builtin (typeIs_str s x tx) PySem.F.slot_str_getitem.lookup (P.getItem_str (c := x.cps[i.toNat]) (by simp; omega) ?_ ?_) (by with_unfolding_all rfl) (by intro _; with_unfolding_all rfl)
    · have e1 : seqIndex? i x.length = some i.toNat := by
        unfold seqIndex?
        simp only [Str.length] at hi ⊢
        split <;> simp <;> omega
      rw [e1]
      simp [hj]
    · refine q _ _ fun z hz => ?_
      rw [signs_get] at hz
      rw [Array.getElem?_eq_getElem hj] at hz
      cases hz
      exact ⟨_, rfl⟩
  on := ident_str_on w
  ident := fun {dp un gd outer s Q E a b xs ys} hdp hun ⟨x, t, e, e2, n⟩ ⟨y, t', e', e2', n'⟩ ret C => by
    subst e e2 e' e2'
    have k : decide (signs x = signs y) = decide (x = y) := by
      by_cases h : x = y
      · simp [h]
      · have : signs x ≠ signs y := fun q => h (signs_inj q)
        simp [h, this]
    rw [k] at ret
    exact ident_strs hdp (fun h' tk' kk => ret h' tk' (TurnTo.of_keeps kk)) C
  truth := fun {A E Q s v xs} ⟨x, t, e, e2, n⟩ q => by
    subst e e2
    rw [signs_length] at q
    refine P.truthy_str (by omega) ?_
    have : ((x.length : Int) != 0) = decide (0 < x.length) := by
      cases h : x.length <;> simp <;> omega
    rw [this]
    exact q _
end Mine
end

section
namespace Mine

local macro_rules | `(tactic| k_steps) => `(tactic| repeat' ((fail_if_success (with_reducible show wpAny _ _ (call (Value.ref _) _) _ _ _)); (fail_if_success (show LCg.CompSrc _ _ _ _ _ _ _ _ _ _ _ _ _ _)); (fail_if_success (with_reducible show wpAny _ _ (exec (Stmt.For _ _ _ _ _) _) _ _ _)); (fail_if_success (with_reducible show wpAny _ _ (pyIter _) (fun it s₂ => LoopAtV _ _ _ _ _ _ _ _ _ it s₂) _ _)); (fail_if_success (with_reducible show wpAny _ _ (subscriptTail _ _ (Value.ref _) (Value.int _ _)) _ _ _)); (fail_if_success (with_reducible show wpAny _ _ (setItem _ _ _) _ _ _)); (first | (k_unfold; (try dsimp only)) | (k_end; wrow_close) | walk1 | (dsimp only; walk1) | (leave1; walk_say "STEP leave1"; try dsimp only) | fail "no step")))

abbrev wordSeqs (w : World) : Seqs PySem.Challenge.rw_br0030_02.row.prog w Str := listSeqs w strIt (fun _ hu hv => by
  obtain ⟨t, rfl⟩ := hu
  obtain ⟨t', rfl⟩ := hv
  exact SeqAt.EqAt.str_str _ _ _ _) (fun _ h => h) (ident_str_on w)

local macro_rules | `(tactic| walk_at "call builtin:len") => `(tactic| (k_here; (refine RowsK.len_ (wordSeqs _).toRowsK (RowsK.skR _ (SK.of_keeps (Fr.keep (by assumption))) (by assumption)) ?_); intro t' tk'; dsimp only))

theorem off3_of {I C D : Addr} {l : List (Addr × Obj)} (h : ∀ p ∈ l, p.1 ≠ I ∧ p.1 ≠ C ∧ p.1 ≠ D) : LCg.Off3 I C D l := LCg.Off3.of h

theorem zrow_end {g h' : Heap} {L I C D D' c0 : Addr} {m : Str → Option Value} {s₁ : Shared} {oI oC o0 : Obj} {rows : List RowV} {rest : List (Addr × Obj)} {vs : List Value} {n1 wd i k tk : Nat} (F : Fr g L h' m) (N : News g L h' ((D', W.listOf vs.toArray n1) :: rest)) (hI : IntsAre vs (List.replicate k [(0 : Int)]).flatten) (hk : k = wd) (hnew : ∀ p ∈ rest, p.1 ≠ D')
    (sub : ∀ p ∈ (I, oI) :: (C, oC) :: (D, LCg.lst (rows.map fun r => .ref r.1)) :: (rows.map rowO ++ [(c0, o0)]), p ∈ rest) (off : LCg.Off3 I C D (rows.map rowO ++ [(c0, o0)])) (hlen : rows.length = i) (hT : TabIs (fun _ _ => 0) wd rows) :
    LCg.CompEnd g L m s₁ I oI C oC D (LCg.lst (rows.map fun r => .ref r.1)) (fun _ => True) (fun y news' => ∃ made', news' = made' ++ [(c0, o0)] ∧ ∃ rows1 : List RowV, made' = rows1.map rowO ∧ (rows.map (fun r => .ref r.1) ++ [y] = rows1.map fun r => .ref r.1) ∧ rows1.length = i + 1 ∧ TabIs (fun _ _ => 0) wd rows1) (.ref D') { s₁ with heap := h', toks := tk } := by
  have offm := LCg.Off3.mem off
  have hIm : (I, oI) ∈ rest := sub _ (.head _)
  have hCm : (C, oC) ∈ rest := sub _ (.tail _ (.head _))
  have hDm := sub _ (.tail _ (.tail _ (.head _)))
  have hrow : ∀ r ∈ rows, r.1 ≠ D' := fun r hr => hnew (rowO r) (sub _ (.tail _ (.tail _ (.tail _ (List.mem_append_left _ (List.mem_map.mpr ⟨r, hr, rfl⟩))))))
  refine LCg.CompEnd.intro F N ((rows ++ [(D', vs, n1)]).map rowO ++ [(c0, o0)]) ?_ (LCg.Off3.of ?_) trivial ⟨_, rfl, _, rfl, by simp, by simp [hlen], ?_, fun j r hr => ?_⟩
  · intro p hp
    rcases List.mem_cons.mp hp with rfl | hp
    · exact .tail _ hIm
    · rcases List.mem_cons.mp hp with rfl | hp
      · exact .tail _ hCm
      · rcases List.mem_cons.mp hp with rfl | hp
        · exact .tail _ hDm
        · rcases List.mem_append.mp hp with hp | hp
          · rw [List.map_append] at hp
            rcases List.mem_append.mp hp with hp | hp
            · exact .tail _ (sub _ (.tail _ (.tail _ (.tail _ (List.mem_append_left _ hp)))))
            · rw [List.mem_singleton.mp hp]; exact .head _
          · exact .tail _ (sub _ (.tail _ (.tail _ (.tail _ (List.mem_append_right _ hp)))))
  · intro p hp
    rcases List.mem_append.mp hp with hp | hp
    · rw [List.map_append] at hp
      rcases List.mem_append.mp hp with hp | hp
      · exact offm p (List.mem_append_left _ hp)
      · rw [List.mem_singleton.mp hp]
        exact ⟨fun e => hnew _ hIm e.symm, fun e => hnew _ hCm e.symm, fun e => hnew _ hDm e.symm⟩
    · exact offm p (List.mem_append_right _ hp)
  · rw [List.map_append, List.nodup_append]
    refine ⟨hT.1, by simp, ?_⟩
    intro a ha b hb
    simp only [List.map_cons, List.map_nil, List.mem_singleton] at hb
    subst hb
    obtain ⟨r, hr, rfl⟩ := List.mem_map.mp ha
    exact hrow r hr
  · by_cases q : j < rows.length
    · rw [List.getElem?_append_left q] at hr; exact hT.2 j r hr
    · rw [List.getElem?_append_right (by omega)] at hr
      have e0 : j - rows.length = 0 := by
        by_cases z : j - rows.length = 0
        · exact z
        · rw [List.getElem?_eq_none (by simp; omega)] at hr; cases hr
      rw [e0] at hr
      simp only [List.getElem?_cons_zero, Option.some.injEq] at hr
      subst hr
      have e1 : (List.replicate k [(0 : Int)]).flatten = (List.range wd).map fun _ => (0 : Int) := by
        subst hk
        have z1 : (List.replicate k [(0 : Int)]).flatten = List.replicate k 0 := by simp
        rw [z1, List.map_const', List.length_range]
      rw [← e1]
      exact hI

theorem down_small : ∀ n : Fin 21, Builtin.Range.small ((n.1 : Int) - 1) (-1) (-1) = true ∧ Builtin.Range.rangeSize ((n.1 : Int) - 1) (-1) (-1) = (n.1 : Int) := by decide +kernel
theorem allLt_mem {d : Addr} : ∀ {l : List (Addr × Obj)}, AllLt d l → ∀ p ∈ l, p.1 ≠ d
  | [], _, _, h => nomatch h
  | _ :: _, x, p, h => by
    rcases List.mem_cons.mp h with rfl | h
    · exact Nat.ne_of_lt x.1
    · exact allLt_mem x.2 p h

theorem max3_N {prog : Program} {w : World} {A : Around} {E : Value → Shared → Prop} {s : Shared} {h₀ : Heap} {L : Addr} {m : Str → Option Value} {news : List (Addr × Obj)} {a b c : Int} {t u x : Tok} {Q : Value → Shared → Prop} (hh : A.handled = none) (F : Fr h₀ L s.heap m) (N : News h₀ L s.heap news)
    (h : ∀ h' tk tk', Fr h₀ L h' m → News h₀ L h' news → Q (.int (max a (max b c)) tk) { s with heap := h', toks := tk' }) :
    wpAny (model prog w) A (call (.builtin "max") [.int a t, .int b u, .int c x]) Q E s := by
  refine max_three_ints hh fun h' tk hk => ?_
  have key := fun tok => h h' tok tk (F.grownK hk) (N.grown hk)
  have e : max a (max b c) = (if b > a then (if c > b then c else b) else (if c > a then c else a)) := by
    split <;> split <;> omega
  rw [e] at key
  by_cases hba : b > a <;> by_cases hc1 : c > b <;> by_cases hc2 : c > a <;> simp only [hba, hc1, hc2, if_true, if_false] at key ⊢ <;> exact key _

theorem wl_keep {h h' : Heap} {a : Addr} {xs : List Str} (k : ∀ b o, h.get? b = some o → h'.get? b = some o) (x : LsIs strIt h a xs) : LsIs strIt h' a xs :=
  let ⟨vs, h1, h2⟩ := x; ⟨vs, (SK.of_keeps k).list h1, h2⟩

theorem word_get {prog : Program} {w : World} {A : Around} {E : Value → Shared → Prop} {s : Shared} {value slice : PySem.Expr} {a : Addr} {xs : List Str} {k : Int} {u : Tok} {Q : Value → Shared → Prop} (hl : LsIs strIt s.heap a xs) (h0 : 0 ≤ k) (h1 : k < xs.length) (hn : xs.length < 1000)
    (h : ∀ z t, xs[k.toNat]? = some z → Q (.str z t) s) (hs : subscripted slice false (.ref a) (.int k u) = operate [.ref a, .int k u] (getItem (.ref a) (.int k u)) := by with_unfolding_all rfl)
    (hg : ∀ v, letTemporaryGo value (.ref a) v = pure () := by intro _; with_unfolding_all rfl) :
    wpAny (model prog w) A (subscriptTail value slice (.ref a) (.int k u)) Q E s := by
  obtain ⟨vs, h2, h3, h4⟩ := hl
  have hk : k.toNat < xs.length := by omega
  have hk2 : k.toNat < vs.length := by rw [h3]; exact hk
  obtain ⟨t, e⟩ := h4 k.toNat vs[k.toNat] xs[k.toNat] (List.getElem?_eq_getElem hk2) (List.getElem?_eq_getElem hk)
  refine item_list h2 h0 (by omega) (x := .str xs[k.toNat] t) ?_ (h _ t (List.getElem?_eq_getElem hk)) hs hg
  simp [hk2, e]

local macro_rules | `(tactic| walk_at "call builtin:max") => `(tactic| (k_here; (refine max3_N rfl (by assumption) (by assumption) ?_); intro _ _ _ _ _; dsimp only))

set_option maxHeartbeats 4000000 in
theorem edits_ok {w : World} {dp un : Nat} {gd : Option (List Code)} {outer : List Env} {s : Shared} {Q E : Value → Shared → Prop} {a b : Value} {xs ys : List Str}
    (hdp : dp + 3 < recursionLimit) (hx1 : xs.length ≤ 20) (hy1 : ys.length ≤ 20) (ha : (wordSeqs w).Row s.heap a xs) (hb : (wordSeqs w).Row s.heap b ys)
    (ret : ∀ t h' tk', TurnTo outer s.heap h' → Q (.int (lev xs ys : Nat) t) { s with heap := h', toks := tk' }) :
    Ctx (hd.heap_39 w.params) hd.view_39 (looseW hd.view_39 [Str.ofString "Base", Str.ofString "Levenshtein"]) outer s.heap → wpAny (model PySem.Challenge.rw_br0030_02.row.prog w) (AA dp un gd outer) (call (.ref 201) [a, b]) Q E s := by
  w_on
  w_strict (
  k_fill
  intro C
  refine wpAny_call ?_
  refine enterPC (binds := [(Str.ofString "one", a), (Str.ofString "two", b)]) C (by k_is) (by k_is) (by ktr_room) (fun _ => BindsTo.of_eq rfl) (by rfl) (by decide +kernel) ?_
  intro A₀ base mean mg mb g L h tk cells hg F N Y B XB TB DD X' T'
  k_cells Y
  rename_i oX dX
  have ha' : (wordSeqs w).Row g a xs := hg ▸ ha
  have hb' : (wordSeqs w).Row g b ys := hg ▸ hb
  k_steps
  rename Fr _ _ _ _ => F
  rename News _ _ _ _ => N
  rename IsRange _ _ _ _ _ _ _ _ => hr
  refine LCg.CompSrc.range (n := xs.length + 1) rfl F N hr (small_one (by omega) (by omega) (by omega) (by omega)) ((rangeSize_nat _ _).trans (by omega)) (by rw [PySem.sizeLine_eq]; omega) ?_
  intro g'
  refine comp_made (fun i us made => ∃ rows : List RowV, made = rows.map rowO ∧ (us = rows.map fun r => .ref r.1) ∧ rows.length = i ∧ TabIs (fun _ _ => 0) (ys.length + 1) rows) ⟨[], rfl, rfl, rfl, List.nodup_nil, fun _ _ e => by simp at e⟩ ?_ ?_
  · clear F N hr
    rintro i t I oI C' oC D m₂ us made h2 tk2 E' hi ⟨rows, rfl, rfl, hlen, hT⟩ hC hx F N off ne
    have N2 : News g L h2 ((L + 1, oX) :: (I, oI) :: (C', oC) :: (D, LCg.lst (rows.map fun r => .ref r.1)) :: rows.map rowO) := fun p hp => N p (by
      rcases List.mem_cons.mp hp with rfl | hp
      · exact .tail _ (.tail _ (.tail _ (List.mem_append_right _ (.head _))))
      · rcases List.mem_cons.mp hp with rfl | hp
        · exact .head _
        · rcases List.mem_cons.mp hp with rfl | hp
          · exact .tail _ (.head _)
          · rcases List.mem_cons.mp hp with rfl | hp
            · exact .tail _ (.tail _ (.head _))
            · exact .tail _ (.tail _ (.tail _ (List.mem_append_left _ hp))))
    clear N
    k_steps
    rename_i l1
    rename Fr _ _ _ _ => F
    rename News _ _ _ _ => N
    rename IntsAre _ (List.flatten _) => hI
    refine zrow_end F N hI (by omega) ?_ ?_ off hlen hT
    · intro p hp
      rcases List.mem_cons.mp hp with rfl | hp
      · exact Nat.ne_of_lt l1.1
      · rcases List.mem_cons.mp hp with rfl | hp
        · exact Nat.ne_of_lt l1.2.1
        · rcases List.mem_cons.mp hp with rfl | hp
          · exact Nat.ne_of_lt l1.2.2.1
          · rcases List.mem_cons.mp hp with rfl | hp
            · exact Nat.ne_of_lt l1.2.2.2.1
            · rcases List.mem_cons.mp hp with rfl | hp
              · exact Nat.ne_of_lt l1.2.2.2.2.1
              · exact allLt_mem l1.2.2.2.2.2 p hp
    · intro p hp
      rcases List.mem_cons.mp hp with rfl | hp
      · exact .tail _ (.tail _ (.head _))
      · rcases List.mem_cons.mp hp with rfl | hp
        · exact .tail _ (.tail _ (.tail _ (.head _)))
        · rcases List.mem_cons.mp hp with rfl | hp
          · exact .tail _ (.tail _ (.tail _ (.tail _ (.head _))))
          · rcases List.mem_append.mp hp with hp | hp
            · exact .tail _ (.tail _ (.tail _ (.tail _ (.tail _ hp))))
            · rw [List.mem_singleton.mp hp]
              exact .tail _ (.head _)
  · clear F N hr
    rintro us made hlen hJ D h3 tk3 F N off
    obtain ⟨rows, rfl, rfl, hrl, hT⟩ := hJ
    have off := off1_mem off
    have hcell : ∀ r ∈ rows, @Ne Nat (L + 1) r.1 := fun r hr e => by
      have z1 := (N (L + 1, _) (.tail _ (List.mem_append_right _ (.head _)))).1
      have z2 := (N (rowO r) (.tail _ (List.mem_append_left _ (List.mem_map.mpr ⟨r, hr, rfl⟩)))).1
      have e' : L + 1 = r.1 := e
      dsimp only [rowO] at z1 z2
      rw [e', z2] at z1
      cases z1
      cases dX
    have hDrow : ∀ r ∈ rows, @Ne Nat D r.1 := fun r hr e => off _ (List.mem_append_left _ (List.mem_map.mpr ⟨r, hr, rfl⟩)) e.symm
    have N1 : News g L h3 ((L + 1, oX) :: (D, LCg.lst (rows.map fun r => .ref r.1)) :: rows.map rowO) := fun p hp => N p (by
      rcases List.mem_cons.mp hp with rfl | hp
      · exact .tail _ (List.mem_append_right _ (.head _))
      · rcases List.mem_cons.mp hp with rfl | hp
        · exact .head _
        · exact .tail _ (List.mem_append_left _ hp))
    clear N
    dsimp only
    k_steps
    rename Fr _ _ _ _ => F
    refine For_invVF F rfl rfl ?_
    k_steps
    rename IsRange _ _ _ _ _ _ _ _ => hr
    rename Fr _ _ _ _ => F
    rename News _ _ _ _ => N
    refine range_loop_c (σ := List RowV) (fun c => (L + 1, oX) :: (D, LCg.lst (rows.map fun r => .ref r.1)) :: c.map rowO) (fun _ => []) (fun i c => c.map (·.1) = rows.map (·.1) ∧ TabIs (TS xs ys i 0) (ys.length + 1) c)
      [Str.ofString "j", Str.ofString "pair"] (n := xs.length) rows rfl hr
      (down_small ⟨xs.length, by omega⟩).1 (down_small ⟨xs.length, by omega⟩).2 F N ⟨rfl, hT.congr fun k j hk hj => TS_start _ _ _ _⟩ (fun _ hp => nomatch hp) ?_ ?_
    · clear F N hr
      rintro c i ti ui I io h6 tk6 hi ⟨hadr, hTc⟩ F N hne
      dsimp only [kstB] at F N hne ⊢
      k_steps
      rename Fr _ _ _ _ => F
      refine For_invVF F rfl rfl ?_
      k_steps
      rename IsRange _ _ _ _ _ _ _ _ => hr
      rename Fr _ _ _ _ => F
      rename News _ _ _ _ => N
      refine range_loop_c (σ := List RowV) (fun c => (I, io) :: (L + 1, oX) :: (D, LCg.lst (rows.map fun r => .ref r.1)) :: c.map rowO) (fun _ => []) (fun j c => c.map (·.1) = rows.map (·.1) ∧ TabIs (TS xs ys i j) (ys.length + 1) c)
        [Str.ofString "pair"] (n := ys.length) c rfl hr
        (down_small ⟨ys.length, by omega⟩).1 (down_small ⟨ys.length, by omega⟩).2 F N ⟨hadr, hTc⟩ (fun _ hp => nomatch hp) ?_ ?_
      · clear F N hr
        rintro c2 j tj uj I5 io5 h7 tk7 hj ⟨hadr2, hT2⟩ F N hne5
        dsimp only [kstB] at F N hne5 ⊢
        obtain ⟨a', rfl, la, na⟩ := ha'
        obtain ⟨b', rfl, lb, nb⟩ := hb'
        have hc2 : c2.length = xs.length + 1 := by
          have := congrArg List.length hadr2
          simpa [hrl] using this
        have hrefs : (rows.map fun r : RowV => Value.ref r.1) = c2.map fun r => Value.ref r.1 := by
          have := congrArg (List.map Value.ref) hadr2
          simp only [List.map_map] at this
          exact this.symm
        k_steps
        rename Fr _ _ _ _ => F
        rename News _ _ _ _ => N
        refine word_get (xs := xs) (wl_keep F.keep la) (by omega) (by omega) na ?_
        intro zx tzx hzx
        k_steps
        rename Fr _ _ _ _ => F
        rename News _ _ _ _ => N
        refine word_get (xs := ys) (wl_keep F.keep lb) (by omega) (by omega) nb ?_
        intro zy tzy hzy
        obtain ⟨rr, hrr⟩ : ∃ r : Nat, xs.length = r + 1 + i := ⟨xs.length - 1 - i, by omega⟩
        obtain ⟨cc, hcc⟩ : ∃ c : Nat, ys.length = c + 1 + j := ⟨ys.length - 1 - j, by omega⟩
        have a1 : ((xs.length : Int) - 1 + (i : Int) * -1).toNat = rr := by omega
        have a2 : ((xs.length : Int) - 1 + (i : Int) * -1 + 1).toNat = rr + 1 := by omega
        have a3 : ((ys.length : Int) - 1 + (j : Int) * -1).toNat = cc := by omega
        have a4 : ((ys.length : Int) - 1 + (j : Int) * -1 + 1).toNat = cc + 1 := by omega
        have hstep := TS_step xs ys hrr hcc (by rw [← a1]; exact hzx) (by rw [← a3]; exact hzy)
        have b1 := adr_ne (hadr2.trans hadr.symm) (fun p hp => hne p (.tail _ (.tail _ hp)))
        have b2 : ∀ p ∈ c2.map rowO, p.1 ≠ L + 1 := adr_ne hadr2 (fun p hp => by
          obtain ⟨r, hr, rfl⟩ := List.mem_map.mp hp
          exact fun e => hcell r hr e.symm)
        have b3 : ∀ p ∈ c2.map rowO, p.1 ≠ D := adr_ne hadr2 (fun p hp => by
          obtain ⟨r, hr, rfl⟩ := List.mem_map.mp hp
          exact fun e => hDrow r hr e.symm)
        have hpre : ∀ p ∈ [(I5, io5), (I, io), (L + 1, oX), (D, LCg.lst (rows.map fun r : RowV => Value.ref r.1))], ∀ r ∈ c2, p.1 ≠ r.1 := by
          intro p hp r hr e
          have hm : rowO r ∈ c2.map rowO := List.mem_map.mpr ⟨r, hr, rfl⟩
          rcases List.mem_cons.mp hp with rfl | hp
          · exact hne5 (rowO r) (.tail _ (.tail _ (.tail _ hm))) e.symm
          · rcases List.mem_cons.mp hp with rfl | hp
            · exact b1 _ hm e.symm
            · rcases List.mem_cons.mp hp with rfl | hp
              · exact b2 _ hm e.symm
              · rw [List.mem_singleton.mp hp] at e
                exact b3 _ hm e.symm
        k_steps
        all_goals (
          refine rows_get (rows := c2) (by assumption) (by k_mem) hrefs (by omega) (by omega) (by omega) ?_
          intro r1 hr1
          k_steps
          refine cell_get (rows := c2) (by assumption) (by intro p hp; repeat (first | exact hp | apply List.mem_cons_of_mem)) hT2 hr1 (by omega) (by omega) (by omega) ?_
          intro tt1
          k_steps
          refine rows_get (rows := c2) (by assumption) (by k_mem) hrefs (by omega) (by omega) (by omega) ?_
          intro r2 hr2
          k_steps
          refine cell_get (rows := c2) (by assumption) (by intro p hp; repeat (first | exact hp | apply List.mem_cons_of_mem)) hT2 hr2 (by omega) (by omega) (by omega) ?_
          intro tt2
          k_steps
          refine rows_get (rows := c2) (by assumption) (by k_mem) hrefs (by omega) (by omega) (by omega) ?_
          intro r3 hr3
          k_steps
          refine cell_get (rows := c2) (by assumption) (by intro p hp; repeat (first | exact hp | apply List.mem_cons_of_mem)) hT2 hr3 (by omega) (by omega) (by omega) ?_
          intro tt3
          k_steps
          rename Fr _ _ _ _ => F
          rename News _ _ _ _ => N
          refine rows_get (rows := c2) N (by k_mem) hrefs (by omega) (by omega) (by omega) ?_
          intro r4 hr4
          k_steps
          refine cell_set (rows := c2) (pre := [(I5, io5), (I, io), (L + 1, oX), (D, LCg.lst (rows.map fun r : RowV => Value.ref r.1))]) F N hpre hT2 hr4 (by omega) (by omega) (by omega) ?_
          clear F N
          intro h8 rows8 F N hT8 hadr8
          rw [a1, a2, a3, a4] at hT8
          dsimp only at F N ⊢
          k_steps
          rename Fr _ _ _ _ => F
          rename News _ _ _ _ => N
          refine On.intro rows8 F N (.head _) (fun p hp => .tail _ hp) ?_ ⟨hadr8.trans hadr2, hT8.congr fun k l hk hl => ?_⟩ ?_ ?_
          · intro p hp
            rcases List.mem_cons.mp hp with rfl | hp
            · exact hne5 _ (.head _)
            · rcases List.mem_cons.mp hp with rfl | hp
              · exact hne5 _ (.tail _ (.head _))
              · rcases List.mem_cons.mp hp with rfl | hp
                · exact hne5 _ (.tail _ (.tail _ (.head _)))
                · exact adr_ne hadr8 (fun p hp => hne5 p (.tail _ (.tail _ (.tail _ hp)))) p hp
          · have z := hstep k l
            first
              | (rw [if_pos (show zx = zy from eq_of_beq (by assumption))] at z; exact z)
              | (rw [if_neg (show ¬ zx = zy from ne_of_beq_false (by assumption))] at z; exact z)
          · exact fun _ hp => nomatch hp
          · kst_same)
      · clear F N hr
        rintro c2 uj h7 tk7 ⟨hadr2, hT2⟩ F N
        dsimp only [kstB] at F N ⊢
        k_steps
        rename Fr _ _ _ _ => F
        rename News _ _ _ _ => N
        refine On.intro c2 F N (.head _) ?_ ?_ ⟨hadr2, hT2.congr fun k j hk hj => TS_next xs ys i k j⟩ ?_ ?_
        · exact fun p hp => .tail _ hp
        · intro p hp
          rcases List.mem_cons.mp hp with rfl | hp
          · exact hne _ (.head _)
          · rcases List.mem_cons.mp hp with rfl | hp
            · exact hne _ (.tail _ (.head _))
            · exact adr_ne (hadr2.trans hadr.symm) (fun p hp => hne p (.tail _ (.tail _ hp))) p hp
        · exact fun _ hp => nomatch hp
        · kst_same
    · clear F N hr
      rintro c ui h6 tk6 ⟨hadr, hTc⟩ F N
      dsimp only [kstB] at F N ⊢
      have hc2 : c.length = xs.length + 1 := by
        have := congrArg List.length hadr
        simpa [hrl] using this
      have hrefs : (rows.map fun r : RowV => Value.ref r.1) = c.map fun r => Value.ref r.1 := by
        have := congrArg (List.map Value.ref) hadr
        simp only [List.map_map] at this
        exact this.symm
      k_steps
      refine rows_get (rows := c) (by assumption) (by k_mem) hrefs (by omega) (by omega) (by omega) ?_
      intro r1 hr1
      k_steps
      refine cell_get (rows := c) (by assumption) (by intro p hp; repeat (first | exact hp | apply List.mem_cons_of_mem)) hTc hr1 (by omega) (by omega) (by omega) ?_
      intro tt1
      k_steps
      rename Fr _ _ _ _ => F
      subst hg
      have e9 : (xs.length : Int) + ys.length - TS xs ys xs.length 0 (Int.toNat 0) (Int.toNat 0) = (lev xs ys : Nat) := TS_end xs ys
      rw [e9]
      exact ret _ _ _ (TurnTo.of_keeps F.keep))
end Mine
end

section
namespace Mine

local macro_rules | `(tactic| k_steps) => `(tactic| repeat' ((fail_if_success (with_reducible show wpAny _ _ (call (Value.ref _) _) _ _ _)); (fail_if_success (show LCg.CompSrc _ _ _ _ _ _ _ _ _ _ _ _ _ _)); (first | (k_unfold; (try dsimp only)) | (k_end; wrow_close) | walk1 | (dsimp only; walk1) | (leave1; walk_say "STEP leave1"; try dsimp only) | fail "no step")))

set_option maxHeartbeats 1000000 in
theorem items_pos {w : World} {dp un : Nat} {gd : Option (List Code)} {outer : List Env} {s : Shared} {Q E : Value → Shared → Prop} {x : Str} {t1 t2 : Tok} {sz : Int}
    (hdp : dp + 3 < recursionLimit) (hx1 : x.length ≤ 20) (h0 : 0 < sz) (h1 : sz ≤ 3)
    (ret : ∀ l (vs : List Value) n h' tk', TurnTo outer s.heap h' → s.heap.get? l = none → h'.get? l = some (W.listOf vs.toArray n) → vs.length = ((x.length : Int) - sz + 1).toNat →
      (∀ (i : Nat) v, vs[i]? = some v → ∃ t, v = .str (Txt.slice x (some (i : Int)) (some ((i : Int) + sz))) t) → Q (.ref l) { s with heap := h', toks := tk' }) :
    Ctx (hd.heap_39 w.params) hd.view_39 (looseW hd.view_39 [Str.ofString "Base", Str.ofString "Levenshtein"]) outer s.heap → wpAny (model PySem.Challenge.rw_br0030_02.row.prog w) (AA dp un gd outer) (call (.ref 196) [.str x t1, .int sz t2]) Q E s := by
  w_on
  w_strict (
  k_fill
  intro C
  refine wpAny_call ?_
  refine enterPC (binds := [(Str.ofString "text", .str x t1), (Str.ofString "size", .int sz t2)]) C (by k_is) (by k_is) (by ktr_room) (fun _ => BindsTo.of_eq rfl) (by rfl) (by decide +kernel) ?_
  intro A₀ base mean mg mb g L h tk cells hg F N Y B XB TB DD X' T'
  k_cells Y
  k_steps
  rename Fr _ _ _ _ => F
  rename News _ _ _ _ => N
  rename IsRange _ _ _ _ _ _ _ _ => hr
  refine LCg.CompSrc.range (n := ((x.length : Int) - sz + 1).toNat) rfl F N hr (small_one (by omega) (by omega) (by omega) (by omega)) ((rangeSize_nat _ _).trans (by omega)) (by rw [PySem.sizeLine_eq]; omega) ?_
  intro g'
  refine comp_all (fun k v => ∃ t, v = .str (Txt.slice x (some k) (some (k + sz))) t) ?_ ?_
  · clear F N hr
    intro k tk' I' oI' C' oC' D' m₂ ys' h3 tk3 E' hk0 hk1 hC' hx F N off' ne'
    simp only [LCg.Off3, and_true] at off'
    k_steps
  · clear F N hr
    intro us hlen hy D2 h3 tk3 F N off
    dsimp only at F N ⊢
    k_steps
    rename Fr _ _ _ _ => F
    rename News _ _ _ _ => N
    subst hg
    refine ret _ us _ _ _ (TurnTo.of_keeps F.keep) (N _ (.head _)).2.2 (N _ (.head _)).1 hlen fun i v hv => ?_
    obtain ⟨t, e⟩ := hy i v hv
    exact ⟨t, by rw [e]; simp⟩)
end Mine
end

section
namespace Mine

def gramIt (h : Heap) (v : Value) (gs : List Str) : Prop := ∃ a vs, v = .ref a ∧ h.IsTuple a (List.toArray vs) ∧ Each (strIt {}) vs gs
theorem gram_sk {h h' : Heap} {v : Value} {gs : List Str} (k : SK h h') (x : gramIt h v gs) : gramIt h' v gs :=
  let ⟨a, vs, e, h1, h2⟩ := x; ⟨a, vs, e, k.tup h1, h2⟩

theorem each_inj {vs : List Value} {gs hs : List Str} (h1 : Each (strIt {}) vs gs) (h2 : Each (strIt {}) vs hs) : gs = hs := by
  refine List.ext_getElem? fun i => ?_
  by_cases q : i < vs.length
  · have q1 : i < gs.length := by rw [← h1.1]; exact q
    have q2 : i < hs.length := by rw [← h2.1]; exact q
    obtain ⟨t, e⟩ := h1.2 i vs[i] gs[i] (List.getElem?_eq_getElem q) (List.getElem?_eq_getElem q1)
    obtain ⟨t', e'⟩ := h2.2 i vs[i] hs[i] (List.getElem?_eq_getElem q) (List.getElem?_eq_getElem q2)
    rw [e] at e'
    have e2 : gs[i] = hs[i] := by injection e'
    rw [List.getElem?_eq_getElem q1, List.getElem?_eq_getElem q2, e2]
  · rw [List.getElem?_eq_none (by rw [← h1.1]; omega), List.getElem?_eq_none (by rw [← h2.1]; omega)]

theorem gram_eq : ItEq gramIt := by
  rintro A s u v gs hs hu ⟨a, vs, rfl, ha, hva⟩ ⟨b, us, rfl, hb, hvb⟩
  by_cases hab : a = b
  · subst hab
    have e : vs = us := by
      obtain ⟨o, ho, _, n, hd⟩ := ha
      obtain ⟨o', ho', _, n', hd'⟩ := hb
      rw [ho] at ho'; cases ho'
      rw [hd] at hd'
      simp at hd'
      exact hd'.1
    subst e
    rw [each_inj hva hvb]
    simpa using SeqAt.EqAt.same _
  · have key : ((List.range (min vs.toArray.size us.toArray.size)).all (fun j => decide (gs[j]? = hs[j]?)) && vs.toArray.size == us.toArray.size) = decide (gs = hs) := by
      rw [Bool.eq_iff_iff]
      simp only [Bool.and_eq_true, List.all_eq_true, List.mem_range, decide_eq_true_eq, List.size_toArray, beq_iff_eq]
      constructor
      · rintro ⟨q, e⟩
        refine List.ext_getElem? fun j => ?_
        by_cases hj : j < vs.length
        · exact q j (by omega)
        · rw [List.getElem?_eq_none (by rw [← hva.1]; omega), List.getElem?_eq_none (by rw [← hvb.1]; omega)]
      · intro q
        exact ⟨fun j _ => by rw [q], by rw [hva.1, hvb.1, q]⟩
    rw [← key]
    refine SeqAt.EqAt.of_refs hab (SeqAt.RcAt.tuples ha hb (by omega) fun j h1 h2 => ?_)
    have j1 : j < vs.length := by simpa using h1
    have j2 : j < us.length := by simpa using h2
    have q1 : j < gs.length := by rw [← hva.1]; exact j1
    have q2 : j < hs.length := by rw [← hvb.1]; exact j2
    obtain ⟨t, e⟩ := hva.2 j vs[j] gs[j] (List.getElem?_eq_getElem j1) (List.getElem?_eq_getElem q1)
    obtain ⟨t', e'⟩ := hvb.2 j us[j] hs[j] (List.getElem?_eq_getElem j2) (List.getElem?_eq_getElem q2)
    have z := SeqAt.EqAt.str_str (A := A.in1) (s := s) gs[j] t hs[j] t'
    rw [List.getElem?_eq_getElem q1, List.getElem?_eq_getElem q2]
    have e1 : (List.toArray vs)[j] = .str gs[j] t := by simpa using e
    have e2 : (List.toArray us)[j] = .str hs[j] t' := by simpa using e'
    rw [e1, e2]
    have e3 : decide (some gs[j] = some hs[j]) = (gs[j] == hs[j]) := by
      by_cases q : gs[j] = hs[j] <;> simp [q]
    rw [e3]
    exact z
end Mine
end

section
namespace Mine

def wstep (ws : List Str) (c : Nat) : List Str := if c = 32 then ws ++ [Str.empty] else ws.dropLast ++ [ws.getLast?.getD Str.empty ++ ⟨#[c]⟩]
def wfold (x : Str) (i : Nat) : List Str := (x.cps.toList.take i).foldl wstep [Str.empty]
theorem wfold_succ (x : Str) {i k : Nat} (h : x.cps[i]? = some k) : wfold x (i + 1) = wstep (wfold x i) k := by
  unfold wfold
  rw [List.take_add_one]
  have e : x.cps.toList[i]? = some k := by simpa using h
  rw [e]
  simp [List.foldl_append]
theorem wstep_len (ws : List Str) (c : Nat) (h : 0 < ws.length) : 0 < (wstep ws c).length ∧ (wstep ws c).length ≤ ws.length + 1 := by
  unfold wstep
  split <;> simp <;> omega
theorem wfold_len (x : Str) : ∀ i : Nat, i ≤ x.cps.size → 0 < (wfold x i).length ∧ (wfold x i).length ≤ i + 1
  | 0, _ => by simp [wfold]
  | i + 1, h => by
    have ⟨h1, h2⟩ := wfold_len x i (by omega)
    rw [wfold_succ x (k := x.cps[i]) (by simp)]
    have ⟨h3, h4⟩ := wstep_len (wfold x i) x.cps[i] h1
    omega
theorem one_len (c : Nat) : (⟨#[c]⟩ : Str).length = 1 := rfl
theorem wfold_small (x : Str) : ∀ i : Nat, i ≤ x.cps.size → ∀ z ∈ wfold x i, z.length ≤ i
  | 0, _, z, hz => by
    have e : wfold x 0 = [Str.empty] := rfl
    rw [e, List.mem_singleton] at hz
    rw [hz]; exact Nat.zero_le _
  | i + 1, h, z, hz => by
    have ih := wfold_small x i (by omega)
    rw [wfold_succ x (k := x.cps[i]) (by simp)] at hz
    unfold wstep at hz
    split at hz
    · rcases List.mem_append.mp hz with hz | hz
      · exact Nat.le_succ_of_le (ih z hz)
      · rw [List.mem_singleton.mp hz]; exact Nat.zero_le _
    · rcases List.mem_append.mp hz with hz | hz
      · exact Nat.le_succ_of_le (ih z (List.dropLast_subset _ hz))
      · rw [List.mem_singleton.mp hz, Str.length_append, one_len]
        have : ((wfold x i).getLast?.getD Str.empty).length ≤ i := by
          cases q : (wfold x i).getLast? with
          | none => exact Nat.zero_le _
          | some y => exact ih y (List.mem_of_getLast? q)
        omega

theorem Each.snoc {α : Type} {P : Value → α → Prop} {vs : List Value} {xs : List α} {v : Value} {x : α} (h : Each P vs xs) (hv : P v x) : Each P (vs ++ [v]) (xs ++ [x]) := by
  refine ⟨by simp [h.1], fun i a b ha hb => ?_⟩
  by_cases q : i < vs.length
  · rw [List.getElem?_append_left q] at ha
    rw [List.getElem?_append_left (by rw [← h.1]; exact q)] at hb
    exact h.2 i a b ha hb
  · rw [List.getElem?_append_right (by omega)] at ha
    rw [List.getElem?_append_right (by rw [← h.1]; omega)] at hb
    have e : i - vs.length = 0 := by
      by_cases z : i - vs.length = 0
      · exact z
      · rw [List.getElem?_eq_none (by simp; omega)] at ha; cases ha
    rw [← h.1] at hb
    rw [e] at ha hb
    simp only [List.getElem?_cons_zero, Option.some.injEq] at ha hb
    rw [← ha, ← hb]; exact hv
theorem Each.last {α : Type} {P : Value → α → Prop} {vs : List Value} {xs : List α} {v : Value} {x : α} (h : Each P vs xs) (hv : P v x) (hn : 0 < vs.length) : Each P (vs.set (vs.length - 1) v) (xs.dropLast ++ [x]) := by
  have e : xs.dropLast ++ [x] = xs.set (xs.length - 1) x := by
    have hx : 0 < xs.length := by rw [← h.1]; exact hn
    refine List.ext_getElem? fun j => ?_
    rw [List.getElem?_set]
    by_cases q : xs.length - 1 = j
    · subst q
      rw [if_pos rfl, if_pos (by omega), List.getElem?_append_right (by simp)]
      simp
    · rw [if_neg q]
      by_cases q2 : j < xs.length - 1
      · rw [List.getElem?_append_left (by simp; omega), List.getElem?_dropLast]; simp [q2]
      · rw [List.getElem?_eq_none (by simp; omega), List.getElem?_eq_none (by omega)]
  rw [e, ← h.1]
  refine ⟨by simp [h.1], fun i a b ha hb => ?_⟩
  rw [List.getElem?_set] at ha hb
  by_cases q : vs.length - 1 = i
  · rw [if_pos q] at ha hb
    split at ha
    · split at hb
      · simp only [Option.some.injEq] at ha hb
        rw [← ha, ← hb]; exact hv
      · cases hb
    · cases ha
  · rw [if_neg q] at ha hb
    exact h.2 i a b ha hb

section
variable {prog : Program} {w : World} {A : Around} {E : Value → Shared → Prop} {s : Shared} {h₀ : Heap} {L : Addr} {m : Str → Option Value} {news news' : List (Addr × Obj)} {D : Addr} {vs : List Value} {n : Nat} {v : Value} {t : Tok}
theorem set_last {Q : Unit → Shared → Prop} (F : Fr h₀ L s.heap m) (N : News h₀ L s.heap news) (U : Upd D (W.listOf vs.toArray n) (W.listOf (vs.set (vs.length - 1) v).toArray n) news news') (hn : 0 < vs.length) (hb : vs.length < 1000)
    (h : ∀ h', Fr h₀ L h' m → News h₀ L h' news' → Q () { s with heap := h' }) : wpAny (model prog w) A (setItem (.ref D) (.int (-1) t) v) Q E s := by
  obtain ⟨pre, post, rfl, rfl, a, b⟩ := U.split
  have z := N (D, W.listOf vs.toArray n) (List.mem_append.mpr (.inr (.head _)))
  have e : (-1 + (vs.toArray.size : Int)).toNat = vs.length - 1 := by simp; omega
  refine ki_setBack z.1 (by omega) (by simp; omega) (by omega) (h _ (F.change (Heap.SameBut.update ..) z.2.1 z.2.2) (ki_turn _ N a b ?_ ?_))
  · rw [e]
    apply Array.toList_inj.mp
    simp
  · simp
theorem get_last {value slice : PySem.Expr} {ws : List Str} {Q : Value → Shared → Prop} (N : News h₀ L s.heap news) (hm : (D, W.listOf vs.toArray n) ∈ news) (hv : Each (strIt {}) vs ws) (hn : 0 < ws.length) (hb : ws.length < 1000)
    (h : ∀ t, Q (.str (ws.getLast?.getD Str.empty) t) s) (hs : subscripted slice false (.ref D) (.int (-1) t) = operate [.ref D, .int (-1) t] (getItem (.ref D) (.int (-1) t)) := by with_unfolding_all rfl)
    (hg : ∀ r, letTemporaryGo value (.ref D) r = pure () := by intro _; with_unfolding_all rfl) : wpAny (model prog w) A (subscriptTail value slice (.ref D) (.int (-1) t)) Q E s := by
  have z := N _ hm
  have hl : s.heap.IsList D vs.toArray := ⟨_, z.1, rfl, _, rfl⟩
  have e : (-1 + (vs.toArray.size : Int)).toNat = vs.length - 1 := by simp; omega
  have hlt : vs.length - 1 < vs.length := by have := hv.1; omega
  have hlt2 : vs.length - 1 < ws.length := by have := hv.1; omega
  obtain ⟨t', e'⟩ := hv.2 (vs.length - 1) vs[vs.length - 1] ws[vs.length - 1] (List.getElem?_eq_getElem hlt) (List.getElem?_eq_getElem hlt2)
  refine subscriptTail_builtin hl.typeIs slot_list_getitem.lookup (wpAny_getItem_list_neg hl (by omega) (by have := hv.1; simp; omega) (by omega) (x := vs[vs.length - 1]) (by rw [e]; simp) ?_) hs hg
  rw [e']
  have e2 : ws[vs.length - 1] = ws.getLast?.getD Str.empty := by
    rw [List.getLast?_eq_getElem?, ← hv.1, List.getElem?_eq_getElem hlt2]; rfl
  rw [e2]
  exact h t'
end

section
variable {prog : Program} {w : World} {A : Around} {h₀ : Heap} {L : Addr} {m : Str → Option Value} {env : Env} {ct elt : PySem.Expr} {x : Str} {scope : Scope} {cl : List (Str × Addr)} {s : Shared} {S : List (Addr × Obj) → Prop} {Fin : List Value → List (Addr × Obj) → Prop} {news : List (Addr × Obj)}
theorem comp_filter {vs : List Value} {ws : List Str} (p : Str → Bool) (hv : Each (strIt {}) vs ws)
    (turn : ∀ (k : Nat) z t I oI C oC D m₂ ys h tk (E' : Value → Shared → Prop), ws[k]? = some z → LCg.NsObj oC m₂ → m₂ x = some (.str z t) → Fr h₀ L h m → News h₀ L h ((I, oI) :: (C, oC) :: (D, LCg.lst ys) :: news) → LCg.Off3 I C D news → ((@Ne Nat I C) ∧ (@Ne Nat I D) ∧ (@Ne Nat C D)) →
      wpAny (model prog w) A (isTrue ct (compEnvC scope cl C env) (eval ct (compEnvC scope cl C env))) (fun ok s' => if ok = true then
        wpAny (model prog w) A (eval elt (compEnvC scope cl C env)) (LCg.CompEnd h₀ L m { s with heap := h, toks := tk } I oI C oC D (LCg.lst ys) S (fun y news' => news' = news ∧ p z = true ∧ ∃ t, y = .str z t)) E' s'
        else LCg.CompEnd h₀ L m { s with heap := h, toks := tk } I oI C oC D (LCg.lst ys) S (fun _ news' => news' = news ∧ p z = false) Value.none s') E' { s with heap := h, toks := tk })
    (fin : ∀ ys : List Value, Each (strIt {}) ys (ws.filter p) → Fin ys news) : LCt.CompRestT prog w A h₀ L m env ct elt x scope cl s S (fun i v => vs.toArray[i]? = some v) Fin vs.length 0 [] news := by
  have key : ∀ (j i : Nat) (ys : List Value), i + j = vs.length → Each (strIt {}) ys ((ws.take i).filter p) → LCt.CompRestT prog w A h₀ L m env ct elt x scope cl s S (fun i v => vs.toArray[i]? = some v) Fin j i ys news := by
    intro j
    induction j with
    | zero =>
      intro i ys hi hy
      refine LCt.CompRestT.zero (fin ys ?_)
      rw [List.take_of_length_le (by rw [← hv.1]; omega)] at hy
      exact hy
    | succ j ih =>
      intro i ys hi hy
      refine LCt.CompRestT.succ ?_
      intro v I oI C oC D m₂ h tk E' hvi hC hx F N off ne
      have hi1 : i < vs.length := by omega
      have hi2 : i < ws.length := by rw [← hv.1]; exact hi1
      have e0 : vs[i]? = some v := by simpa using hvi
      obtain ⟨t, e1⟩ := hv.2 i v ws[i] e0 (List.getElem?_eq_getElem hi2)
      subst e1
      have e2 : ws.take (i + 1) = ws.take i ++ [ws[i]] := by rw [List.take_add_one, List.getElem?_eq_getElem hi2]; rfl
      refine wpAny_mono (turn i ws[i] t I oI C oC D m₂ ys h tk E' (List.getElem?_eq_getElem hi2) hC hx F N off ne) (fun ok s₂ hq => ?_) fun _ _ e => e
      cases ok with
      | true =>
        simp only [if_true] at hq ⊢
        refine wpAny_mono hq (fun y s₃ hq3 => ?_) fun _ _ e => e
        obtain ⟨h', tk', nw, e, F', N', off', hS, hn, hp, t', hy'⟩ := hq3
        rw [hn] at N' off' hS
        refine ⟨h', tk', news, e, F', N', off', hS, ih (i + 1) _ (by omega) ?_⟩
        rw [e2, List.filter_append]
        have e3 : [ws[i]].filter p = [ws[i]] := by simp [hp]
        rw [e3]
        exact hy.snoc ⟨t', hy'⟩
      | false =>
        simp only [Bool.false_eq_true, if_false] at hq ⊢
        obtain ⟨h', tk', nw, e, F', N', off', hS, hn, hp⟩ := hq
        rw [hn] at N' off' hS
        refine ⟨h', tk', news, e, F', N', off', hS, ih (i + 1) _ (by omega) ?_⟩
        rw [e2, List.filter_append]
        have e3 : [ws[i]].filter p = [] := by simp [hp]
        rw [e3, List.append_nil]
        exact hy
  exact key vs.length 0 [] (by omega) ⟨rfl, fun i _ _ e => by simp at e⟩
end

local macro_rules | `(tactic| k_steps) => `(tactic| repeat' ((fail_if_success (with_reducible show wpAny _ _ (call (Value.ref _) _) _ _ _)); (fail_if_success (with_reducible show wpAny _ _ (exec (Stmt.For _ _ _ _ _) _) _ _ _)); (fail_if_success (with_reducible show wpAny _ _ (eval (Expr.ListComp _ _ _ _) _) _ _ _)); (fail_if_success (show LCt.CompSrcT _ _ _ _ _ _ _ _ _ _ _ _ _ _ _)); (fail_if_success (with_reducible show wpAny _ _ (subscriptTail _ _ (Value.ref _) (Value.int _ _)) _ _ _)); (fail_if_success (with_reducible show wpAny _ _ (setItem _ _ _) _ _ _)); (fail_if_success (with_reducible show wpAny _ _ (pyIter _) (fun it s₂ => LoopAtV _ _ _ _ _ _ _ _ _ it s₂) _ _)); (first | (k_unfold; (try dsimp only)) | (k_end; wrow_close) | walk1 | (dsimp only; walk1) | (leave1; walk_say "STEP leave1"; try dsimp only) | fail "no step")))

set_option maxHeartbeats 1000000 in
theorem items_zero {w : World} {dp un : Nat} {gd : Option (List Code)} {outer : List Env} {s : Shared} {Q E : Value → Shared → Prop} {x : Str} {t1 t2 : Tok}
    (hdp : dp + 3 < recursionLimit) (hx1 : x.length ≤ 20)
    (ret : ∀ l (vs : List Value) n h' tk', TurnTo outer s.heap h' → s.heap.get? l = none → h'.get? l = some (W.listOf vs.toArray n) →
      Each (strIt {}) vs ((wfold x x.length).filter fun z => !decide (z = Str.empty)) → Q (.ref l) { s with heap := h', toks := tk' }) :
    Ctx (hd.heap_39 w.params) hd.view_39 (looseW hd.view_39 [Str.ofString "Base", Str.ofString "Levenshtein"]) outer s.heap → wpAny (model PySem.Challenge.rw_br0030_02.row.prog w) (AA dp un gd outer) (call (.ref 196) [.str x t1, .int 0 t2]) Q E s := by
  w_on
  w_strict (
  k_fill
  intro C
  refine wpAny_call ?_
  refine enterPC (binds := [(Str.ofString "text", .str x t1), (Str.ofString "size", .int 0 t2)]) C (by k_is) (by k_is) (by ktr_room) (fun _ => BindsTo.of_eq rfl) (by rfl) (by decide +kernel) ?_
  intro A₀ base mean mg mb g L h tk cells hg F N Y B XB TB DD X' T'
  k_cells Y
  rename_i o1 o2 d1 d2
  k_steps
  rename Fr _ _ _ _ => F
  refine For_invVF F rfl rfl ?_
  k_steps
  rename_i l' _ l1 _ _
  rename Fr _ _ _ _ => F
  rename News _ _ _ _ => N
  refine str_loop (σ := List Value × Nat) (fun c => [(l', W.listOf c.1.toArray c.2), (L + 1 + 1, o1), (L + 1, o2)]) (fun c => [(Str.ofString "words", .ref l')]) (fun i c => Each (strIt {}) c.1 (wfold x i))
    [] ([_], 0) rfl F N ⟨rfl, fun i v z h1 h2 => ?_⟩ (List.forall_mem_singleton.mpr rfl) ?_ ?_
  · cases i with
    | zero =>
      simp only [List.getElem?_cons_zero, Option.some.injEq] at h1
      have h2' : some Str.empty = some z := h2
      cases h2'
      exact ⟨_, h1.symm⟩
    | succ i => simp at h1
  · clear F N
    rintro ⟨cv, cn⟩ i k t u I io h tk hk hf F N hne
    dsimp only [kstB] at hf F N hne ⊢
    have hi : i < x.cps.size := (Array.getElem?_eq_some_iff.mp hk).1
    have hlen := wfold_len x i (by omega)
    have hx2 : x.cps.size ≤ 20 := hx1
    have hcl := hf.1
    have q1 : @Ne Nat l' I := hne _ (.head _)
    have hnx := wfold_succ x hk
    k_steps
    · rename Fr _ _ _ _ => F
      rename News _ _ _ _ => N
      rename (_ == _) = true => hs
      have hk32 : k = 32 := KWk.s5 (congrArg (fun z : Str => z.cps.toList) (eq_of_beq hs))
      refine append_K F N (by k_upd) ?_ (by rw [PySem.sizeLine_eq, List.size_toArray]; omega)
      clear F N
      intro h2 F N
      rw [List.push_toArray] at N
      dsimp only
      k_steps
      refine On.intro (cv ++ [.str (Str.ofString "") ?tt], cn + 1) F N (by k_mem) ?_ ?_ ?_ ?_ ?_
      · kst_inAny
      · exact List.forall_mem_cons.mpr ⟨q1, fun p hp => hne p (.tail _ hp)⟩
      · rw [hnx, hk32]
        exact Each.snoc hf ⟨_, rfl⟩
      · exact List.forall_mem_singleton.mpr rfl
      · kst_same
    · rename Fr _ _ _ _ => F
      rename News _ _ _ _ => N
      rename (_ == _) = false => hs
      have hk32 : k ≠ 32 := fun e => by subst e; revert hs; decide
      refine get_last N (by k_mem) hf hlen.1 (by omega) ?_
      intro t5
      have hz : ((wfold x i).getLast?.getD Str.empty).length ≤ 20 := by
        cases q : (wfold x i).getLast? with
        | none => exact Nat.zero_le _
        | some y => have := wfold_small x i (by omega) y (List.mem_of_getLast? q); simp only [Option.getD_some]; omega
      k_steps
      rename Fr _ _ _ _ => F
      rename News _ _ _ _ => N
      refine set_last F N (by k_upd) (by omega) (by omega) ?_
      clear F N
      intro h2 F N
      dsimp only
      k_steps
      refine On.intro (_, cn) F N (.head _) (fun p hp => .tail _ hp) ?_ ?_ ?_ ?_
      · exact List.forall_mem_cons.mpr ⟨q1, fun p hp => hne p (.tail _ hp)⟩
      · rw [hnx, wstep, if_neg hk32]
        exact Each.last hf ⟨_, rfl⟩ (by omega)
      · exact List.forall_mem_singleton.mpr rfl
      · kst_same
  · clear F N
    rintro ⟨cv, cn⟩ u h tk hf F N
    dsimp only [kstB] at hf F N ⊢
    have hlen := wfold_len x x.cps.size (Nat.le_refl _)
    have hx2 : x.cps.size ≤ 20 := hx1
    have hcl := hf.1
    k_steps
    rename Fr _ _ _ _ => F
    rename News _ _ _ _ => N
    refine LCt.ListComp_T (F₀ := F) (by with_unfolding_all rfl) (by decide) (by rfl) (by decide) (by rfl) ?_
    k_steps
    refine LCt.CompSrcT.ledger (k := cn) rfl F N (by k_mem) (by rw [PySem.sizeLine_eq, List.size_toArray]; omega) ?_
    intro g'
    refine comp_filter (fun z => !decide (z = Str.empty)) hf ?_ ?_
    · clear F N
      intro j z t3 I oI C' oC D m₂ ys h3 tk3 E' hz hC hx F N off ne
      simp only [LCg.Off3, and_true] at off
      k_steps
    · clear F N
      intro ys hys D h3 tk3 F N off
      dsimp only at F N ⊢
      k_steps
      rename Fr _ _ _ _ => F
      rename News _ _ _ _ => N
      subst hg
      exact ret _ ys _ _ _ (TurnTo.of_keeps F.keep) (N _ (.head _)).2.2 (N _ (.head _)).1 hys)
end Mine
end

section
namespace Mine

theorem wfold_scan : ∀ (l : List Nat) (ws W : List Str) (r : Str), (∀ c ∈ l, Unicode.isSpace c = decide (c = 32)) → (W.filter fun z => !decide (z = Str.empty)) = ws →
    ∃ W' , l.foldl wstep (W ++ [r]) = W' ++ [(l.foldl KWd.step (ws, r)).2] ∧ (W'.filter fun z => !decide (z = Str.empty)) = (l.foldl KWd.step (ws, r)).1
  | [], ws, W, r, _, h => ⟨W, rfl, h⟩
  | c :: l, ws, W, r, hc, h => by
    have hs := hc c (.head _)
    have hl : ∀ c ∈ l, Unicode.isSpace c = decide (c = 32) := fun c hm => hc c (.tail _ hm)
    rw [List.foldl_cons, List.foldl_cons]
    by_cases e : c = 32
    · subst e
      have e1 : wstep (W ++ [r]) 32 = (W ++ [r]) ++ [Str.empty] := by simp [wstep]
      have hsp : Unicode.isSpace 32 = true := by rw [hs]; decide
      rw [e1]
      by_cases hr : r.length = 0
      · have e2 : KWd.step (ws, r) 32 = (ws, r) := by unfold KWd.step; rw [if_pos hsp, if_pos hr]
        have hr' : r = Str.empty := KWd.len0 hr
        rw [e2]
        subst hr'
        exact wfold_scan l ws (W ++ [Str.empty]) Str.empty hl (by rw [List.filter_append, h]; simp)
      · have e2 : KWd.step (ws, r) 32 = (ws ++ [r], Str.empty) := by unfold KWd.step; rw [if_pos hsp, if_neg hr]
        have hr' : r ≠ Str.empty := fun q => hr (by rw [q]; rfl)
        rw [e2]
        exact wfold_scan l (ws ++ [r]) (W ++ [r]) Str.empty hl (by rw [List.filter_append, h]; simp [hr'])
    · have hsp : Unicode.isSpace c = false := by rw [hs]; simp [e]
      have e1 : wstep (W ++ [r]) c = W ++ [r ++ ⟨#[c]⟩] := by simp [wstep, e]
      have e2 : KWd.step (ws, r) c = (ws, r ++ ⟨#[c]⟩) := by unfold KWd.step; rw [if_neg (by rw [hsp]; exact Bool.false_ne_true)]
      rw [e1, e2]
      exact wfold_scan l ws W (r ++ ⟨#[c]⟩) hl h

theorem words_eq {x : Str} (hc : ∀ c ∈ x.cps.toList, Unicode.isSpace c = decide (c = 32)) : ((wfold x x.length).filter fun z => !decide (z = Str.empty)) = Txt.words x := by
  have e0 : wfold x x.length = x.cps.toList.foldl wstep ([] ++ [Str.empty]) := by
    unfold wfold
    rw [List.take_of_length_le (by simp [Str.length])]
    rfl
  obtain ⟨W', h1, h2⟩ := wfold_scan x.cps.toList [] [] Str.empty hc rfl
  rw [KWd.words_of (x := x) (ws := (KWd.scan x).1) (r := (KWd.scan x).2) rfl, e0, h1, List.filter_append, h2]
  show (KWd.scan x).1 ++ _ = _
  by_cases hr : (KWd.scan x).2.length = 0
  · have hr' : (List.foldl KWd.step ([], Str.empty) x.cps.toList).2 = Str.empty := KWd.len0 hr
    rw [if_pos hr, hr']
    simp
  · have hr' : (List.foldl KWd.step ([], Str.empty) x.cps.toList).2 ≠ Str.empty := fun q => hr (by show (List.foldl KWd.step ([], Str.empty) x.cps.toList).2.length = 0; rw [q]; rfl)
    rw [if_neg hr]
    simp only [List.filter_cons, List.filter_nil, hr', decide_false, Bool.not_false, if_true]
    rfl

def LawStr (x : Str) : Prop := ∀ c ∈ x.cps.toList, c = 97 ∨ c = 98 ∨ c = 99 ∨ c = 32
theorem LawStr.space {x : Str} (h : LawStr x) : ∀ c ∈ x.cps.toList, Unicode.isSpace c = decide (c = 32) := by
  intro c hc
  rcases h c hc with rfl | rfl | rfl | rfl <;> decide +kernel
end Mine
end

section
namespace Mine

theorem each_strs : ∀ {vs : List Value} {ws : List Str}, StrsAre vs ws → Each (strIt {}) vs ws
  | _, _, .nil => ⟨rfl, fun _ _ _ h => by simp at h⟩
  | _, _, .cons (vs := vs) (ys := ws) x t h => by
    have ih := each_strs h
    refine ⟨by simp [ih.1], fun i v z hv hz => ?_⟩
    cases i with
    | zero =>
      simp only [List.getElem?_cons_zero, Option.some.injEq] at hv hz
      subst hv hz
      exact ⟨_, rfl⟩
    | succ i => exact ih.2 i v z (by simpa using hv) (by simpa using hz)

local macro_rules | `(tactic| k_inst) => `(tactic| first | exact instUp (SelfAt.inst (by assumption)) (Fr.keep (by assumption)) | exact instUp (by assumption) (Fr.keep (by assumption)))
local macro_rules | `(tactic| lcg_src) => `(tactic| k_mem)
local macro_rules | `(tactic| k_steps) => `(tactic| repeat' ((fail_if_success (with_reducible show wpAny _ _ (call (Value.ref _) _) _ _ _)); (fail_if_success (with_reducible show wpAny _ _ (call (Value.builtin "str.split") _) _ _ _)); (fail_if_success (with_reducible show wpAny _ _ (eval (Expr.ListComp _ _ _ _) _) _ _ _)); (fail_if_success (show SrcTup _ _ _ _ _ _ _ _ _ _ _ _ _ _)); (first | (k_unfold; (try dsimp only)) | (k_end; wrow_close) | walk1 | (dsimp only; walk1) | (leave1; walk_say "STEP leave1"; try dsimp only) | fail "no step")))

set_option maxHeartbeats 4000000 in
theorem gets_words {w : World} {dp un : Nat} {gd : Option (List Code)} {outer : List Env} {s : Shared} {Q E : Value → Shared → Prop}
    {self : Addr} {ox : Obj} {h1 h2 h3 : Int} {t1 t2 t3 : Tok} {e : Value} {nd : Nat} {x y : Str} {tx ty : Tok} (hdp : dp + 1 < recursionLimit) (hx : x.length ≤ 20) (hy : y.length ≤ 20)
    (hs : InstAt s.heap self ox 189 (some (selfD h1 h2 h3 t1 t2 t3 .none e nd)))
    (ret : ∀ l a b n h' tk', (∀ c o, s.heap.get? c = some o → h'.get? c = some o) → s.heap.get? l = none → h'.get? l = some (W.listOf #[.ref a, .ref b] n) → LsIs strIt h' a (Txt.words x) → LsIs strIt h' b (Txt.words y) → Q (.ref l) { s with heap := h', toks := tk' }) :
    Ctx (hd.heap_39 w.params) hd.view_39 (looseW hd.view_39 [Str.ofString "Base", Str.ofString "Levenshtein"]) outer s.heap → wpAny (model PySem.Challenge.rw_br0030_02.row.prog w) (AA dp un gd outer) (call (.ref 108) [.ref self, .str x tx, .str y ty]) Q E s := by
  w_on
  w_strict (
  k_fill
  intro C
  refine wpAny_call ?_
  refine enterSC (binds := fun t => [(Str.ofString "self", .ref self), (Str.ofString "sequences", t)]) (vs := [.str x tx, .str y ty]) C (by k_is) (by k_is) (by ktr_room) (by rfl) (fun t => rfl) (by decide +kernel) (Nat.le_of_ble_eq_true rfl) ?_
  intro A₀ base mean mg mb g D' L h tk cells hg F N Y l1 B XB TB DD X' T'
  k_cells Y
  (try simp only [List.cons_append, List.nil_append] at N)
  replace hs : InstAt g self ox 189 (some (selfD h1 h2 h3 t1 t2 t3 .none e nd)) := hg ▸ hs
  have hsx : x.length + 2 ≤ sizeLine := by rw [PySem.sizeLine_eq]; omega
  have hsy : y.length + 2 ≤ sizeLine := by rw [PySem.sizeLine_eq]; omega
  k_steps
  refine ListComp_tup (by assumption) (by with_unfolding_all rfl) (by decide) (by rfl) (by decide) (by rfl) ?_
  k_steps
  rename Fr _ _ _ _ => F
  refine SrcTup.of rfl F N (by k_mem) (Nat.le_of_ble_eq_true rfl) ?_
  intro g'
  clear F N
  refine LCg.CompRest.succ ?_
  intro v I oI C' oC D m₂ h3 tk3 E' hv hC hm F N off ne
  simp only [LCg.Off3, and_true] at off
  obtain rfl : v = .str x tx := (Option.some.inj hv).symm
  k_steps
  rename Fr _ _ _ _ => F
  rename News _ _ _ _ => N
  refine KSpl.split0 F N ?_ hsx
  clear F N
  intro D1 l2 h4 tk4 e2 a2 F N l3
  k_lt l3
  k_steps
  rename Fr _ _ _ _ => F
  rename News _ _ _ _ => N
  refine KSpl.split0 F N ?_ hsy
  clear F N
  intro D3 l4 h6 tk6 e3 a3 F N l5
  k_lt l5
  k_steps
  rename Fr _ _ _ _ => F
  rename News _ _ _ _ => N
  subst hg
  rw [e2] at a2
  rw [e3] at a3
  exact ret _ _ _ _ _ _ F.keep (N _ (.head _)).2.2 (N _ (.head _)).1 ⟨_, PySem.IsL.isList (n := 0) (N (D1, _) (.tail _ (.tail _ (.head _)))).1, each_strs a2⟩ ⟨_, PySem.IsL.isList (n := 0) (N (D3, _) (.tail _ (.head _))).1, each_strs a3⟩)
end Mine
end

section
namespace Mine

theorem tlen (x : Str) : x.cps.toList.length = x.length := by simp [Str.length]
theorem slice_from_nat (x : Str) (k : Nat) : Txt.slice x (some (k : Int)) none = ⟨(x.cps.toList.drop k).toArray⟩ := by
  by_cases h : k ≤ x.length
  · rw [slice_from_eq (b := (x.length : Int)) (by omega) (by omega) rfl]
    congr 2
    rw [Int.toNat_natCast]
    refine List.take_of_length_le ?_
    rw [List.length_drop, tlen]; omega
  · rw [slice_beyond (by omega), List.drop_of_length_le (by rw [tlen]; omega)]
    rfl
def cutAt (x : Str) (n i : Nat) : Str := ⟨((x.cps.toList.drop i).take n).toArray⟩
def itemsOf (x : Str) (n : Nat) : List Str := (List.range (x.length + 1 - n)).map (cutAt x n)
theorem itemsOf_length (x : Str) (n : Nat) : (itemsOf x n).length = x.length + 1 - n := by simp [itemsOf]
theorem itemsOf_get (x : Str) {n i : Nat} {z : Str} (h : (itemsOf x n)[i]? = some z) : z = cutAt x n i ∧ i < x.length + 1 - n := by
  have hi := (List.getElem?_eq_some_iff.mp h).1
  rw [itemsOf_length] at hi
  unfold itemsOf at h
  rw [List.getElem?_map, List.getElem?_range hi] at h
  simp only [Option.map_some, Option.some.injEq] at h
  exact ⟨h.symm, hi⟩
theorem slice_cut (x : Str) {i n : Nat} (h : i + n ≤ x.length) : Txt.slice x (some (i : Int)) (some ((i : Int) + (n : Int))) = cutAt x n i := by
  have := eq_of_beq (slice_closesL (x := x) (i := (i : Int)) (j := (i : Int) + n) (by omega) (by omega) (by omega))
  rw [this]
  unfold cutAt
  congr 3
  omega
theorem signs_cut (x : Str) (n i : Nat) : signs (cutAt x n i) = ((signs x).drop i).take n := by simp [cutAt, signs, List.map_drop, List.map_take]
theorem signs_one (x : Str) : signs x = itemsOf x 1 := by
  refine List.ext_getElem? fun i => ?_
  by_cases q : i < x.length
  · have e : (itemsOf x 1)[i]? = some (cutAt x 1 i) := by
      unfold itemsOf
      rw [List.getElem?_map, List.getElem?_range (by omega)]; rfl
    rw [e, signs_get, Array.getElem?_eq_getElem q]
    simp only [Option.map_some, cutAt]
    have q2 : i < x.cps.toList.length := by rw [tlen]; exact q
    rw [List.drop_eq_getElem_cons q2]
    simp
    rfl
  · rw [List.getElem?_eq_none (by rw [signs_length]; omega), List.getElem?_eq_none (by rw [itemsOf_length]; omega)]
theorem lev_grams (x y : Str) (n : Nat) : lev ((itemsOf x n).map signs) ((itemsOf y n).map signs) = lev (itemsOf x n) (itemsOf y n) := lev_map (fun _ _ h => signs_inj h) _ _
end Mine
end

section
namespace Mine

local macro_rules | `(tactic| k_steps) => `(tactic| repeat' ((fail_if_success (with_reducible show wpAny _ _ (call (Value.ref _) _) _ _ _)); (fail_if_success (with_reducible show wpAny _ _ (call (Value.type "zip") _) _ _ _)); (fail_if_success (show LCg.CompSrc _ _ _ _ _ _ _ _ _ _ _ _ _ _)); (fail_if_success (with_reducible show wpAny _ _ (callWith _ (Value.type "zip") _ _ _) _ _ _)); (fail_if_success (with_reducible show wpAny _ _ (call (Value.type "list") _) _ _ _)); (first | (k_unfold; (try dsimp only)) | (k_end; wrow_close) | walk1 | (dsimp only; walk1) | (leave1; walk_say "STEP leave1"; try dsimp only) | fail "no step")))

theorem drop_text (x : Str) (k j : Nat) : (⟨(x.cps.toList.drop k).toArray⟩ : Str).cps[j]? = x.cps[k + j]? := by simp
theorem drawn_gram {x : Str} {n j : Nat} {ts : List Tok} {vs : Array Value} (hn : ts.length = n) (hvs : vs.size = n) (hj : j + n ≤ x.length) (hd : Drawn ((List.range n).map fun k => ((⟨(x.cps.toList.drop k).toArray⟩ : Str), ts.getD k 0)) j vs) : Each (strIt {}) vs.toList (signs (cutAt x n j)) := by
  refine ⟨by rw [Array.length_toList, hvs, signs_length]; simp [cutAt, Str.length]; have : x.cps.size = x.length := rfl; omega, fun k v z hv hz => ?_⟩
  have hk : k < n := by have := (List.getElem?_eq_some_iff.mp hv).1; rw [Array.length_toList, hvs] at this; exact this
  obtain ⟨c, u, hc, rfl⟩ := hd k _ _ v (by rw [List.getElem?_map, List.getElem?_range hk]; rfl) (by simpa using hv)
  rw [drop_text] at hc
  rw [signs_get] at hz
  have e : (cutAt x n j).cps[k]? = x.cps[j + k]? := by
    simp only [cutAt, List.getElem?_toArray, List.getElem?_take, List.getElem?_drop, if_pos hk, Array.getElem?_toList]
  rw [e, Nat.add_comm j k, hc] at hz
  cases hz
  exact ⟨_, rfl⟩

theorem call_zip_texts {prog : Program} {w : World} {A : Around} {E : Value → Shared → Prop} {s : Shared} {xs : List (Str × Tok)} {Q : Value → Shared → Prop} (hn : xs.length = 2 ∨ xs.length = 3)
    (h : ∀ (b : Nat) h' kept, b = s.heap.objs.size → h'.get? (b + xs.length + 2) = some (ZObj .none (.bool false) (b + xs.length) (b + xs.length + 1)) → h'.get? (b + xs.length) = some (tupA (itsV b xs.length)) → h'.get? (b + xs.length + 1) = some (tupA kept) → Array.size kept = xs.length → ItsAt h' b xs (fun _ => 0) →
      (∀ c o, s.heap.get? c = some o → h'.get? c = some o) → Q (.ref (b + xs.length + 2)) { s with heap := h' }) :
    wpAny (model prog w) A (call (.type "zip") (xs.map fun p => .str p.1 p.2)) Q E s := by
  match xs, hn, h with
  | [(x, t), (y, u)], _, h => exact call_zip_2s fun b h' e a1 a2 a3 a4 a5 => h b h' _ e a1 a2 a3 rfl a4 a5
  | [(x, t), (y, u), (z, v)], _, h => exact call_zip_3s fun b h' e a1 a2 a3 a4 a5 => h b h' _ e a1 a2 a3 rfl a4 a5
  | [], hn, _ => simp at hn
  | [_], hn, _ => simp at hn
  | _ :: _ :: _ :: _ :: _, hn, _ => simp at hn

def tokOf : Value → Tok
  | .str _ t => t
  | _ => 0
abbrev textsOf (x : Str) (n : Nat) (ts : List Tok) : List (Str × Tok) := (List.range n).map fun k => ((⟨(x.cps.toList.drop k).toArray⟩ : Str), ts.getD k 0)
theorem texts_are {x : Str} {us : List Value} (hy : ∀ (i : Nat) (y : Value), us[i]? = some y → ∃ t, y = .str (Txt.slice x (some (0 + (i : Int))) none) t) : us = (textsOf x us.length (us.map tokOf)).map fun p => .str p.1 p.2 := by
  refine List.ext_getElem? fun i => ?_
  by_cases q : i < us.length
  · rw [List.map_map, List.getElem?_map, List.getElem?_range q, List.getElem?_eq_getElem q]
    obtain ⟨t, e⟩ := hy i us[i] (List.getElem?_eq_getElem q)
    rw [Int.zero_add, slice_from_nat] at e
    simp [List.getD_eq_getElem?_getD, q, e, tokOf]
  · rw [List.getElem?_eq_none (by omega), List.getElem?_eq_none (by simp; omega)]

set_option maxHeartbeats 4000000 in
theorem ngrams_ok {w : World} {dp un : Nat} {gd : Option (List Code)} {outer : List Env} {s : Shared} {Q E : Value → Shared → Prop}
    {x : Str} {tx tz : Tok} {sz : Int} (hdp : dp + 1 < recursionLimit) (hx : x.length ≤ 20) (hz : sz = 2 ∨ sz = 3)
    (ret : ∀ l (vs : List Value) n h' tk', (∀ c o, s.heap.get? c = some o → h'.get? c = some o) → s.heap.get? l = none → h'.get? l = some (W.listOf vs.toArray n) → Each (gramIt h') vs ((itemsOf x sz.toNat).map signs) → (∀ v ∈ vs, ∃ T, v = .ref T ∧ s.heap.get? T = none) → Q (.ref l) { s with heap := h', toks := tk' }) :
    Ctx (hd.heap_39 w.params) hd.view_39 (looseW hd.view_39 [Str.ofString "Base", Str.ofString "Levenshtein"]) outer s.heap → wpAny (model PySem.Challenge.rw_br0030_02.row.prog w) (AA dp un gd outer) (call (.ref 26) [.str x tx, .int sz tz]) Q E s := by
  w_on
  w_strict (
  k_fill
  intro C
  refine wpAny_call ?_
  refine enterPC (binds := [(Str.ofString "input_list", .str x tx), (Str.ofString "n", .int sz tz)]) C (by k_is) (by k_is) (by ktr_room) (fun _ => BindsTo.of_eq rfl) (by rfl) (by decide +kernel) ?_
  intro A₀ base mean mg mb g L h tk cells hg F N Y B XB TB DD X' T'
  k_cells Y
  k_steps
  refine callWith_TS ?_
  k_steps
  rename Fr _ _ _ _ => F
  rename News _ _ _ _ => N
  rename IsRange _ _ _ _ _ _ _ _ => hr
  refine LCg.CompSrc.range (n := sz.toNat) rfl F N hr (small_one (by omega) (by omega) (by omega) (by omega)) ((rangeSize_nat _ _).trans (by omega)) (by rw [PySem.sizeLine_eq]; omega) ?_
  intro g'
  refine comp_all (fun k v => ∃ t, v = .str (Txt.slice x (some k) none) t) ?_ ?_
  · clear F N hr
    intro k tk' I' oI' C' oC' D' m₂ ys' h3 tk3 E' hk0 hk1 hC' hx F N off' ne'
    simp only [LCg.Off3, and_true] at off'
    k_steps
  · clear F N hr
    intro us hlen hy D2 h3 tk3 F N off
    dsimp only at F N ⊢
    k_steps
    refine star_seq F N (.head _) rfl rfl (.inl rfl) rfl (by rw [List.size_toArray, hlen, PySem.sizeLine_eq]; omega) ?_
    clear F N
    intro h4 F N
    dsimp only
    have hn23 : us.length = 2 ∨ us.length = 3 := by omega
    have hxl : (textsOf x us.length (us.map tokOf)).length = us.length := by simp
    rw [texts_are hy]
    refine call_zip_texts (by rw [hxl]; exact hn23) ?_
    intro b h5 kept hb a1 a2 a3 a4 a5 hk
    dsimp only at hb hk ⊢
    rw [hxl] at a1 a2 a3 a4 ⊢
    have F4 := F
    replace F := F.keeps hk
    replace N := N.grown hk
    k_steps
    generalize hnn : us.length = n at *
    refine call_list_zip (m := x.length + 1 - n) rfl hxl (by omega) (by omega) ?_ ?_ (by omega) a1 a2 a3 a4 a5 ?_
    · intro i hi p hp
      obtain ⟨k, hk', rfl⟩ := List.mem_map.mp hp
      have hk2 := List.mem_range.mp hk'
      simp only [List.size_toArray, List.length_drop, tlen]
      omega
    · intro q
      have := q ((⟨(x.cps.toList.drop (n - 1)).toArray⟩ : Str), (us.map tokOf).getD (n - 1) 0) (List.mem_map.mpr ⟨n - 1, List.mem_range.mpr (by omega), rfl⟩)
      simp only [List.size_toArray, List.length_drop, tlen] at this
      omega
    · intro h6 tk6 acc c ho hl hsz hacc
      have keep : ∀ c o, s.heap.get? c = some o → h6.get? c = some o := fun c o e => by
        have e1 := F4.keep c o (hg ▸ e)
        have e2 : c < b := by rw [hb]; exact Heap.lt_size e1
        exact ho c o (.inl e2) (hk c o e1)
      refine ret _ acc.toList c _ _ keep ?_ (by simpa using hl) ?_ ?_
      · cases q : s.heap.get? h5.objs.size with
        | none => rfl
        | some o => exact absurd (Heap.lt_size (hk _ _ (F4.keep _ _ (hg ▸ q)))) (Nat.lt_irrefl _)
      · have e3 : sz.toNat = n := by omega
        rw [e3]
        refine ⟨by rw [Array.length_toList, hsz, List.length_map, itemsOf_length], fun j v gs hv hgs => ?_⟩
        rw [List.getElem?_map] at hgs
        obtain ⟨z, hz1, rfl⟩ := Option.map_eq_some_iff.mp hgs
        obtain ⟨rfl, hj⟩ := itemsOf_get x hz1
        obtain ⟨T, vs, rfl, _, hT, hvs, hd⟩ := hacc j v (by simpa using hv)
        exact ⟨T, vs.toList, rfl, ⟨_, by simpa using hT, rfl, 0, rfl⟩, drawn_gram (by simp [hnn]) hvs (by omega) hd⟩
      · intro v hv
        obtain ⟨j, hj⟩ := List.mem_iff_getElem?.mp hv
        obtain ⟨T, vs, rfl, hST, _⟩ := hacc j v (by simpa using hj)
        refine ⟨T, rfl, ?_⟩
        cases q : s.heap.get? T with
        | none => rfl
        | some o => exact absurd (Nat.lt_trans hST (Heap.lt_size (hk _ _ (F4.keep _ _ (hg ▸ q))))) (Nat.lt_irrefl _))
end Mine
end

section
namespace Mine

def Aside (p : Prop) : Prop := p

theorem grams_ledger {h h' : Heap} {vs : List Value} {gss : List (List Str)} (hv : Each (gramIt h') vs gss) (hf : ∀ v ∈ vs, ∃ T, v = .ref T ∧ h.get? T = none) :
    ∃ ts : List (Addr × Obj), (∀ p ∈ ts, h'.get? p.1 = some p.2 ∧ h.get? p.1 = none) ∧ ∀ h2 : Heap, (∀ p ∈ ts, h2.get? p.1 = some p.2) → Each (gramIt h2) vs gss := by
  classical
  refine ⟨vs.filterMap fun v => match v with | .ref T => (h'.get? T).map fun o => (T, o) | _ => none, fun p hp => ?_, fun h2 hk => ⟨hv.1, fun i v gs a b => ?_⟩⟩
  · obtain ⟨v, hv', e⟩ := List.mem_filterMap.mp hp
    obtain ⟨T, rfl, hT⟩ := hf v hv'
    obtain ⟨o, ho, rfl⟩ := Option.map_eq_some_iff.mp e
    exact ⟨ho, hT⟩
  · obtain ⟨T, us, rfl, ⟨o, ho, hc, n, hd⟩, he⟩ := hv.2 i v gs a b
    refine ⟨T, us, rfl, ⟨o, hk (T, o) (List.mem_filterMap.mpr ⟨.ref T, List.mem_of_getElem? a, ?_⟩), hc, n, hd⟩, he⟩
    simp [ho]

theorem turn_end {g h3 h4 : Heap} {L I C D l1 : Addr} {m : Str → Option Value} {oI oC oD lo : Obj} {news ts : List (Addr × Obj)} {s₁ : Shared} {tk : Nat} {S : List (Addr × Obj) → Prop} {rest : Value → List (Addr × Obj) → Prop}
    (F : Fr g L h3 m) (N : News g L h3 ((I, oI) :: (C, oC) :: (D, oD) :: news)) (off : LCg.Off3 I C D news) (kk : ∀ c o, h3.get? c = some o → h4.get? c = some o) (hn : h3.get? l1 = none) (hl : h4.get? l1 = some lo) (ht : ∀ p ∈ ts, h4.get? p.1 = some p.2 ∧ h3.get? p.1 = none)
    (hS : S ((l1, lo) :: (ts ++ news))) (hrest : rest (.ref l1) ((l1, lo) :: (ts ++ news))) : LCg.CompEnd g L m s₁ I oI C oC D oD S rest (.ref l1) { s₁ with heap := h4, toks := tk } := by
  have N1 := addNews F N kk hn hl
  have new : ∀ (p q : Addr × Obj), h3.get? p.1 = none → h3.get? q.1 = some q.2 → p.1 ≠ q.1 := fun p q a b e => by rw [e, b] at a; cases a
  have NI := (N _ (.head _)).1
  have NC := (N _ (.tail _ (.head _))).1
  have ND := (N _ (.tail _ (.tail _ (.head _)))).1
  refine ⟨h4, tk, (l1, lo) :: (ts ++ news), rfl, F.after kk, fun p hp => ?_, LCg.Off3.of fun p hp => ?_, hS, hrest⟩
  · rcases List.mem_cons.mp hp with rfl | hp
    · exact N1 _ (.tail _ (.head _))
    · rcases List.mem_cons.mp hp with rfl | hp
      · exact N1 _ (.tail _ (.tail _ (.head _)))
      · rcases List.mem_cons.mp hp with rfl | hp
        · exact N1 _ (.tail _ (.tail _ (.tail _ (.head _))))
        · rcases List.mem_cons.mp hp with rfl | hp
          · exact N1 _ (.head _)
          · rcases List.mem_append.mp hp with hp | hp
            · exact addNews F N kk (ht p hp).2 (ht p hp).1 _ (.head _)
            · exact N1 _ (.tail _ (.tail _ (.tail _ (.tail _ hp))))
  · rcases List.mem_cons.mp hp with rfl | hp
    · exact ⟨new _ (I, oI) hn NI, new _ (C, oC) hn NC, new _ (D, oD) hn ND⟩
    · rcases List.mem_append.mp hp with hp | hp
      · exact ⟨new _ (I, oI) (ht p hp).2 NI, new _ (C, oC) (ht p hp).2 NC, new _ (D, oD) (ht p hp).2 ND⟩
      · exact off.mem p hp

local macro_rules | `(tactic| k_inst) => `(tactic| first | exact instUp (SelfAt.inst (by assumption)) (Fr.keep (by assumption)) | exact instUp (by assumption) (Fr.keep (by assumption)))
local macro_rules | `(tactic| lcg_src) => `(tactic| k_mem)
local macro_rules | `(tactic| k_steps) => `(tactic| repeat' ((fail_if_success (with_reducible show wpAny _ _ (call (Value.ref _) _) _ _ _)); (fail_if_success (with_reducible show wpAny _ _ (eval (Expr.ListComp _ _ _ _) _) _ _ _)); (fail_if_success (show SrcTup _ _ _ _ _ _ _ _ _ _ _ _ _ _)); (first | (k_unfold; (try dsimp only)) | (k_end; wrow_close) | walk1 | (dsimp only; walk1) | (leave1; walk_say "STEP leave1"; try dsimp only) | fail "no step")))

set_option maxHeartbeats 4000000 in
theorem gets_grams {w : World} {dp un : Nat} {gd : Option (List Code)} {outer : List Env} {s : Shared} {Q E : Value → Shared → Prop}
    {self : Addr} {ox : Obj} {h1 h2 h3 : Int} {t1 t2 t3 tq : Tok} {e : Value} {nd : Nat} {x y : Str} {tx ty : Tok} {sz : Int} (hdp : dp + 3 < recursionLimit) (hx : x.length ≤ 20) (hy : y.length ≤ 20) (hz : sz = 2 ∨ sz = 3)
    (hs : InstAt s.heap self ox 189 (some (selfD h1 h2 h3 t1 t2 t3 (.int sz tq) e nd)))
    (ret : ∀ l a b n h' tk', (∀ c o, s.heap.get? c = some o → h'.get? c = some o) → s.heap.get? l = none → h'.get? l = some (W.listOf #[.ref a, .ref b] n) → LsIs gramIt h' a ((itemsOf x sz.toNat).map signs) → LsIs gramIt h' b ((itemsOf y sz.toNat).map signs) → Q (.ref l) { s with heap := h', toks := tk' }) :
    Ctx (hd.heap_39 w.params) hd.view_39 (looseW hd.view_39 [Str.ofString "Base", Str.ofString "Levenshtein"]) outer s.heap → wpAny (model PySem.Challenge.rw_br0030_02.row.prog w) (AA dp un gd outer) (call (.ref 108) [.ref self, .str x tx, .str y ty]) Q E s := by
  w_on
  w_strict (
  k_fill
  intro C
  refine wpAny_call ?_
  refine enterSC (binds := fun t => [(Str.ofString "self", .ref self), (Str.ofString "sequences", t)]) (vs := [.str x tx, .str y ty]) C (by k_is) (by k_is) (by ktr_room) (by rfl) (fun t => rfl) (by decide +kernel) (Nat.le_of_ble_eq_true rfl) ?_
  intro A₀ base mean mg mb g D' L h tk cells hg F N Y l1 B XB TB DD X' T'
  k_cells Y
  rename_i o' d1'
  (try simp only [List.cons_append, List.nil_append] at N)
  replace hs : InstAt g self ox 189 (some (selfD h1 h2 h3 t1 t2 t3 (.int sz tq) e nd)) := hg ▸ hs
  have hz0 : sz ≠ 0 := by omega
  have hz1 : sz ≠ 1 := by omega
  k_steps
  · rename sz = 1 => hbad
    exact absurd hbad hz1
  refine ListComp_tup (by assumption) (by with_unfolding_all rfl) (by decide) (by rfl) (by decide) (by rfl) ?_
  k_steps
  rename Fr _ _ _ _ => F
  rename News _ _ _ _ => N
  refine SrcTup.of rfl F N (by k_mem) (Nat.le_of_ble_eq_true rfl) ?_
  intro g'
  clear F N
  refine LCg.CompRest.succ ?_
  intro v I oI C' oC D m₂ h3 tk3 E' hv hC hm F N off ne
  simp only [LCg.Off3, and_true] at off
  obtain rfl : v = .str x tx := (Option.some.inj hv).symm
  k_steps
  · rename Fr _ _ _ _ => F
    rename News _ _ _ _ => N
    refine ngrams_ok (dp := dp + 1) (by omega) hx hz ?_ (Ctx.pushC B XB TB DD F rfl)
    intro l1 vs1 n1 h4 tk4 kk hn1 hl1 he1 hf1
    obtain ⟨ts1, ht1, hu1⟩ := grams_ledger he1 hf1
    refine turn_end F N (LCg.Off3.of (by simp only [List.mem_cons, List.not_mem_nil, or_false, forall_eq_or_imp, forall_eq]; exact off)) kk hn1 hl1 ht1 (.tail _ (List.mem_append_right _ (.tail _ (.head _)))) ?_
    rename InElt _ _ => cE'
    clear F N hn1 hl1 ht1 hf1 he1 cE'
    rename InElt _ _ => cE2
    clear cE2 hC hm hv off ne
    refine LCg.CompRest.succ ?_
    intro v I oI C' oC D m₂ h3 tk3 E' hv hC hm F NF off ne
    obtain rfl : v = .str y ty := (Option.some.inj hv).symm
    have offA : Aside (LCg.Off3 I C' D _) := off
    have NA : Aside (News g L h3 _) := NF
    have N : News g L h3 [(I, oI), (C', oC), (D, LCg.lst [.ref l1]), (L + 1, o'), (D', tupO #[.str x tx, .str y ty])] := fun p hp => NF p (by
      rcases List.mem_cons.mp hp with rfl | hp
      · exact .head _
      · rcases List.mem_cons.mp hp with rfl | hp
        · exact .tail _ (.head _)
        · rcases List.mem_cons.mp hp with rfl | hp
          · exact .tail _ (.tail _ (.head _))
          · exact .tail _ (.tail _ (.tail _ (.tail _ (List.mem_append_right _ hp)))))
    clear off NF
    k_steps
    refine ngrams_ok (dp := dp + 1) (by omega) hy hz ?_ (Ctx.pushC B XB TB DD F rfl)
    intro l2 vs2 n2 h4 tk4 kk hn2 hl2 he2 hf2
    obtain ⟨ts2, ht2, hu2⟩ := grams_ledger he2 hf2
    refine turn_end F NA offA kk hn2 hl2 ht2 (.tail _ (List.mem_append_right _ (.tail _ (List.mem_append_right _ (.tail _ (.head _)))))) ?_
    refine LCg.CompRest.zero ?_
    clear F N NA offA kk hn2 hl2 ht2 hf2 he2 hC hm hv ne
    unfold LCg.FinE
    intro D3 h5 tk5 F NF off
    have NA : Aside (News g L h5 _) := NF
    have N : News g L h5 [(D3, LCg.lst [.ref l1, .ref l2])] := fun p hp => NF p (by rw [List.mem_singleton.mp hp]; exact .head _)
    clear NF off
    dsimp only
    k_steps
    rename Fr _ _ _ _ => F
    have NB : News g L _ _ := NA
    subst hg
    refine ret _ l1 l2 _ _ _ F.keep (NB _ (.head _)).2.2 (NB (D3, LCg.lst [.ref l1, .ref l2]) (.head _)).1 ⟨vs1, PySem.IsL.isList (n := n1) (NB (l1, _) (.tail _ (.tail _ (List.mem_append_right _ (.head _))))).1, hu1 _ fun p hp => (NB p (.tail _ (.tail _ (List.mem_append_right _ (.tail _ (List.mem_append_left _ hp)))))).1⟩ ⟨vs2, PySem.IsL.isList (n := n2) (NB (l2, _) (.tail _ (.head _))).1, hu2 _ fun p hp => (NB p (.tail _ (.tail _ (List.mem_append_left _ hp)))).1⟩
  · rename sz = 0 => hbad
    exact absurd hbad hz0)
end Mine
end

section
namespace Mine

theorem gram_key {prog : Program} {w : World} {h : Heap} {a : Addr} {vs : List Value} {gs : List Str} (ht : h.IsTuple a vs.toArray) (he : Each (strIt {}) vs gs) : IsTupleKey (PySem.strKind prog w) h gs a := by
  obtain ⟨o, ho, hc, n, hd⟩ := ht
  refine ⟨o, vs.toArray, n, ho, hc, hd, ?_⟩
  have key : ∀ (vs : List Value) (gs : List Str), Each (strIt {}) vs gs → ItemsAre (PySem.strKind prog w) gs vs := by
    intro vs
    induction vs with
    | nil =>
      intro gs he
      cases gs with
      | nil => exact .nil
      | cons g gs => have := he.1; simp at this
    | cons v vs ih =>
      intro gs he
      cases gs with
      | nil => have := he.1; simp at this
      | cons g gs =>
        obtain ⟨t, rfl⟩ := he.2 0 v g rfl rfl
        exact .cons (strKind_is _ _ _ _) (ih gs ⟨by have := he.1; simpa using this, fun i a b ha hb => he.2 (i + 1) a b (by simpa using ha) (by simpa using hb)⟩)
  exact key vs gs he

local macro_rules | `(tactic| walk_at "call type:set") => `(tactic| (k_here; k_dflt (refine' setTups_N ?k1 ?k2 ?k3 ?k7 ?k4 ?k5 ?k6 ?_; (case k1 => k_asm); (case k2 => k_asm); (case k3 => rfl); (case k7 => ktr_units); (case k4 => k_mem); (case k5 => (refine key_at (by assumption) fun o e => ?_; exact Fr.keep (by assumption) _ _ e)); (case k6 => (refine key_at (by assumption) fun o e => ?_; exact Fr.keep (by assumption) _ _ e)); k_whole); intro S' h' tk' o' F' N' l1 hs'; (try k_lt l1); (try k_sweep)))
local macro_rules | `(tactic| walk_at "call builtin:len") => `(tactic| (k_here; (with_reducible show wpAny _ _ (call (Value.builtin _) [Value.ref _]) _ _ _); k_dflt (refine' lenSized_N ?k1 ?k2 ?k3 ?k4 ?_; (case k1 => k_asm); (case k2 => k_mem); (case k3 => assumption); (case k4 => (split <;> decide)); k_whole); intro tk' t'))

theorem two_are (x y : List Str) : ((((if x = y then 1 else 2 : Nat) : Int)) == 1) = decide (x = y) := by by_cases h : x = y <;> simp [h]

set_option maxHeartbeats 4000000 in
theorem ident_grams {w : World} {dp un : Nat} {gd : Option (List Code)} {outer : List Env} {s : Shared} {Q E : Value → Shared → Prop}
    {a b : Addr} {ks ks2 : List Str} (hdp : dp + 1 < recursionLimit) (hun : un + 100 < cLine) (hk : IsTupleKey (PySem.strKind PySem.Challenge.rw_br0030_02.row.prog w) s.heap ks a) (hk2 : IsTupleKey (PySem.strKind PySem.Challenge.rw_br0030_02.row.prog w) s.heap ks2 b)
    (ret : ∀ h' tk', (∀ b o, s.heap.get? b = some o → h'.get? b = some o) → Q (.bool (decide (ks = ks2))) { s with heap := h', toks := tk' }) :
    Ctx (hd.heap_39 w.params) hd.view_39 (looseW hd.view_39 [Str.ofString "Base", Str.ofString "Levenshtein"]) outer s.heap → wpAny (model PySem.Challenge.rw_br0030_02.row.prog w) (AA dp un gd outer) (call (.ref 100) [.ref a, .ref b]) Q E s := by
  w_on
  w_strict (
  k_fill
  intro C
  refine wpAny_call ?_
  refine enterS (binds := fun t => [(Str.ofString "elements", t)]) (vs := [.ref a, .ref b]) C (by k_is) (by k_is) (by ktr_room) (by rfl) (fun t => locs rfl) (Nat.le_of_ble_eq_true rfl) ?_
  intro A₀ base mean mg mb g D' L h hg F N B XB TB DD X' T'
  replace hk : IsTupleKey (PySem.strKind PySem.Challenge.rw_br0030_02.row.prog w) g ks a := hg ▸ hk
  replace hk2 : IsTupleKey (PySem.strKind PySem.Challenge.rw_br0030_02.row.prog w) g ks2 b := hg ▸ hk2
  k_steps
  rename Fr _ _ _ _ => F
  subst hg
  rw [← two_are ks ks2] at ret
  exact ret _ _ F.keep)
end Mine
end

section
namespace Mine

theorem ident_gram_on (w : World) : IdentOn w gramIt := by
  intro dp un gd outer s Q E u v x y hdp hun hu hv C ret
  obtain ⟨a, vs, rfl, h1, h2⟩ := hu
  obtain ⟨b, us, rfl, h3, h4⟩ := hv
  exact ident_grams hdp hun (gram_key h1 h2) (gram_key h3 h4) ret C
abbrev gramSeqs (w : World) : Seqs PySem.Challenge.rw_br0030_02.row.prog w (List Str) := listSeqs w gramIt gram_eq gram_sk (ident_gram_on w)

theorem selfNews {g h : Heap} {L x d C a : Addr} {od : Obj} {sl : Array (Option Value)} {news : List (Addr × Obj)} {name : Str} {scope : Scope} {cd : Value} (N : News g L h news) (h1 : (x, (⟨.ref C, some d, .plain, sl⟩ : Obj)) ∈ news) (h2 : (d, od) ∈ news) :
    SelfAt [envOf name scope L a cd] h x ⟨.ref C, some d, .plain, sl⟩ C od := by
  have fa : ∀ b, b ∈ fAdr [envOf name scope L a cd] → b = L := fun b hb => by
    rcases kts_mem hb with z | z
    · exact z
    · cases z
  refine ⟨InstAt.of_news N h1 h2, fun q => (N _ h1).2.1 (fa _ q), fun dx e q => ?_⟩
  simp only [Option.some.injEq] at e
  subst e
  exact (N _ h2).2.1 (fa _ q)

section
variable {w : World} {self : Addr} {ox : Obj} {h1 h2 h3 : Int} {t1 t2 t3 : Tok} {e : Value} {nd : Nat} {h : Heap} {x y : Str} {tx ty : Tok}

theorem gets_rows1 {tq : Tok} {α : Type} [DecidableEq α] (R : Seqs PySem.Challenge.rw_br0030_02.row.prog w α) {a b : Value} {xs ys : List α} (ha : R.Row h a xs) (hb : R.Row h b ys) :
    GetsUp R self ox (selfD h1 h2 h3 t1 t2 t3 (.int 1 tq) e nd) a b xs ys h := by
  intro outer g k I dp un gd s Q E env kk hdp hun C ret
  refine gets_one (by omega) (instUp I.inst kk) (fun l n h' tk' kk2 hn hl => ?_) C
  have k3 := SK.trans k (SK.trans (SK.of_keeps kk) (SK.of_keeps kk2))
  exact ret a b l n h' tk' kk2 hn hl (R.skR k3 ha) (R.skR k3 hb)

theorem words_small {x : Str} (hx : x.length ≤ 20) (hl : LawStr x) : (Txt.words x).length ≤ 21 := by
  rw [← words_eq hl.space]
  have h1 := List.length_filter_le (fun z => !decide (z = Str.empty)) (wfold x x.length)
  have h2 := (wfold_len x x.length (Nat.le_refl _)).2
  omega
theorem gets_words_up (hx : x.length ≤ 20) (hy : y.length ≤ 20) (hlx : LawStr x) (hly : LawStr y) :
    GetsUp (wordSeqs w) self ox (selfD h1 h2 h3 t1 t2 t3 .none e nd) (.str x tx) (.str y ty) (Txt.words x) (Txt.words y) h := by
  intro outer g k I dp un gd s Q E env kk hdp hun C ret
  exact gets_words (by omega) hx hy (instUp I.inst kk) (fun l a b n h' tk' kk2 hn hl ha hb => ret (.ref a) (.ref b) l n h' tk' kk2 hn hl ⟨a, rfl, ha, by have := words_small hx hlx; omega⟩ ⟨b, rfl, hb, by have := words_small hy hly; omega⟩) C
theorem gets_grams_up {tq : Tok} {sz : Int} (hx : x.length ≤ 20) (hy : y.length ≤ 20) (hz : sz = 2 ∨ sz = 3) :
    GetsUp (gramSeqs w) self ox (selfD h1 h2 h3 t1 t2 t3 (.int sz tq) e nd) (.str x tx) (.str y ty) ((itemsOf x sz.toNat).map signs) ((itemsOf y sz.toNat).map signs) h := by
  intro outer g k I dp un gd s Q E env kk hdp hun C ret
  exact gets_grams (by omega) hx hy hz (instUp I.inst kk) (fun l a b n h' tk' kk2 hn hl ha hb => ret (.ref a) (.ref b) l n h' tk' kk2 hn hl ⟨a, rfl, ha, by rw [List.length_map, itemsOf_length]; omega⟩ ⟨b, rfl, hb, by rw [List.length_map, itemsOf_length]; omega⟩) C
end

def unitsOf (x : Str) (sz : Int) : List Str := if sz = 0 then Txt.words x else itemsOf x sz.toNat
theorem units_small {x : Str} (hx : x.length ≤ 19) (hl : LawStr x) (sz : Int) : (unitsOf x sz).length ≤ 20 := by
  unfold unitsOf
  split
  · rw [← words_eq hl.space]
    have h1 := List.length_filter_le (fun z => !decide (z = Str.empty)) (wfold x x.length)
    have h2 := (wfold_len x x.length (Nat.le_refl _)).2
    omega
  · rw [itemsOf_length]; omega
def QVal (q : Value) (sz : Int) : Prop := (sz = 0 ∧ q = .none) ∨ ((sz = 1 ∨ sz = 2 ∨ sz = 3) ∧ ∃ t, q = .int sz t)

theorem text_row (w : World) {h : Heap} {x : Str} {t : Tok} (hx : x.length < 1000) : (textSeqs w).Row h (.str x t) (signs x) := ⟨x, t, rfl, rfl, hx⟩

theorem distance_any {w : World} {dp un : Nat} {gd : Option (List Code)} {outer : List Env} {s : Shared} {Q E : Value → Shared → Prop}
    {self : Addr} {ox : Obj} {h1 h2 h3 : Int} {t1 t2 t3 : Tok} {q e : Value} {nd : Nat} {x y : Str} {tx ty : Tok} {sz : Int} (hox : ox.data = .plain) (hdp : dp + 9 < recursionLimit) (hun : un + 500 < cLine) 
    (hs : SelfAt outer s.heap self ox 189 (selfD h1 h2 h3 t1 t2 t3 q e nd)) (hq : QVal q sz) (hx : x.length ≤ 19) (hy : y.length ≤ 19) (hlx : LawStr x) (hly : LawStr y)
    (ret : ∀ t h' tk', TurnTo outer s.heap h' → Q (.int (lev (unitsOf x sz) (unitsOf y sz) : Nat) t) { s with heap := h', toks := tk' }) 
    (C : Ctx (hd.heap_39 w.params) hd.view_39 (looseW hd.view_39 [Str.ofString "Base", Str.ofString "Levenshtein"]) outer s.heap) : wpAny (model PySem.Challenge.rw_br0030_02.row.prog w) (AA dp un gd outer) (call (.ref 65) [.ref self, .str x tx, .str y ty]) Q E s := by
  rcases hq with ⟨rfl, rfl⟩ | ⟨hz, t, rfl⟩
  · exact distance_ok (wordSeqs w) hox hdp hun hs (gets_words_up (by omega) (by omega) hlx hly) ret C
  · have e0 : ∀ z : Str, unitsOf z sz = itemsOf z sz.toNat := fun z => by unfold unitsOf; rw [if_neg (by omega)]
    rw [e0, e0] at ret
    rcases hz with rfl | hz
    · have e1 : (1 : Int).toNat = 1 := rfl
      rw [e1, ← signs_one, ← signs_one] at ret
      exact distance_ok (textSeqs w) hox hdp hun hs (gets_rows1 (textSeqs w) (text_row w (by omega)) (text_row w (by omega))) ret C
    · rw [← lev_grams] at ret
      exact distance_ok (gramSeqs w) hox hdp hun hs (gets_grams_up (by omega) (by omega) hz) ret C

theorem similarity_any {w : World} {dp un : Nat} {gd : Option (List Code)} {outer : List Env} {s : Shared} {Q E : Value → Shared → Prop}
    {self : Addr} {ox : Obj} {h1 h2 h3 : Int} {t1 t2 t3 : Tok} {q e : Value} {nd : Nat} {x y : Str} {tx ty : Tok} {sz : Int} (hox : ox.data = .plain) (hdp : dp + 12 < recursionLimit) (hun : un + 600 < cLine) 
    (hs : SelfAt outer s.heap self ox 189 (selfD h1 h2 h3 t1 t2 t3 q e nd)) (hq : QVal q sz) (hx : x.length ≤ 19) (hy : y.length ≤ 19) (hlx : LawStr x) (hly : LawStr y)
    (ret : ∀ t h' tk', TurnTo outer s.heap h' → Q (.int ((max x.length y.length : Nat) - (lev (unitsOf x sz) (unitsOf y sz) : Nat)) t) { s with heap := h', toks := tk' }) 
    (C : Ctx (hd.heap_39 w.params) hd.view_39 (looseW hd.view_39 [Str.ofString "Base", Str.ofString "Levenshtein"]) outer s.heap) : wpAny (model PySem.Challenge.rw_br0030_02.row.prog w) (AA dp un gd outer) (call (.ref 72) [.ref self, .str x tx, .str y ty]) Q E s := by
  rw [← signs_length x, ← signs_length y] at ret
  rcases hq with ⟨rfl, rfl⟩ | ⟨hz, t, rfl⟩
  · exact similarity_ok (wordSeqs w) (textSeqs w) hox hdp hun hs (gets_words_up (by omega) (by omega) hlx hly) (text_row w (by omega)) (text_row w (by omega)) ret C
  · have e0 : ∀ z : Str, unitsOf z sz = itemsOf z sz.toNat := fun z => by unfold unitsOf; rw [if_neg (by omega)]
    rw [e0, e0] at ret
    rcases hz with rfl | hz
    · have e1 : (1 : Int).toNat = 1 := rfl
      rw [e1, ← signs_one, ← signs_one] at ret
      exact similarity_ok (textSeqs w) (textSeqs w) hox hdp hun hs (gets_rows1 (textSeqs w) (text_row w (by omega)) (text_row w (by omega))) (text_row w (by omega)) (text_row w (by omega)) ret C
    · rw [← lev_grams] at ret
      exact similarity_ok (gramSeqs w) (textSeqs w) hox hdp hun hs (gets_grams_up (by omega) (by omega) hz) (text_row w (by omega)) (text_row w (by omega)) ret C

theorem items_any {w : World} {dp un : Nat} {gd : Option (List Code)} {outer : List Env} {s : Shared} {Q E : Value → Shared → Prop} {x : Str} {t1 t2 : Tok} {sz : Int}
    (hdp : dp + 3 < recursionLimit) (hx : x.length ≤ 19) (hl : LawStr x) (h0 : 0 ≤ sz) (h1 : sz ≤ 3)
    (ret : ∀ l (vs : List Value) n h' tk', TurnTo outer s.heap h' → s.heap.get? l = none → h'.get? l = some (W.listOf vs.toArray n) → Each (strIt {}) vs (unitsOf x sz) → Q (.ref l) { s with heap := h', toks := tk' })
    (C : Ctx (hd.heap_39 w.params) hd.view_39 (looseW hd.view_39 [Str.ofString "Base", Str.ofString "Levenshtein"]) outer s.heap) : wpAny (model PySem.Challenge.rw_br0030_02.row.prog w) (AA dp un gd outer) (call (.ref 196) [.str x t1, .int sz t2]) Q E s := by
  by_cases hz : sz = 0
  · subst hz
    refine items_zero hdp (by omega) (fun l vs n h' tk' tt hn hl2 he => ret l vs n h' tk' tt hn hl2 ?_) C
    rw [words_eq hl.space] at he
    exact he
  · refine items_pos hdp (by omega) (by omega) h1 (fun l vs n h' tk' tt hn hl2 hlen he => ret l vs n h' tk' tt hn hl2 ?_) C
    unfold unitsOf
    rw [if_neg hz]
    refine ⟨by rw [hlen, itemsOf_length]; omega, fun i v z hv hz2 => ?_⟩
    obtain ⟨t, rfl⟩ := he i v hv
    obtain ⟨rfl, hi⟩ := itemsOf_get x hz2
    refine ⟨t, ?_⟩
    have e2 : (i : Int) + sz = (i : Int) + (sz.toNat : Int) := by omega
    rw [e2, slice_cut x (by omega)]
end Mine
end

section
namespace Mine
def SizePost (g : Heap) (L : Addr) (m : Str → Option Value) (s₁ : Shared) (f : Flow) (s' : Shared) : Prop :=
  f = .next ∧ ∃ h' tk sz t, s' = { s₁ with heap := h', toks := tk } ∧ Fr g L h' (fun y => if y = Str.ofString "size" then some (.int sz t) else m y) ∧ 0 ≤ sz ∧ sz ≤ 3

theorem law_empty : LawStr (Str.ofString "") := fun c hc => by rw [KWk.none_list] at hc; cases hc
theorem start_ok : LawStr (Str.ofString "") ∧ LawStr (Str.ofString "") ∧ (Str.ofString "").length + (Str.ofString "").length ≤ 0 := ⟨law_empty, law_empty, by decide⟩
theorem law_app {x : Str} (h : LawStr x) {c : Nat} (hc : c = 97 ∨ c = 98 ∨ c = 99 ∨ c = 32) : LawStr (x ++ ⟨#[c]⟩) := fun k hk => by
  rw [Str.cps_append, Array.toList_append] at hk
  rcases List.mem_append.mp hk with hk | hk
  · exact h k hk
  · have : k = c := by simpa using hk
    rw [this]; exact hc
theorem law_signs : ∀ k : Nat, k < 6 → ∃ c, (Str.ofString "abcab ").cps[k]? = some c ∧ (c = 97 ∨ c = 98 ∨ c = 99 ∨ c = 32) := by decide +kernel
theorem sign_at {prog : Program} {w : World} {A : Around} {E : Value → Shared → Prop} {s : Shared} {value slice : PySem.Expr} {k : Int} {t tx : Tok} {Q : Value → Shared → Prop} (h0 : 0 ≤ k) (h1 : k < 6)
    (h : ∀ c t tk, (c = 97 ∨ c = 98 ∨ c = 99 ∨ c = 32) → Q (.str ⟨#[c]⟩ t) { s with toks := tk })
    (hs : subscripted slice false (.str (Str.ofString "abcab ") tx) (.int k t) = operate [.str (Str.ofString "abcab ") tx, .int k t] (getItem (.str (Str.ofString "abcab ") tx) (.int k t)) := by with_unfolding_all rfl) (hg : ∀ r, letTemporaryGo value (.str (Str.ofString "abcab ") tx) r = pure () := by intro _; with_unfolding_all rfl) :
    wpAny (model prog w) A (subscriptTail value slice (.str (Str.ofString "abcab ") tx) (.int k t)) Q E s := by
  obtain ⟨c, hc, hl⟩ := law_signs k.toNat (by omega)
  refine subscriptTail_builtin (typeIs_str s _ tx) PySem.F.slot_str_getitem.lookup (P.getItem_str (c := c) (by simp; omega) ?_ (h c _ _ hl)) hs hg
  have e0 : (Str.ofString "abcab ").length = 6 := by decide +kernel
  have e1 : seqIndex? k (Str.ofString "abcab ").length = some k.toNat := by
    rw [e0]
    unfold seqIndex?
    split <;> simp <;> omega
  rw [e1]
  simpa using hc

theorem newBehind {g h h' : Heap} {L a l : Addr} {o : Obj} {m : Str → Option Value} {name : Str} {scope : Scope} {cd : Value} {news : List (Addr × Obj)} (F : Fr g L h m) (N : News g L h news) (t : TurnTo [envOf name scope L a cd] h h') (hn : h.get? l = none) (hl : h'.get? l = some o) :
    Fr g L h' m ∧ News g L h' ((l, o) :: news) := by
  obtain ⟨F', N'⟩ := after_call0 F N t
  refine ⟨F', fun p hp => ?_⟩
  rcases List.mem_cons.mp hp with rfl | hp
  · refine ⟨hl, fun e => ?_, ?_⟩
    · obtain ⟨o', es, ep, ho, _⟩ := F.ns
      rw [← e] at ho; dsimp only at ho; rw [hn] at ho; cases ho
    · show g.get? l = none
      cases q : g.get? l with
      | none => rfl
      | some o' => exact absurd (hn.symm.trans (F.keep _ _ q)) (by simp)
  · exact N' p hp
theorem words_row {w : World} {g h : Heap} {L l : Addr} {news : List (Addr × Obj)} {vs : List Value} {n : Nat} {xs : List Str} (N : News g L h news) (hm : (l, W.listOf vs.toArray n) ∈ news) (hv : Each (strIt {}) vs xs) (hx : xs.length ≤ 20) : (wordSeqs w).Row h (.ref l) xs :=
  ⟨l, rfl, ⟨vs, PySem.IsL.isList (n := n) (N _ hm).1, hv.1, fun i v z a b => hv.2 i v z a b⟩, by omega⟩

def MeasPost (g : Heap) (L : Addr) (m : Str → Option Value) (s₁ : Shared) (sz : Int) (f : Flow) (s' : Shared) : Prop :=
  f = .next ∧ ∃ h' tk q x d sl n h1 h2 h3 t1 t2 t3 e, s' = { s₁ with heap := h', toks := tk } ∧ Fr g L h' (fun y => if y = Str.ofString "measure" then some (.ref x) else m y) ∧
    News g L h' [(x, (⟨.ref 189, some d, .plain, sl⟩ : Obj)), (d, selfD h1 h2 h3 t1 t2 t3 q e n)] ∧ QVal q sz

def IterPost (g : Heap) (L : Addr) (m : Str → Option Value) (s₁ : Shared) (tx : Addr) (ox : Obj) (xv : Value) (s' : Shared) : Prop :=
  ∃ l vs ns k h' tk, xv = .ref l ∧ s' = { s₁ with heap := h', toks := tk } ∧ Fr g L h' m ∧ News g L h' [(l, W.listOf (List.toArray vs) k), (tx, ox)] ∧ IntsAre vs ns ∧ ns.length ≤ 14 ∧ (@Ne Nat l tx)

local macro_rules | `(tactic| walk_at "getAttr ref") => `(tactic| (k_here; k_dflt (refine' getAttr_sm ?k1 ?k2 ?k4 ?k5 ?k6 ?k7 ?k9 ?k10 ?k11 ?k12 ?k13 ?k14 ?_; (case k1 => k_asm); (case k2 => k_asm); (case k4 => k_inst); (case k5 => k_is); (case k6 => k_is); (case k7 => k_is); (case k9 => k_is); (case k10 => k_is); (case k11 => decide +kernel); (case k12 => k_get); (case k13 => k_is); (case k14 => k_handed); k_whole)))
local macro_rules | `(tactic| k_steps) => `(tactic| repeat' ((fail_if_success (with_reducible show wpAny _ _ (exec (Stmt.Assign [Expr.Subscript _ _ _] _ _) _) _ _ _)); (fail_if_success (with_reducible show wpAny _ _ (subscriptTail _ _ (Value.str _ _) (Value.int _ _)) _ _ _)); (fail_if_success (with_reducible show wpAny _ _ (call (Value.ref 196) _) _ _ _)); (fail_if_success (with_reducible show wpAny _ _ (call (Value.ref 201) _) _ _ _)); (fail_if_success (with_reducible show wpAny _ _ (call (Value.ref 65) _) _ _ _)); (fail_if_success (with_reducible show wpAny _ _ (call (Value.ref 72) _) _ _ _)); (fail_if_success (with_reducible show wpAny _ _ (exec (Stmt.For _ _ _ _ _) _) _ _ _)); (fail_if_success (with_reducible show wpAny _ _ (exec (Stmt.Assign [Expr.Name (Str.ofString "size") _] _ _) _) _ _ _)); (fail_if_success (with_reducible show wpAny _ _ (exec (Stmt.Assign [Expr.Name (Str.ofString "measure") _] _ _) _) _ _ _)); (first | (k_unfold; (try dsimp only)) | (k_end; wrow_close) | walk1 | (dsimp only; walk1) | (leave1; walk_say "STEP leave1"; try dsimp only) | fail "no step")))
set_option maxHeartbeats 8000000 in
theorem law02 : PySem.Challenge.rw_br0030_02.Holds := hd (by
  w_strict (
  k_go0; (all_goals try k_fold)
  rename_i w s₀ s₁ mg mb G Y fa o pm doc kV ho hg KX X V GL T B TE TW a1 a2 M a3 a4 hcd ns hs0 hlay0 hL1 hr1 hl2 w4 w3 sc vs w00 hL ra w1 r0 hI hr hc1 hc2 K0 hD h₁ F N0
  have hn63 : ns.length ≤ 63 := by omega
  clear hcd hD
  k_steps
  refine wpAny_mono (Q := SizePost s₁.heap s₁.heap.objs.size (fun x => List.lookup x [(Str.ofString "script", Value.ref sc)].reverse) s₁) ?_ (fun fl s' hq => ?_) (fun _ _ e => e)
  · walk1
    k_steps
    · rename Fr _ _ _ _ => F
      exact ⟨rfl, _, _, _, _, rfl, F, Int.fmod_nonneg_of_pos _ (by decide), by have := Int.fmod_lt_of_pos (ns.getD (Int.toNat 0) 0) (show (0 : Int) < 4 by decide); omega⟩
    · rename Fr _ _ _ _ => F
      exact ⟨rfl, _, _, _, _, rfl, F, by decide, by decide⟩
  clear F N0
  obtain ⟨rfl, h2, tk2, sz, tsz, rfl, F, hz0, hz1⟩ := hq
  have N : News s₁.heap s₁.heap.objs.size h2 [] := fun _ hp => nomatch hp
  dsimp only at F N ⊢
  k_steps
  rename Fr _ _ _ _ => F
  rename News _ _ _ _ => N
  rename_i tx _ _ _
  refine For_invVF F rfl rfl ?_
  refine wpAny_mono (Q := IterPost s₁.heap s₁.heap.objs.size (fun y => if y = Str.ofString "texts" then some (.ref tx) else if y = Str.ofString "size" then some (.int sz tsz) else List.lookup y [(Str.ofString "script", Value.ref sc)].reverse) s₁ tx (W.listOf #[.str (Str.ofString "") tk2, .str (Str.ofString "") (tk2 + 1)] 0)) ?_ (fun xv s' hq => ?_) (fun _ _ e => e)
  · k_steps
    · rename Fr _ _ _ _ => F
      rename News _ _ _ _ => N
      rename IntsAre _ (List.take _ _) => hI1
      rename (tx < _) => l1
      exact ⟨_, _, _, _, _, _, rfl, rfl, F, N, hI1, by omega, Nat.ne_of_gt l1⟩
    · rename Fr _ _ _ _ => F
      rename News _ _ _ _ => N
      rename (_ < _) ∧ (tx < _) => l1
      exact ⟨_, _, [0, 2, 4, 3, 5, 1], _, _, _, rfl, rfl, F, fun p hp => N p (by
        rcases List.mem_cons.mp hp with rfl | hp
        · exact .head _
        · exact .tail _ (.tail _ hp)), by repeat constructor, by decide, Nat.ne_of_gt l1.2⟩
  clear F N
  obtain ⟨l, vs2, ns2, k2, h3, tk3, rfl, rfl, F, N, hI2, hn2, hltx⟩ := hq
  refine list_loop (s := { s₁ with heap := h3, toks := tk3 }) (σ := Str × Str × Tok × Tok) (fun c => [(l, W.listOf vs2.toArray k2), (tx, W.listOf #[.str c.1 c.2.2.1, .str c.2.1 c.2.2.2] 0)]) (fun _ => []) (fun i c => LawStr c.1 ∧ LawStr c.2.1 ∧ c.1.length + c.2.1.length ≤ i)
    [Str.ofString "place"] (Str.ofString "", Str.ofString "", tk2, tk2 + 1) rfl F N (fun _ => .head _) start_ok (fun _ h => nomatch h) ?_ ?_
  · clear F N
    rintro ⟨one, two, t1, t2⟩ i v u I io h4 tk4 hv ⟨hl1, hl2, hlen⟩ F N hne
    dsimp only [kstB] at hl1 hl2 hlen F N hne ⊢
    obtain ⟨n, tn, rfl⟩ : ∃ n t, v = .int n t := by
      have e : vs2[i]? = some v := by simpa using hv
      have hi : i < ns2.length := by rw [← hI2.length]; exact (List.getElem?_eq_some_iff.mp e).1
      obtain ⟨t, e2⟩ := hI2.get i ns2[i] (List.getElem?_eq_getElem hi)
      rw [e2] at e
      exact ⟨_, t, (Option.some.inj e).symm⟩
    have hi14 : i < 14 := by
      have := (Array.getElem?_eq_some_iff.mp hv).1
      rw [List.size_toArray, hI2.length] at this
      omega
    have hp0 : 0 ≤ n.fmod 2 := Int.fmod_nonneg_of_pos n (by decide)
    have hp1 : n.fmod 2 < 2 := Int.fmod_lt_of_pos n (by decide)
    have hk0 : 0 ≤ (n.fdiv 2).fmod 6 := Int.fmod_nonneg_of_pos _ (by decide)
    have hk1 : (n.fdiv 2).fmod 6 < 6 := Int.fmod_lt_of_pos _ (by decide)
    have q1 : @Ne Nat l I := hne _ (.head _)
    have q2 : @Ne Nat tx I := hne _ (.tail _ (.head _))
    k_steps
    rename Fr _ _ _ _ => F
    rename News _ _ _ _ => N
    have hp : n.fmod 2 = 0 ∨ n.fmod 2 = 1 := by omega
    rcases hp with hp | hp
    · rw [hp] at F
      walk1
      k_steps
      refine sign_at hk0 hk1 ?_
      intro c tc tk5 hc
      dsimp only
      have hz : (⟨#[c]⟩ : Str).length = 1 := rfl
      k_steps
      rename Fr _ _ _ _ => F
      rename News _ _ _ _ => N
      refine On.intro (one ++ ⟨#[c]⟩, two, _, t2) F N (.head _) (fun p hp => .tail _ hp) ?_ ⟨law_app hl1 hc, hl2, by rw [Str.length_append]; dsimp only; omega⟩ (fun _ h => nomatch h) ?_
      · exact List.forall_mem_cons.mpr ⟨q1, List.forall_mem_singleton.mpr q2⟩
      · kst_same
    · rw [hp] at F
      walk1
      k_steps
      refine sign_at hk0 hk1 ?_
      intro c tc tk5 hc
      dsimp only
      have hz : (⟨#[c]⟩ : Str).length = 1 := rfl
      k_steps
      rename Fr _ _ _ _ => F
      rename News _ _ _ _ => N
      refine On.intro (one, two ++ ⟨#[c]⟩, t1, _) F N (.head _) (fun p hp => .tail _ hp) ?_ ⟨hl1, law_app hl2 hc, by rw [Str.length_append]; dsimp only; omega⟩ (fun _ h => nomatch h) ?_
      · exact List.forall_mem_cons.mpr ⟨q1, List.forall_mem_singleton.mpr q2⟩
      · kst_same
  · clear F N
    rintro ⟨one, two, t1, t2⟩ u h4 tk4 ⟨hl1, hl2, hlen⟩ F N
    dsimp only [kstB] at hl1 hl2 hlen F N ⊢
    rw [List.size_toArray, hI2.length] at hlen
    k_steps
    rename Fr s₁.heap s₁.heap.objs.size _ _ => F
    rename_i h5 N5
    clear N5
    have N : News s₁.heap s₁.heap.objs.size h5 [] := fun _ hp => nomatch hp
    refine wpAny_mono (Q := MeasPost s₁.heap s₁.heap.objs.size (fun y => if y = Str.ofString "two" then some (.str two t2) else if y = Str.ofString "one" then some (.str one t1) else if y = Str.ofString "number" then u y else if [Str.ofString "place"].contains y = true then u y else if y = Str.ofString "texts" then some (.ref tx) else if y = Str.ofString "size" then some (.int sz tsz) else List.lookup y [(Str.ofString "script", Value.ref sc)].reverse) s₁ sz) ?_ (fun fl s' hq => ?_) (fun _ _ e => e)
    · walk1
      k_steps
      · rename Fr _ _ _ _ => F
        rename News _ _ _ _ => N
        exact ⟨rfl, _, _, _, _, _, _, _, _, _, _, _, _, _, _, rfl, F, N, .inr ⟨by omega, _, rfl⟩⟩
      · rename Fr _ _ _ _ => F
        rename News _ _ _ _ => N
        exact ⟨rfl, _, _, _, _, _, _, _, _, _, _, _, _, _, _, rfl, F, N, .inl ⟨by omega, rfl⟩⟩
    clear F N
    obtain ⟨rfl, h6, tk6, q, x, d, sl, n, hh1, hh2, hh3, tt1, tt2, tt3, e, rfl, F, N, hQ⟩ := hq
    dsimp only at F N ⊢
    have hb1 : one.length ≤ 19 := by omega
    have hb2 : two.length ≤ 19 := by omega
    k_steps
    rename Fr _ _ _ _ => F
    rename News _ _ _ _ => N
    refine items_any (outer := [_]) (by decide +kernel) hb1 hl1 hz0 hz1 ?_ (Ctx.push K0 KX T (fun _ hb => nomatch hb) F rfl)
    intro la va na h7 tk7 tt hn hl he1
    have z := newBehind F N tt hn hl
    clear F N tt hn hl
    have F := z.1
    have N := z.2
    clear z
    dsimp only at F N ⊢
    k_steps
    rename Fr _ _ _ _ => F
    rename News _ _ _ _ => N
    refine items_any (outer := [_]) (by decide +kernel) hb2 hl2 hz0 hz1 ?_ (Ctx.push K0 KX T (fun _ hb => nomatch hb) F rfl)
    intro lb vb nb h8 tk8 tt hn hl he2
    have z := newBehind F N tt hn hl
    clear F N tt hn hl
    have F := z.1
    have N := z.2
    clear z
    dsimp only at F N ⊢
    k_steps
    rename Fr _ _ _ _ => F
    rename News _ _ _ _ => N
    refine edits_ok (outer := [_]) (xs := unitsOf one sz) (ys := unitsOf two sz) (by decide +kernel) (units_small hb1 hl1 sz) (units_small hb2 hl2 sz) (words_row N (by k_mem) he1 (units_small hb1 hl1 sz)) (words_row N (by k_mem) he2 (units_small hb2 hl2 sz)) ?_ (Ctx.push K0 KX T (fun _ hb => nomatch hb) F rfl)
    intro te h9 tk9 tt
    have z := after_call0 F N tt
    clear F N tt
    have F := z.1
    have N : News s₁.heap s₁.heap.objs.size h9 [(x, (⟨.ref 189, some d, .plain, sl⟩ : Obj)), (d, selfD hh1 hh2 hh3 tt1 tt2 tt3 q e n)] := fun p hp => z.2 p (.tail _ (.tail _ hp))
    clear z he1 he2
    dsimp only at F N ⊢
    generalize hgd : lev (unitsOf one sz) (unitsOf two sz) = due at F ⊢
    k_steps
    rename Fr _ _ _ _ => F
    rename News _ _ _ _ => N
    refine distance_any (outer := [_]) (sz := sz) rfl (by decide +kernel) (by decide +kernel) (selfNews N (by k_mem) (by k_mem)) hQ hb1 hb2 hl1 hl2 ?_ (Ctx.push K0 KX T (fun _ hb => nomatch hb) F rfl)
    intro td h10 tk10 tt
    have N' := (after_call0 F N tt).2
    replace F := (after_call0 F (news := []) (fun _ hp => nomatch hp) tt).1
    clear N tt
    rename News _ _ _ _ => N
    dsimp only at F N ⊢
    rw [hgd]
    k_steps
    rename Fr _ _ _ _ => F
    rename News _ _ _ _ => N
    refine distance_any (outer := [_]) (sz := sz) rfl (by decide +kernel) (by decide +kernel) (selfNews N (by k_mem) (by k_mem)) hQ hb2 hb1 hl2 hl1 ?_ (Ctx.push K0 KX T (fun _ hb => nomatch hb) F rfl)
    intro td2 h11 tk11 tt
    have N' := (after_call0 F N tt).2
    replace F := (after_call0 F (news := []) (fun _ hp => nomatch hp) tt).1
    clear N tt
    rename News _ _ _ _ => N
    dsimp only at F N ⊢
    rw [lev_symm, hgd]
    k_steps
    rename Fr _ _ _ _ => F
    rename News _ _ _ _ => N
    refine similarity_any (outer := [_]) (sz := sz) rfl (by decide +kernel) (by decide +kernel) (selfNews N (by k_mem) (by k_mem)) hQ hb1 hb2 hl1 hl2 ?_ (Ctx.push K0 KX T (fun _ hb => nomatch hb) F rfl)
    intro td3 h12 tk12 tt
    have N' := (after_call0 F N tt).2
    replace F := (after_call0 F (news := []) (fun _ hp => nomatch hp) tt).1
    clear N tt
    rename News _ _ _ _ => N
    dsimp only at F N ⊢
    rw [hgd]
    k_steps))
end Mine
end

theorem PySem.Challenge.cw_br0030_02_holds : PySem.Challenge.rw_br0030_02.Holds := by
  exact Mine.law02
