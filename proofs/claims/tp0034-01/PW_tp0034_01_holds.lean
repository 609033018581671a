import PyProof.Rows.All
import Wide.All
import OpenK.AllK
import Wide.FinOn
import KE.KxBytes
import KE.KItem
import KE.KBytesUnr
import KE.KLcTest
import KE.KPairComp
import PySem.Challenge.RW_tp0034_01
open PySem PySem.W PyProof.Rows
set_option Elab.async false
set_option compiler.extract_closed false
section
open PySem PySem.W PySem.Calls PyProof.Rows
set_option maxRecDepth 100000
namespace Mine

/-- the machine halts from here, and R holds of how -/
noncomputable def Halts (M : Model) (R : Result → Shared → Prop) (s : Shared) (t : Thread) : Prop :=
  ∃ n r s', M.runN n s t = .halted (outcomeOf r) s' ∧ R r s'

theorem halts_go {M : Model} {R : Result → Shared → Prop} {s s' : Shared} {t t' : Thread} (h : M.step s t = .go s' t') (k : Halts M R s' t') : Halts M R s t := by
  obtain ⟨n, r, s₂, hn, hr⟩ := k
  exact ⟨n + 1, r, s₂, by rw [runN_succ, h]; exact hn, hr⟩

noncomputable def stepQ (p : Program) (w : World) (S : SharedT) (t : Thread) : Option (SharedT × Thread) :=
  match t.loud with
  | true => none
  | false => match t with
    | ⟨.pure (.again c), _, pos, stack⟩ => some (S, ⟨denote treeTable c, c, pos, stack⟩)
    | ⟨.call c h g l k, code, pos, stack⟩ => some (S, ⟨denote treeTable c, c, pos, .ret k h g l code pos [] :: stack⟩)
    | t => stepT (denote treeTable) p w S t

theorem stepQ_spec {p : Program} {w : World} {S S' : SharedT} {t t' : Thread} (h : stepQ p w S t = some (S', t')) : (model p w).step S.abs t = .go S'.abs t' := by
  unfold stepQ at h
  cases hl : t.loud with
  | true => rw [hl] at h; cases h
  | false =>
    rw [hl] at h
    rw [Model.step_quiet _ hl]
    show stepK (denote table) p w S.abs t = _
    rw [table_eq_tree]
    obtain ⟨cur, code, pos, stack⟩ := t
    cases cur with
    | pure f =>
      cases f with
      | again c => cases h; rfl
      | done f => exact stepT_spec h
    | call c hd g l k => cases h; rfl
    | _ => exact stepT_spec h

noncomputable def goQ (p : Program) (w : World) : Nat → SharedT → Thread → Option (SharedT × Thread)
  | 0, S, t => some (S, t)
  | n + 1, S, t => match stepQ p w S t with
    | some (S', t') => goQ p w n S' t'
    | none => none

theorem goQ_spec {p : Program} {w : World} {R : Result → Shared → Prop} : ∀ {n : Nat} {S S' : SharedT} {t t' : Thread}, goQ p w n S t = some (S', t') →
    Halts (model p w) R S'.abs t' → Halts (model p w) R S.abs t
  | 0, _, _, _, _, h, k => by cases h; exact k
  | n + 1, S, S', t, t', h, k => by
    unfold goQ at h
    cases hs : stepQ p w S t with
    | none => rw [hs] at h; cases h
    | some r =>
      obtain ⟨S₂, t₂⟩ := r
      rw [hs] at h
      exact halts_go (stepQ_spec hs) (goQ_spec h k)

theorem wp_wrap {α β : Type} (M : Model) (Γ : Ctx) (x : Sem α) (K : α → Sem β) (H : Value → Sem β) (gd : Bool → Bool) (lv : List Value → List Value) (Q : β → Pos → Shared → Prop) (E : Value → Pos → Shared → Prop) (p : Pos) (s : Shared) :
    Sem.wp M Γ (x.wrap K H gd lv) Q E p s = Sem.wp M Γ x (fun a p' s' => Sem.wp M Γ (K a) Q E p' s') (fun e p' s' => Sem.wp M Γ (H e) Q E p' s') p s := by
  induction x generalizing p s <;> simp only [Sem.wrap, Sem.wp, *]

theorem halts_iff_runs {M : Model} {R : Result → Shared → Prop} {s : Shared} {t : Sem Fin} {c : Code} {p : Pos} {st : List Frame} :
    Halts M R s ⟨t, c, p, st⟩ ↔ ∃ r s', Runs M ⟨c, none, none, [], none⟩ p t st s (.ret r) s' ∧ leftWithCleanup s'.gens = false ∧ R r s' := by
  constructor
  · rintro ⟨n, r, s', hn, hr⟩
    obtain ⟨a, b⟩ := halts_iff.mp ⟨n, hn⟩
    exact ⟨r, s', a, b, hr⟩
  · rintro ⟨r, s', a, b, hr⟩
    obtain ⟨n, hn⟩ := halts_iff.mpr ⟨a, b⟩
    exact ⟨n, r, s', hn, hr⟩

/-- one frame below: the tree's own end, then the frame's -/
theorem halts_frame {M : Model} {R : Result → Shared → Prop} {s : Shared} {t : Sem Fin} {c c₁ : Code} {p p₁ : Pos} {k : Result → Sem Fin} {hd : Option Value} {g : Bool} {l kp : List Value} :
    Halts M R s ⟨t, c, p, [.ret k hd g l c₁ p₁ kp]⟩ ↔
    ∃ r₁ s₁, Runs M ((⟨c, none, none, [], none⟩ : Ctx).over [.ret k hd g l c₁ p₁ kp]) p t [] s (.ret r₁) s₁ ∧
      ∃ r s', Runs M ((⟨c, none, none, [], none⟩ : Ctx).goto c₁) p₁ (k r₁) [] s₁ (.ret r) s' ∧ leftWithCleanup s'.gens = false ∧ R r s' := by
  rw [halts_iff_runs]
  constructor
  · rintro ⟨r, s', a, b, hr⟩
    cases a with
    | segRet a₁ a₂ => exact ⟨_, _, a₁, _, _, a₂, b, hr⟩
    | segSuspGen hs _ _ _ => cases hs
  · rintro ⟨r₁, s₁, a₁, r, s', a₂, b, hr⟩
    exact ⟨r, s', .segRet a₁ a₂, b, hr⟩

theorem halts_wrap {α : Type} {M : Model} {A : Around} {R : Result → Shared → Prop} {s : Shared} {x : Sem α} {K : α → Sem Fin} {H : Value → Sem Fin} {gd : Bool → Bool} {lv : List Value → List Value} {c c₁ : Code} {p p₁ : Pos}
    {k : Result → Sem Fin} {hd : Option Value} {g : Bool} {l kp : List Value} {Q : α → Shared → Prop}
    (hin : ((⟨c, none, none, [], none⟩ : Ctx).over [.ret k hd g l c₁ p₁ kp]).In A) (hx : wpAny M A x Q (fun _ _ => False) s)
    (hk : ∀ v s' p', Q v s' → Halts M R s' ⟨K v, c, p', [.ret k hd g l c₁ p₁ kp]⟩) : Halts M R s ⟨x.wrap K H gd lv, c, p, [.ret k hd g l c₁ p₁ kp]⟩ := by
  rw [halts_frame]
  refine (Sem.wp_iff_runs M _ _ (fun r₁ s₁ => ∃ r s', Runs M ((⟨c, none, none, [], none⟩ : Ctx).goto c₁) p₁ (k r₁) [] s₁ (.ret r) s' ∧ leftWithCleanup s'.gens = false ∧ R r s') p s).mp ?_
  rw [wp_wrap]
  refine Sem.wp_mono M _ x (fun v p' s' hq => ?_) (fun _ _ _ h => h.elim) p s (hx _ p hin)
  exact (Sem.wp_iff_runs M _ _ _ p' s').mpr (halts_frame.mp (hk v s' p' hq))

end Mine
end
section
open PySem PySem.W PySem.Calls PyProof.Rows PySem.Spec
set_option maxRecDepth 100000
namespace Mine

section
variable {prog : Program} {w : World} {A : Around} {E : Value → Shared → Prop} {s : Shared}

theorem get_push2 (h : Heap) (a b : Obj) {c : Nat} (hc : c < h.objs.size) : ((h.push a).push b).get? c = h.get? c := by
  rw [Heap.get?_push_ne _ _ _ (by rw [Heap.size_push]; exact Nat.ne_of_lt (Nat.lt_succ_of_lt hc)), Heap.get?_push_ne _ _ _ (Nat.ne_of_lt hc)]

noncomputable def hsz (h : Heap) : Nat := h.objs.size
theorem push2_there (h : Heap) {a b : Obj} (ha : a.isFreed = false) (hb : b.isFreed = false) : (((h.push a).push b).get? h.objs.size).isSome = true ∧ (((h.push a).push b).get? (h.objs.size + 1)).isSome = true := by
  constructor
  · rw [Heap.get?_push_of_some _ (Heap.get?_push_size h ha)]; rfl
  · have := Heap.get?_push_size (h.push a) hb
    rw [Heap.size_push] at this
    rw [this]; rfl

theorem next_list_end {it l : Addr} {i : Nat} {items} {Q : Option Value → Shared → Prop} (hh : A.handled = none)
    (hit : s.heap.IsListIter it l i) (hl : s.heap.IsList l items) (hx : items[i]? = none)
    (hQ : ∀ f o₁ o₂, ((s.heap.update it f).get? it).isSome = true → o₁.isFreed = false → o₂.isFreed = false → Q none { s with heap := ((s.heap.update it f).push o₁).push o₂ }) : wpAny (model prog w) A (pyNext (.ref it)) Q E s := by
  obtain ⟨o, ho, hc, hd⟩ := id hit
  obtain ⟨ol, hol, _, nl, hdl⟩ := hl
  unfold pyNext
  refine wpAny_bind (wpAny_attempt (wpAny_callSpecial?_slot (name := Str.ofString "__next__") hit.typeIs slot_listiter_next
    (wpAny_call_entry slot_listiter_next hit.typeIs entry_listiter_next ?_ (args_listiter_next _))))
  show wpAny _ _ (field (.ref it) 0 >>= _) _ _ s
  refine wpAny_bind (wpAny_field ho hd (x := .ref l) rfl ?_)
  show wpAny _ _ (if (Value.ref l == Value.none) = true then _ else _) _ _ s
  rw [if_neg (show ¬ ((Value.ref l == Value.none) = true) from Bool.false_ne_true)]
  show wpAny _ _ (field (.ref it) 1 >>= _) _ _ s
  refine wpAny_bind (wpAny_field ho hd (x := .int i 0) rfl ?_)
  show wpAny _ _ (seqItems? (.ref l) >>= _) _ _ s
  refine wpAny_bind (wpAny_seqItems hol hdl ?_)
  simp only [Int.toNat_natCast, hx]
  refine wpAny_bind (wpAny_rule (wpAny_bind (wpAny_setField ho hd (by simp) ?_)))
  show wpAny _ _ (newExc (.type "StopIteration") [] >>= _) _ _ _
  refine wpAny_bind ?_
  simp only [newExc, newTuple]
  refine wpAny_bind (wpAny_newObj_type ?_ (by size_fits))
  refine wpAny_bind (m := firstArgMember _ _) (wpAny_of_eq (a := Value.none) (by first | rfl | (simp only [firstArgMember]; rfl)) ?_)
  refine wpAny_newObj_type ?_ (by size_fits)
  simp only [raiseNew]
  refine wpAny_bind (wpAny_handled ?_)
  rw [show A.in1.handled = none from hh]
  refine wpAny_bind (wpAny_pure (wpAny_throw ?_))
  refine wpAny_bind (wpAny_isInstance (T := "StopIteration") (b := true) ⟨_, Heap.get?_push_size _ rfl, rfl⟩ isSubtype_stop ?_)
  exact wpAny_pure (hQ _ _ _ (by rw [Heap.get?_update_self _ ho (Obj.isFreed_of_fields (Obj.data_mapFields hd _))]; rfl) rfl rfl)

theorem next_range_end {it : Addr} {x left step : Int} {Q : Option Value → Shared → Prop} (hh : A.handled = none) (hit : IsRangeIter s.heap it x left step) (hleft : left ≤ 0)
    (hQ : ∀ o₁ o₂, o₁.isFreed = false → o₂.isFreed = false → Q none { s with heap := (s.heap.push o₁).push o₂ }) : wpAny (model prog w) A (pyNext (.ref it)) Q E s := by
  have hT : s.TypeIs (.ref it) "range_iterator" := ⟨_, hit, rfl⟩
  unfold pyNext
  refine wpAny_bind (wpAny_attempt (wpAny_callSpecial?_slot (name := Str.ofString "__next__") hT F.slot_range_iterator_next
    (wpAny_call_entry F.slot_range_iterator_next hT F.entry_range_iterator_next ?_ (F.args_range_iterator_next_1 _))))
  show wpAny _ _ (field (.ref it) 0 >>= _) _ _ s
  refine wpAny_bind (wpAny_field hit rfl (x := rawInt x) rfl ?_)
  show wpAny _ _ (field (.ref it) 1 >>= _) _ _ s
  refine wpAny_bind (wpAny_field hit rfl (x := rawInt left) rfl ?_)
  show wpAny _ _ (field (.ref it) 2 >>= _) _ _ s
  refine wpAny_bind (wpAny_field hit rfl (x := rawInt step) rfl ?_)
  show wpAny _ _ (if left ≤ 0 then _ else _) _ _ s
  rw [if_pos hleft]
  refine wpAny_bind (wpAny_rule ?_)
  refine wpAny_bind ?_
  show wpAny _ _ (newExc (.type "StopIteration") [] >>= _) _ _ _
  refine wpAny_bind ?_
  simp only [newExc, newTuple]
  refine wpAny_bind (wpAny_newObj_type ?_ (by size_fits))
  refine wpAny_bind (m := firstArgMember _ _) (wpAny_of_eq (a := Value.none) (by first | rfl | (simp only [firstArgMember]; rfl)) ?_)
  refine wpAny_newObj_type ?_ (by size_fits)
  simp only [raiseNew]
  refine wpAny_bind (wpAny_handled ?_)
  first | rw [show A.in1.handled = none from hh] | rw [hh]
  refine wpAny_bind (wpAny_pure (wpAny_throw ?_))
  refine wpAny_bind (wpAny_isInstance (T := "StopIteration") (b := true) ⟨_, Heap.get?_push_size _ rfl, rfl⟩ isSubtype_stop ?_)
  exact wpAny_pure (hQ _ _ rfl rfl)
end

section
variable {prog : Program} {w : World} {A : Around} {R : Result → Shared → Prop}

/-- the loop that fills a set out of a list of ints: exact in the heap's size and in the tokens -/
theorem set_loop {l I S : Addr} {items : Array Value} (hh : A.in1.handled = none) (hlI : l ≠ I) (hSI : S ≠ I) (hSl : S ≠ l)
    (val : Nat → Int) (hval : ∀ (i : Nat) (v : Value), items[i]? = some v → ∃ t, v = .int (val i) t) (hb : items.size + 1 < scanBound) :
    ∀ (k i : Nat) (s : Shared), items.size - i = k → i ≤ items.size → s.heap.IsListIter I l i → s.heap.IsList l items →
      s.heap.SetOf (intKind prog w) S (fun k' => (firstMet val i).any (· == k')) (firstMet val i).length →
      (∀ h', h'.objs.size = s.heap.objs.size + 2 → (∀ b, b < s.heap.objs.size → b ≠ S → b ≠ I → h'.get? b = s.heap.get? b) → (h'.get? I).isSome = true → (∀ b, s.heap.objs.size ≤ b → b < s.heap.objs.size + 2 → (h'.get? b).isSome = true) →
        h'.SetOf (intKind prog w) S (fun k' => (firstMet val items.size).any (· == k')) (firstMet val items.size).length → R (.ok (.ret .none)) { s with heap := h', toks := s.toks + k }) →
      codeAny (model prog w) A (.builtin "set.update.loop" ⟨[.ref S, .ref I], []⟩) R s := by
  intro k
  induction k with
  | zero =>
    intro i s hk hi hit hl hS hR
    have hin : i = items.size := by omega
    subst hin
    refine codeAny_builtin F.entry_set_update_loop ?_
    rw [Around.under_plainId F.plain_set_update_loop _]
    show wpAny _ A.in1 (pyNext (.ref I) >>= _) _ _ s
    refine wpAny_bind (next_list_end hh hit hl (by simp) fun f o₁ o₂ hf h₁ h₂ => ?_)
    show wpAny _ A.in1 (ret Value.none) _ _ _
    refine wpAny_pure ?_
    have hg : ∀ b, b < s.heap.objs.size → b ≠ I → (((s.heap.update I f).push o₁).push o₂).get? b = s.heap.get? b := fun b hb1 hb2 => by
      rw [get_push2 _ _ _ (by rw [Heap.size_after_update]; exact hb1)]
      exact Heap.get?_update_other _ _ (Ne.symm hb2)
    obtain ⟨oi, hoi, _⟩ := id hit
    have hIlt : I < s.heap.objs.size := Heap.lt_size hoi
    refine hR _ (by rw [Heap.size_push, Heap.size_push, Heap.size_after_update]) (fun b hb1 _ hb2 => hg b hb1 hb2) (by rw [get_push2 _ _ _ (by rw [Heap.size_after_update]; exact hIlt)]; exact hf) (fun b hb1 hb2 => ?_) ?_
    · have p2 := push2_there (s.heap.update I f) h₁ h₂
      rw [Heap.size_after_update] at p2
      rcases Nat.lt_or_ge b (s.heap.objs.size + 1) with q | q
      · have : b = s.heap.objs.size := by omega
        rw [this]; exact p2.1
      · have : b = s.heap.objs.size + 1 := by omega
        rw [this]; exact p2.2
    obtain ⟨o, es, ep, t, ho, rest⟩ := hS
    exact ⟨o, es, ep, t, (hg S (Heap.lt_size ho) hSI).trans ho, rest⟩
  | succ k ih =>
    intro i s hk hi hit hl hS hR
    have hlt : i < items.size := by omega
    refine codeAny_builtin F.entry_set_update_loop ?_
    rw [Around.under_plainId F.plain_set_update_loop _]
    show wpAny _ A.in1 (pyNext (.ref I) >>= _) _ _ s
    have hxi : items[i]? = some items[i] := by simp [hlt]
    refine wpAny_bind (wpAny_pyNext_list_item hit hl hxi fun h₁ hit₁ hs₁ => ?_)
    obtain ⟨t, ht⟩ := hval i _ hxi
    rw [ht]
    have hS' : h₁.SetOf (intKind prog w) S (fun k' => (firstMet val i).any (· == k')) (firstMet val i).length := by
      obtain ⟨o, es, ep, tb, ho, rest⟩ := hS
      exact ⟨o, es, ep, tb, (hs₁.2 S hSI).trans ho, rest⟩
    show wpAny _ A.in1 (holding [Value.int (val i) t] (setAdd S (.int (val i) t)) >>= _) _ _ _
    refine wpAny_bind (wpAny_holding ?_)
    unfold setAdd
    refine wpAny_holding ?_
    refine wpAny_bind ((intKind prog w).pyHash (k := val i) (intKind_is _ _ _ _) ?_)
    have hroom : (firstMet val i).length + 1 < scanBound := by have := firstMet_length_le val i; omega
    refine wpAny_setAddHashed_of (knd := intKind prog w) (s := { { s with heap := h₁ } with toks := s.toks + 1 }) (intKind_is _ _ _ _) rfl hS' hroom fun h' hsb hS2 => ?_
    have hSi : h'.SetOf (intKind prog w) S (fun k' => (firstMet val (i + 1)).any (· == k')) (firstMet val (i + 1)).length :=
      SetOf_congr hS2 (fun k' => by rw [firstMet_succ, step_any]) (by rw [firstMet_succ, step_length])
    obtain ⟨oit, hoit, hr1⟩ := hit₁
    obtain ⟨ol, hol, hr2⟩ := hl
    refine wpAny_pure ⟨plainId_quiet F.plain_set_update_loop _, ih (i + 1) _ (by omega) hlt ⟨oit, (hsb.2 I (Ne.symm hSI)).trans hoit, hr1⟩ ⟨ol, (hsb.2 l (Ne.symm hSl)).trans ((hs₁.2 l hlI).trans hol), hr2⟩ hSi fun h₂ hz₂ hk₂ hI₂ hN₂ hS₂ => ?_⟩
    have hz : h'.objs.size = s.heap.objs.size := hsb.1.trans hs₁.1
    have := hR h₂ (hz₂.trans (by show h'.objs.size + 2 = _; rw [hz])) (fun b hb1 hb2 hb3 => (hk₂ b (by show b < h'.objs.size; rw [hz]; exact hb1) hb2 hb3).trans ((hsb.2 b hb2).trans (hs₁.2 b hb3))) hI₂ (fun b hb1 hb2 => hN₂ b (by show h'.objs.size ≤ b; rw [hz]; exact hb1) (by show b < h'.objs.size + 2; rw [hz]; exact hb2)) hS₂
    rw [show s.toks + (k + 1) = s.toks + 1 + k by omega] at this
    exact this
end

set_option maxHeartbeats 3200000 in
/-- set(l), l a list of ints: exact in the heap's size and in the tokens -/
theorem call_set {prog : Program} {w : World} {A : Around} {E : Value → Shared → Prop} {s : Shared} {l : Addr} {items : Array Value} {ns : List Int} {Q : Value → Shared → Prop}
    (hh : A.handled = none) (hl : s.heap.IsList l items) (hi : IntsAre items.toList ns) (hb : items.size + 1 < scanBound)
    (h : ∀ h' : Heap, h'.objs.size = s.heap.objs.size + 4 → (∀ b, b < s.heap.objs.size → h'.get? b = s.heap.get? b) → (∀ b, s.heap.objs.size ≤ b → b < s.heap.objs.size + 4 → (h'.get? b).isSome = true) →
      h'.SetOf (intKind prog w) s.heap.objs.size (fun k' => (firstMet (fun i => ns.getD i 0) items.size).any (· == k')) (firstMet (fun i => ns.getD i 0) items.size).length →
      Q (.ref s.heap.objs.size) { s with heap := h', toks := s.toks + items.size }) :
    wpAny (model prog w) A (call (.type "set") [.ref l]) Q E s := by
  obtain ⟨c, tl, hmro⟩ := PySem.F.called_set.mro
  have hmade := PySem.F.called_set.made
  have hsub := PySem.F.called_set.sub
  refine wpAny_call (codeAny_of_tree ?_)
  show wpAny _ _ (callAny (.type "set") _) _ _ _
  refine wpAny_pure ⟨Code.quiet_builtin _ (by decide +kernel), codeAny_builtin PySem.F.entry_type_call ?_⟩
  rw [Around.under_plain (weight_type_call_type "set" [.ref l] []) rfl]
  have h1 := PySem.F.called_set.notType
  have h2 := PySem.F.called_set.canCreate
  have hct := PySem.F.typeCall_set_1 (.ref l)
  wp_delta
  (with_reducible apply PySem.wpAny_ite_false); focus (rfl; done)
  (with_reducible apply PySem.wpAny_ite_false); focus (rfl; done)
  with_reducible refine PySem.wpAny_bind ?_
  with_reducible refine PySem.wpAny_of_eq (by assumption) ?_
  with_reducible refine PySem.wpAny_bind ?_
  with_reducible refine PySem.wpAny_of_eq (by assumption) ?_
  (with_reducible apply PySem.wpAny_ite_false); focus (rfl; done)
  with_reducible refine PySem.wpAny_bind ?_
  with_reducible refine PySem.wpAny_of_eq (by assumption) ?_
  with_reducible refine PySem.wpAny_bind ?_
  with_reducible refine PySem.wpAny_pure ?_
  with_reducible refine PySem.wpAny_bind ?_
  with_reducible refine PySem.wpAny_holding ?_
  with_reducible refine PySem.wpAny_call ?_
  refine codeAny_mono (code_set_new_1 (.ref l) (E := E) (Q₁ := fun obj s₁ => ∃ led : Bool, obj = .ref s.heap.objs.size ∧ s₁ = { s with heap := s.heap.push { cls := .type "set", dict := none, data := .set #[] 0 (.fresh 0 0 led) } }) fun led => ⟨led, rfl, rfl⟩) fun r s₁ hr => ?_
  cases r with
  | error e => exact hr
  | ok fl =>
    cases fl with
    | next | brk | cont => exact hr
    | ret obj =>
      obtain ⟨led, rfl, rfl⟩ := hr
      have hS : (s.heap.push { cls := .type "set", dict := none, data := .set #[] 0 (.fresh 0 0 led) }).get? s.heap.objs.size = some { cls := .type "set", dict := none, data := .set #[] 0 (.fresh 0 0 led) } := Heap.get?_push_size _ rfl
      have hT : Shared.TypeIs { s with heap := s.heap.push { cls := .type "set", dict := none, data := .set #[] 0 (.fresh 0 0 led) } } (.ref s.heap.objs.size) "set" := ⟨_, hS, rfl⟩
      have hli := PySem.F.called_set.init.lookup
      have hbi := PySem.F.called_set.init.bind (.ref s.heap.objs.size)
      with_reducible refine PySem.wpAny_bind ?_
      with_reducible refine PySem.wpAny_isInstance (by assumption) (by assumption) ?_
      (with_reducible apply PySem.wpAny_ite_false); focus (rfl; done)
      with_reducible refine PySem.wpAny_bind ?_
      with_reducible refine PySem.wpAny_holding ?_
      wp_delta
      with_reducible refine PySem.wpAny_bind ?_
      with_reducible refine PySem.wpAny_specialOf (by assumption) (by assumption) ?_
      with_reducible refine PySem.wpAny_holding ?_
      with_reducible refine PySem.wpAny_bind ?_
      with_reducible refine PySem.wpAny_of_eq (by assumption) ?_
      with_reducible refine PySem.wpAny_bind ?_
      with_reducible refine PySem.wpAny_call ?_
      refine codeAny_mono (codeAny_call_builtin (R := wants (fun r s₂ => r = .none ∧ ∃ h' : Heap, s₂ = { s with heap := h', toks := s.toks + items.size } ∧ h'.objs.size = s.heap.objs.size + 4 ∧ (∀ b, b < s.heap.objs.size → h'.get? b = s.heap.get? b) ∧ (∀ b, s.heap.objs.size ≤ b → b < s.heap.objs.size + 4 → (h'.get? b).isSome = true) ∧
          h'.SetOf (intKind prog w) s.heap.objs.size (fun k' => (firstMet (fun i => ns.getD i 0) items.size).any (· == k')) (firstMet (fun i => ns.getD i 0) items.size).length) E)
          PySem.F.called_set.init.plain PySem.F.entry_set_init (check_set_init_1 hT ?_)) fun r₂ s₂ hr₂ => ?_
      · obtain ⟨ol, hol, hcl, nl, hdl⟩ := hl
        obtain ⟨ocls, odict, odata, oslots⟩ := ol
        simp only at hcl hdl
        subst hcl; subst hdl
        have hol' : (s.heap.push { cls := .type "set", dict := none, data := .set #[] 0 (.fresh 0 0 led) }).get? l = some { cls := .type "list", dict := odict, data := .seq items nl, slots := oslots } := Heap.get?_push_of_some _ hol
        have hsls := PySem.F.sub_list_set
        have hslf := PySem.F.sub_list_frozenset
        have hne : (Value.type "list" == Value.type "dict") = false := by decide
        have hl1 : (s.heap.push { cls := .type "set", dict := none, data := .set #[] 0 (.fresh 0 0 led) }).IsList l items := ⟨_, hol', rfl, nl, rfl⟩
        unfold Builtin.«set.__init__» noKeywords Builtin.Frozenset.updateFrom
        generalize hPI : pyIter = PI
        with_reducible refine PySem.wpAny_bind ?_
        (with_reducible apply PySem.wpAny_ite_true); focus (rfl; done)
        with_reducible refine PySem.wpAny_pure ?_
        wp_delta
        with_reducible refine PySem.wpAny_bind ?_
        wp_delta
        with_reducible refine PySem.wpAny_bind ?_
        wp_delta
        with_reducible refine PySem.wpAny_bind ?_
        with_reducible refine PySem.wpAny_typeOf (by assumption) ?_
        (with_reducible apply PySem.wpAny_ite_false); focus (rfl; done)
        with_reducible refine PySem.wpAny_pure ?_
        wp_delta
        wp_delta
        with_reducible refine PySem.wpAny_pure ?_
        with_reducible refine PySem.wpAny_bind ?_
        wp_delta
        (with_reducible apply PySem.wpAny_ite_false); focus (rfl; done)
        (with_reducible apply PySem.wpAny_ite_false); focus (rfl; done)
        (with_reducible apply PySem.wpAny_ite_false); focus (rfl; done)
        with_reducible refine PySem.wpAny_pure ?_
        with_reducible refine PySem.wpAny_bind ?_
        wp_delta
        with_reducible refine PySem.wpAny_pure ?_
        with_reducible refine PySem.wpAny_bind ?_
        wp_delta
        with_reducible refine PySem.wpAny_bind ?_
        wp_delta
        with_reducible refine PySem.wpAny_bind ?_
        (with_reducible apply PySem.wpAny_load'); focus (heap_get; done)
        (with_reducible apply PySem.wpAny_ite_false); focus (rfl; done)
        with_reducible refine PySem.wpAny_pure ?_
        with_reducible refine PySem.wpAny_pure ?_
        (with_reducible apply PySem.wpAny_ite_false); focus (rfl; done)
        wp_delta
        with_reducible refine PySem.wpAny_bind ?_
        with_reducible refine PySem.wpAny_bind ?_
        wp_delta
        wp_delta
        with_reducible refine PySem.wpAny_bind ?_
        wp_delta
        with_reducible refine PySem.wpAny_bind ?_
        wp_delta
        with_reducible refine PySem.wpAny_bind ?_
        (with_reducible apply PySem.wpAny_loadPart'); focus (heap_get; done)
        with_reducible refine PySem.wpAny_pure ?_
        with_reducible refine PySem.wpAny_of_eq (by assumption) ?_
        wp_delta
        wp_delta
        with_reducible refine PySem.wpAny_bind ?_
        wp_delta
        with_reducible refine PySem.wpAny_bind ?_
        (with_reducible apply PySem.wpAny_loadPart'); focus (heap_get; done)
        with_reducible refine PySem.wpAny_pure ?_
        with_reducible refine PySem.wpAny_of_eq (by assumption) ?_
        (with_reducible apply PySem.wpAny_ite_false); focus (rfl; done)
        with_reducible refine PySem.wpAny_bind ?_
        wp_delta
        with_reducible refine PySem.wpAny_bind ?_
        (with_reducible apply PySem.wpAny_loadPart'); focus (heap_get; done)
        with_reducible refine PySem.wpAny_pure ?_
        (with_reducible apply PySem.wpAny_ite_false); focus (rfl; done)
        with_reducible refine PySem.wpAny_bind ?_
        subst hPI
        refine wpAny_pyIter_list hl1 ?_
        refine wpAny_bind (wpAny_runValue ?_)
        have hlS : l < s.heap.objs.size := Heap.lt_size hol
        have hh3 : A.in1.in1.in1.handled = none := by simp [hh]
        have hI : (s.heap.push { cls := .type "set", dict := none, data := .set #[] 0 (.fresh 0 0 led) }).objs.size = s.heap.objs.size + 1 := Heap.size_push _ _
        have hval : ∀ (i : Nat) (v : Value), items[i]? = some v → ∃ t, v = .int ((fun i => ns.getD i 0) i) t := fun i v hv =>
          PyProof.Rows.IntsAre.int_at hi i v (by rw [Array.getElem?_toList]; exact hv)
        refine set_loop (l := l) (I := (s.heap.push { cls := .type "set", dict := none, data := .set #[] 0 (.fresh 0 0 led) }).objs.size) (S := s.heap.objs.size) hh3
          (by rw [hI]; exact Nat.ne_of_lt (Nat.lt_succ_of_lt hlS)) (by rw [hI]; exact Nat.ne_of_lt (Nat.lt_succ_self _)) (Nat.ne_of_gt hlS) (fun i => ns.getD i 0) hval hb (items.size - 0) 0 _ rfl (Nat.zero_le _)
          ?hit ?hl ?hS0 ?hR
        case hit => exact ⟨_, Heap.get?_push_size _ rfl, rfl, rfl⟩
        case hl => exact hl1.push _
        case hS0 =>
          have hget : ((s.heap.push { cls := .type "set", dict := none, data := .set #[] 0 (.fresh 0 0 led) }).push { cls := .type "list_iterator", data := .fields #[.ref l, .int 0 0] }).get? s.heap.objs.size
              = some { cls := .type "set", dict := none, data := .set #[] 0 (.fresh 0 0 led) } := Heap.get?_push_of_some _ hS
          exact PyProof.Rows.SetOf_congr ((PyProof.Rows.setObjOf_fresh (knd := intKind prog w) led).setOf hget (by unfold scanBound; omega)) (fun _ => rfl) rfl
        case hR =>
          intro h' hz hk hIs hN hS'
          show wpAny _ _ _ _ _ _
          refine wpAny_pure ?_
          show wpAny _ _ (ret Value.none) _ _ _
          refine wpAny_pure ⟨rfl, h', rfl, ?_, fun b hb => ?_, fun b hb1 hb2 => ?_, hS'⟩
          · rw [hz]; show ((s.heap.push _).push _).objs.size + 2 = _; rw [Heap.size_push, Heap.size_push]
          · have hb1 : b ≠ s.heap.objs.size := Nat.ne_of_lt hb
            have hb2 : b ≠ (s.heap.push { cls := .type "set", dict := none, data := .set #[] 0 (.fresh 0 0 led) }).objs.size := by rw [hI]; exact Nat.ne_of_lt (Nat.lt_succ_of_lt hb)
            exact (hk b (by show b < ((s.heap.push _).push _).objs.size; rw [Heap.size_push, Heap.size_push]; exact Nat.lt_succ_of_lt (Nat.lt_succ_of_lt hb)) hb1 hb2).trans (get_push2 _ _ _ hb)
          · have hz2 : hsz ((s.heap.push { cls := .type "set", dict := none, data := .set #[] 0 (.fresh 0 0 led) }).push { cls := .type "list_iterator", data := .fields #[.ref l, .int 0 0] }) = s.heap.objs.size + 2 := by
              show ((s.heap.push _).push _).objs.size = _; rw [Heap.size_push, Heap.size_push]
            obtain ⟨oS, _, _, _, hoS, _⟩ := hS'
            rw [hI] at hIs
            rcases Nat.lt_or_ge b (s.heap.objs.size + 1) with q | q
            · have : b = s.heap.objs.size := by omega
              rw [this, hoS]; rfl
            rcases Nat.lt_or_ge b (s.heap.objs.size + 2) with q' | q'
            · have : b = s.heap.objs.size + 1 := by omega
              rw [this]; exact hIs
            exact hN b (by show hsz ((s.heap.push _).push _) ≤ b; rw [hz2]; exact q') (by show b < hsz ((s.heap.push _).push _) + 2; rw [hz2]; omega)
      · cases r₂ with
        | error e => exact hr₂
        | ok fl₂ =>
          cases fl₂ with
          | next | brk | cont => exact hr₂
          | ret r =>
            obtain ⟨rfl, h', rfl, hz, hk', hN', hS'⟩ := hr₂
            with_reducible refine PySem.wpAny_pure ?_
            (with_reducible apply PySem.wpAny_ite_false); focus (rfl; done)
            wp_delta
            wp_delta
            with_reducible refine PySem.wpAny_pure ?_
            exact h _ hz hk' hN' hS'
end Mine
end
section
open PySem PySem.W PySem.Calls PyProof.Rows PySem.Spec
set_option maxRecDepth 100000
namespace Mine

/-- n ints from a by ones, their tokens from t on -/
noncomputable def intsFrom (a : Int) (t : Nat) (n : Nat) : Array Value := ((List.range n).map fun (i : Nat) => Value.int (a + (i : Int)) (t + i : Nat)).toArray
theorem intsFrom_succ (a : Int) (t n : Nat) : intsFrom a t (n + 1) = (intsFrom a t n).push (.int (a + (n : Int)) (t + n)) := by
  unfold intsFrom
  rw [List.range_succ, List.map_append]
  simp
theorem intsFrom_size (a : Int) (t n : Nat) : (intsFrom a t n).size = n := by simp [intsFrom]

section
variable {prog : Program} {w : World} {A : Around} {R : Result → Shared → Prop}
theorem extend_loop {S I : Addr} (hh : A.in1.handled = none) (hSI : S ≠ I) (a : Int) (t₀ : Nat) (res : Value) (n : Nat) (hn : n ≤ sizeLine) :
    ∀ (k i : Nat) (s : Shared) (c₀ : Nat), n - i = k → i ≤ n → s.toks = t₀ + i → IsRangeIter s.heap I (a + (i : Int)) ((n : Int) - (i : Int)) 1 →
      s.heap.get? S = some { cls := .type "list", dict := none, data := .seq (intsFrom a t₀ i) c₀, slots := #[] } →
      (∀ h' c, h'.objs.size = s.heap.objs.size + 2 → (∀ b, b < s.heap.objs.size → b ≠ S → b ≠ I → h'.get? b = s.heap.get? b) → (h'.get? I).isSome = true → (∀ b, s.heap.objs.size ≤ b → b < s.heap.objs.size + 2 → (h'.get? b).isSome = true) →
        h'.get? S = some { cls := .type "list", dict := none, data := .seq (intsFrom a t₀ n) c, slots := #[] } → R (.ok (.ret res)) { s with heap := h', toks := t₀ + n }) →
      codeAny (model prog w) A (.builtin "list.extend.loop" ⟨[.ref S, .ref I, res], []⟩) R s := by
  intro k
  induction k with
  | zero =>
    intro i s c₀ hk hi htk hit hS hR
    have hin : i = n := by omega
    subst hin
    refine codeAny_builtin PySem.F.entry_extend_loop ?_
    rw [Around.under_plainId PySem.F.plain_extend_loop _]
    show wpAny _ A.in1 (pyNext (.ref I) >>= _) _ _ s
    refine wpAny_bind (next_range_end hh hit (by omega) fun o₁ o₂ h₁ h₂ => ?_)
    have hg : ∀ b, b < s.heap.objs.size → ((s.heap.push o₁).push o₂).get? b = s.heap.get? b := fun b hb1 => get_push2 _ _ _ hb1
    have p2 := push2_there s.heap h₁ h₂
    have := hR ((s.heap.push o₁).push o₂) c₀ (by rw [Heap.size_push, Heap.size_push]) (fun b hb1 _ _ => hg b hb1) (by rw [hg I (Heap.lt_size hit), hit]; rfl) (fun b hb1 hb2 => by
      rcases Nat.lt_or_ge b (s.heap.objs.size + 1) with q | q
      · have : b = s.heap.objs.size := by omega
        rw [this]; exact p2.1
      · have : b = s.heap.objs.size + 1 := by omega
        rw [this]; exact p2.2) ((hg S (Heap.lt_size hS)).trans hS)
    rw [← htk] at this
    exact wpAny_pure this
  | succ k ih =>
    intro i s c₀ hk hi htk hit hS hR
    have hlt : i < n := by omega
    refine codeAny_builtin PySem.F.entry_extend_loop ?_
    rw [Around.under_plainId PySem.F.plain_extend_loop _]
    show wpAny _ A.in1 (pyNext (.ref I) >>= _) _ _ s
    refine wpAny_bind (wpAny_pyNext_range_item hit (by omega) fun h₁ hit₁ hs₁ => ?_)
    have hS' := (hs₁.2 S hSI).trans hS
    show wpAny _ A.in1 (updateSeq S (·.push _) >>= _) _ _ _
    refine wpAny_bind ?_
    have e1 : a + (i : Int) + 1 = a + ((i + 1 : Nat) : Int) := by push_cast; omega
    have e2 : (n : Int) - (i : Int) - 1 = (n : Int) - ((i + 1 : Nat) : Int) := by push_cast; omega
    rw [e1, e2] at hit₁
    have hus : ∃ c, (h₁.update S (Obj.mapSeq (·.push (Value.int (a + (i : Int)) s.toks)))).get? S = some { cls := .type "list", dict := none, data := .seq (intsFrom a t₀ (i + 1)) c, slots := #[] } := by
      have := Heap.get?_update_self (Obj.mapSeq (·.push (Value.int (a + (i : Int)) s.toks))) hS' rfl
      rw [intsFrom_succ, ← htk]
      exact ⟨_, this⟩
    obtain ⟨c₁, hus⟩ := hus
    refine wpAny_updateSeq hS' rfl (wpAny_pure ⟨plainId_quiet PySem.F.plain_extend_loop _, ih (i + 1) _ c₁ (by omega) hlt (by show s.toks + 1 = _; omega) ?_ hus fun h₂ c₂ hz₂ hk₂ hI₂ hN₂ hS₂ => ?_⟩)
      (by rw [intsFrom_size]; omega) (by show ((intsFrom a t₀ i).push _).size ≤ sizeLine + 1; rw [Array.size_push, intsFrom_size]; omega)
    · exact (Heap.get?_update_other _ _ hSI).trans hit₁
    · have hz : (h₁.update S (Obj.mapSeq (·.push (Value.int (a + (i : Int)) s.toks)))).objs.size = s.heap.objs.size := by rw [Heap.size_after_update]; exact hs₁.1
      exact hR h₂ c₂ (hz₂.trans (by show (h₁.update S _).objs.size + 2 = _; rw [hz])) (fun b hb1 hb2 hb3 => (hk₂ b (by show b < (h₁.update S _).objs.size; rw [hz]; exact hb1) hb2 hb3).trans ((Heap.get?_update_other _ _ (Ne.symm hb2)).trans (hs₁.2 b hb3))) hI₂ (fun b hb1 hb2 => hN₂ b (by show (h₁.update S _).objs.size ≤ b; rw [hz]; exact hb1) (by show b < (h₁.update S _).objs.size + 2; rw [hz]; exact hb2)) hS₂
end

section
variable {prog : Program} {w : World} {A : Around} {E : Value → Shared → Prop} {s : Shared}
theorem extend_range {R : Result → Shared → Prop} {r : Addr} {a b : Int} {t u v : Tok} {n : Nat} (hh : A.handled = none) (hr : IsRange s.heap r a b 1 t u v) (hsmall : Builtin.Range.small a b 1 = true)
    (hn : Builtin.Range.rangeSize a b 1 = n) (hn0 : 0 < n) (hlen : n ≤ 2 ^ 24) (S : Addr) (res : Value) (c₀ : Nat) (hS : s.heap.get? S = some { cls := .type "list", data := .seq #[] c₀ })
    (hR : ∀ h' c, h'.objs.size = s.heap.objs.size + 3 → (∀ b, b < s.heap.objs.size → b ≠ S → h'.get? b = s.heap.get? b) → (∀ b, s.heap.objs.size ≤ b → b < s.heap.objs.size + 3 → (h'.get? b).isSome = true) → h'.get? S = some { cls := .type "list", dict := none, data := .seq (intsFrom a (s.toks + 2) n) c, slots := #[] } →
      R (.ok (.ret res)) { s with heap := h', toks := s.toks + 2 + n }) :
    wpAny (model prog w) A.in1 (Builtin.List.listExtendWith (.ref S) (.ref r) res)
      (fun fin s' => match fin with | .done f => R (.ok f) s' | .again c' => c'.quiet = true ∧ codeAny (model prog w) A c' R s') (fun e s' => R (.error e) s') s := by
  have hSr : S ≠ r := fun e => by rw [e, hr] at hS; simp at hS
  have hSlt : S < s.heap.objs.size := Heap.lt_size hS
  have hSI : S ≠ s.heap.objs.size := Nat.ne_of_lt hSlt
  unfold Builtin.List.listExtendWith
  refine wpAny_bind (wpAny_typeOf (T := "range") ⟨_, hr, rfl⟩ ?_)
  have h1 : Builtin.List.listSameRef (.ref S) (.ref r) = false := by simp [Builtin.List.listSameRef, hSr]
  have h2 : (Value.type "range" == Value.type "list") = false := by decide
  have h3 : (Value.type "range" == Value.type "tuple") = false := by decide
  simp only [h1, h2, h3, Bool.or_false, Bool.false_eq_true, if_false]
  refine wpAny_bind (wpAny_pyIter_range hr hsmall ?_)
  refine wpAny_bind (wpAny_holding (wpAny_hint_range (n := n) (Heap.get?_push_of_some _ hr) hn hlen ?_))
  have hS₁ := Heap.get?_push_of_some { cls := .type "range_iterator", data := .fields #[rawInt a, rawInt (Builtin.Range.rangeSize a b 1), rawInt 1] } hS
  have hit₁ : (s.heap.push { cls := .type "range_iterator", data := .fields #[rawInt a, rawInt (Builtin.Range.rangeSize a b 1), rawInt 1] }).get? s.heap.objs.size = some { cls := .type "range_iterator", dict := none, data := .fields #[rawInt a, rawInt (Builtin.Range.rangeSize a b 1), rawInt 1], slots := #[] } := Heap.get?_push_size _ rfl
  have hne : ((n : Int) != 0) = true := by simp; omega
  rw [hne]
  simp only [if_true]
  refine wpAny_bind (wpAny_rule ?_)
  refine wpAny_bind ?_
  show wpAny _ _ (updateSeq S (·.push .none) >>= fun _ => updateSeq S (·.pop)) _ _ _
  refine wpAny_bind (wpAny_updateSeq hS₁ rfl ?_)
  have hS₂ := Heap.get?_update_self (Obj.mapSeq (·.push Value.none)) hS₁ rfl
  refine wpAny_updateSeq (hz := by seq_fits) hS₂ rfl ?_
  have hS₃ := Heap.get?_update_self (Obj.mapSeq (·.pop)) hS₂ rfl
  refine wpAny_pure ⟨plainId_quiet PySem.F.plain_extend_loop _, extend_loop (S := S) (I := s.heap.objs.size) (by simp [hh]) hSI a (s.toks + 2) res n (by rw [sizeLine_eq]; omega) n 0 _ _ rfl (Nat.zero_le _) rfl ?_ hS₃ fun h' c hz hk hI' hN' hS' => ?_⟩
  · rw [hn] at hit₁
    exact ((Heap.get?_update_other _ _ hSI).trans ((Heap.get?_update_other _ _ hSI).trans (by rw [hn]; simpa using hit₁)))
  · refine hR h' c ?_ (fun b hb hbS => ?_) (fun b hb1 hb2 => ?_) hS'
    · rw [hz]; show ((_ : Heap).update _ _).objs.size + 2 = _; rw [Heap.size_after_update, Heap.size_after_update, Heap.size_push]
    · have hb2 : b ≠ s.heap.objs.size := Nat.ne_of_lt hb
      refine (hk b ?_ hbS hb2).trans ((Heap.get?_update_other _ _ (Ne.symm hbS)).trans ((Heap.get?_update_other _ _ (Ne.symm hbS)).trans (Heap.get?_push_ne _ _ _ hb2)))
      show b < ((_ : Heap).update _ _).objs.size
      rw [Heap.size_after_update, Heap.size_after_update, Heap.size_push]; exact Nat.lt_succ_of_lt hb
    · rcases Nat.lt_or_ge b (s.heap.objs.size + 1) with q | q
      · have : b = s.heap.objs.size := by omega
        rw [this]; exact hI'
      · refine hN' b ?_ ?_
        · show ((_ : Heap).update _ _).objs.size ≤ b
          rw [Heap.size_after_update, Heap.size_after_update, Heap.size_push]; exact q
        · show b < ((_ : Heap).update _ _).objs.size + 2
          rw [Heap.size_after_update, Heap.size_after_update, Heap.size_push]; omega

/-- list(range(a, b)): exact -/
theorem call_list_range {Q : Value → Shared → Prop} {r : Addr} {a b : Int} {t u v : Tok} {n : Nat} (hh : A.handled = none) (hr : IsRange s.heap r a b 1 t u v) (hsmall : Builtin.Range.small a b 1 = true)
    (hn : Builtin.Range.rangeSize a b 1 = n) (hn0 : 0 < n) (hlen : n ≤ 2 ^ 24)
    (hQ : ∀ h' c, h'.objs.size = s.heap.objs.size + 4 → (∀ b, b < s.heap.objs.size → h'.get? b = s.heap.get? b) → (∀ b, s.heap.objs.size ≤ b → b < s.heap.objs.size + 4 → (h'.get? b).isSome = true) →
      h'.get? s.heap.objs.size = some { cls := .type "list", dict := none, data := .seq (intsFrom a (s.toks + 2) n) c, slots := #[] } → Q (.ref s.heap.objs.size) { s with heap := h', toks := s.toks + 2 + n }) :
    wpAny (model prog w) A (call (.type "list") [.ref r]) Q E s := by
  refine callType_codes (Q₁ := fun obj s₁ => obj = .ref s.heap.objs.size ∧ s₁ = { s with heap := s.heap.push { cls := .type "list", data := .seq #[] } }) PySem.F.called_list (PySem.F.typeCall_list_1 _) PySem.F.entry_list_init
    (code_list_new _ ⟨rfl, rfl⟩) fun obj s₁ h₁ => ?_
  obtain ⟨rfl, rfl⟩ := h₁
  have hS : (s.heap.push { cls := .type "list", data := .seq #[] }).get? s.heap.objs.size = some { cls := .type "list", data := .seq #[] } := Heap.get?_push_size _ rfl
  have hr' : IsRange (s.heap.push { cls := .type "list", data := .seq #[] }) r a b 1 t u v := Heap.get?_push_of_some _ hr
  refine ⟨⟨_, hS, rfl⟩, PySem.F.args_list_init_2 _ _, ?_⟩
  show wpAny _ _ (do let old ← Builtin.List.listItems (.ref s.heap.objs.size); Builtin.List.listUpdate (.ref s.heap.objs.size) (fun _ => #[]); letGo old.toList.reverse; Builtin.List.listExtendWith (.ref s.heap.objs.size) (.ref r) .none) _ _ _
  refine wpAny_bind ?_
  unfold Builtin.List.listItems
  refine wpAny_bind (wpAny_seqItems hS rfl (wpAny_pure ?_))
  show wpAny _ _ (updateSeq s.heap.objs.size (fun _ => #[]) >>= fun _ => letGo (#[] : Array Value).toList.reverse >>= fun _ => Builtin.List.listExtendWith (.ref s.heap.objs.size) (.ref r) .none) _ _ _
  refine wpAny_bind (wpAny_updateSeq hS rfl ?_)
  have hS₂ := Heap.get?_update_self (Obj.mapSeq (fun _ => (#[] : Array Value))) hS rfl
  refine wpAny_bind (wpAny_letGo ?_)
  have hSr : s.heap.objs.size ≠ r := fun e => by rw [e] at hS; rw [hr'] at hS; simp at hS
  refine extend_range (A := A.in1) (by simp [hh]) ((Heap.get?_update_other _ _ hSr).trans hr') hsmall hn hn0 hlen s.heap.objs.size .none _ hS₂ fun h' c hz hk hN' hS' => ?_
  refine ⟨rfl, hQ h' _ ?_ (fun b hb => ?_) (fun b hb1 hb2 => ?_) hS'⟩
  · rw [hz]; show ((s.heap.push _).update _ _).objs.size + 3 = _; rw [Heap.size_after_update, Heap.size_push]
  · have hb2 : b ≠ s.heap.objs.size := Nat.ne_of_lt hb
    exact (hk b (by show b < ((s.heap.push _).update _ _).objs.size; rw [Heap.size_after_update, Heap.size_push]; exact Nat.lt_succ_of_lt hb) hb2).trans ((Heap.get?_update_other _ _ (Ne.symm hb2)).trans (Heap.get?_push_ne _ _ _ hb2))
  · rcases Nat.lt_or_ge b (s.heap.objs.size + 1) with q | q
    · have : b = s.heap.objs.size := by omega
      rw [this, hS']; rfl
    · refine hN' b ?_ ?_
      · show ((s.heap.push _).update _ _).objs.size ≤ b
        rw [Heap.size_after_update, Heap.size_push]; exact q
      · show b < ((s.heap.push _).update _ _).objs.size + 3
        rw [Heap.size_after_update, Heap.size_push]; omega
end
end Mine
end
section
open PySem PySem.W PySem.Calls PyProof.Rows PySem.Spec
set_option maxRecDepth 100000
namespace Mine

/-- a pair of trees that yields an int key and a str, one token each -/
structure PairIs (prog : Program) (w : World) (p : Sem Value × Sem Value) (k : Int) (x : Str) : Prop where
  key : ∀ (A : Around) (E : Value → Shared → Prop) (s : Shared) (Q : Value → Shared → Prop), Q (.int k s.toks) { s with toks := s.toks + 1 } → wpAny (model prog w) A p.1 Q E s
  val : ∀ (A : Around) (E : Value → Shared → Prop) (s : Shared) (Q : Value → Shared → Prop), Q (.str x s.toks) { s with toks := s.toks + 1 } → wpAny (model prog w) A p.2 Q E s
inductive AllAre (prog : Program) (w : World) : List (Sem Value × Sem Value) → List (Int × Str) → Prop
  | nil : AllAre prog w [] []
  | cons {p k x r D} : PairIs prog w p k x → AllAre prog w r D → AllAre prog w (p :: r) ((k, x) :: D)
/-- the pairs as the dict holds them -/
inductive Match : List (Int × Value) → List (Int × Str) → Prop
  | nil : Match [] []
  | cons {k x t r D} : Match r D → Match ((k, .str x t) :: r) ((k, x) :: D)

theorem AllAre.length {prog : Program} {w : World} {l D} (h : AllAre prog w l D) : l.length = D.length := by
  induction h with
  | nil => rfl
  | cons _ _ ih => simp [ih]
theorem AllAre.append {prog : Program} {w : World} {l l' D D'} (h : AllAre prog w l D) (h' : AllAre prog w l' D') : AllAre prog w (l ++ l') (D ++ D') := by
  induction h with
  | nil => exact h'
  | cons a _ ih => exact .cons a ih
theorem Match.keys {l D} (h : Match l D) : l.map (·.1) = D.map (·.1) := by
  induction h with
  | nil => rfl
  | cons _ ih => simp [ih]
theorem Match.length {l D} (h : Match l D) : l.length = D.length := by
  have := congrArg List.length h.keys; simpa using this
theorem Match.append {l l' D D'} (h : Match l D) (h' : Match l' D') : Match (l ++ l') (D ++ D') := by
  induction h with
  | nil => exact h'
  | cons _ ih => exact .cons ih

section
variable {prog : Program} {w : World} {A : Around} {E : Value → Shared → Prop} {s : Shared}

theorem stored_fresh {kvs : List (Int × Value)} {k : Int} {v : Value} (h : k ∉ kvs.map (·.1)) : stored kvs k v = kvs ++ [(k, v)] := by
  unfold stored
  rw [if_neg]
  rw [List.any_eq_true]
  rintro ⟨kv, hkv, he⟩
  exact h (List.mem_map.mpr ⟨kv, hkv, of_decide_eq_true he⟩)

theorem dictPut_fresh {d : Addr} {kvs : List (Int × Value)} {k : Int} {key v : Value} {Q : Unit → Shared → Prop} (hkey : (intKind prog w).is k key = true)
    (hm : s.heap.DictOf (intKind prog w) d kvs) (hnk : k ∉ kvs.map (·.1)) (hsz : kvs.length ≤ sizeLine)
    (hQ : ∀ h', h'.DictOf (intKind prog w) d (kvs ++ [(k, v)]) → Heap.SameBut d s.heap h' → Q () { s with heap := h' }) :
    wpAny (model prog w) A (dictPut d ((intKind prog w).hash k) key v) Q E s := by
  obtain ⟨o, es, ep, ho, hc, hd, hk, hp, hn⟩ := hm
  have hes : es.size ≤ sizeLine := by
    have e1 := hp.length; have e2 : es.toList.length = es.size := by simp
    omega
  unfold dictPut
  refine wpAny_bind (wpAny_dictFind_of hkey ho hd hk ?_)
  have hidx : (es.findIdx? fun e => (intKind prog w).is k e.key) = kvs.findIdx? fun kv => decide (kv.1 = k) := by
    rw [← hp.findIdx k]; obtain ⟨l⟩ := es; simp
  cases hi : es.findIdx? fun e => (intKind prog w).is k e.key with
  | some i =>
    exfalso
    rw [hidx] at hi
    obtain ⟨hj, hpj, _⟩ := List.findIdx?_eq_some_iff_getElem.mp hi
    exact hnk (List.mem_map.mpr ⟨_, List.getElem_mem hj, of_decide_eq_true hpj⟩)
  | none =>
    refine wpAny_updateDictKeys (hz := hes) ho hd (hQ _ ⟨_, _, ep + 1, Heap.get?_update_self _ ho (Obj.isFreed_of_dict (Obj.data_mapDictKeys hd _)),
      hc.mapDictKeys _, Obj.data_mapDictKeys hd _, hk.push hkey _, ?_, ?_⟩ (Heap.SameBut.update ..))
    · have := hp.append hkey ((intKind prog w).hash k) v
      obtain ⟨l⟩ := es
      simpa using this
    · rw [List.map_append, List.nodup_append]
      refine ⟨hn, by simp, ?_⟩
      intro a ha b hb
      simp only [List.map_cons, List.map_nil, List.mem_singleton] at hb
      subst hb
      exact fun e => hnk (e ▸ ha)

theorem merge_fresh {d o : Addr} {kvs more : List (Int × Value)} {Q : Unit → Shared → Prop} (hdo : d ≠ o) (hoS : (o == sysModules) = false)
    (hd : s.heap.DictOf (intKind prog w) d kvs) (ho : s.heap.DictOf (intKind prog w) o more) (hne : kvs ≠ []) (hnd : ((kvs ++ more).map (·.1)).Nodup)
    (hsz : kvs.length + more.length ≤ sizeLine)
    (hQ : ∀ h', h'.DictOf (intKind prog w) d (kvs ++ more) → Heap.SameBut d s.heap h' → Q () { s with heap := h' }) :
    wpAny (model prog w) A (mergeMapping d (.ref o) false) Q E s := by
  obtain ⟨od, esd, epd, hod, hcd, hdd, hkd, hpd, hnd'⟩ := id hd
  obtain ⟨oo, eso, epo, hoo, hco, hdo', hko, hpo, hno⟩ := id ho
  have hlen : more.length = eso.size := by rw [← hpo.length]; simp
  unfold mergeMapping
  dsimp only
  refine wpAny_bind (wpAny_isInstance ho.typeIs isSubtype_dict_dict ?_)
  simp only [if_true]
  refine wpAny_bind (wpAny_specialOf ho.typeIs PySem.F.slot_dict_iter.lookup ?_)
  refine wpAny_bind (wpAny_pure ?_)
  rw [show (some (Value.builtin "dict.__iter__") == some (Value.builtin "dict.__iter__")) = true from by simp]
  dsimp only
  rw [if_neg (by rw [hoS]; exact Bool.false_ne_true)]
  refine wpAny_bind (wpAny_dictEntries hod hdd ?_)
  have hemp : esd.isEmpty = false := by
    cases h : esd.isEmpty with
    | false => rfl
    | true =>
      have h0 : esd = #[] := Array.isEmpty_iff.mp h
      have := hpd.length; rw [h0] at this; exact absurd (List.length_eq_zero_iff.mp (by simpa using this.symm)) hne
  rw [hemp]
  simp only [Bool.false_eq_true, if_false]
  refine wpAny_bind (wpAny_dictEntries hoo hdo' ?_)
  refine wpAny_bind (wpAny_dictEpoch hoo hdo' ?_)
  refine wpAny_bind ?_
  rw [List.range_eq_range']
  refine wpAny_forIn_list _
    (fun rest _ s' => ∃ h' i, s' = { s with heap := h' } ∧ rest = List.range' i (eso.size - i) ∧ i ≤ eso.size ∧ h'.DictOf (intKind prog w) d (kvs ++ more.take i) ∧ h'.get? o = some oo ∧ Heap.SameBut d s.heap h')
    _ ?_ ?_ _ _ ⟨s.heap, 0, rfl, by simp, Nat.zero_le _, by simpa using hd, hoo, Heap.SameBut.refl _ _⟩
  · rintro x rest b s' ⟨h', i, rfl, hr, hi, hd', hoo', hs'⟩
    have hlt : i < eso.size := by
      rcases Nat.lt_or_ge i eso.size with h | h
      · exact h
      · rw [Nat.sub_eq_zero_of_le h] at hr; simp at hr
    obtain ⟨rfl, hrest⟩ : x = i ∧ rest = List.range' (i + 1) (eso.size - (i + 1)) := by
      have e : eso.size - i = (eso.size - (i + 1)) + 1 := by omega
      rw [e, List.range'_succ] at hr
      injection hr with h1 h2
      exact ⟨h1, h2⟩
    refine wpAny_bind (wpAny_dictEntries hoo' hdo' ?_)
    rw [Array.getElem?_eq_getElem hlt]
    obtain ⟨kv, hkv⟩ : ∃ kv, more[x]? = some kv := ⟨more[x]'(by rw [hlen]; exact hlt), List.getElem?_eq_getElem _⟩
    obtain ⟨k, v⟩ := kv
    obtain ⟨hkey, hval⟩ := hpo.get? (e := eso[x]) (by simp [hlt]) hkv
    obtain ⟨k', hkey', hhash⟩ := hko eso[x] (Array.getElem_mem hlt)
    obtain rfl : k' = k := (intKind prog w).inj _ _ _ hkey' hkey
    show wpAny _ _ (holding [eso[x].key, eso[x].val] (dictPut d eso[x].hash eso[x].key eso[x].val) >>= _) _ _ _
    rw [hhash, hval]
    have hmx : (kvs ++ more.take x).length ≤ sizeLine := by
      have e2 : (more.take x).length ≤ more.length := by rw [List.length_take]; omega
      rw [List.length_append]; omega
    have htk : more.take (x + 1) = more.take x ++ [(k', v)] := by rw [List.take_add_one, hkv]; rfl
    have hfresh : k' ∉ (kvs ++ more.take x).map (·.1) := by
      have h2 : kvs ++ more = (kvs ++ more.take x) ++ more.drop x := by rw [List.append_assoc, List.take_append_drop]
      rw [h2, List.map_append, List.nodup_append] at hnd
      intro hm
      refine hnd.2.2 _ hm k' ?_ rfl
      have : (more.drop x) = (k', v) :: more.drop (x + 1) := by
        have hxl : x < more.length := by rw [hlen]; exact hlt
        rw [List.drop_eq_getElem_cons hxl]
        rw [List.getElem?_eq_getElem hxl] at hkv
        rw [Option.some.inj hkv]
      rw [this]; simp
    refine wpAny_bind (wpAny_holding (dictPut_fresh hkey hd' hfresh hmx fun h'' hd'' hs'' => ?_))
    have hoo'' : h''.get? o = some oo := (hs''.2 o (Ne.symm hdo)).trans hoo'
    refine wpAny_bind (wpAny_dictEpoch hoo'' hdo' ?_)
    rw [if_neg (by simp)]
    exact wpAny_pure ⟨h'', x + 1, rfl, hrest, hlt, by rw [htk, ← List.append_assoc]; exact hd'', hoo'', hs'.trans hs''⟩
  · rintro b s' ⟨h', i, rfl, hr, hi, hd', hoo', hs'⟩
    have hin : i = eso.size := by
      rcases Nat.lt_or_ge i eso.size with h | h
      · have e : eso.size - i = (eso.size - (i + 1)) + 1 := by omega
        rw [e, List.range'_succ] at hr; exact nomatch hr
      · exact Nat.le_antisymm hi h
    refine wpAny_pure (hQ h' ?_ hs')
    rw [hin, ← hlen, List.take_length] at hd'; exact hd'

theorem evalPairs_are : ∀ (l : List (Sem Value × Sem Value)) (D : List (Int × Str)) (s : Shared) (Q : List (Value × Value) → Shared → Prop), AllAre prog w l D →
    (∀ vs kvs, Carries (intKind prog w) vs kvs → Match kvs D → vs.length = l.length → Q vs { s with toks := s.toks + 2 * l.length }) → wpAny (model prog w) A (evalPairs l) Q E s
  | [], _, s, Q, h, hQ => by
    cases h
    exact evalPairs_nil (hQ [] [] trivial .nil rfl)
  | (p, q) :: r, _, s, Q, h, hQ => by
    cases h with
    | @cons _ k x _ D hp hr =>
      refine evalPairs_cons (hp.key _ _ _ _ (hp.val _ _ _ _ ?_))
      refine evalPairs_are r _ _ _ hr fun vs kvs hc hm hl => ?_
      have := hQ ((.int k s.toks, .str x (s.toks + 1)) :: vs) ((k, .str x (s.toks + 1)) :: kvs) ⟨intKind_is prog w _ s.toks, rfl, hc⟩ (.cons hm) (by simp [hl])
      have e : s.toks + 2 * ((p, q) :: r).length = s.toks + 1 + 1 + 2 * r.length := by simp [List.length_cons]; omega
      rw [e] at this
      exact this

/-- a chunk of a display: a new dict with its pairs -/
theorem sub_exact {l : List (Sem Value × Sem Value)} {D : List (Int × Str)} {Q : Addr → Shared → Prop} (h : AllAre prog w l D) (hnd : (D.map (·.1)).Nodup) (hlen : l.length ≤ 17)
    (hQ : ∀ h' kvs, h'.objs.size = s.heap.objs.size + 1 → (∀ b, b < s.heap.objs.size → h'.get? b = s.heap.get? b) → h'.DictOf (intKind prog w) s.heap.objs.size kvs → Match kvs D →
      Q s.heap.objs.size { s with heap := h', toks := s.toks + 3 * l.length }) : wpAny (model prog w) A (subDict l) Q E s := by
  have hold : ∀ h', Heap.SameBut s.heap.objs.size (s.heap.push { cls := .type "dict", data := .dict #[] }) h' → h'.objs.size = s.heap.objs.size + 1 ∧ ∀ b, b < s.heap.objs.size → h'.get? b = s.heap.get? b := fun h' hs =>
    ⟨hs.1.trans (Heap.size_push _ _), fun b hb => (hs.2 b (Nat.ne_of_lt hb)).trans (Heap.get?_push_ne _ _ _ (Nat.ne_of_lt hb))⟩
  unfold subDict
  refine wpAny_bind (wpAny_alloc ?_)
  refine wpAny_bind (wpAny_holding ?_)
  split
  · refine wpAny_bind (evalPairs_are l D _ _ h fun vs kvs hc hm hl => ?_)
    refine wpAny_holding ?_
    refine wpAny_bind (wpAny_storeAll (knd := intKind prog w) vs kvs [] _ _ hc (Heap.DictOf.new s.heap) (by rw [List.length_nil, hm.length, ← h.length, sizeLine_eq]; omega) fun h' hm' hs' => wpAny_pure (wpAny_pure ?_))
    rw [merged_nil_of_nodup kvs (by rw [hm.keys]; exact hnd)] at hm'
    have := hQ h' kvs (hold h' hs').1 (hold h' hs').2 hm' hm
    rw [show s.toks + 3 * l.length = s.toks + 2 * l.length + vs.length by rw [hl]; omega] at this
    exact this
  · refine wpAny_bind (wpAny_rule ?_)
    have loop : ∀ (r : List (Sem Value × Sem Value)) (D₁ D₂ : List (Int × Str)) (kvs : List (Int × Value)) (s₁ : Shared) (Q₁ : PUnit → Shared → Prop), AllAre prog w r D₂ → Match kvs D₁ → ((D₁ ++ D₂).map (·.1)).Nodup → (D₁ ++ D₂).length ≤ 17 →
        s₁.heap.DictOf (intKind prog w) s.heap.objs.size kvs →
        (∀ h' kvs', h'.DictOf (intKind prog w) s.heap.objs.size kvs' → Match kvs' (D₁ ++ D₂) → Heap.SameBut s.heap.objs.size s₁.heap h' → Q₁ PUnit.unit { s₁ with heap := h', toks := s₁.toks + 3 * r.length }) →
        wpAny (model prog w) A (forIn r PUnit.unit fun (x : Sem Value × Sem Value) (_ : PUnit) => (do
          let kv ← x.1
          let vv ← holding [kv] x.2
          holding [kv, vv] (dictSet s.heap.objs.size kv vv)
          pure (ForInStep.yield PUnit.unit) : Sem (ForInStep PUnit))) Q₁ E s₁ := by
      intro r
      induction r with
      | nil =>
        intro D₁ D₂ kvs s₁ Q₁ hr hm _ _ hd hQ₁
        cases hr
        rw [List.forIn_nil]
        exact wpAny_pure (hQ₁ s₁.heap kvs hd (by simpa using hm) (Heap.SameBut.refl _ _))
      | cons p r ih =>
        intro D₁ D₂ kvs s₁ Q₁ hr hm hn hl hd hQ₁
        obtain ⟨p1, p2⟩ := p
        cases hr with
        | @cons _ k x _ D₂ hp hr =>
          rw [List.forIn_cons]
          refine wpAny_bind (wpAny_bind (hp.key _ _ _ _ ?_))
          refine wpAny_bind (wpAny_holding (hp.val _ _ _ _ ?_))
          have hfresh : k ∉ kvs.map (·.1) := by
            rw [hm.keys]
            rw [List.map_append, List.nodup_append] at hn
            exact fun hk => hn.2.2 k hk k (by simp) rfl
          refine wpAny_bind (wpAny_holding (wpAny_dictSet_pairs (knd := intKind prog w) (hsz := by rw [hm.length, sizeLine_eq]; rw [List.length_append] at hl; omega) (intKind_is prog w k s₁.toks) hd fun h₁ hd₁ hs₁ => wpAny_pure ?_))
          rw [stored_fresh hfresh] at hd₁
          refine ih (D₁ ++ [(k, x)]) D₂ _ _ _ hr (hm.append (.cons .nil)) (by simpa using hn) (by simpa using hl) hd₁ fun h' kvs' hd' hm' hs' => ?_
          have := hQ₁ h' kvs' hd' (by simpa using hm') (hs₁.trans hs')
          have e : s₁.toks + 3 * ((p1, p2) :: r).length = s₁.toks + 1 + 1 + 1 + 3 * r.length := by simp [List.length_cons]; omega
          rw [e] at this
          exact this
    refine wpAny_bind (loop l [] D [] _ _ h .nil (by simpa using hnd) (by rw [List.nil_append, ← h.length]; exact hlen) (Heap.DictOf.new s.heap) fun h' kvs' hd' hm' hs' => wpAny_pure (wpAny_pure ?_))
    exact hQ h' kvs' (hold h' hs').1 (hold h' hs').2 hd' (by simpa using hm')
end
end Mine
end
section
open PySem PySem.W PySem.Calls PyProof.Rows PySem.Spec
set_option maxRecDepth 100000
namespace Mine

noncomputable def DInv (prog : Program) (w : World) (s : Shared) (c : Nat) (main : Option Addr) (D : List (Int × Str)) (s' : Shared) : Prop :=
  ∃ h' : Heap, s' = { s with heap := h', toks := s.toks + 3 * D.length } ∧ h'.objs.size = s.heap.objs.size + c ∧ (∀ b, b < s.heap.objs.size → h'.get? b = s.heap.get? b) ∧ (∀ b, s.heap.objs.size ≤ b → b < s.heap.objs.size + c → (h'.get? b).isSome = true) ∧
    ((c = 0 ∧ main = none ∧ D = []) ∨ (main = some s.heap.objs.size ∧ 0 < c ∧ D ≠ [] ∧ ∃ kvs, h'.DictOf (intKind prog w) s.heap.objs.size kvs ∧ Match kvs D))

noncomputable def flushD (run : List (Sem Value × Sem Value)) (main : Option Addr) : Sem (Option Addr) :=
  match main with
  | none => do
    let d ← subDict run
    pure (some d)
  | some d => do
    let sub ← holding [.ref d] (subDict run)
    (holding [.ref d, .ref sub] (mergeMapping d (.ref sub) false)).onRaise fun x => do let _ ← holding [.ref d, x] (runValue (.builtin "proto.let_go" {}))
    pure (some d)

section
variable {prog : Program} {w : World} {A : Around} {E : Value → Shared → Prop} {s s' : Shared}

theorem flush_exact {run : List (Sem Value × Sem Value)} {main : Option Addr} {c : Nat} {D Dr : List (Int × Str)} {Q : Option Addr → Shared → Prop} (hI : DInv prog w s c main D s') (hr : AllAre prog w run Dr) (hne : run ≠ [])
    (hlen : run.length ≤ 17) (hnd : ((D ++ Dr).map (·.1)).Nodup) (hsz : (D ++ Dr).length ≤ sizeLine) (hsys : sysModules < s.heap.objs.size) (hQ : ∀ m s'', DInv prog w s (c + 1) m (D ++ Dr) s'' → Q m s'') :
    wpAny (model prog w) A (flushD run main) Q E s' := by
  have hDr : Dr ≠ [] := by
    intro e
    subst e
    exact hne (List.length_eq_zero_iff.mp hr.length)
  have hndr : (Dr.map (·.1)).Nodup := by rw [List.map_append, List.nodup_append] at hnd; exact hnd.2.1
  obtain ⟨h', rfl, hz, hk, hN, hc⟩ := hI
  rcases hc with ⟨rfl, rfl, rfl⟩ | ⟨rfl, hc0, hD, kvs, hd, hm⟩
  · unfold flushD
    dsimp only
    have hz0 : h'.objs.size = s.heap.objs.size := hz
    refine wpAny_bind (sub_exact hr hndr hlen fun h₂ kvs hz₂ hk₂ hd₂ hm₂ => wpAny_pure (hQ _ _ ⟨h₂, ?_, ?_, fun b hb => ?_, fun b hb1 hb2 => ?_, .inr ⟨?_, Nat.succ_pos _, by simpa using hDr, kvs, ?_, by simpa using hm₂⟩⟩))
    · rw [List.nil_append, ← hr.length]; rfl
    · rw [hz₂]; show h'.objs.size + 1 = _; rw [hz0]
    · exact (hk₂ b (by show b < h'.objs.size; rw [hz0]; exact hb)).trans (hk b hb)
    · have : h₂.DictOf (intKind prog w) h'.objs.size kvs := hd₂
      obtain ⟨o, _, _, ho, _⟩ := this
      have hb : b = h'.objs.size := by omega
      rw [hb, ho]; rfl
    · show some h'.objs.size = _; rw [hz0]
    · have : h₂.DictOf (intKind prog w) h'.objs.size kvs := hd₂
      rw [hz0] at this; exact this
  · unfold flushD
    dsimp only
    refine wpAny_bind (wpAny_holding (sub_exact hr hndr hlen fun h₂ kvs₂ hz₂ hk₂ hd₂ hm₂ => ?_))
    have hlt : s.heap.objs.size < h'.objs.size := by rw [hz]; omega
    have hd' : h₂.DictOf (intKind prog w) s.heap.objs.size kvs := by
      obtain ⟨o, es, ep, ho, r⟩ := hd
      exact ⟨o, es, ep, (hk₂ _ hlt).trans ho, r⟩
    have hnd2 : ((kvs ++ kvs₂).map (·.1)).Nodup := by rw [List.map_append, hm.keys, hm₂.keys, ← List.map_append]; exact hnd
    have hkne : kvs ≠ [] := fun e => hD (by rw [e] at hm; cases hm; rfl)
    refine wpAny_bind (wpAny_onRaise (wpAny_holding (merge_fresh (Nat.ne_of_lt hlt) (beq_eq_false_iff_ne.mpr (Nat.ne_of_gt (Nat.lt_trans hsys hlt))) hd' hd₂ hkne hnd2 ?_ fun h₃ hd₃ hs₃ => ?_)))
    · rw [hm.length, hm₂.length]; rw [List.length_append] at hsz; exact hsz
    · refine wpAny_pure (hQ _ _ ⟨h₃, ?_, ?_, fun b hb => ?_, fun b hb1 hb2 => ?_, .inr ⟨rfl, Nat.succ_pos _, by simp [hD], kvs ++ kvs₂, hd₃, hm.append hm₂⟩⟩)
      · show Shared.mk _ _ _ _ _ = Shared.mk _ _ _ _ _
        rw [hr.length, List.length_append]
        congr 1
        show s.toks + 3 * D.length + 3 * Dr.length = _
        omega
      · rw [hs₃.1]
        have : h₂.objs.size = h'.objs.size + 1 := hz₂
        show h₂.objs.size = _
        rw [this, hz]; rfl
      · exact (hs₃.2 b (Nat.ne_of_lt hb)).trans ((hk₂ b (Nat.lt_trans hb hlt)).trans (hk b hb))
      · by_cases hbm : b = s.heap.objs.size
        · obtain ⟨o, _, _, ho, _⟩ := hd₃
          rw [hbm, ho]; rfl
        · rw [hs₃.2 b hbm]
          have hz' : h'.objs.size = s.heap.objs.size + c := hz
          by_cases hbl : b < h'.objs.size
          · rw [hk₂ b hbl]
            exact hN b hb1 (by omega)
          · have hb3 : b = h'.objs.size := by omega
            obtain ⟨o, _, _, ho, _⟩ := hd₂
            rw [hb3]
            show (h₂.get? h'.objs.size).isSome = true
            rw [ho]; rfl

theorem display_loop (f : (Option (Sem Value) × Sem Value) → (Option Addr × List (Sem Value × Sem Value)) → Sem (ForInStep (Option Addr × List (Sem Value × Sem Value))))
    (hf : ∀ (p : Sem Value × Sem Value) (main : Option Addr) (run : List (Sem Value × Sem Value)), f (some p.1, p.2) (main, run) =
      if ((run ++ [p]).length == 17) = true then (do let main ← flushD (run ++ [p]) main; pure (.yield (main, []))) else pure (.yield (main, run ++ [p]))) (hsys : sysModules < s.heap.objs.size) :
    ∀ (items run : List (Sem Value × Sem Value)) (main : Option Addr) (c : Nat) (D Dr Di : List (Int × Str)) (s' : Shared) (Q : (Option Addr × List (Sem Value × Sem Value)) → Shared → Prop),
      DInv prog w s c main D s' → AllAre prog w run Dr → AllAre prog w items Di → run.length < 17 → D.length = 17 * c → ((D ++ Dr ++ Di).map (·.1)).Nodup → (D ++ Dr ++ Di).length ≤ sizeLine →
      (∀ m r c' D' Dr' s'', DInv prog w s c' m D' s'' → AllAre prog w r Dr' → r.length < 17 → D'.length = 17 * c' → D' ++ Dr' = D ++ Dr ++ Di → Q (m, r) s'') →
      wpAny (model prog w) A (forIn (items.map fun p => (some p.1, p.2)) (main, run) f) Q E s' := by
  intro items
  induction items with
  | nil =>
    intro run main c D Dr Di s' Q hI hr hi hl hD _ _ hQ
    cases hi
    rw [List.map_nil, List.forIn_nil]
    exact wpAny_pure (hQ _ _ _ _ _ _ hI hr hl hD (by simp))
  | cons p items ih =>
    intro run main c D Dr Di s' Q hI hr hi hl hD hnd hsz hQ
    cases hi with
    | @cons _ k x _ Di hp hi =>
      rw [List.map_cons, List.forIn_cons, hf]
      have hr' : AllAre prog w (run ++ [p]) (Dr ++ [(k, x)]) := hr.append (.cons hp .nil)
      have e : D ++ Dr ++ (k, x) :: Di = D ++ (Dr ++ [(k, x)]) ++ Di := by simp
      by_cases h17 : (run ++ [p]).length = 17
      · rw [if_pos (by rw [h17]; rfl)]
        refine wpAny_bind (wpAny_bind (flush_exact hI hr' (by simp) (Nat.le_of_eq h17) ?_ ?_ hsys fun m s'' hI' => wpAny_pure ?_))
        · rw [e, List.map_append, List.nodup_append] at hnd; exact hnd.1
        · rw [e, List.length_append] at hsz; omega
        · refine ih [] m (c + 1) (D ++ (Dr ++ [(k, x)])) [] Di s'' Q hI' .nil hi (by simp) ?_ (by simpa using hnd) (by simpa using hsz) fun m r c' D' Dr' s₃ a b d e₁ g => hQ m r c' D' Dr' s₃ a b d e₁ (by rw [g]; simp)
          rw [List.length_append, hD, ← hr'.length, h17]; omega
      · rw [if_neg (by simpa using h17)]
        refine wpAny_bind (wpAny_pure ?_)
        refine ih (run ++ [p]) main c D (Dr ++ [(k, x)]) Di s' Q hI hr' hi ?_ hD (by rw [← e]; exact hnd) (by rw [← e]; exact hsz) fun m r c' D' Dr' s₃ a b d e₁ g => hQ m r c' D' Dr' s₃ a b d e₁ (by rw [g]; simp)
        have : (run ++ [p]).length = run.length + 1 := by simp
        omega

/-- the whole display -/
theorem display_exact {pairs : List (Sem Value × Sem Value)} {D : List (Int × Str)} {Q : Value → Shared → Prop} (h : AllAre prog w pairs D) (hnd : (D.map (·.1)).Nodup) (hne : D ≠ []) (hsz : D.length ≤ sizeLine) (hsys : sysModules < s.heap.objs.size)
    (hQ : ∀ h' kvs, h'.objs.size = s.heap.objs.size + (D.length + 16) / 17 → (∀ b, b < s.heap.objs.size → h'.get? b = s.heap.get? b) → (∀ b, s.heap.objs.size ≤ b → b < s.heap.objs.size + (D.length + 16) / 17 → (h'.get? b).isSome = true) → h'.DictOf (intKind prog w) s.heap.objs.size kvs → Match kvs D →
      Q (.ref s.heap.objs.size) { s with heap := h', toks := s.toks + 3 * D.length }) :
    wpAny (model prog w) A (dictDisplay (pairs.map fun p => (some p.1, p.2))) Q E s := by
  unfold dictDisplay
  dsimp only
  refine wpAny_bind (display_loop (s := s) _ (fun p main run => ?_) hsys pairs [] none 0 [] [] D s _ ⟨s.heap, rfl, rfl, fun _ _ => rfl, fun b h1 h2 => absurd h2 (by omega), .inl ⟨rfl, rfl, rfl⟩⟩ .nil h (by simp) rfl (by simpa using hnd) (by simpa using hsz) fun m r c' D' Dr' s₁ hI hr hl hD he => ?_)
  · dsimp only
    rw [if_neg (show ¬ ((run ++ [(p.1, p.2)]).isEmpty = true) by simp)]
    rfl
  · dsimp only
    simp only [List.nil_append] at he
    have fin : ∀ m c D' s', DInv prog w s c m D' s' → D' = D → c = (D.length + 16) / 17 → wpAny (model prog w) A (match m with | some d => pure (Value.ref d) | none => newDict) Q E s' := by
      rintro m c D' s' ⟨h', rfl, hz, hk, hN, hc⟩ rfl rfl
      rcases hc with ⟨_, _, e⟩ | ⟨rfl, _, _, kvs, hd, hm⟩
      · exact absurd e hne
      · exact wpAny_pure (hQ h' kvs hz hk hN hd hm)
    by_cases hemp : r = []
    · subst hemp
      cases hr
      refine wpAny_bind (wpAny_pure ?_)
      simp only [List.append_nil] at he
      exact fin m c' D' s₁ hI he (by rw [← he, hD]; omega)
    · rw [if_neg (by simpa using hemp)]
      have hrl : Dr'.length = r.length := hr.length.symm
      have hrpos : 0 < r.length := List.length_pos_iff.mpr hemp
      refine wpAny_bind (flush_exact hI hr hemp (Nat.le_of_lt hl) (by rw [he]; exact hnd) (by rw [he]; exact hsz) hsys fun m' s₂ hI₂ => ?_)
      refine fin m' (c' + 1) (D' ++ Dr') s₂ hI₂ he ?_
      have := congrArg List.length he
      rw [List.length_append, hD, hrl] at this
      omega
end
end Mine
end
section
open PySem PySem.W PySem.Calls PyProof.Rows PySem.Spec
set_option maxRecDepth 100000
set_option linter.unusedVariables false
namespace Mine
noncomputable section

noncomputable abbrev pw : Program := PySem.Challenge.pw_tp0034_01
noncomputable def fnParams (i : Nat) : Arguments := match pw.main.body[i]? with | some (.FunctionDef _ a _ _ _ _ _ _ _ _) => a | _ => default
noncomputable def fnBody (i : Nat) : FuncBody := match pw.main.body[i]? with | some (.FunctionDef _ _ b _ _ _ _ _ _ _) => .stmts b | _ => .stmts []
noncomputable def fnScope (i : Nat) : Scope := match pw.main.body[i]? with | some (.FunctionDef _ _ _ _ _ _ s _ _ _) => s | _ => default
noncomputable def tr0 (P : Params) : BT := (.node (boot_o_0 P) (.node (boot_o_1 P) (.node (boot_o_3 P) (.node (boot_o_7 P) .nil .nil) .nil) (.node (boot_o_5 P) (.node (boot_o_9 P) .nil .nil) .nil)) (.node (boot_o_2 P) (.node (boot_o_4 P) (.node (boot_o_8 P) .nil .nil) .nil) (.node (boot_o_6 P) (.node (boot_o_10 P) .nil .nil) .nil)))
noncomputable def o11S (P : Params) : Obj := ⟨(.type "tuple"), none, (.seq #[] 0), #[]⟩
noncomputable def o12S (P : Params) : Obj := ⟨.none, none, (.fields #[]), #[]⟩
noncomputable def o13S (P : Params) : Obj := ⟨(.type "code"), none, (.fields #[(.str (Str.ofString "<module>") 182), (.str (Str.ofString "<module>") 183), (.str (Str.ofString "/claim/cut.py") 184), (.int 1 0), (.int 0 0), (.int 0 0), (.int 0 0), (.int 0 0), (.ref 11), (.bool false), (.int 181 0), (.ref 12), .none, .none, .none, .none, (.int 185 0), (.int 1 0), (.str (Str.ofString "/claim/cut.py") 186)]), #[]⟩
noncomputable def o14S (P : Params) : Obj := ⟨(.type "frame"), none, .plain, #[some (.ref 13), some (.ref 3), some (.ref 3), none, some (.str (Str.ofString "__main__") 164), none, some (.ref 0)]⟩
noncomputable def trS (P : Params) (X : Nat → Obj) : BT := (.node (boot_o_0 P) (.node (boot_o_1 P) (.node (boot_o_3 P) (.node (boot_o_7 P) .nil .nil) (.node (o11S P) .nil .nil)) (.node (boot_o_5 P) (.node (boot_o_9 P) .nil .nil) (.node (o13S P) .nil .nil))) (.node (boot_o_2 P) (.node (boot_o_4 P) (.node (boot_o_8 P) .nil .nil) (.node (o12S P) .nil .nil)) (.node (boot_o_6 P) (.node (boot_o_10 P) .nil .nil) (.node (o14S P) .nil .nil))))
noncomputable def nS : Nat := 15
noncomputable def kS : Nat := 187
noncomputable def o3A (P : Params) : Obj := ⟨(.type "dict"), none, (.dict #[⟨PyData.keyHash P (Str.ofString "__name__"), (.str (Str.ofString "__name__") 165), (.str (Str.ofString "cpy313.stringprep") 187)⟩, ⟨PyData.keyHash P (Str.ofString "__doc__"), (.str (Str.ofString "__doc__") 166), .none⟩, ⟨PyData.keyHash P (Str.ofString "__package__"), (.str (Str.ofString "__package__") 167), .none⟩, ⟨PyData.keyHash P (Str.ofString "__loader__"), (.str (Str.ofString "__loader__") 168), (.builtin "__main__.__loader__#\x6fpaque")⟩, ⟨PyData.keyHash P (Str.ofString "__spec__"), (.str (Str.ofString "__spec__") 169), .none⟩, ⟨PyData.keyHash P (Str.ofString "__annotations__"), (.str (Str.ofString "__annotations__") 170), (.ref 6)⟩, ⟨PyData.keyHash P (Str.ofString "__builtins__"), (.str (Str.ofString "__builtins__") 171), (.ref 4)⟩, ⟨PyData.keyHash P (Str.ofString "__file__"), (.str (Str.ofString "__file__") 173), (.str (Str.ofString "/claim/cut.py") 172)⟩, ⟨PyData.keyHash P (Str.ofString "__cached__"), (.str (Str.ofString "__cached__") 174), .none⟩] 9), #[]⟩
noncomputable def o15A (P : Params) : Obj := ⟨(.type "list"), none, (.seq #[(.int 173 189), (.int 847 190), (.int 6150 191), (.int 6155 192), (.int 6156 193), (.int 6157 194), (.int 8203 195), (.int 8204 196), (.int 8205 197), (.int 8288 198), (.int 65279 199)] 0), #[]⟩
noncomputable def o16A (P : Params) : Obj := ⟨(.type "range"), none, (.fields #[(.int 65024 200), (.int 65040 201), (.int 1 202)]), #[]⟩
noncomputable def trA (P : Params) (X : Nat → Obj) : BT := (.node (boot_o_0 P) (.node (boot_o_1 P) (.node (o3A P) (.node (boot_o_7 P) (.node (o15A P) .nil .nil) .nil) (.node (o11S P) .nil .nil)) (.node (boot_o_5 P) (.node (boot_o_9 P) .nil .nil) (.node (o13S P) .nil .nil))) (.node (boot_o_2 P) (.node (boot_o_4 P) (.node (boot_o_8 P) (.node (o16A P) .nil .nil) .nil) (.node (o12S P) .nil .nil)) (.node (boot_o_6 P) (.node (boot_o_10 P) .nil .nil) (.node (o14S P) .nil .nil))))
noncomputable def trA2 (P : Params) (X : Nat → Obj) : BT := (.node (boot_o_0 P) (.node (boot_o_1 P) (.node (o3A P) (.node (boot_o_7 P) (.node (o15A P) .nil .nil) .nil) (.node (o11S P) (.node (X 19) .nil .nil) .nil)) (.node (boot_o_5 P) (.node (boot_o_9 P) (.node (X 17) .nil .nil) .nil) (.node (o13S P) .nil .nil))) (.node (boot_o_2 P) (.node (boot_o_4 P) (.node (boot_o_8 P) (.node (o16A P) .nil .nil) .nil) (.node (o12S P) (.node (X 20) .nil .nil) .nil)) (.node (boot_o_6 P) (.node (boot_o_10 P) (.node (X 18) .nil .nil) .nil) (.node (o14S P) .nil .nil))))
noncomputable def nA : Nat := 17
noncomputable def kA : Nat := 203
noncomputable def o21B (P : Params) : Obj := ⟨(.type "list"), none, (.seq #[(.int 173 189), (.int 847 190), (.int 6150 191), (.int 6155 192), (.int 6156 193), (.int 6157 194), (.int 8203 195), (.int 8204 196), (.int 8205 197), (.int 8288 198), (.int 65279 199), (.int 65024 205), (.int 65025 206), (.int 65026 207), (.int 65027 208), (.int 65028 209), (.int 65029 210), (.int 65030 211), (.int 65031 212), (.int 65032 213), (.int 65033 214), (.int 65034 215), (.int 65035 216), (.int 65036 217), (.int 65037 218), (.int 65038 219), (.int 65039 220)] 0), #[]⟩
noncomputable def trB (P : Params) (X : Nat → Obj) : BT := (.node (boot_o_0 P) (.node (boot_o_1 P) (.node (o3A P) (.node (boot_o_7 P) (.node (o15A P) .nil .nil) .nil) (.node (o11S P) (.node (X 19) .nil .nil) .nil)) (.node (boot_o_5 P) (.node (boot_o_9 P) (.node (X 17) .nil .nil) .nil) (.node (o13S P) (.node (o21B P) .nil .nil) .nil))) (.node (boot_o_2 P) (.node (boot_o_4 P) (.node (boot_o_8 P) (.node (o16A P) .nil .nil) .nil) (.node (o12S P) (.node (X 20) .nil .nil) .nil)) (.node (boot_o_6 P) (.node (boot_o_10 P) (.node (X 18) .nil .nil) .nil) (.node (o14S P) .nil .nil))))
noncomputable def trB2 (P : Params) (X : Nat → Obj) : BT := (.node (boot_o_0 P) (.node (boot_o_1 P) (.node (o3A P) (.node (boot_o_7 P) (.node (o15A P) .nil .nil) (.node (X 23) .nil .nil)) (.node (o11S P) (.node (X 19) .nil .nil) .nil)) (.node (boot_o_5 P) (.node (boot_o_9 P) (.node (X 17) .nil .nil) (.node (X 25) .nil .nil)) (.node (o13S P) (.node (o21B P) .nil .nil) .nil))) (.node (boot_o_2 P) (.node (boot_o_4 P) (.node (boot_o_8 P) (.node (o16A P) .nil .nil) (.node (X 24) .nil .nil)) (.node (o12S P) (.node (X 20) .nil .nil) .nil)) (.node (boot_o_6 P) (.node (boot_o_10 P) (.node (X 18) .nil .nil) .nil) (.node (o14S P) (.node (X 22) .nil .nil) .nil))))
noncomputable def nB : Nat := 22
noncomputable def kB : Nat := 221
noncomputable def o3C (P : Params) : Obj := ⟨(.type "dict"), none, (.dict #[⟨PyData.keyHash P (Str.ofString "__name__"), (.str (Str.ofString "__name__") 165), (.str (Str.ofString "cpy313.stringprep") 187)⟩, ⟨PyData.keyHash P (Str.ofString "__doc__"), (.str (Str.ofString "__doc__") 166), .none⟩, ⟨PyData.keyHash P (Str.ofString "__package__"), (.str (Str.ofString "__package__") 167), .none⟩, ⟨PyData.keyHash P (Str.ofString "__loader__"), (.str (Str.ofString "__loader__") 168), (.builtin "__main__.__loader__#\x6fpaque")⟩, ⟨PyData.keyHash P (Str.ofString "__spec__"), (.str (Str.ofString "__spec__") 169), .none⟩, ⟨PyData.keyHash P (Str.ofString "__annotations__"), (.str (Str.ofString "__annotations__") 170), (.ref 6)⟩, ⟨PyData.keyHash P (Str.ofString "__builtins__"), (.str (Str.ofString "__builtins__") 171), (.ref 4)⟩, ⟨PyData.keyHash P (Str.ofString "__file__"), (.str (Str.ofString "__file__") 173), (.str (Str.ofString "/claim/cut.py") 172)⟩, ⟨PyData.keyHash P (Str.ofString "__cached__"), (.str (Str.ofString "__cached__") 174), .none⟩, ⟨PyData.keyHash P (Str.ofString "b1_set"), (.str (Str.ofString "b1_set") 248), (.ref 22)⟩, ⟨PyData.keyHash P (Str.ofString "in_table_b1"), (.str (Str.ofString "in_table_b1") 255), (.ref 32)⟩] 11), #[]⟩
noncomputable def o12C (P : Params) : Obj := ⟨.none, none, (.fields #[(.int 3 0), (.int 0 0), (.ref 31)]), #[]⟩
noncomputable def o26C (P : Params) : Obj := ⟨(.type "tuple"), none, (.seq #[] 0), #[]⟩
noncomputable def o27C (P : Params) : Obj := ⟨.none, none, (.fields #[]), #[]⟩
noncomputable def o28C (P : Params) : Obj := ⟨(.type "tuple"), none, (.seq #[(.str (Str.ofString "code") 252)] 0), #[]⟩
noncomputable def o29C (P : Params) : Obj := ⟨(.type "tuple"), none, (.seq #[] 0), #[]⟩
noncomputable def o30C (P : Params) : Obj := ⟨.none, none, (.func { name := (Str.ofString "in_table_b1"), qualname := (Str.ofString "in_table_b1"), params := fnParams 2, body := fnBody 2, scope := fnScope 2, globals := 0, closure := [], defaults := .none, kwdefaults := .none, doc := .none, pyModule := .none, annotations := none, code := .none, closureTuple := .none, builtins := 0 }), #[]⟩
noncomputable def o31C (P : Params) : Obj := ⟨(.type "code"), none, (.fields #[(.str (Str.ofString "in_table_b1") 249), (.str (Str.ofString "in_table_b1") 250), (.str (Str.ofString "/claim/cut.py") 251), (.int 3 0), (.int 1 0), (.int 0 0), (.int 0 0), (.int 3 0), (.ref 26), (.bool true), (.int 181 0), (.ref 27), .none, (.ref 28), (.ref 29), (.ref 30), (.int 253 0), (.int 3 0), (.str (Str.ofString "/claim/cut.py") 254)]), #[]⟩
noncomputable def o32C (P : Params) : Obj := ⟨(.type "function"), none, (.func { name := (Str.ofString "in_table_b1"), qualname := (Str.ofString "in_table_b1"), params := fnParams 2, body := fnBody 2, scope := fnScope 2, globals := 3, closure := [], defaults := .none, kwdefaults := .none, doc := .none, pyModule := (.str (Str.ofString "cpy313.stringprep") 187), annotations := none, code := (.ref 31), closureTuple := .none, builtins := 0 }), #[]⟩
noncomputable def trC (P : Params) (X : Nat → Obj) : BT := (.node (boot_o_0 P) (.node (boot_o_1 P) (.node (o3C P) (.node (boot_o_7 P) (.node (o15A P) (.node (o31C P) .nil .nil) .nil) (.node (X 23) .nil .nil)) (.node (o11S P) (.node (X 19) .nil .nil) (.node (o27C P) .nil .nil))) (.node (boot_o_5 P) (.node (boot_o_9 P) (.node (X 17) .nil .nil) (.node (X 25) .nil .nil)) (.node (o13S P) (.node (o21B P) .nil .nil) (.node (o29C P) .nil .nil)))) (.node (boot_o_2 P) (.node (boot_o_4 P) (.node (boot_o_8 P) (.node (o16A P) (.node (o32C P) .nil .nil) .nil) (.node (X 24) .nil .nil)) (.node (o12C P) (.node (X 20) .nil .nil) (.node (o28C P) .nil .nil))) (.node (boot_o_6 P) (.node (boot_o_10 P) (.node (X 18) .nil .nil) (.node (o26C P) .nil .nil)) (.node (o14S P) (.node (X 22) .nil .nil) (.node (o30C P) .nil .nil)))))
noncomputable def trC2 (P : Params) (X : Nat → Obj) : BT := (.node (boot_o_0 P) (.node (boot_o_1 P) (.node (o3C P) (.node (boot_o_7 P) (.node (o15A P) (.node (o31C P) (.node (X 63) .nil .nil) .nil) (.node (X 47) .nil .nil)) (.node (X 23) (.node (X 39) (.node (X 71) .nil .nil) .nil) (.node (X 55) .nil .nil))) (.node (o11S P) (.node (X 19) (.node (X 35) (.node (X 67) .nil .nil) .nil) (.node (X 51) .nil .nil)) (.node (o27C P) (.node (X 43) .nil .nil) (.node (X 59) .nil .nil)))) (.node (boot_o_5 P) (.node (boot_o_9 P) (.node (X 17) (.node (X 33) (.node (X 65) .nil .nil) .nil) (.node (X 49) .nil .nil)) (.node (X 25) (.node (X 41) .nil .nil) (.node (X 57) .nil .nil))) (.node (o13S P) (.node (o21B P) (.node (X 37) (.node (X 69) .nil .nil) .nil) (.node (X 53) .nil .nil)) (.node (o29C P) (.node (X 45) .nil .nil) (.node (X 61) .nil .nil))))) (.node (boot_o_2 P) (.node (boot_o_4 P) (.node (boot_o_8 P) (.node (o16A P) (.node (o32C P) (.node (X 64) .nil .nil) .nil) (.node (X 48) .nil .nil)) (.node (X 24) (.node (X 40) .nil .nil) (.node (X 56) .nil .nil))) (.node (o12C P) (.node (X 20) (.node (X 36) (.node (X 68) .nil .nil) .nil) (.node (X 52) .nil .nil)) (.node (o28C P) (.node (X 44) .nil .nil) (.node (X 60) .nil .nil)))) (.node (boot_o_6 P) (.node (boot_o_10 P) (.node (X 18) (.node (X 34) (.node (X 66) .nil .nil) .nil) (.node (X 50) .nil .nil)) (.node (o26C P) (.node (X 42) .nil .nil) (.node (X 58) .nil .nil))) (.node (o14S P) (.node (X 22) (.node (X 38) (.node (X 70) .nil .nil) .nil) (.node (X 54) .nil .nil)) (.node (o30C P) (.node (X 46) .nil .nil) (.node (X 62) .nil .nil))))))
noncomputable def nC : Nat := 33
noncomputable def kC : Nat := 256
noncomputable def o3D (P : Params) : Obj := ⟨(.type "dict"), none, (.dict #[⟨PyData.keyHash P (Str.ofString "__name__"), (.str (Str.ofString "__name__") 165), (.str (Str.ofString "cpy313.stringprep") 187)⟩, ⟨PyData.keyHash P (Str.ofString "__doc__"), (.str (Str.ofString "__doc__") 166), .none⟩, ⟨PyData.keyHash P (Str.ofString "__package__"), (.str (Str.ofString "__package__") 167), .none⟩, ⟨PyData.keyHash P (Str.ofString "__loader__"), (.str (Str.ofString "__loader__") 168), (.builtin "__main__.__loader__#\x6fpaque")⟩, ⟨PyData.keyHash P (Str.ofString "__spec__"), (.str (Str.ofString "__spec__") 169), .none⟩, ⟨PyData.keyHash P (Str.ofString "__annotations__"), (.str (Str.ofString "__annotations__") 170), (.ref 6)⟩, ⟨PyData.keyHash P (Str.ofString "__builtins__"), (.str (Str.ofString "__builtins__") 171), (.ref 4)⟩, ⟨PyData.keyHash P (Str.ofString "__file__"), (.str (Str.ofString "__file__") 173), (.str (Str.ofString "/claim/cut.py") 172)⟩, ⟨PyData.keyHash P (Str.ofString "__cached__"), (.str (Str.ofString "__cached__") 174), .none⟩, ⟨PyData.keyHash P (Str.ofString "b1_set"), (.str (Str.ofString "b1_set") 248), (.ref 22)⟩, ⟨PyData.keyHash P (Str.ofString "in_table_b1"), (.str (Str.ofString "in_table_b1") 255), (.ref 32)⟩, ⟨PyData.keyHash P (Str.ofString "b3_exceptions"), (.str (Str.ofString "b3_exceptions") 2206), (.ref 33)⟩, ⟨PyData.keyHash P (Str.ofString "map_table_b3"), (.str (Str.ofString "map_table_b3") 2214), (.ref 78)⟩, ⟨PyData.keyHash P (Str.ofString "in_table_c11"), (.str (Str.ofString "in_table_c11") 2221), (.ref 85)⟩] 14), #[]⟩
noncomputable def o12D (P : Params) : Obj := ⟨.none, none, (.fields #[(.int 3 0), (.int 0 0), (.ref 31), (.int 6 0), (.int 0 0), (.ref 77), (.int 11 0), (.int 0 0), (.ref 84)]), #[]⟩
noncomputable def o72D (P : Params) : Obj := ⟨(.type "tuple"), none, (.seq #[] 0), #[]⟩
noncomputable def o73D (P : Params) : Obj := ⟨.none, none, (.fields #[]), #[]⟩
noncomputable def o74D (P : Params) : Obj := ⟨(.type "tuple"), none, (.seq #[(.str (Str.ofString "code") 2210), (.str (Str.ofString "r") 2211)] 0), #[]⟩
noncomputable def o75D (P : Params) : Obj := ⟨(.type "tuple"), none, (.seq #[] 0), #[]⟩
noncomputable def o76D (P : Params) : Obj := ⟨.none, none, (.func { name := (Str.ofString "map_table_b3"), qualname := (Str.ofString "map_table_b3"), params := fnParams 4, body := fnBody 4, scope := fnScope 4, globals := 0, closure := [], defaults := .none, kwdefaults := .none, doc := .none, pyModule := .none, annotations := none, code := .none, closureTuple := .none, builtins := 0 }), #[]⟩
noncomputable def o77D (P : Params) : Obj := ⟨(.type "code"), none, (.fields #[(.str (Str.ofString "map_table_b3") 2207), (.str (Str.ofString "map_table_b3") 2208), (.str (Str.ofString "/claim/cut.py") 2209), (.int 6 0), (.int 1 0), (.int 0 0), (.int 0 0), (.int 3 0), (.ref 72), (.bool true), (.int 181 0), (.ref 73), .none, (.ref 74), (.ref 75), (.ref 76), (.int 2212 0), (.int 6 0), (.str (Str.ofString "/claim/cut.py") 2213)]), #[]⟩
noncomputable def o78D (P : Params) : Obj := ⟨(.type "function"), none, (.func { name := (Str.ofString "map_table_b3"), qualname := (Str.ofString "map_table_b3"), params := fnParams 4, body := fnBody 4, scope := fnScope 4, globals := 3, closure := [], defaults := .none, kwdefaults := .none, doc := .none, pyModule := (.str (Str.ofString "cpy313.stringprep") 187), annotations := none, code := (.ref 77), closureTuple := .none, builtins := 0 }), #[]⟩
noncomputable def o79D (P : Params) : Obj := ⟨(.type "tuple"), none, (.seq #[] 0), #[]⟩
noncomputable def o80D (P : Params) : Obj := ⟨.none, none, (.fields #[]), #[]⟩
noncomputable def o81D (P : Params) : Obj := ⟨(.type "tuple"), none, (.seq #[(.str (Str.ofString "code") 2218)] 0), #[]⟩
noncomputable def o82D (P : Params) : Obj := ⟨(.type "tuple"), none, (.seq #[] 0), #[]⟩
noncomputable def o83D (P : Params) : Obj := ⟨.none, none, (.func { name := (Str.ofString "in_table_c11"), qualname := (Str.ofString "in_table_c11"), params := fnParams 5, body := fnBody 5, scope := fnScope 5, globals := 0, closure := [], defaults := .none, kwdefaults := .none, doc := .none, pyModule := .none, annotations := none, code := .none, closureTuple := .none, builtins := 0 }), #[]⟩
noncomputable def o84D (P : Params) : Obj := ⟨(.type "code"), none, (.fields #[(.str (Str.ofString "in_table_c11") 2215), (.str (Str.ofString "in_table_c11") 2216), (.str (Str.ofString "/claim/cut.py") 2217), (.int 11 0), (.int 1 0), (.int 0 0), (.int 0 0), (.int 3 0), (.ref 79), (.bool true), (.int 181 0), (.ref 80), .none, (.ref 81), (.ref 82), (.ref 83), (.int 2219 0), (.int 11 0), (.str (Str.ofString "/claim/cut.py") 2220)]), #[]⟩
noncomputable def o85D (P : Params) : Obj := ⟨(.type "function"), none, (.func { name := (Str.ofString "in_table_c11"), qualname := (Str.ofString "in_table_c11"), params := fnParams 5, body := fnBody 5, scope := fnScope 5, globals := 3, closure := [], defaults := .none, kwdefaults := .none, doc := .none, pyModule := (.str (Str.ofString "cpy313.stringprep") 187), annotations := none, code := (.ref 84), closureTuple := .none, builtins := 0 }), #[]⟩
noncomputable def o86D (P : Params) : Obj := ⟨(.type "list"), none, (.seq #[(.int 917505 2222)] 0), #[]⟩
noncomputable def o87D (P : Params) : Obj := ⟨(.type "range"), none, (.fields #[(.int 917536 2223), (.int 917632 2224), (.int 1 2225)]), #[]⟩
noncomputable def trD (P : Params) (X : Nat → Obj) : BT := (.node (boot_o_0 P) (.node (boot_o_1 P) (.node (o3D P) (.node (boot_o_7 P) (.node (o15A P) (.node (o31C P) (.node (X 63) .nil .nil) .nil) (.node (X 47) (.node (o79D P) .nil .nil) .nil)) (.node (X 23) (.node (X 39) (.node (X 71) .nil .nil) .nil) (.node (X 55) (.node (o87D P) .nil .nil) .nil))) (.node (o11S P) (.node (X 19) (.node (X 35) (.node (X 67) .nil .nil) .nil) (.node (X 51) (.node (o83D P) .nil .nil) .nil)) (.node (o27C P) (.node (X 43) (.node (o75D P) .nil .nil) .nil) (.node (X 59) .nil .nil)))) (.node (boot_o_5 P) (.node (boot_o_9 P) (.node (X 17) (.node (X 33) (.node (X 65) .nil .nil) .nil) (.node (X 49) (.node (o81D P) .nil .nil) .nil)) (.node (X 25) (.node (X 41) (.node (o73D P) .nil .nil) .nil) (.node (X 57) .nil .nil))) (.node (o13S P) (.node (o21B P) (.node (X 37) (.node (X 69) .nil .nil) .nil) (.node (X 53) (.node (o85D P) .nil .nil) .nil)) (.node (o29C P) (.node (X 45) (.node (o77D P) .nil .nil) .nil) (.node (X 61) .nil .nil))))) (.node (boot_o_2 P) (.node (boot_o_4 P) (.node (boot_o_8 P) (.node (o16A P) (.node (o32C P) (.node (X 64) .nil .nil) .nil) (.node (X 48) (.node (o80D P) .nil .nil) .nil)) (.node (X 24) (.node (X 40) (.node (o72D P) .nil .nil) .nil) (.node (X 56) .nil .nil))) (.node (o12D P) (.node (X 20) (.node (X 36) (.node (X 68) .nil .nil) .nil) (.node (X 52) (.node (o84D P) .nil .nil) .nil)) (.node (o28C P) (.node (X 44) (.node (o76D P) .nil .nil) .nil) (.node (X 60) .nil .nil)))) (.node (boot_o_6 P) (.node (boot_o_10 P) (.node (X 18) (.node (X 34) (.node (X 66) .nil .nil) .nil) (.node (X 50) (.node (o82D P) .nil .nil) .nil)) (.node (o26C P) (.node (X 42) (.node (o74D P) .nil .nil) .nil) (.node (X 58) .nil .nil))) (.node (o14S P) (.node (X 22) (.node (X 38) (.node (X 70) .nil .nil) .nil) (.node (X 54) (.node (o86D P) .nil .nil) .nil)) (.node (o30C P) (.node (X 46) (.node (o78D P) .nil .nil) .nil) (.node (X 62) .nil .nil))))))
noncomputable def trD2 (P : Params) (X : Nat → Obj) : BT := (.node (boot_o_0 P) (.node (boot_o_1 P) (.node (o3D P) (.node (boot_o_7 P) (.node (o15A P) (.node (o31C P) (.node (X 63) .nil .nil) .nil) (.node (X 47) (.node (o79D P) .nil .nil) .nil)) (.node (X 23) (.node (X 39) (.node (X 71) .nil .nil) .nil) (.node (X 55) (.node (o87D P) .nil .nil) .nil))) (.node (o11S P) (.node (X 19) (.node (X 35) (.node (X 67) .nil .nil) .nil) (.node (X 51) (.node (o83D P) .nil .nil) .nil)) (.node (o27C P) (.node (X 43) (.node (o75D P) .nil .nil) .nil) (.node (X 59) (.node (X 91) .nil .nil) .nil)))) (.node (boot_o_5 P) (.node (boot_o_9 P) (.node (X 17) (.node (X 33) (.node (X 65) .nil .nil) .nil) (.node (X 49) (.node (o81D P) .nil .nil) .nil)) (.node (X 25) (.node (X 41) (.node (o73D P) .nil .nil) .nil) (.node (X 57) (.node (X 89) .nil .nil) .nil))) (.node (o13S P) (.node (o21B P) (.node (X 37) (.node (X 69) .nil .nil) .nil) (.node (X 53) (.node (o85D P) .nil .nil) .nil)) (.node (o29C P) (.node (X 45) (.node (o77D P) .nil .nil) .nil) (.node (X 61) .nil .nil))))) (.node (boot_o_2 P) (.node (boot_o_4 P) (.node (boot_o_8 P) (.node (o16A P) (.node (o32C P) (.node (X 64) .nil .nil) .nil) (.node (X 48) (.node (o80D P) .nil .nil) .nil)) (.node (X 24) (.node (X 40) (.node (o72D P) .nil .nil) .nil) (.node (X 56) (.node (X 88) .nil .nil) .nil))) (.node (o12D P) (.node (X 20) (.node (X 36) (.node (X 68) .nil .nil) .nil) (.node (X 52) (.node (o84D P) .nil .nil) .nil)) (.node (o28C P) (.node (X 44) (.node (o76D P) .nil .nil) .nil) (.node (X 60) .nil .nil)))) (.node (boot_o_6 P) (.node (boot_o_10 P) (.node (X 18) (.node (X 34) (.node (X 66) .nil .nil) .nil) (.node (X 50) (.node (o82D P) .nil .nil) .nil)) (.node (o26C P) (.node (X 42) (.node (o74D P) .nil .nil) .nil) (.node (X 58) (.node (X 90) .nil .nil) .nil))) (.node (o14S P) (.node (X 22) (.node (X 38) (.node (X 70) .nil .nil) .nil) (.node (X 54) (.node (o86D P) .nil .nil) .nil)) (.node (o30C P) (.node (X 46) (.node (o78D P) .nil .nil) .nil) (.node (X 62) .nil .nil))))))
noncomputable def nD : Nat := 88
noncomputable def kD : Nat := 2226
noncomputable def o92E (P : Params) : Obj := ⟨(.type "list"), none, (.seq #[(.int 917505 2222), (.int 917536 2228), (.int 917537 2229), (.int 917538 2230), (.int 917539 2231), (.int 917540 2232), (.int 917541 2233), (.int 917542 2234), (.int 917543 2235), (.int 917544 2236), (.int 917545 2237), (.int 917546 2238), (.int 917547 2239), (.int 917548 2240), (.int 917549 2241), (.int 917550 2242), (.int 917551 2243), (.int 917552 2244), (.int 917553 2245), (.int 917554 2246), (.int 917555 2247), (.int 917556 2248), (.int 917557 2249), (.int 917558 2250), (.int 917559 2251), (.int 917560 2252), (.int 917561 2253), (.int 917562 2254), (.int 917563 2255), (.int 917564 2256), (.int 917565 2257), (.int 917566 2258), (.int 917567 2259), (.int 917568 2260), (.int 917569 2261), (.int 917570 2262), (.int 917571 2263), (.int 917572 2264), (.int 917573 2265), (.int 917574 2266), (.int 917575 2267), (.int 917576 2268), (.int 917577 2269), (.int 917578 2270), (.int 917579 2271), (.int 917580 2272), (.int 917581 2273), (.int 917582 2274), (.int 917583 2275), (.int 917584 2276), (.int 917585 2277), (.int 917586 2278), (.int 917587 2279), (.int 917588 2280), (.int 917589 2281), (.int 917590 2282), (.int 917591 2283), (.int 917592 2284), (.int 917593 2285), (.int 917594 2286), (.int 917595 2287), (.int 917596 2288), (.int 917597 2289), (.int 917598 2290), (.int 917599 2291), (.int 917600 2292), (.int 917601 2293), (.int 917602 2294), (.int 917603 2295), (.int 917604 2296), (.int 917605 2297), (.int 917606 2298), (.int 917607 2299), (.int 917608 2300), (.int 917609 2301), (.int 917610 2302), (.int 917611 2303), (.int 917612 2304), (.int 917613 2305), (.int 917614 2306), (.int 917615 2307), (.int 917616 2308), (.int 917617 2309), (.int 917618 2310), (.int 917619 2311), (.int 917620 2312), (.int 917621 2313), (.int 917622 2314), (.int 917623 2315), (.int 917624 2316), (.int 917625 2317), (.int 917626 2318), (.int 917627 2319), (.int 917628 2320), (.int 917629 2321), (.int 917630 2322), (.int 917631 2323)] 0), #[]⟩
noncomputable def trE (P : Params) (X : Nat → Obj) : BT := (.node (boot_o_0 P) (.node (boot_o_1 P) (.node (o3D P) (.node (boot_o_7 P) (.node (o15A P) (.node (o31C P) (.node (X 63) .nil .nil) .nil) (.node (X 47) (.node (o79D P) .nil .nil) .nil)) (.node (X 23) (.node (X 39) (.node (X 71) .nil .nil) .nil) (.node (X 55) (.node (o87D P) .nil .nil) .nil))) (.node (o11S P) (.node (X 19) (.node (X 35) (.node (X 67) .nil .nil) .nil) (.node (X 51) (.node (o83D P) .nil .nil) .nil)) (.node (o27C P) (.node (X 43) (.node (o75D P) .nil .nil) .nil) (.node (X 59) (.node (X 91) .nil .nil) .nil)))) (.node (boot_o_5 P) (.node (boot_o_9 P) (.node (X 17) (.node (X 33) (.node (X 65) .nil .nil) .nil) (.node (X 49) (.node (o81D P) .nil .nil) .nil)) (.node (X 25) (.node (X 41) (.node (o73D P) .nil .nil) .nil) (.node (X 57) (.node (X 89) .nil .nil) .nil))) (.node (o13S P) (.node (o21B P) (.node (X 37) (.node (X 69) .nil .nil) .nil) (.node (X 53) (.node (o85D P) .nil .nil) .nil)) (.node (o29C P) (.node (X 45) (.node (o77D P) .nil .nil) .nil) (.node (X 61) .nil .nil))))) (.node (boot_o_2 P) (.node (boot_o_4 P) (.node (boot_o_8 P) (.node (o16A P) (.node (o32C P) (.node (X 64) .nil .nil) .nil) (.node (X 48) (.node (o80D P) .nil .nil) .nil)) (.node (X 24) (.node (X 40) (.node (o72D P) .nil .nil) .nil) (.node (X 56) (.node (X 88) .nil .nil) .nil))) (.node (o12D P) (.node (X 20) (.node (X 36) (.node (X 68) .nil .nil) .nil) (.node (X 52) (.node (o84D P) .nil .nil) .nil)) (.node (o28C P) (.node (X 44) (.node (o76D P) .nil .nil) .nil) (.node (X 60) (.node (o92E P) .nil .nil) .nil)))) (.node (boot_o_6 P) (.node (boot_o_10 P) (.node (X 18) (.node (X 34) (.node (X 66) .nil .nil) .nil) (.node (X 50) (.node (o82D P) .nil .nil) .nil)) (.node (o26C P) (.node (X 42) (.node (o74D P) .nil .nil) .nil) (.node (X 58) (.node (X 90) .nil .nil) .nil))) (.node (o14S P) (.node (X 22) (.node (X 38) (.node (X 70) .nil .nil) .nil) (.node (X 54) (.node (o86D P) .nil .nil) .nil)) (.node (o30C P) (.node (X 46) (.node (o78D P) .nil .nil) .nil) (.node (X 62) .nil .nil))))))
noncomputable def trE2 (P : Params) (X : Nat → Obj) : BT := (.node (boot_o_0 P) (.node (boot_o_1 P) (.node (o3D P) (.node (boot_o_7 P) (.node (o15A P) (.node (o31C P) (.node (X 63) .nil .nil) (.node (X 95) .nil .nil)) (.node (X 47) (.node (o79D P) .nil .nil) .nil)) (.node (X 23) (.node (X 39) (.node (X 71) .nil .nil) .nil) (.node (X 55) (.node (o87D P) .nil .nil) .nil))) (.node (o11S P) (.node (X 19) (.node (X 35) (.node (X 67) .nil .nil) .nil) (.node (X 51) (.node (o83D P) .nil .nil) .nil)) (.node (o27C P) (.node (X 43) (.node (o75D P) .nil .nil) .nil) (.node (X 59) (.node (X 91) .nil .nil) .nil)))) (.node (boot_o_5 P) (.node (boot_o_9 P) (.node (X 17) (.node (X 33) (.node (X 65) .nil .nil) .nil) (.node (X 49) (.node (o81D P) .nil .nil) .nil)) (.node (X 25) (.node (X 41) (.node (o73D P) .nil .nil) .nil) (.node (X 57) (.node (X 89) .nil .nil) .nil))) (.node (o13S P) (.node (o21B P) (.node (X 37) (.node (X 69) .nil .nil) .nil) (.node (X 53) (.node (o85D P) .nil .nil) .nil)) (.node (o29C P) (.node (X 45) (.node (o77D P) .nil .nil) .nil) (.node (X 61) (.node (X 93) .nil .nil) .nil))))) (.node (boot_o_2 P) (.node (boot_o_4 P) (.node (boot_o_8 P) (.node (o16A P) (.node (o32C P) (.node (X 64) .nil .nil) (.node (X 96) .nil .nil)) (.node (X 48) (.node (o80D P) .nil .nil) .nil)) (.node (X 24) (.node (X 40) (.node (o72D P) .nil .nil) .nil) (.node (X 56) (.node (X 88) .nil .nil) .nil))) (.node (o12D P) (.node (X 20) (.node (X 36) (.node (X 68) .nil .nil) .nil) (.node (X 52) (.node (o84D P) .nil .nil) .nil)) (.node (o28C P) (.node (X 44) (.node (o76D P) .nil .nil) .nil) (.node (X 60) (.node (o92E P) .nil .nil) .nil)))) (.node (boot_o_6 P) (.node (boot_o_10 P) (.node (X 18) (.node (X 34) (.node (X 66) .nil .nil) .nil) (.node (X 50) (.node (o82D P) .nil .nil) .nil)) (.node (o26C P) (.node (X 42) (.node (o74D P) .nil .nil) .nil) (.node (X 58) (.node (X 90) .nil .nil) .nil))) (.node (o14S P) (.node (X 22) (.node (X 38) (.node (X 70) .nil .nil) .nil) (.node (X 54) (.node (o86D P) .nil .nil) .nil)) (.node (o30C P) (.node (X 46) (.node (o78D P) .nil .nil) .nil) (.node (X 62) (.node (X 94) .nil .nil) .nil))))))
noncomputable def nE : Nat := 93
noncomputable def kE : Nat := 2324
noncomputable def o3F (P : Params) : Obj := ⟨(.type "dict"), none, (.dict #[⟨PyData.keyHash P (Str.ofString "__name__"), (.str (Str.ofString "__name__") 165), (.str (Str.ofString "law_tp0034_01") 2476)⟩, ⟨PyData.keyHash P (Str.ofString "__doc__"), (.str (Str.ofString "__doc__") 166), .none⟩, ⟨PyData.keyHash P (Str.ofString "__package__"), (.str (Str.ofString "__package__") 167), .none⟩, ⟨PyData.keyHash P (Str.ofString "__loader__"), (.str (Str.ofString "__loader__") 168), (.builtin "__main__.__loader__#\x6fpaque")⟩, ⟨PyData.keyHash P (Str.ofString "__spec__"), (.str (Str.ofString "__spec__") 169), .none⟩, ⟨PyData.keyHash P (Str.ofString "__annotations__"), (.str (Str.ofString "__annotations__") 170), (.ref 6)⟩, ⟨PyData.keyHash P (Str.ofString "__builtins__"), (.str (Str.ofString "__builtins__") 171), (.ref 4)⟩, ⟨PyData.keyHash P (Str.ofString "__file__"), (.str (Str.ofString "__file__") 173), (.str (Str.ofString "/claim/cut.py") 172)⟩, ⟨PyData.keyHash P (Str.ofString "__cached__"), (.str (Str.ofString "__cached__") 174), .none⟩, ⟨PyData.keyHash P (Str.ofString "b1_set"), (.str (Str.ofString "b1_set") 248), (.ref 22)⟩, ⟨PyData.keyHash P (Str.ofString "in_table_b1"), (.str (Str.ofString "in_table_b1") 255), (.ref 32)⟩, ⟨PyData.keyHash P (Str.ofString "b3_exceptions"), (.str (Str.ofString "b3_exceptions") 2206), (.ref 33)⟩, ⟨PyData.keyHash P (Str.ofString "map_table_b3"), (.str (Str.ofString "map_table_b3") 2214), (.ref 78)⟩, ⟨PyData.keyHash P (Str.ofString "in_table_c11"), (.str (Str.ofString "in_table_c11") 2221), (.ref 85)⟩, ⟨PyData.keyHash P (Str.ofString "c9_set"), (.str (Str.ofString "c9_set") 2421), (.ref 93)⟩, ⟨PyData.keyHash P (Str.ofString "in_table_c9"), (.str (Str.ofString "in_table_c9") 2428), (.ref 103)⟩, ⟨PyData.keyHash P (Str.ofString "rgb_to_hls"), (.str (Str.ofString "rgb_to_hls") 2449), (.ref 110)⟩, ⟨PyData.keyHash P (Str.ofString "hsv_to_rgb"), (.str (Str.ofString "hsv_to_rgb") 2463), (.ref 117)⟩, ⟨PyData.keyHash P (Str.ofString "Int2AP"), (.str (Str.ofString "Int2AP") 2475), (.ref 124)⟩, ⟨PyData.keyHash P (Str.ofString "_law_sign"), (.str (Str.ofString "_law_sign") 2486), (.ref 131)⟩, ⟨PyData.keyHash P (Str.ofString "_law_typed"), (.str (Str.ofString "_law_typed") 2496), (.ref 138)⟩, ⟨PyData.keyHash P (Str.ofString "_law_read"), (.str (Str.ofString "_law_read") 2502), (.ref 143)⟩, ⟨PyData.keyHash P (Str.ofString "law"), (.str (Str.ofString "law") 2508), (.ref 148)⟩] 23), #[]⟩
noncomputable def o12F (P : Params) : Obj := ⟨.none, none, (.fields #[(.int 3 0), (.int 0 0), (.ref 31), (.int 6 0), (.int 0 0), (.ref 77), (.int 11 0), (.int 0 0), (.ref 84), (.int 14 0), (.int 0 0), (.ref 102), (.int 17 0), (.int 0 0), (.ref 109), (.int 40 0), (.int 0 0), (.ref 116), (.int 62 0), (.int 0 0), (.ref 123), (.int 71 0), (.int 0 0), (.ref 130), (.int 78 0), (.int 0 0), (.ref 137), (.int 89 0), (.int 0 0), (.ref 142), (.int 102 0), (.int 0 0), (.ref 147)]), #[]⟩
noncomputable def o97F (P : Params) : Obj := ⟨(.type "tuple"), none, (.seq #[] 0), #[]⟩
noncomputable def o98F (P : Params) : Obj := ⟨.none, none, (.fields #[]), #[]⟩
noncomputable def o99F (P : Params) : Obj := ⟨(.type "tuple"), none, (.seq #[(.str (Str.ofString "code") 2425)] 0), #[]⟩
noncomputable def o100F (P : Params) : Obj := ⟨(.type "tuple"), none, (.seq #[] 0), #[]⟩
noncomputable def o101F (P : Params) : Obj := ⟨.none, none, (.func { name := (Str.ofString "in_table_c9"), qualname := (Str.ofString "in_table_c9"), params := fnParams 7, body := fnBody 7, scope := fnScope 7, globals := 0, closure := [], defaults := .none, kwdefaults := .none, doc := .none, pyModule := .none, annotations := none, code := .none, closureTuple := .none, builtins := 0 }), #[]⟩
noncomputable def o102F (P : Params) : Obj := ⟨(.type "code"), none, (.fields #[(.str (Str.ofString "in_table_c9") 2422), (.str (Str.ofString "in_table_c9") 2423), (.str (Str.ofString "/claim/cut.py") 2424), (.int 14 0), (.int 1 0), (.int 0 0), (.int 0 0), (.int 3 0), (.ref 97), (.bool true), (.int 181 0), (.ref 98), .none, (.ref 99), (.ref 100), (.ref 101), (.int 2426 0), (.int 14 0), (.str (Str.ofString "/claim/cut.py") 2427)]), #[]⟩
noncomputable def o103F (P : Params) : Obj := ⟨(.type "function"), none, (.func { name := (Str.ofString "in_table_c9"), qualname := (Str.ofString "in_table_c9"), params := fnParams 7, body := fnBody 7, scope := fnScope 7, globals := 3, closure := [], defaults := .none, kwdefaults := .none, doc := .none, pyModule := (.str (Str.ofString "cpy313.stringprep") 187), annotations := none, code := (.ref 102), closureTuple := .none, builtins := 0 }), #[]⟩
noncomputable def o104F (P : Params) : Obj := ⟨(.type "tuple"), none, (.seq #[] 0), #[]⟩
noncomputable def o105F (P : Params) : Obj := ⟨.none, none, (.fields #[]), #[]⟩
noncomputable def o106F (P : Params) : Obj := ⟨(.type "tuple"), none, (.seq #[(.str (Str.ofString "r") 2434), (.str (Str.ofString "g") 2435), (.str (Str.ofString "b") 2436), (.str (Str.ofString "maxc") 2437), (.str (Str.ofString "minc") 2438), (.str (Str.ofString "sumc") 2439), (.str (Str.ofString "rangec") 2440), (.str (Str.ofString "l") 2441), (.str (Str.ofString "s") 2442), (.str (Str.ofString "rc") 2443), (.str (Str.ofString "gc") 2444), (.str (Str.ofString "bc") 2445), (.str (Str.ofString "h") 2446)] 0), #[]⟩
noncomputable def o107F (P : Params) : Obj := ⟨(.type "tuple"), none, (.seq #[] 0), #[]⟩
noncomputable def o108F (P : Params) : Obj := ⟨.none, none, (.func { name := (Str.ofString "rgb_to_hls"), qualname := (Str.ofString "rgb_to_hls"), params := fnParams 9, body := fnBody 9, scope := fnScope 9, globals := 0, closure := [], defaults := .none, kwdefaults := .none, doc := .none, pyModule := .none, annotations := none, code := .none, closureTuple := .none, builtins := 0 }), #[]⟩
noncomputable def o109F (P : Params) : Obj := ⟨(.type "code"), none, (.fields #[(.str (Str.ofString "rgb_to_hls") 2431), (.str (Str.ofString "rgb_to_hls") 2432), (.str (Str.ofString "/claim/cut.py") 2433), (.int 17 0), (.int 3 0), (.int 0 0), (.int 0 0), (.int 3 0), (.ref 104), (.bool true), (.int 181 0), (.ref 105), .none, (.ref 106), (.ref 107), (.ref 108), (.int 2447 0), (.int 17 0), (.str (Str.ofString "/claim/cut.py") 2448)]), #[]⟩
noncomputable def o110F (P : Params) : Obj := ⟨(.type "function"), none, (.func { name := (Str.ofString "rgb_to_hls"), qualname := (Str.ofString "rgb_to_hls"), params := fnParams 9, body := fnBody 9, scope := fnScope 9, globals := 3, closure := [], defaults := .none, kwdefaults := .none, doc := .none, pyModule := (.str (Str.ofString "cpy313.colorsys") 2429), annotations := none, code := (.ref 109), closureTuple := .none, builtins := 0 }), #[]⟩
noncomputable def o111F (P : Params) : Obj := ⟨(.type "tuple"), none, (.seq #[] 0), #[]⟩
noncomputable def o112F (P : Params) : Obj := ⟨.none, none, (.fields #[]), #[]⟩
noncomputable def o113F (P : Params) : Obj := ⟨(.type "tuple"), none, (.seq #[(.str (Str.ofString "h") 2453), (.str (Str.ofString "s") 2454), (.str (Str.ofString "v") 2455), (.str (Str.ofString "i") 2456), (.str (Str.ofString "f") 2457), (.str (Str.ofString "p") 2458), (.str (Str.ofString "q") 2459), (.str (Str.ofString "t") 2460)] 0), #[]⟩
noncomputable def o114F (P : Params) : Obj := ⟨(.type "tuple"), none, (.seq #[] 0), #[]⟩
noncomputable def o115F (P : Params) : Obj := ⟨.none, none, (.func { name := (Str.ofString "hsv_to_rgb"), qualname := (Str.ofString "hsv_to_rgb"), params := fnParams 10, body := fnBody 10, scope := fnScope 10, globals := 0, closure := [], defaults := .none, kwdefaults := .none, doc := .none, pyModule := .none, annotations := none, code := .none, closureTuple := .none, builtins := 0 }), #[]⟩
noncomputable def o116F (P : Params) : Obj := ⟨(.type "code"), none, (.fields #[(.str (Str.ofString "hsv_to_rgb") 2450), (.str (Str.ofString "hsv_to_rgb") 2451), (.str (Str.ofString "/claim/cut.py") 2452), (.int 40 0), (.int 3 0), (.int 0 0), (.int 0 0), (.int 3 0), (.ref 111), (.bool true), (.int 181 0), (.ref 112), .none, (.ref 113), (.ref 114), (.ref 115), (.int 2461 0), (.int 40 0), (.str (Str.ofString "/claim/cut.py") 2462)]), #[]⟩
noncomputable def o117F (P : Params) : Obj := ⟨(.type "function"), none, (.func { name := (Str.ofString "hsv_to_rgb"), qualname := (Str.ofString "hsv_to_rgb"), params := fnParams 10, body := fnBody 10, scope := fnScope 10, globals := 3, closure := [], defaults := .none, kwdefaults := .none, doc := .none, pyModule := (.str (Str.ofString "cpy313.colorsys") 2429), annotations := none, code := (.ref 116), closureTuple := .none, builtins := 0 }), #[]⟩
noncomputable def o118F (P : Params) : Obj := ⟨(.type "tuple"), none, (.seq #[] 0), #[]⟩
noncomputable def o119F (P : Params) : Obj := ⟨.none, none, (.fields #[]), #[]⟩
noncomputable def o120F (P : Params) : Obj := ⟨(.type "tuple"), none, (.seq #[(.str (Str.ofString "num") 2469), (.str (Str.ofString "val") 2470), (.str (Str.ofString "AP") 2471), (.str (Str.ofString "mod") 2472)] 0), #[]⟩
noncomputable def o121F (P : Params) : Obj := ⟨(.type "tuple"), none, (.seq #[] 0), #[]⟩
noncomputable def o122F (P : Params) : Obj := ⟨.none, none, (.func { name := (Str.ofString "Int2AP"), qualname := (Str.ofString "Int2AP"), params := fnParams 12, body := fnBody 12, scope := fnScope 12, globals := 0, closure := [], defaults := .none, kwdefaults := .none, doc := .none, pyModule := .none, annotations := none, code := .none, closureTuple := .none, builtins := 0 }), #[]⟩
noncomputable def o123F (P : Params) : Obj := ⟨(.type "code"), none, (.fields #[(.str (Str.ofString "Int2AP") 2466), (.str (Str.ofString "Int2AP") 2467), (.str (Str.ofString "/claim/cut.py") 2468), (.int 62 0), (.int 1 0), (.int 0 0), (.int 0 0), (.int 3 0), (.ref 118), (.bool true), (.int 181 0), (.ref 119), .none, (.ref 120), (.ref 121), (.ref 122), (.int 2473 0), (.int 62 0), (.str (Str.ofString "/claim/cut.py") 2474)]), #[]⟩
noncomputable def o124F (P : Params) : Obj := ⟨(.type "function"), none, (.func { name := (Str.ofString "Int2AP"), qualname := (Str.ofString "Int2AP"), params := fnParams 12, body := fnBody 12, scope := fnScope 12, globals := 3, closure := [], defaults := .none, kwdefaults := .none, doc := .none, pyModule := (.str (Str.ofString "cpy313.imaplib") 2464), annotations := none, code := (.ref 123), closureTuple := .none, builtins := 0 }), #[]⟩
noncomputable def o125F (P : Params) : Obj := ⟨(.type "tuple"), none, (.seq #[] 0), #[]⟩
noncomputable def o126F (P : Params) : Obj := ⟨.none, none, (.fields #[]), #[]⟩
noncomputable def o127F (P : Params) : Obj := ⟨(.type "tuple"), none, (.seq #[(.str (Str.ofString "letter") 2481), (.str (Str.ofString "form") 2482), (.str (Str.ofString "kind") 2483)] 0), #[]⟩
noncomputable def o128F (P : Params) : Obj := ⟨(.type "tuple"), none, (.seq #[] 0), #[]⟩
noncomputable def o129F (P : Params) : Obj := ⟨.none, none, (.func { name := (Str.ofString "_law_sign"), qualname := (Str.ofString "_law_sign"), params := fnParams 14, body := fnBody 14, scope := fnScope 14, globals := 0, closure := [], defaults := .none, kwdefaults := .none, doc := .none, pyModule := .none, annotations := none, code := .none, closureTuple := .none, builtins := 0 }), #[]⟩
noncomputable def o130F (P : Params) : Obj := ⟨(.type "code"), none, (.fields #[(.str (Str.ofString "_law_sign") 2478), (.str (Str.ofString "_law_sign") 2479), (.str (Str.ofString "/claim/cut.py") 2480), (.int 71 0), (.int 2 0), (.int 0 0), (.int 0 0), (.int 3 0), (.ref 125), (.bool true), (.int 181 0), (.ref 126), .none, (.ref 127), (.ref 128), (.ref 129), (.int 2484 0), (.int 71 0), (.str (Str.ofString "/claim/cut.py") 2485)]), #[]⟩
noncomputable def o131F (P : Params) : Obj := ⟨(.type "function"), none, (.func { name := (Str.ofString "_law_sign"), qualname := (Str.ofString "_law_sign"), params := fnParams 14, body := fnBody 14, scope := fnScope 14, globals := 3, closure := [], defaults := .none, kwdefaults := .none, doc := .none, pyModule := (.str (Str.ofString "law_tp0034_01") 2476), annotations := none, code := (.ref 130), closureTuple := .none, builtins := 0 }), #[]⟩
noncomputable def o132F (P : Params) : Obj := ⟨(.type "tuple"), none, (.seq #[] 0), #[]⟩
noncomputable def o133F (P : Params) : Obj := ⟨.none, none, (.fields #[]), #[]⟩
noncomputable def o134F (P : Params) : Obj := ⟨(.type "tuple"), none, (.seq #[(.str (Str.ofString "number") 2490), (.str (Str.ofString "form") 2491), (.str (Str.ofString "text") 2492), (.str (Str.ofString "octet") 2493)] 0), #[]⟩
noncomputable def o135F (P : Params) : Obj := ⟨(.type "tuple"), none, (.seq #[] 0), #[]⟩
noncomputable def o136F (P : Params) : Obj := ⟨.none, none, (.func { name := (Str.ofString "_law_typed"), qualname := (Str.ofString "_law_typed"), params := fnParams 15, body := fnBody 15, scope := fnScope 15, globals := 0, closure := [], defaults := .none, kwdefaults := .none, doc := .none, pyModule := .none, annotations := none, code := .none, closureTuple := .none, builtins := 0 }), #[]⟩
noncomputable def o137F (P : Params) : Obj := ⟨(.type "code"), none, (.fields #[(.str (Str.ofString "_law_typed") 2487), (.str (Str.ofString "_law_typed") 2488), (.str (Str.ofString "/claim/cut.py") 2489), (.int 78 0), (.int 2 0), (.int 0 0), (.int 0 0), (.int 3 0), (.ref 132), (.bool true), (.int 181 0), (.ref 133), .none, (.ref 134), (.ref 135), (.ref 136), (.int 2494 0), (.int 78 0), (.str (Str.ofString "/claim/cut.py") 2495)]), #[]⟩
noncomputable def o138F (P : Params) : Obj := ⟨(.type "function"), none, (.func { name := (Str.ofString "_law_typed"), qualname := (Str.ofString "_law_typed"), params := fnParams 15, body := fnBody 15, scope := fnScope 15, globals := 3, closure := [], defaults := .none, kwdefaults := .none, doc := .none, pyModule := (.str (Str.ofString "law_tp0034_01") 2476), annotations := none, code := (.ref 137), closureTuple := .none, builtins := 0 }), #[]⟩
noncomputable def o139F (P : Params) : Obj := ⟨(.type "tuple"), none, (.seq #[] 0), #[]⟩
noncomputable def o140F (P : Params) : Obj := ⟨.none, none, (.fields #[]), #[]⟩
noncomputable def o141F (P : Params) : Obj := ⟨.none, none, (.func { name := (Str.ofString "_law_read"), qualname := (Str.ofString "_law_read"), params := fnParams 16, body := fnBody 16, scope := fnScope 16, globals := 0, closure := [], defaults := .none, kwdefaults := .none, doc := .none, pyModule := .none, annotations := none, code := .none, closureTuple := .none, builtins := 0 }), #[]⟩
noncomputable def o142F (P : Params) : Obj := ⟨(.type "code"), none, (.fields #[(.str (Str.ofString "_law_read") 2497), (.str (Str.ofString "_law_read") 2498), (.str (Str.ofString "/claim/cut.py") 2499), (.int 89 0), (.int 1 0), (.int 0 0), (.int 0 0), (.int 3 0), (.ref 139), (.bool true), (.int 181 0), (.ref 140), .none, .none, .none, (.ref 141), (.int 2500 0), (.int 89 0), (.str (Str.ofString "/claim/cut.py") 2501)]), #[]⟩
noncomputable def o143F (P : Params) : Obj := ⟨(.type "function"), none, (.func { name := (Str.ofString "_law_read"), qualname := (Str.ofString "_law_read"), params := fnParams 16, body := fnBody 16, scope := fnScope 16, globals := 3, closure := [], defaults := .none, kwdefaults := .none, doc := .none, pyModule := (.str (Str.ofString "law_tp0034_01") 2476), annotations := none, code := (.ref 142), closureTuple := .none, builtins := 0 }), #[]⟩
noncomputable def o144F (P : Params) : Obj := ⟨(.type "tuple"), none, (.seq #[] 0), #[]⟩
noncomputable def o145F (P : Params) : Obj := ⟨.none, none, (.fields #[]), #[]⟩
noncomputable def o146F (P : Params) : Obj := ⟨.none, none, (.func { name := (Str.ofString "law"), qualname := (Str.ofString "law"), params := fnParams 17, body := fnBody 17, scope := fnScope 17, globals := 0, closure := [], defaults := .none, kwdefaults := .none, doc := .none, pyModule := .none, annotations := none, code := .none, closureTuple := .none, builtins := 0 }), #[]⟩
noncomputable def o147F (P : Params) : Obj := ⟨(.type "code"), none, (.fields #[(.str (Str.ofString "law") 2503), (.str (Str.ofString "law") 2504), (.str (Str.ofString "/claim/cut.py") 2505), (.int 102 0), (.int 1 0), (.int 0 0), (.int 0 0), (.int 3 0), (.ref 144), (.bool true), (.int 181 0), (.ref 145), .none, .none, .none, (.ref 146), (.int 2506 0), (.int 102 0), (.str (Str.ofString "/claim/cut.py") 2507)]), #[]⟩
noncomputable def o148F (P : Params) : Obj := ⟨(.type "function"), none, (.func { name := (Str.ofString "law"), qualname := (Str.ofString "law"), params := fnParams 17, body := fnBody 17, scope := fnScope 17, globals := 3, closure := [], defaults := .none, kwdefaults := .none, doc := .none, pyModule := (.str (Str.ofString "law_tp0034_01") 2476), annotations := none, code := (.ref 147), closureTuple := .none, builtins := 0 }), #[]⟩
noncomputable def trF (P : Params) (X : Nat → Obj) : BT := (.node (boot_o_0 P) (.node (boot_o_1 P) (.node (o3F P) (.node (boot_o_7 P) (.node (o15A P) (.node (o31C P) (.node (X 63) (.node (o127F P) .nil .nil) .nil) (.node (X 95) .nil .nil)) (.node (X 47) (.node (o79D P) (.node (o143F P) .nil .nil) .nil) (.node (o111F P) .nil .nil))) (.node (X 23) (.node (X 39) (.node (X 71) (.node (o135F P) .nil .nil) .nil) (.node (o103F P) .nil .nil)) (.node (X 55) (.node (o87D P) .nil .nil) (.node (o119F P) .nil .nil)))) (.node (o11S P) (.node (X 19) (.node (X 35) (.node (X 67) (.node (o131F P) .nil .nil) .nil) (.node (o99F P) .nil .nil)) (.node (X 51) (.node (o83D P) (.node (o147F P) .nil .nil) .nil) (.node (o115F P) .nil .nil))) (.node (o27C P) (.node (X 43) (.node (o75D P) (.node (o139F P) .nil .nil) .nil) (.node (o107F P) .nil .nil)) (.node (X 59) (.node (X 91) .nil .nil) (.node (o123F P) .nil .nil))))) (.node (boot_o_5 P) (.node (boot_o_9 P) (.node (X 17) (.node (X 33) (.node (X 65) (.node (o129F P) .nil .nil) .nil) (.node (o97F P) .nil .nil)) (.node (X 49) (.node (o81D P) (.node (o145F P) .nil .nil) .nil) (.node (o113F P) .nil .nil))) (.node (X 25) (.node (X 41) (.node (o73D P) (.node (o137F P) .nil .nil) .nil) (.node (o105F P) .nil .nil)) (.node (X 57) (.node (X 89) .nil .nil) (.node (o121F P) .nil .nil)))) (.node (o13S P) (.node (o21B P) (.node (X 37) (.node (X 69) (.node (o133F P) .nil .nil) .nil) (.node (o101F P) .nil .nil)) (.node (X 53) (.node (o85D P) .nil .nil) (.node (o117F P) .nil .nil))) (.node (o29C P) (.node (X 45) (.node (o77D P) (.node (o141F P) .nil .nil) .nil) (.node (o109F P) .nil .nil)) (.node (X 61) (.node (X 93) .nil .nil) (.node (o125F P) .nil .nil)))))) (.node (boot_o_2 P) (.node (boot_o_4 P) (.node (boot_o_8 P) (.node (o16A P) (.node (o32C P) (.node (X 64) (.node (o128F P) .nil .nil) .nil) (.node (X 96) .nil .nil)) (.node (X 48) (.node (o80D P) (.node (o144F P) .nil .nil) .nil) (.node (o112F P) .nil .nil))) (.node (X 24) (.node (X 40) (.node (o72D P) (.node (o136F P) .nil .nil) .nil) (.node (o104F P) .nil .nil)) (.node (X 56) (.node (X 88) .nil .nil) (.node (o120F P) .nil .nil)))) (.node (o12F P) (.node (X 20) (.node (X 36) (.node (X 68) (.node (o132F P) .nil .nil) .nil) (.node (o100F P) .nil .nil)) (.node (X 52) (.node (o84D P) (.node (o148F P) .nil .nil) .nil) (.node (o116F P) .nil .nil))) (.node (o28C P) (.node (X 44) (.node (o76D P) (.node (o140F P) .nil .nil) .nil) (.node (o108F P) .nil .nil)) (.node (X 60) (.node (o92E P) .nil .nil) (.node (o124F P) .nil .nil))))) (.node (boot_o_6 P) (.node (boot_o_10 P) (.node (X 18) (.node (X 34) (.node (X 66) (.node (o130F P) .nil .nil) .nil) (.node (o98F P) .nil .nil)) (.node (X 50) (.node (o82D P) (.node (o146F P) .nil .nil) .nil) (.node (o114F P) .nil .nil))) (.node (o26C P) (.node (X 42) (.node (o74D P) (.node (o138F P) .nil .nil) .nil) (.node (o106F P) .nil .nil)) (.node (X 58) (.node (X 90) .nil .nil) (.node (o122F P) .nil .nil)))) (.node (o14S P) (.node (X 22) (.node (X 38) (.node (X 70) (.node (o134F P) .nil .nil) .nil) (.node (o102F P) .nil .nil)) (.node (X 54) (.node (o86D P) .nil .nil) (.node (o118F P) .nil .nil))) (.node (o30C P) (.node (X 46) (.node (o78D P) (.node (o142F P) .nil .nil) .nil) (.node (o110F P) .nil .nil)) (.node (X 62) (.node (X 94) .nil .nil) (.node (o126F P) .nil .nil)))))))
noncomputable def lsF (P : Params) (X : Nat → Obj) : List Obj := boot_o_0 P :: boot_o_1 P :: boot_o_2 P :: o3F P :: boot_o_4 P :: boot_o_5 P :: boot_o_6 P :: boot_o_7 P :: boot_o_8 P :: boot_o_9 P :: boot_o_10 P :: o11S P :: o12F P :: o13S P :: o14S P :: o15A P :: o16A P :: X 17 :: X 18 :: X 19 :: X 20 :: o21B P :: X 22 :: X 23 :: X 24 :: X 25 :: o26C P :: o27C P :: o28C P :: o29C P :: o30C P :: o31C P :: o32C P :: X 33 :: X 34 :: X 35 :: X 36 :: X 37 :: X 38 :: X 39 :: X 40 :: X 41 :: X 42 :: X 43 :: X 44 :: X 45 :: X 46 :: X 47 :: X 48 :: X 49 :: X 50 :: X 51 :: X 52 :: X 53 :: X 54 :: X 55 :: X 56 :: X 57 :: X 58 :: X 59 :: X 60 :: X 61 :: X 62 :: X 63 :: X 64 :: X 65 :: X 66 :: X 67 :: X 68 :: X 69 :: X 70 :: X 71 :: o72D P :: o73D P :: o74D P :: o75D P :: o76D P :: o77D P :: o78D P :: o79D P :: o80D P :: o81D P :: o82D P :: o83D P :: o84D P :: o85D P :: o86D P :: o87D P :: X 88 :: X 89 :: X 90 :: X 91 :: o92E P :: X 93 :: X 94 :: X 95 :: X 96 :: o97F P :: o98F P :: o99F P :: o100F P :: o101F P :: o102F P :: o103F P :: o104F P :: o105F P :: o106F P :: o107F P :: o108F P :: o109F P :: o110F P :: o111F P :: o112F P :: o113F P :: o114F P :: o115F P :: o116F P :: o117F P :: o118F P :: o119F P :: o120F P :: o121F P :: o122F P :: o123F P :: o124F P :: o125F P :: o126F P :: o127F P :: o128F P :: o129F P :: o130F P :: o131F P :: o132F P :: o133F P :: o134F P :: o135F P :: o136F P :: o137F P :: o138F P :: o139F P :: o140F P :: o141F P :: o142F P :: o143F P :: o144F P :: o145F P :: o146F P :: o147F P :: o148F P :: []
noncomputable def nF : Nat := 149
noncomputable def kF : Nat := 2509
end
end Mine
end
section
open PySem PySem.W PySem.Calls PyProof.Rows PySem.Spec
set_option maxRecDepth 100000
set_option linter.unusedVariables false
namespace Mine
noncomputable section

/-- the pairs of a display of written ints and strs -/
noncomputable def pairsD : List (Option Expr) → List Expr → Option (List (Int × Str))
  | [], [] => some []
  | some (.Constant (.int k) _ _) :: ks, .Constant (.str x) _ _ :: vs => match pairsD ks vs with
    | some D => some ((k, x) :: D)
    | none => none
  | _, _ => none

noncomputable def rising : List Int → Bool
  | a :: b :: r => decide (a < b) && rising (b :: r)
  | _ => true
theorem rising_lt : ∀ (l : List Int) (a : Int), rising (a :: l) = true → ∀ b ∈ l, a < b
  | [], _, _, _, hb => by cases hb
  | c :: r, a, h, b, hb => by
    simp only [rising, Bool.and_eq_true, decide_eq_true_eq] at h
    rcases List.mem_cons.mp hb with rfl | hb
    · exact h.1
    · exact Int.lt_trans h.1 (rising_lt r c h.2 b hb)
theorem rising_tail {l : List Int} {a : Int} (h : rising (a :: l) = true) : rising l = true := by
  cases l with
  | nil => rfl
  | cons b r => simp only [rising, Bool.and_eq_true] at h; exact h.2
theorem rising_nodup : ∀ l : List Int, rising l = true → l.Nodup
  | [], _ => List.nodup_nil
  | a :: l, h => List.nodup_cons.mpr ⟨fun hm => absurd (rising_lt l a h a hm) (Int.lt_irrefl a), rising_nodup l (rising_tail h)⟩

theorem pair_is {prog : Program} {w : World} {env : Env} {k : Int} {x : Str} {n m : Nat} {p₁ p₂ pos : Pos} :
    PairIs prog w (eval (.Constant (.int k) n p₁) env, do let y ← eval (.Constant (.str x) m p₂) env; standAt pos; pure y) k x where
  key := fun A E s Q h => by
    show wpAny _ _ (mkInt k) _ _ _
    exact wpAny_mkInt h
  val := fun A E s Q h => by
    refine wpAny_bind ?_
    show wpAny _ _ (mkText x) _ _ _
    exact wpAny_mkText (wpAny_bind (wpAny_standAt (wpAny_pure h)))

theorem items_are {prog : Program} {w : World} {env : Env} {pos : Pos} (ks : List (Option Expr)) : ∀ (vs : List Expr) (D : List (Int × Str)), pairsD ks vs = some D →
    ∃ pairs, (evalEachOpt ks env).zip ((evalEach vs env).map fun v => do let x ← v; standAt pos; pure x) = pairs.map (fun p => (some p.1, p.2)) ∧ AllAre prog w pairs D := by
  induction ks with
  | nil =>
    intro vs D h
    cases vs with
    | nil => cases h; exact ⟨[], rfl, .nil⟩
    | cons v vs => simp [pairsD] at h
  | cons k ks ih =>
    intro vs D h
    unfold pairsD at h
    split at h
    · exact absurd ‹k :: ks = []› (by simp)
    · rename_i k' n p ks' x m q vs' e2
      cases e2
      split at h
      · rename_i D' hD
        cases h
        obtain ⟨pairs, e, a⟩ := ih vs' D' hD
        refine ⟨(eval (.Constant (.int k') n p) env, do let y ← eval (.Constant (.str x) m q) env; standAt pos; pure y) :: pairs, ?_, .cons pair_is a⟩
        show (some (eval (.Constant (.int k') n p) env) :: evalEachOpt ks env).zip ((eval (.Constant (.str x) m q) env :: evalEach vs' env).map _) = _
        rw [List.map_cons, List.zip_cons_cons, List.map_cons, e]
      · cases h
    · cases h

@[irreducible] noncomputable def p4 : Pos := match (pw.main.body[3]? : Option Stmt) with | some (Stmt.Assign _ _ p) => p | _ => default
@[irreducible] noncomputable def t4 : List Expr := match (pw.main.body[3]? : Option Stmt) with | some (Stmt.Assign t _ _) => t | _ => []
@[irreducible] noncomputable def q4 : Pos := match (pw.main.body[3]? : Option Stmt) with | some (Stmt.Assign _ (Expr.Dict _ _ q) _) => q | _ => default
@[irreducible] noncomputable def ks4 : List (Option Expr) := match (pw.main.body[3]? : Option Stmt) with | some (Stmt.Assign _ (Expr.Dict k _ _) _) => k | _ => []
@[irreducible] noncomputable def vs4 : List Expr := match (pw.main.body[3]? : Option Stmt) with | some (Stmt.Assign _ (Expr.Dict _ v _) _) => v | _ => []
noncomputable def s4 : Stmt := .Assign t4 (.Dict ks4 vs4 q4) p4
@[irreducible] noncomputable def D4 : List (Int × Str) := (pairsD ks4 vs4).getD []
theorem D4_is : (pairsD ks4 vs4).isSome = true := by kernel_rfl
theorem D4_of : pairsD ks4 vs4 = some D4 := by
  have := D4_is
  unfold D4
  cases h : pairsD ks4 vs4 with
  | none => rw [h] at this; cases this
  | some D => rfl
theorem D4_length : D4.length = 650 := by kernel_rfl
theorem D4_rising : rising (D4.map (·.1)) = true := by kernel_rfl

noncomputable def env0 : Env := { scope := pw.main.scope, locals := mainNs, globals := mainNs, cells := [], code := .ref 13, frame := some 14 }
theorem s4_no_swap : swapsWithSole t4 (.Dict ks4 vs4 q4) p4.line env0 = pure false := by kernel_rfl
noncomputable def K4 (v : Value) : Sem Flow := do assignStores env0 v (← swappedStores t4 (.Dict ks4 vs4 q4) env0) ((assignEach t4 env0).map (·.2))
noncomputable def X4 : Sem Value := do
  standAt p4
  standAt q4
  dictDisplay ((evalEachOpt ks4 env0).zip ((evalEach vs4 env0).map fun v => do let x ← v; standAt q4; pure x))
theorem exec_s4 : exec s4 env0 = X4 >>= K4 := by
  have e : exec s4 env0 = (do
    standAt p4
    if ← swapsWithSole t4 (.Dict ks4 vs4 q4) p4.line env0 then do
      evalThenUse (.Dict ks4 vs4 q4) env0 fun v => assignAll v ((assignEach t4 env0).map (·.2))
      pure .next
    else do
      let v ← eval (.Dict ks4 vs4 q4) env0
      assignStores env0 v (← swappedStores t4 (.Dict ks4 vs4 q4) env0) ((assignEach t4 env0).map (·.2))) := rfl
  rw [e, s4_no_swap, arm_eval_Dict]
  rfl

theorem x_runs {prog : Program} {w : World} {A : Around} {E : Value → Shared → Prop} {s : Shared} {Q : Value → Shared → Prop} (p q : Pos) (ks : List (Option Expr)) (vs : List Expr) (D : List (Int × Str)) (env : Env)
    (hD : pairsD ks vs = some D) (hl : D.length = 650) (hn : (D.map (·.1)).Nodup) (hsys : sysModules < s.heap.objs.size)
    (hQ : ∀ h' kvs, h'.objs.size = s.heap.objs.size + 39 → (∀ b, b < s.heap.objs.size → h'.get? b = s.heap.get? b) → (∀ b, s.heap.objs.size ≤ b → b < s.heap.objs.size + 39 → (h'.get? b).isSome = true) → h'.DictOf (intKind prog w) s.heap.objs.size kvs → Match kvs D →
      Q (.ref s.heap.objs.size) { s with heap := h', toks := s.toks + 1950 }) :
    wpAny (model prog w) A (do
      standAt p
      standAt q
      dictDisplay ((evalEachOpt ks env).zip ((evalEach vs env).map fun v => do let x ← v; standAt q; pure x))) Q E s := by
  obtain ⟨pairs, e, a⟩ := items_are (prog := prog) (w := w) (env := env) (pos := q) ks vs D hD
  refine wpAny_bind (wpAny_standAt (wpAny_bind (wpAny_standAt ?_)))
  rw [e]
  refine display_exact a hn (fun h => by rw [h] at hl; exact absurd hl (by decide)) (by rw [hl, sizeLine_eq]; decide) hsys fun h' kvs hz hk hN hd hm => ?_
  rw [hl] at hz hN ⊢
  exact hQ h' kvs hz hk hN hd hm


/-- the dict display of the top: exact in size and tokens -/
theorem x4_runs {w : World} {A : Around} {E : Value → Shared → Prop} {s : Shared} {Q : Value → Shared → Prop} (hsys : sysModules < s.heap.objs.size)
    (hQ : ∀ h' kvs, h'.objs.size = s.heap.objs.size + 39 → (∀ b, b < s.heap.objs.size → h'.get? b = s.heap.get? b) → (∀ b, s.heap.objs.size ≤ b → b < s.heap.objs.size + 39 → (h'.get? b).isSome = true) → h'.DictOf (intKind pw w) s.heap.objs.size kvs → Match kvs D4 →
      Q (.ref s.heap.objs.size) { s with heap := h', toks := s.toks + 1950 }) : wpAny (model pw w) A X4 Q E s :=
  by
  have h1 := rising_nodup (D4.map (·.1)) D4_rising
  have h2 := @x_runs pw w A E s Q p4 q4 ks4 vs4 D4 env0
  have h3 := h2 D4_of
  have h4 := h3 D4_length
  have h5 := h4 h1
  have h6 := h5 hsys
  have h7 := h6 hQ
  unfold X4
  exact h7
end
end Mine
end
section
open PySem PySem.W PySem.Calls PyProof.Rows PySem.Spec
set_option maxRecDepth 100000
set_option linter.unusedVariables false
namespace Mine
@[irreducible] noncomputable def bd : List Stmt := behindTheImports pw
@[irreducible] noncomputable def cd : Code := .body bd env0
noncomputable def pos0 : Pos := ⟨0, 0, 0, 0⟩
@[irreducible] noncomputable def B0 : List Frame := [topFrame pos0]

/-- the call that the text stands at, at the body's own level -/
noncomputable def isCall (T : String) (a : Nat) (t : Thread) : Bool := match t with
  | ⟨.call (.call (.type n) ⟨[.ref x], []⟩) none _ _ _, c, _, [.ret _ none _ _ c₁ p₁ _]⟩ => n == T && x == a && Nat.ble (c.weight + frameCount [(c₁, p₁)]) 400 && Nat.ble (c.cUnits + unitsOf [(c₁, p₁)]) 100
  | _ => false
noncomputable def backT (r : Result) (p : Pos) (t : Thread) : Thread := match t with
  | ⟨.call _ _ _ _ kk, c, _, st⟩ => ⟨kk r, c, p, st⟩
  | t => t
noncomputable def after (o : Option (SharedT × Thread)) (r : Result) (p : Pos) : Thread := match o with
  | some x => backT r p x.2
  | none => ⟨.pure (.done .next), cd, p, []⟩
noncomputable def Kdone (rest : List Stmt) : Flow → Sem Fin := fun f => match f with | .next => (execs rest env0).wrap doneF (leaveH env0) id id | f => doneF f
noncomputable def look (T : String) (a : Nat) (o : Option (SharedT × Thread)) : Option (SharedT × Bool) := o.map fun r => (r.1, isCall T a r.2)

/-- the two lists of ints that the top makes, and else what X says -/
noncomputable def Xm (c c' : Nat) (X : Nat → Obj) : Nat → Obj := fun i =>
  if i = 17 then ⟨.type "list", none, .seq (intsFrom 65024 205 16) c, #[]⟩ else if i = 88 then ⟨.type "list", none, .seq (intsFrom 917536 2228 96) c', #[]⟩ else X i

section
variable (w : World) (os : OsState) (lf : Life) (X : Nat → Obj)
noncomputable def stt (T : BT) (n k : Nat) : SharedT := ⟨T, n, lf, #[], boot_drawn, k, os⟩

theorem seg0 : goQ pw w 12 (stt os lf (tr0 w.params) 11 boot_toks) (topStub pw) = some (stt os lf (trS w.params X) nS kS, ⟨denote treeTable cd, cd, pos0, B0⟩) := by kernel_rfl

noncomputable def thA : Thread := ⟨(execs (bd.take 3) env0).wrap (Kdone (bd.drop 3)) (leaveH env0) id id, cd, pos0, B0⟩
noncomputable def runA : Option (SharedT × Thread) := goQ pw w 52 (stt os lf (trS w.params X) nS kS) thA
noncomputable def runB (p : Pos) : Option (SharedT × Thread) := goQ pw w 16 (stt os lf (trA2 w.params X) 21 221) (after (runA w os lf X) (.ok (.ret (.ref 17))) p)

noncomputable def posC : Pos := ⟨3, 0, 4, 30⟩
noncomputable def runC (p p' : Pos) : Option (SharedT × Thread) := goQ pw w 37 (stt os lf (trB2 w.params X) 26 248) (after (runB w os lf X p) (.ok (.ret (.ref 22))) p')

noncomputable def thD (p : Pos) : Thread := ⟨(K4 (.ref 33)).wrap (Kdone (bd.drop 4)) (leaveH env0) id id, cd, p, B0⟩
noncomputable def runD (p : Pos) : Option (SharedT × Thread) := goQ pw w 99 (stt os lf (trC2 w.params X) 72 2206) (thD p)

noncomputable def runE (p p' : Pos) : Option (SharedT × Thread) := goQ pw w 16 (stt os lf (trD2 w.params X) 92 2324) (after (runD w os lf X p) (.ok (.ret (.ref 88))) p')

noncomputable def posF : Pos := ⟨102, 0, 148, 35⟩
noncomputable def runF (p p' p'' : Pos) : Option (SharedT × Thread) := goQ pw w 288 (stt os lf (trE2 w.params X) 97 2421) (after (runE w os lf X p p') (.ok (.ret (.ref 93))) p'')

/-- all stretches of the top's run, and that a stretch's continuation hangs on no heap -/
theorem segs (lf' : Life) (X' : Nat → Obj) (c c' d d' : Nat) (r : Result) (p p' p'' : Pos) :
  (look "list" 16 (runA w os lf X), look "set" 21 (runB w os lf (Xm c c' X) p), runC w os lf (Xm c c' X) p p', look "list" 87 (runD w os lf X p), look "set" 92 (runE w os lf (Xm c c' X) p p'), runF w os lf (Xm c c' X) p p' p'',
   after (runA w os lf X) r p, after (runB w os lf (Xm c c' X) p) r p', after (runD w os lf X p) r p', after (runE w os lf (Xm c c' X) p p') r p'') =
  (some (stt os lf (trA w.params X) nA kA, true), some (stt os lf (trB w.params (Xm c c' X)) nB kB, true), some (stt os lf (trC w.params (Xm c c' X)) nC kC, ⟨Kdone (bd.drop 3) .next, cd, posC, B0⟩), some (stt os lf (trD w.params X) nD kD, true), some (stt os lf (trE w.params (Xm c c' X)) nE kE, true), some (stt os lf (trF w.params (Xm c c' X)) nF kF, ⟨.pure (.done .next), cd, posF, B0⟩),
   after (runA w os lf' X') r p, after (runB w os lf' (Xm d d' X') p) r p', after (runD w os lf' X' p) r p', after (runE w os lf' (Xm d d' X') p p') r p'') := by kernel_rfl
theorem segA : look "list" 16 (runA w os lf X) = some (stt os lf (trA w.params X) nA kA, true) := congrArg (fun x => x.1) (segs w os lf X lf X 0 0 0 0 (.ok (.ret .none)) pos0 pos0 pos0)
theorem segB (c c' : Nat) (p : Pos) : look "set" 21 (runB w os lf (Xm c c' X) p) = some (stt os lf (trB w.params (Xm c c' X)) nB kB, true) := congrArg (fun x => x.2.1) (segs w os lf X lf X c c' 0 0 (.ok (.ret .none)) p pos0 pos0)
theorem segC (c c' : Nat) (p p' : Pos) : runC w os lf (Xm c c' X) p p' = some (stt os lf (trC w.params (Xm c c' X)) nC kC, ⟨Kdone (bd.drop 3) .next, cd, posC, B0⟩) := congrArg (fun x => x.2.2.1) (segs w os lf X lf X c c' 0 0 (.ok (.ret .none)) p p' pos0)
theorem segD (p : Pos) : look "list" 87 (runD w os lf X p) = some (stt os lf (trD w.params X) nD kD, true) := congrArg (fun x => x.2.2.2.1) (segs w os lf X lf X 0 0 0 0 (.ok (.ret .none)) p pos0 pos0)
theorem segE (c c' : Nat) (p p' : Pos) : look "set" 92 (runE w os lf (Xm c c' X) p p') = some (stt os lf (trE w.params (Xm c c' X)) nE kE, true) := congrArg (fun x => x.2.2.2.2.1) (segs w os lf X lf X c c' 0 0 (.ok (.ret .none)) p p' pos0)
theorem segF (c c' : Nat) (p p' p'' : Pos) : runF w os lf (Xm c c' X) p p' p'' = some (stt os lf (trF w.params (Xm c c' X)) nF kF, ⟨.pure (.done .next), cd, posF, B0⟩) := congrArg (fun x => x.2.2.2.2.2.1) (segs w os lf X lf X c c' 0 0 (.ok (.ret .none)) p p' p'')
end
end Mine
end
section
open PySem PySem.W PySem.Calls PyProof.Rows PySem.Spec
set_option maxRecDepth 100000
set_option linter.unusedVariables false
namespace Mine

noncomputable def A0 : Around := { handled := none, depth := 400, frames := none, guards := none, units := 100 }

theorem call_tree {M : Model} {A : Around} {f : Value} {pos : List Value} {Q : Value → Shared → Prop} {s : Shared} {g : Bool} {l : List Value} (h : wpAny M A (call f pos) Q (fun _ _ => False) s) :
    wpAny M A (.call (.call f ⟨pos, []⟩) none g l (fun r => .pure r) : Sem Result) (fun r s' => ∃ v, r = .ok (.ret v) ∧ Q v s') (fun _ _ => False) s := fun Γ p hΓ => by
  have h' := h Γ p hΓ
  refine wpCode_mono (fun r s' hq => ?_) h'
  cases r with
  | error e => exact hq.elim
  | ok fl =>
    cases fl with
    | ret v => exact ⟨v, rfl, hq⟩
    | _ => exact False.elim hq

theorem halts_oracle {w : World} {R : Result → Shared → Prop} {s : Shared} {T : String} {a : Nat} {t : Thread} {Q : Value → Shared → Prop} (h : isCall T a t = true)
    (hx : wpAny (model pw w) A0 (call (.type T) [.ref a]) Q (fun _ _ => False) s)
    (hk : ∀ v s' p', Q v s' → Halts (model pw w) R s' (backT (.ok (.ret v)) p' t)) : Halts (model pw w) R s t := by
  unfold isCall at h
  split at h
  · rename_i n x g₂ l₂ kk c p k g l c₁ p₁ kp
    simp only [Bool.and_eq_true, beq_iff_eq] at h
    obtain ⟨⟨⟨rfl, rfl⟩, h3⟩, h4⟩ := h
    have h3' := Nat.le_of_ble_eq_true h3
    have h4' := Nat.le_of_ble_eq_true h4
    refine halts_wrap (x := (.call (.call (.type n) ⟨[.ref x], []⟩) none g₂ l₂ (fun r => .pure r) : Sem Result)) (K := kk) (H := Sem.raise) (gd := id) (lv := id) (A := A0)
      (Q := fun r s' => ∃ v, r = .ok (.ret v) ∧ Q v s') ⟨rfl, ?_, fun _ hl => (nomatch (show (none : Option (List Env)) = some _ from hl)), fun _ hl => (nomatch (show (none : Option (List Code)) = some _ from hl)), ?_⟩ (call_tree hx) ?_
    · show frameCount [(c₁, p₁)] + c.weight ≤ 400
      omega
    · show c.cUnits + unitsOf [(c₁, p₁)] ≤ 100
      omega
    · rintro r s' p' ⟨v, rfl, hq⟩
      exact hk v s' p' hq
  · cases h

theorem look_some {T : String} {a : Nat} {o : Option (SharedT × Thread)} {S : SharedT} (h : look T a o = some (S, true)) : ∃ t, o = some (S, t) ∧ isCall T a t = true := by
  cases o with
  | none => cases h
  | some r =>
    obtain ⟨S', t⟩ := r
    unfold look at h
    simp only [Option.map_some, Option.some.injEq, Prod.mk.injEq] at h
    exact ⟨t, by rw [h.1], h.2⟩

/-- a heap that keeps the tree's first n objects and has k more: a tree again -/
theorem heap_is {T T' : BT} {n k : Nat} {lf : Life} {h' : Heap} (hz : h'.objs.size = n + k) (ho : ∀ b, b < n → h'.get? b = (absHeap T n lf).get? b)
    (hT : ∀ b, b < n → ∃ o, T.get b = some o ∧ T'.get b = some o ∧ o.isFreed = false) (hN : ∀ b, n ≤ b → b < n + k → T'.get b = some ((h'.objs[b]?).getD default)) : h' = absHeap T' (n + k) h'.life := by
  obtain ⟨objs, lf'⟩ := h'
  have : objs = (absHeap T' (n + k) lf').objs := by
    apply Array.ext_getElem?
    intro i
    rw [absHeap_at]
    by_cases hi : i < n + k
    · rw [if_pos hi]
      by_cases hin : i < n
      · obtain ⟨o, h1, h2, h3⟩ := hT i hin
        have := ho i hin
        rw [abs_get hin h1] at this
        have ha : alive o = some o := by
          obtain ⟨c, d, dt, sl⟩ := o
          cases dt <;> first | rfl | cases h3
        rw [ha] at this
        rw [h2]
        exact (Heap.get?_some_iff.mp this).1
      · rw [hN i (Nat.le_of_not_lt hin) hi]
        have hlt : i < objs.size := by rw [show objs.size = n + k from hz]; exact hi
        simp [Array.getElem?_eq_getElem hlt]
    · rw [if_neg hi]
      exact Array.getElem?_eq_none (by rw [show objs.size = n + k from hz]; omega)
  exact congrArg (Heap.mk · lf') this

noncomputable def AllUp : Nat → (Nat → Prop) → Prop
  | 0, _ => True
  | n + 1, P => AllUp n P ∧ P n
theorem AllUp.at : ∀ {n : Nat} {P : Nat → Prop}, AllUp n P → ∀ b, b < n → P b
  | 0, _, _, b, hb => absurd hb (Nat.not_lt_zero b)
  | n + 1, P, h, b, hb => by
    rcases Nat.lt_or_ge b n with q | q
    · exact AllUp.at h.1 b q
    · have : b = n := by omega
      rw [this]; exact h.2

/-- what Y says below n, and behind it the heap's own objects -/
noncomputable def ext (n : Nat) (Y : Nat → Obj) (h' : Heap) : Nat → Obj := fun i => match Nat.blt i n with
  | true => Y i
  | false => (h'.objs[i]?).getD default
noncomputable def NF (Y : Nat → Obj) (l : List Nat) : Prop := ∀ i ∈ l, (Y i).isFreed = false
theorem not_freed {h' : Heap} {b : Nat} (h : (h'.get? b).isSome = true) : ((h'.objs[b]?).getD default).isFreed = false := by
  obtain ⟨o, ho⟩ := Option.isSome_iff_exists.mp h
  obtain ⟨h1, h2⟩ := Heap.get?_some_iff.mp ho
  rw [h1]; exact h2
theorem obj_at {h' : Heap} {b : Nat} {o : Obj} (h : h'.get? b = some o) : (h'.objs[b]?).getD default = o := by
  rw [(Heap.get?_some_iff.mp h).1]; rfl

theorem after_some {o : Option (SharedT × Thread)} {S : SharedT} {t : Thread} (h : o = some (S, t)) (r : Result) (p : Pos) : after o r p = backT r p t := by rw [h]; rfl
theorem after_A (w : World) (os : OsState) (lf lf' : Life) (X X' : Nat → Obj) (r : Result) (p : Pos) : after (runA w os lf X) r p = after (runA w os lf' X') r p := congrArg (fun x => x.2.2.2.2.2.2.1) (segs w os lf X lf' X' 0 0 0 0 r p p p)
theorem after_B (w : World) (os : OsState) (lf lf' : Life) (c c' d d' : Nat) (X X' : Nat → Obj) (r : Result) (p p' : Pos) : after (runB w os lf (Xm c c' X) p) r p' = after (runB w os lf' (Xm d d' X') p) r p' := congrArg (fun x => x.2.2.2.2.2.2.2.1) (segs w os lf X lf' X' c c' d d' r p p' p')
theorem after_D (w : World) (os : OsState) (lf lf' : Life) (X X' : Nat → Obj) (r : Result) (p p' : Pos) : after (runD w os lf X p) r p' = after (runD w os lf' X' p) r p' := congrArg (fun x => x.2.2.2.2.2.2.2.2.1) (segs w os lf X lf' X' 0 0 0 0 r p p' p')
theorem after_E (w : World) (os : OsState) (lf lf' : Life) (c c' d d' : Nat) (X X' : Nat → Obj) (r : Result) (p p' p'' : Pos) : after (runE w os lf (Xm c c' X) p p') r p'' = after (runE w os lf' (Xm d d' X') p p') r p'' := congrArg (fun x => x.2.2.2.2.2.2.2.2.2) (segs w os lf X lf' X' c c' d d' r p p' p'')

theorem bd_cons : bd.drop 3 = s4 :: bd.drop 4 := by kernel_rfl
theorem body_starts : blockStart bd env0 = pure () := by kernel_rfl
theorem cd_is : cd = .body bd env0 := by unfold cd; rfl
theorem body_is : denote treeTable cd = (execs (bd.take 3) env0).wrap (Kdone (bd.drop 3)) (leaveH env0) id id := by
  rw [cd_is, body_wrap, body_starts]
  show (execs bd env0).wrap doneF (leaveH env0) id id = _
  have e : bd = bd.take 3 ++ bd.drop 3 := (List.take_append_drop 3 bd).symm
  have := execs_app_wrap (env := env0) (bd.take 3) (bd.drop 3) doneF (leaveH env0) id id
  rw [← e] at this
  rw [this]
  exact Sem.wrap_congr _ _ _ (fun f => by cases f <;> rfl) (fun _ => rfl)

end Mine
end
section
open PySem PySem.W PySem.Calls PyProof.Rows PySem.Spec
set_option maxRecDepth 100000
set_option linter.unusedVariables false
namespace Mine

section
variable (w : World) (os : OsState) {R : Result → Shared → Prop}

theorem stt_size (lf : Life) (T : BT) (n k : Nat) : (stt os lf T n k).abs.heap.objs.size = n := absHeap_size _ _ _
theorem stt_get {lf : Life} {T : BT} {n k a : Nat} {o : Obj} (h : a < n) (g : T.get a = some o) (hf : alive o = some o) : (stt os lf T n k).abs.heap.get? a = some o := (abs_get h g).trans hf
theorem stt_with {lf : Life} {T T' : BT} {n k k' m : Nat} {h' : Heap} (h : h' = absHeap T' m h'.life) : { (stt os lf T n k).abs with heap := h', toks := k' } = (stt os h'.life T' m k').abs := by
  show Shared.mk h' _ _ _ _ = Shared.mk (absHeap T' m h'.life) _ _ _ _
  rw [← h]
  rfl

theorem stage_A {lf : Life} {Y : Nat → Obj} (k : ∀ lf' c Y' p, NF Y' [18, 19, 20] → Halts (model pw w) R (stt os lf' (trA2 w.params (Xm c 0 Y')) 21 221).abs (after (runA w os lf' (Xm c 0 Y')) (.ok (.ret (.ref 17))) p)) :
    Halts (model pw w) R (stt os lf (trS w.params Y) nS kS).abs thA := by
  obtain ⟨t, ht, hc⟩ := look_some (segA w os lf Y)
  refine goQ_spec ht (halts_oracle hc (Q := fun v s' => v = .ref 17 ∧ ∃ lf' c Y', NF Y' [18, 19, 20] ∧ s' = (stt os lf' (trA2 w.params (Xm c 0 Y')) 21 221).abs) ?_ ?_)
  · have hr : IsRange (stt os lf (trA w.params Y) nA kA).abs.heap 16 65024 65040 1 200 201 202 := stt_get os (by decide) rfl rfl
    refine call_list_range (n := 16) rfl hr (by decide +kernel) (by decide +kernel) (by decide) (by decide) fun h' c hz hk hN hS => ?_
    have hsz : (stt os lf (trA w.params Y) nA kA).abs.heap.objs.size = 17 := stt_size os lf _ _ _
    rw [hsz] at hz hk hN hS
    refine ⟨by rw [hsz], h'.life, c, ext 17 Y h', ?_, ?_⟩
    · intro i hi
      simp only [List.mem_cons, List.not_mem_nil, or_false] at hi
      rcases hi with rfl | rfl | rfl <;> exact not_freed (hN _ (by decide) (by decide))
    · refine stt_with os (heap_is (T := trA w.params Y) (n := 17) (k := 4) (lf := lf) hz hk (AllUp.at ?_) fun b hb1 hb2 => ?_)
      · repeat' (first | exact trivial | refine And.intro ?_ ?_)
        all_goals exact ⟨_, rfl, rfl, rfl⟩
      · have : b = 17 ∨ b = 18 ∨ b = 19 ∨ b = 20 := by omega
        rcases this with rfl | rfl | rfl | rfl
        · rw [obj_at hS]; rfl
        all_goals rfl
  · rintro v s' p' ⟨rfl, lf', c, Y', hn, rfl⟩
    have := k lf' c Y' p' hn
    rw [after_A w os lf' lf (Xm c 0 Y') Y] at this
    rw [after_some ht] at this
    exact this

noncomputable def intOf : Value → Int
  | .int i _ => i
  | _ => 0
noncomputable def isIntV : Value → Bool
  | .int _ _ => true
  | _ => false
theorem ints_of : ∀ (l : List Value), l.all isIntV = true → IntsAre l (l.map intOf)
  | [], _ => .nil
  | v :: r, h => by
    rw [List.all_cons, Bool.and_eq_true] at h
    cases v with
    | int i t => exact .cons i t (ints_of r h.2)
    | _ => cases h.1
noncomputable def b1ints : List Int := [173, 847, 6150, 6155, 6156, 6157, 8203, 8204, 8205, 8288, 65279] ++ (List.range 16).map (fun i => (65024 : Int) + (i : Nat))
noncomputable def c9ints : List Int := 917505 :: (List.range 96).map (fun i => (917536 : Int) + (i : Nat))

noncomputable def seqOf (o : Obj) : Array Value := match o.data with
  | .seq xs _ => xs
  | _ => #[]
theorem b1_items : IntsAre (seqOf (o21B w.params)).toList b1ints := by
  have e : (seqOf (o21B w.params)).toList.map intOf = b1ints := by kernel_rfl
  have h : (seqOf (o21B w.params)).toList.all isIntV = true := by kernel_rfl
  rw [← e]; exact ints_of _ h
theorem b1_size : (seqOf (o21B w.params)).size = 27 := by kernel_rfl
theorem c9_items : IntsAre (seqOf (o92E w.params)).toList c9ints := by
  have e : (seqOf (o92E w.params)).toList.map intOf = c9ints := by kernel_rfl
  have h : (seqOf (o92E w.params)).toList.all isIntV = true := by kernel_rfl
  rw [← e]; exact ints_of _ h
theorem c9_size : (seqOf (o92E w.params)).size = 97 := by kernel_rfl

/-- the object is a set of these ints, wherever it lies -/
noncomputable def SetFact (o : Obj) (ns : List Int) : Prop := o.isFreed = false ∧ ∀ (h : Heap) (a : Addr), h.get? a = some o →
  h.SetOf (intKind pw w) a (fun k' => (firstMet (fun i => ns.getD i 0) ns.length).any (· == k')) (firstMet (fun i => ns.getD i 0) ns.length).length
noncomputable def DictFact (o : Obj) (D : List (Int × Str)) : Prop := o.isFreed = false ∧ ∃ kvs, Match kvs D ∧ ∀ (h : Heap) (a : Addr), h.get? a = some o → h.DictOf (intKind pw w) a kvs

theorem setFact_of {h' : Heap} {a : Addr} {ns : List Int} {n : Nat} (hn : n = ns.length) (h : h'.SetOf (intKind pw w) a (fun k' => (firstMet (fun i => ns.getD i 0) n).any (· == k')) (firstMet (fun i => ns.getD i 0) n).length) :
    SetFact w ((h'.objs[a]?).getD default) ns := by
  subst hn
  obtain ⟨o, es, ep, t, ho, rest⟩ := h
  rw [obj_at ho]
  exact ⟨(Heap.get?_some_iff.mp ho).2, fun h a e => ⟨o, es, ep, t, e, rest⟩⟩
theorem dictFact_of {h' : Heap} {a : Addr} {kvs : List (Int × Value)} {D : List (Int × Str)} (hm : Match kvs D) (h : h'.DictOf (intKind pw w) a kvs) : DictFact w ((h'.objs[a]?).getD default) D := by
  obtain ⟨o, es, ep, ho, rest⟩ := h
  rw [obj_at ho]
  exact ⟨(Heap.get?_some_iff.mp ho).2, kvs, hm, fun h a e => ⟨o, es, ep, e, rest⟩⟩

theorem stage_B {lf : Life} {c : Nat} {Y : Nat → Obj} {p : Pos} (hY : NF Y [18, 19, 20])
    (k : ∀ lf' Y' p', NF Y' [18, 19, 20, 22, 23, 24, 25] → SetFact w (Y' 22) b1ints → Halts (model pw w) R (stt os lf' (trB2 w.params (Xm c 0 Y')) 26 248).abs (after (runB w os lf' (Xm c 0 Y') p) (.ok (.ret (.ref 22))) p')) :
    Halts (model pw w) R (stt os lf (trA2 w.params (Xm c 0 Y)) 21 221).abs (after (runA w os lf (Xm c 0 Y)) (.ok (.ret (.ref 17))) p) := by
  obtain ⟨t, ht, hc⟩ := look_some (segB w os lf Y c 0 p)
  refine goQ_spec ht (halts_oracle hc (Q := fun v s' => v = .ref 22 ∧ ∃ lf' Y', NF Y' [18, 19, 20, 22, 23, 24, 25] ∧ SetFact w (Y' 22) b1ints ∧ s' = (stt os lf' (trB2 w.params (Xm c 0 Y')) 26 248).abs) ?_ ?_)
  · have hl : (stt os lf (trB w.params (Xm c 0 Y)) nB kB).abs.heap.get? 21 = some (o21B w.params) := stt_get os (by decide) rfl rfl
    have hsz : (stt os lf (trB w.params (Xm c 0 Y)) nB kB).abs.heap.objs.size = 22 := stt_size os lf _ _ _
    refine call_set (items := seqOf (o21B w.params)) (ns := b1ints) rfl ⟨_, hl, rfl, 0, rfl⟩ (b1_items w) (by rw [b1_size]; decide) fun h' hz hk hN hS => ?_
    rw [hsz] at hz hk hN hS
    rw [b1_size] at hS ⊢
    refine ⟨by rw [hsz], h'.life, ext 22 Y h', ?_, setFact_of w rfl hS, ?_⟩
    · intro i hi
      simp only [List.mem_cons, List.not_mem_nil, or_false] at hi
      rcases hi with rfl | rfl | rfl | rfl | rfl | rfl | rfl <;> first | exact not_freed (hN _ (by decide) (by decide)) | exact hY _ (by simp)
    · refine stt_with os (heap_is (T := trB w.params (Xm c 0 Y)) (n := 22) (k := 4) (lf := lf) hz hk (AllUp.at ?_) fun b hb1 hb2 => ?_)
      · repeat' (first | exact trivial | refine And.intro ?_ ?_)
        all_goals first | exact ⟨_, rfl, rfl, rfl⟩ | exact ⟨_, rfl, rfl, hY _ (by simp)⟩
      · have : b = 22 ∨ b = 23 ∨ b = 24 ∨ b = 25 := by omega
        rcases this with rfl | rfl | rfl | rfl <;> rfl
  · rintro v s' p' ⟨rfl, lf', Y', hn, hs, rfl⟩
    have := k lf' Y' p' hn hs
    rw [after_B w os lf' lf c 0 c 0 Y' Y] at this
    rw [after_some ht] at this
    exact this

theorem start4 : Kdone (bd.drop 3) .next = X4.wrap (fun v => (K4 v).wrap (Kdone (bd.drop 4)) (leaveH env0) id id) (leaveH env0) id id := by
  show (execs (bd.drop 3) env0).wrap doneF (leaveH env0) id id = _
  rw [bd_cons, execs_cons_wrap, exec_s4, Sem.bind_eq_wrap', Sem.wrap_wrap]
  exact Sem.wrap_congr _ _ _ (fun v => Sem.wrap_congr _ _ _ (fun f => by cases f <;> rfl) fun _ => rfl) fun _ => rfl

noncomputable def nf1 : List Nat := [18, 19, 20, 22, 23, 24, 25]
noncomputable def nf2 : List Nat := nf1 ++ (List.range 39).map (33 + ·)
noncomputable def nf3 : List Nat := nf2 ++ [89, 90, 91]

theorem b0_is : B0 = [.ret topAfter none false [] (.builtin "claim.caller" {}) pos0 []] := by unfold B0; rfl
theorem cd_in : ((⟨cd, none, none, [], none⟩ : PySem.Ctx).over [.ret topAfter none false [] (.builtin "claim.caller" {}) pos0 []]).In A0 := by
  refine ⟨rfl, ?_, fun _ hl => (nomatch (show (none : Option (List Env)) = some _ from hl)), fun _ hl => (nomatch (show (none : Option (List Code)) = some _ from hl)), ?_⟩
  · exact Nat.le_of_ble_eq_true (by kernel_rfl)
  · exact Nat.le_of_ble_eq_true (by kernel_rfl)

theorem stage_C {lf : Life} {c : Nat} {Y : Nat → Obj} {p p' : Pos} (hY : NF Y nf1) (hS : SetFact w (Y 22) b1ints)
    (k : ∀ lf' Y' p, NF Y' nf2 → SetFact w (Y' 22) b1ints → DictFact w (Y' 33) D4 → Halts (model pw w) R (stt os lf' (trC2 w.params (Xm c 0 Y')) 72 2206).abs (thD p)) :
    Halts (model pw w) R (stt os lf (trB2 w.params (Xm c 0 Y)) 26 248).abs (after (runB w os lf (Xm c 0 Y) p) (.ok (.ret (.ref 22))) p') := by
  refine goQ_spec (segC w os lf Y c 0 p p') ?_
  rw [start4, b0_is]
  refine halts_wrap cd_in (Q := fun v s' => v = .ref 33 ∧ ∃ lf' Y', NF Y' nf2 ∧ SetFact w (Y' 22) b1ints ∧ DictFact w (Y' 33) D4 ∧ s' = (stt os lf' (trC2 w.params (Xm c 0 Y')) 72 2206).abs) ?_ ?_
  · have hsz : (stt os lf (trC w.params (Xm c 0 Y)) nC kC).abs.heap.objs.size = 33 := stt_size os lf _ _ _
    refine x4_runs (by rw [hsz]; decide) fun h' kvs hz hk hN hd hm => ?_
    rw [hsz] at hz hk hN hd
    refine ⟨by rw [hsz], h'.life, ext 33 Y h', ?_, hS, dictFact_of w hm hd, ?_⟩
    · intro i hi
      rcases List.mem_append.mp hi with hi | hi
      · have hlt : i < 33 := by
          simp only [nf1, List.mem_cons, List.not_mem_nil, or_false] at hi
          omega
        have e : ext 33 Y h' i = Y i := by
          unfold ext
          rw [show Nat.blt i 33 = true from Nat.ble_eq_true_of_le hlt]
        rw [e]
        exact hY i hi
      · obtain ⟨j, hj, rfl⟩ := List.mem_map.mp hi
        have hj' := List.mem_range.mp hj
        have e : ext 33 Y h' (33 + j) = (h'.objs[33 + j]?).getD default := by
          unfold ext
          rw [show Nat.blt (33 + j) 33 = false from by
            cases q : Nat.blt (33 + j) 33 with
            | false => rfl
            | true => have := Nat.le_of_ble_eq_true q; omega]
        rw [e]
        exact not_freed (hN _ (by omega) (by omega))
    · refine stt_with os (heap_is (T := trC w.params (Xm c 0 Y)) (n := 33) (k := 39) (lf := lf) hz hk (AllUp.at ?_) fun b hb1 hb2 => ?_)
      · repeat' (first | exact trivial | refine And.intro ?_ ?_)
        all_goals first | exact ⟨_, rfl, rfl, rfl⟩ | exact ⟨_, rfl, rfl, hY _ (by decide)⟩
      · have key : AllUp 39 (fun j => (trC2 w.params (Xm c 0 (ext 33 Y h'))).get (33 + j) = some ((h'.objs[33 + j]?).getD default)) := by
          repeat' (first | exact trivial | refine And.intro ?_ ?_)
          all_goals rfl
        have := key.at (b - 33) (by omega)
        rw [show 33 + (b - 33) = b by omega] at this
        exact this
  · rintro v s' p'' ⟨rfl, lf', Y', hn, hs, hd, rfl⟩
    have := k lf' Y' p'' hn hs hd
    unfold thD at this
    rw [b0_is] at this
    exact this

/-- the function that says what it said below n -/
theorem ext_below {n : Nat} {Y : Nat → Obj} {h' : Heap} {i : Nat} (h : i < n) : ext n Y h' i = Y i := by
  unfold ext
  rw [show Nat.blt i n = true from Nat.ble_eq_true_of_le h]
theorem ext_above {n : Nat} {Y : Nat → Obj} {h' : Heap} {i : Nat} (h : n ≤ i) : ext n Y h' i = (h'.objs[i]?).getD default := by
  unfold ext
  rw [show Nat.blt i n = false from by
    cases q : Nat.blt i n with
    | false => rfl
    | true => have := Nat.le_of_ble_eq_true q; omega]
theorem nf2_lt {i : Nat} (h : i ∈ nf2) : i < 72 := by
  rcases List.mem_append.mp h with h | h
  · simp only [nf1, List.mem_cons, List.not_mem_nil, or_false] at h
    omega
  · obtain ⟨j, hj, rfl⟩ := List.mem_map.mp h
    have := List.mem_range.mp hj
    omega
theorem stage_D {lf : Life} {c : Nat} {Y : Nat → Obj} {p : Pos} (hY : NF Y nf2) (hS : SetFact w (Y 22) b1ints) (hD : DictFact w (Y 33) D4)
    (k : ∀ lf' c' Y' p', NF Y' nf3 → SetFact w (Y' 22) b1ints → DictFact w (Y' 33) D4 →
      Halts (model pw w) R (stt os lf' (trD2 w.params (Xm c c' Y')) 92 2324).abs (after (runD w os lf' (Xm c c' Y') p) (.ok (.ret (.ref 88))) p')) :
    Halts (model pw w) R (stt os lf (trC2 w.params (Xm c 0 Y)) 72 2206).abs (thD p) := by
  obtain ⟨t, ht, hc⟩ := look_some (segD w os lf (Xm c 0 Y) p)
  refine goQ_spec ht (halts_oracle hc (Q := fun v s' => v = .ref 88 ∧ ∃ lf' c' Y', NF Y' nf3 ∧ SetFact w (Y' 22) b1ints ∧ DictFact w (Y' 33) D4 ∧ s' = (stt os lf' (trD2 w.params (Xm c c' Y')) 92 2324).abs) ?_ ?_)
  · have hr : IsRange (stt os lf (trD w.params (Xm c 0 Y)) nD kD).abs.heap 87 917536 917632 1 2223 2224 2225 := stt_get os (by decide) rfl rfl
    refine call_list_range (n := 96) rfl hr (by decide +kernel) (by decide +kernel) (by decide) (by decide) fun h' c' hz hk hN hS' => ?_
    have hsz : (stt os lf (trD w.params (Xm c 0 Y)) nD kD).abs.heap.objs.size = 88 := stt_size os lf _ _ _
    rw [hsz] at hz hk hN hS'
    refine ⟨by rw [hsz], h'.life, c', ext 88 Y h', ?_, hS, hD, ?_⟩
    · intro i hi
      rcases List.mem_append.mp hi with hi | hi
      · rw [ext_below (Nat.lt_trans (nf2_lt hi) (by decide))]
        exact hY i hi
      · simp only [List.mem_cons, List.not_mem_nil, or_false] at hi
        rw [ext_above (by omega)]
        exact not_freed (hN _ (by omega) (by omega))
    · refine stt_with os (heap_is (T := trD w.params (Xm c 0 Y)) (n := 88) (k := 4) (lf := lf) hz hk (AllUp.at ?_) fun b hb1 hb2 => ?_)
      · repeat' (first | exact trivial | refine And.intro ?_ ?_)
        all_goals first | exact ⟨_, rfl, rfl, rfl⟩ | exact ⟨_, rfl, rfl, hY _ (by decide)⟩
      · have : b = 88 ∨ b = 89 ∨ b = 90 ∨ b = 91 := by omega
        rcases this with rfl | rfl | rfl | rfl
        · rw [obj_at hS']; rfl
        all_goals rfl
  · rintro v s' p' ⟨rfl, lf', c', Y', hn, hs, hd, rfl⟩
    have := k lf' c' Y' p' hn hs hd
    rw [after_D w os lf' lf (Xm c c' Y') (Xm c 0 Y)] at this
    rw [after_some ht] at this
    exact this

theorem stage_E {lf : Life} {c c' : Nat} {Y : Nat → Obj} {p p' : Pos} (hY : NF Y nf3) (hS : SetFact w (Y 22) b1ints) (hD : DictFact w (Y 33) D4)
    (k : ∀ lf' Y' p'', SetFact w (Y' 22) b1ints → DictFact w (Y' 33) D4 → SetFact w (Y' 93) c9ints →
      Halts (model pw w) R (stt os lf' (trE2 w.params (Xm c c' Y')) 97 2421).abs (after (runE w os lf' (Xm c c' Y') p p') (.ok (.ret (.ref 93))) p'')) :
    Halts (model pw w) R (stt os lf (trD2 w.params (Xm c c' Y)) 92 2324).abs (after (runD w os lf (Xm c c' Y) p) (.ok (.ret (.ref 88))) p') := by
  obtain ⟨t, ht, hc⟩ := look_some (segE w os lf Y c c' p p')
  refine goQ_spec ht (halts_oracle hc (Q := fun v s' => v = .ref 93 ∧ ∃ lf' Y', SetFact w (Y' 22) b1ints ∧ DictFact w (Y' 33) D4 ∧ SetFact w (Y' 93) c9ints ∧ s' = (stt os lf' (trE2 w.params (Xm c c' Y')) 97 2421).abs) ?_ ?_)
  · have hl : (stt os lf (trE w.params (Xm c c' Y)) nE kE).abs.heap.get? 92 = some (o92E w.params) := stt_get os (by decide) rfl rfl
    have hsz : (stt os lf (trE w.params (Xm c c' Y)) nE kE).abs.heap.objs.size = 93 := stt_size os lf _ _ _
    refine call_set (items := seqOf (o92E w.params)) (ns := c9ints) rfl ⟨_, hl, rfl, 0, rfl⟩ (c9_items w) (by rw [c9_size]; decide) fun h' hz hk hN hS' => ?_
    rw [hsz] at hz hk hN hS'
    rw [c9_size] at hS' ⊢
    refine ⟨by rw [hsz], h'.life, ext 93 Y h', hS, hD, setFact_of w rfl hS', ?_⟩
    refine stt_with os (heap_is (T := trE w.params (Xm c c' Y)) (n := 93) (k := 4) (lf := lf) hz hk (AllUp.at ?_) fun b hb1 hb2 => ?_)
    · repeat' (first | exact trivial | refine And.intro ?_ ?_)
      all_goals first | exact ⟨_, rfl, rfl, rfl⟩ | exact ⟨_, rfl, rfl, hY _ (by decide)⟩
    · have : b = 93 ∨ b = 94 ∨ b = 95 ∨ b = 96 := by omega
      rcases this with rfl | rfl | rfl | rfl <;> rfl
  · rintro v s' p'' ⟨rfl, lf', Y', hs, hd, hs', rfl⟩
    have := k lf' Y' p'' hs hd hs'
    rw [after_E w os lf' lf c c' c c' Y' Y] at this
    rw [after_some ht] at this
    exact this

/-- how the top ends: the written heap, and what is known of the three tables -/
noncomputable def TopEnd (r : Result) (s' : Shared) : Prop := r = .ok (.ret .none) ∧ ∃ lf' Y, SetFact w (Y 22) b1ints ∧ DictFact w (Y 33) D4 ∧ SetFact w (Y 93) c9ints ∧ s' = (stt os lf' (trF w.params Y) nF kF).abs

theorem top_last (h : Heap) (d k) (p : Pos) : (model pw w).runN 2 ⟨h, #[], d, k, os⟩ ⟨.pure (.done .next), cd, p, [topFrame pos0]⟩ = .halted (outcomeOf (.ok (.ret .none))) ⟨h, #[], d, k, os⟩ := by
  kernel_rfl
theorem stt_abs (os : OsState) (lf : Life) (T : BT) (n k : Nat) : (stt os lf T n k).abs = ⟨absHeap T n lf, #[], boot_drawn, k, os⟩ := rfl

theorem top_halts (lf : Life) : Halts (model pw w) (TopEnd w os) (stt os lf (tr0 w.params) 11 boot_toks).abs (topStub pw) := by
  refine goQ_spec (seg0 w os lf fun _ => default) ?_
  rw [body_is]
  refine stage_A w os fun lf₁ c Y₁ p₁ n₁ => stage_B w os n₁ fun lf₂ Y₂ p₂ n₂ s₂ => stage_C w os n₂ s₂ fun lf₃ Y₃ p₃ n₃ s₃ d₃ => stage_D w os n₃ s₃ d₃ fun lf₄ c' Y₄ p₅ n₄ s₄ d₄ => ?_
  refine stage_E w os n₄ s₄ d₄ fun lf₅ Y₅ p₆ s₅ d₅ s₆ => ?_
  refine goQ_spec (segF w os lf₅ Y₅ c c' p₃ p₅ p₆) ?_
  rw [b0_is]
  exact ⟨2, .ok (.ret .none), _, (by rw [stt_abs]; exact top_last w os _ _ _ posF), rfl, lf₅, Xm c c' Y₅, s₅, d₅, s₆, rfl⟩
end
end Mine
end
section
open PySem PySem.W PySem.Calls PyProof.Rows PySem.Spec
set_option maxRecDepth 100000
set_option linter.unusedVariables false
namespace Mine
section
variable {den : Code → Sem Fin} {p : Program} {w : World}
theorem halt_through {s s' : Shared} {t : Thread} {f : Flow} (h : PySem.step den p w s t = .halt (.done f) s') : through t = true := by
  obtain ⟨heap, gens, drawn, toks, os⟩ := s
  obtain ⟨cur, code, pos, stack⟩ := t
  cases cur
  case pure f =>
    cases f with
    | again c => injection h
    | done f =>
      cases stack with
      | nil => rfl
      | cons a r => cases a <;> injection h
  case raise e =>
    cases stack with
    | nil =>
      dsimp only [PySem.step, PySem.finish] at h
      (repeat' split at h) <;> injection h <;> contradiction
    | cons a r => cases a <;> injection h
  all_goals first
    | injection h; done
    | (injection h; contradiction)
    | (dsimp only [PySem.step] at h; (repeat' split at h) <;> injection h <;> contradiction)
    | (dsimp only [PySem.step] at h; (repeat' split at h) <;> first | (injection h; done) | (injection h; contradiction) | (cases h; done))
theorem run_before {s' : Shared} {f : Flow} : ∀ {n : Nat} {s : Shared} {t : Thread}, PySem.runN den p w n s t = .halted (.done f) s' → ∃ m t₁, PySem.runN den p w m s t = .running s' t₁ ∧ through t₁ = true
  | 0, _, _, h => by cases h
  | n + 1, s, t, h => by
    simp only [PySem.runN] at h
    cases hs : PySem.step den p w s t with
    | go s₂ t₂ =>
      rw [hs] at h
      obtain ⟨m, t₁, a, b⟩ := run_before h
      exact ⟨m + 1, t₁, by simp only [PySem.runN, hs]; exact a, b⟩
    | halt o s₂ =>
      rw [hs] at h
      cases h
      have := step_halt_same den p w s s' t _ hs
      subst this
      exact ⟨0, t, rfl, halt_through hs⟩
theorem sched_before {n : Nat} {s s' : Shared} {t : Thread} {f : Flow} (h : runNI den p w n s t = .halted (.done f) s') (hz : s.asleep) (hg : s'.gens = #[]) :
    (∃ m t₁, schedN den p w m (.single s t) = .running (.single s' t₁) ∧ through t₁ = true) ∧ s'.heap.life = s.heap.life := by
  obtain ⟨s₂, hn, hf, hc⟩ := runNI_real den p w h rfl
  have e := Shared.eq_of_forget_eq hf hg
  subst e
  obtain ⟨m, t₁, a, b⟩ := run_before hn
  have hne : ∀ k s₃, PySem.runN den p w k s t ≠ .halted (.unsupported "lifetime:generator-with-cleanup-left-suspended") s₃ := by
    intro k s₃ hk
    have a := runN_mono den p w n k s t _ s₂ hn
    have b := runN_mono den p w k n s t _ s₃ hk
    rw [Nat.add_comm, b] at a
    injection a with a1 _
    cases a1
  exact ⟨⟨m, t₁, (schedN_eq_runN den p w s t hz ⟨hc, hne⟩ m).trans (congrArg Run.lift a), b⟩, runN_life _ _ _ hn⟩
end
end Mine
end
section
open PySem PySem.W PySem.Calls PyProof.Rows PySem.Spec
set_option maxRecDepth 100000
set_option linter.unusedVariables false
namespace Mine
noncomputable def qv : Program := { pw with main := { pw.main with body := pw.main.body.drop (pw.main.body.length - 1) } }
noncomputable def lz : List Str := pw.boundNames.filter fun n => !(n == ("law" : Str))
section
variable (w : World) (os : OsState) (lf : Life) (Y : Nat → Obj)
noncomputable def hpF : Heap := ⟨⟨lsF w.params Y⟩, lf⟩
noncomputable def shF : Shared := ⟨hpF w lf Y, #[], boot_drawn, kF, os⟩
theorem absF : absHeap (trF w.params Y) nF lf = hpF w lf Y := by kernel_rfl
theorem g1 : seen ((recsOf qv).map (·.name)) (ownsOf qv) [] (shF w os lf Y) = expectedOf qv := by kernel_rfl
theorem g2 : (hpF w lf Y).bltView = bltViewBooted := by kernel_rfl
theorem g3 : (hpF w lf Y).keysOk (looseW qv lz) ((recsOf qv).map (·.name)) ((litsOf qv).map (·.1)) ((clssOf qv (looseW qv lz)).map (·.name)) = true := by kernel_rfl
theorem g4 : (hpF w lf Y).accountedOkI (importedModules pw.main.body) = true := by kernel_rfl
theorem g5 : (hpF w lf Y).isNs mainGlobals = true := by kernel_rfl
theorem g6 : (hpF w lf Y).isNs builtinsNs = true := by kernel_rfl
theorem g7 : tablesOk qv (hpF w lf Y) = true := by kernel_rfl
theorem g8 : tabsOk qv (shF w os lf Y) = true := by kernel_rfl
theorem g9 : pinSeenD qv (drecsOf qv) (shF w os lf Y) = pinGoodD (drecsOf qv) := by kernel_rfl
theorem g10 : plainSeenE qv (looseW qv lz) (shF w os lf Y) = plainGoodE qv (looseW qv lz) := by kernel_rfl
theorem g11 : plainSeenD qv lz (shF w os lf Y) = plainGoodD qv lz := by kernel_rfl
theorem g12 : wideSeen qv (shF w os lf Y) = wideGood qv := by kernel_rfl
theorem g13 : clsSeenW qv lz (shF w os lf Y) = clsGoodW qv lz := by kernel_rfl
theorem g14 : staticsOk (importedModules pw.main.body) (boot_heap w.params) (hpF w lf Y) = true := by kernel_rfl
theorem g15 : namesBound pw (hpF w lf Y) = true := by kernel_rfl
theorem g16 : laidKept (boot_heap w.params) (hpF w lf Y) = true := by kernel_rfl
theorem g17 : chainsOk qv = true := by kernel_rfl
end
end Mine
end
section
open PySem PySem.W PySem.Calls PyProof.Rows PySem.Spec
set_option maxRecDepth 100000
set_option linter.unusedVariables false
namespace Mine
/-- what stands behind the top -/
noncomputable def TopFacts (w : World) (h : Heap) : Prop := ∃ Y : Nat → Obj, SetFact w (Y 22) b1ints ∧ DictFact w (Y 33) D4 ∧ SetFact w (Y 93) c9ints ∧
  ∀ lf b o, (hpF w lf Y).get? b = some o → h.get? b = some o
theorem TopFacts.keeps {w : World} {h h' : Heap} (T : TopFacts w h) (k : ∀ b o, h.get? b = some o → h'.get? b = some o) : TopFacts w h' :=
  let ⟨Y, a, b, c, d⟩ := T; ⟨Y, a, b, c, fun lf x o e => k _ _ (d lf x o e)⟩

noncomputable abbrev NoX : (Str → Option Value) → Heap → Prop := XL qv []
theorem g18 (w : World) (os : OsState) (lf : Life) (Y : Nat → Obj) : xlAt qv [] (shF w os lf Y) = true := by kernel_rfl
theorem ground_top (w : World) (os : OsState) (lf : Life) (Y : Nat → Obj) :
    Ground qv lz [] NoX w (shF w os lf Y) ((hpF w lf Y).nsMap mainGlobals) ((hpF w lf Y).nsMap builtinsNs) (hpF w lf Y) ∧
      staticsAccountedI (hpF w lf Y) (importedModules pw.main.body) ∧ keysAreStrs (hpF w lf Y) mainNs ∧ builtinsAsBooted (hpF w lf Y) ∧ builtinsGlobalAsBooted (hpF w lf Y) := by
  have e : openSeen qv lz (importedModules pw.main.body) (fun s => xlAt qv [] s) true (shF w os lf Y) = openGood qv lz := by
    unfold openSeen openGood
    have h1 : seen ((recsOf qv).map (·.name)) (ownsOf qv) [] { shF w os lf Y with gens := #[] } = expectedOf qv := g1 w os lf Y
    rw [h1]
    show (_, (hpF w lf Y).bltView, (hpF w lf Y).keysOk _ _ _ _ && (hpF w lf Y).accountedOkI _ && (hpF w lf Y).isNs mainGlobals && (hpF w lf Y).isNs builtinsNs && tablesOk qv (hpF w lf Y) && xlAt qv [] (shF w os lf Y) && true, _, _, _, _, _, _) = _
    rw [g2, g3, g4, g5, g6, g7, g8, g9, g10, g11, g12, g13, g18]
    rfl
  obtain ⟨G, _, _, a, b, c, d⟩ := ground_of_open (XP := NoX) (w := w) (fun s e => xl_of s e) g17 e
  exact ⟨G, a, b, c, d⟩

theorem old_kept (w : World) (lf lf' : Life) (Y : Nat → Obj) (b : Addr) (o : Obj) (h : (boot_heap w.params).get? b = some o) (hn : ¬ theTopsOwn (boot_heap w.params) b) : (hpF w lf Y).get? b = some o := by
  have hb : b < 11 := Heap.lt_size h
  have h3 : b ≠ mainNs := fun e => hn (.inl e)
  have key : AllUp 11 (fun b => b ≠ mainNs → (hpF w lf Y).get? b = (boot_heap w.params).get? b) := by
    repeat' (first | exact trivial | refine And.intro ?_ ?_)
    all_goals first | exact fun q => absurd rfl q | exact fun _ => rfl
  rw [key.at b hb h3]
  exact h

theorem behind (w : World) : (∃ s, AfterRun (opening pw) w s) ∧ ∀ s, AfterRun (opening pw) w s → ∃ s₀, fenceModules? pw s = some s₀ ∧ s₀.gens = #[] ∧ ∃ s₁, TopRan pw w s₀ s₁ ∧ s₁.asleep ∧ s₁.gens = #[] ∧ s₁.heap.isNs mainGlobals = true ∧
    Ground qv lz [] NoX w s₁ (s₁.heap.nsMap mainGlobals) (s₁.heap.nsMap builtinsNs) s₁.heap ∧ TopFacts w s₁.heap := by
  have h := boot_open (p := pw) (N := 600) (by kernel_rfl) (by decide) (fun s => by kernel_rfl) w
  rw [← table_eq_tree] at h
  obtain ⟨s₀, h1, e⟩ := Option.map_eq_some_iff.mp h
  obtain ⟨s, h4, h5⟩ := Option.bind_eq_some_iff.mp h1
  have A := AfterImport.of_importEnds h4
  refine ⟨⟨s, A⟩, fun s' hs' => ?_⟩
  obtain rfl : s' = s := AfterImport.unique hs' A
  have z : s₀.asleep := Shared.asleep_of_life (fence_lifeW h5) A.life
  obtain ⟨heap, gens, drawn, toks, os⟩ := s₀
  simp only [Prod.mk.injEq] at e
  obtain ⟨rfl, rfl, rfl, rfl⟩ := e
  refine ⟨_, h5, rfl, ?_⟩
  obtain ⟨n, r, s₂, hn, rfl, lf, Y, hb1, hd, hc9, rfl⟩ := top_halts w os (boot_heap w.params).life
  have e0 : (stt os (boot_heap w.params).life (tr0 w.params) 11 boot_toks).abs = ⟨boot_heap w.params, #[], boot_drawn, boot_toks, os⟩ := by
    rw [stt_abs]
    have : absHeap (tr0 w.params) 11 (boot_heap w.params).life = boot_heap w.params := by kernel_rfl
    rw [this]
  have e1 : (stt os lf (trF w.params Y) nF kF).abs = shF w os lf Y := by
    rw [stt_abs, absF]; rfl
  rw [e0, e1] at hn
  obtain ⟨run, hl⟩ := sched_before (f := .ret .none) hn z rfl
  obtain ⟨G, a1, a2, a3, a4⟩ := ground_top w os lf Y
  refine ⟨shF w os lf Y, ⟨run, hl, rfl, fun b o hb hn => old_kept w lf lf Y b o hb hn, a1, statics_of_ok (g14 w lf Y), a2, a3, a4, ?_, names_of_bound (g15 w lf Y), laid_of_kept (g16 w lf Y)⟩,
    Shared.asleep_of_life hl z, rfl, g5 w lf Y, G, Y, hb1, hd, hc9, fun lf' b o q => q⟩
  intro g hg
  cases (by simpa [shF] using hg : False)
end Mine
end
section
open PySem PySem.W PySem.Calls PyProof.Rows PySem.Spec
set_option maxRecDepth 100000
set_option linter.unusedVariables false
namespace Mine
noncomputable abbrev rL : OpenRow := OpenLaw.row PySem.Challenge.rw_tp0034_01
theorem keep_rec {w : World} {s : Shared} {mg mb : Str → Option Value} {h : Heap} (G : Ground qv lz [] NoX w s mg mb h) : Ground qv lz rL.toRowW.records NoX w s mg mb h := G

theorem my_end {d : DefRec} {kwd : List (Str × Expr)} (hdef : defOf qv rL.name = some (d, kwd)) (hp : rL.prog.theDef rL.name = some (d.params, d.body, d.scope)) (hk : kwWritten? d.params.kwonlyargs d.params.kw_defaults = some kwd)
    (k1 : rL.wellSaid = true) (hw : rL.toRowW.promised)
    (call : WalkO qv lz NoX TopFacts rL.toRowW d kwd fun f vs => PySem.call f vs) : rL.Holds := by
  have hfr : frees rL.toRowW = true := by decide +kernel
  obtain ⟨hsame, hu, ha, hap, hm⟩ := frees_parts hfr
  refine ⟨k1, hw, ⟨⟨rfl, rfl, rfl, rfl, rfl, by decide +kernel⟩, by decide +kernel, rfl⟩, hw.witness, fun w => ⟨(behind w).1, fun s' hs' => ?_⟩⟩
  obtain ⟨s₀, hf, hg0, s, hT, hz, hgens, hg, G, y⟩ := (behind w).2 s' hs'
  refine ⟨s₀, hf, hg0, s, hT, fun n hn => ?_, fun x hx => (nomatch hx), fun x hx => (nomatch hx), ?_⟩
  · obtain rfl : n = rL.name := by split at hn <;> simp_all
    exact pinned_of_view hg G hdef hp hk
  refine ClaimW.callFrom_of_specG (c := rL.toRowW.claim) hz hgens fun args hpre hlay ord hord => ?_
  obtain ⟨⟨vs, s₁⟩, hlaid⟩ := Option.isSome_iff_exists.mp (layAllW_isSome (P := w.params) (ord := ord) G.has args rL.toRowW.args s (pre_splitW hpre).1)
  have keeps := layAllW_keeps _ _ _ hlaid
  have hal := layAllW_rest _ _ _ hlaid
  obtain ⟨as, hrd, hin, hold⟩ := reads_layAllW hord _ _ _ hlaid hlay s₁.heap (fun _ _ e => e)
  have L : Laid rL.toRowW.records w s s₁ args vs as := ⟨⟨ord, hord, hlaid⟩, hrd, hin, hold, keeps, hal.1.trans hgens, hal.2.2.1⟩
  have G₁ := (keep_rec G).keeps XL.keeps keeps
  obtain ⟨a, o, pm, cd, doc, dV, kV, h1, h2, h3, h4, h5⟩ := G₁.fn hdef
  have h := call w s s₁ _ _ G₁ (y.keeps keeps) a o pm cd doc dV kV h2 h3 h4 h5 (defOf_name hdef ▸ h1) L.gens args vs as hpre hlay L.reads L.well (L.low G.low)
  have hi := ident_freeW hu ha hap
  refine ⟨vs, s₁, hlaid, wpAny_bind (wpAny_nsGet (show s₁.heap.Ns mainNs _ from G₁.T.g) ?_)⟩
  rw [h1]
  refine wpAny_bind (wpAny_mono h (fun v s' g => wpAny_pure ?_) fun e s' g => ?_)
  · have z := g.laid (c := rL.toRowW.claim) hsame rfl hi L
    exact ⟨_, rfl, z.1, z.2.1, z.2.2, fun q => (nomatch q)⟩
  · have z := g.laid (c := rL.toRowW.claim) hsame rfl hi L
    exact ⟨z.1, z.2.1, z.2.2, fun q => (nomatch q)⟩

noncomputable def lawAt : { x : DefRec × List (Str × Expr) // defOf qv rL.name = some x } := ⟨(⟨_, _, _, _, _⟩, _), by rfl⟩
end Mine
end
section
open PySem PySem.W PySem.Calls PyProof.Rows PySem.Spec
set_option maxRecDepth 100000
set_option linter.unusedVariables false
namespace Mine
noncomputable abbrev fnAt (name : Str) (pm : Value) (code : Addr) {i : Nat} {p : Arguments} {b : List Stmt} {x1 x2 x3 : _} {sc : Scope} {x4 x5 x6 : _} (_ : pw.main.body[i]? = some (.FunctionDef name p b x1 x2 x3 sc x4 x5 x6)) : Obj :=
  ⟨.type "function", none, .func { name := name, qualname := name, params := p, body := .stmts b, scope := sc, globals := 3, closure := [], defaults := .none, kwdefaults := .none, doc := .none, pyModule := pm, annotations := none, code := .ref code, closureTuple := .none, builtins := 0 }, #[]⟩
noncomputable def K (P : Params) : Frag :=
  (nat_lit 2, boot_o_2 P) ::
  (nat_lit 3, o3F P) ::
  (nat_lit 6, boot_o_6 P) ::
  (nat_lit 26, o26C P) ::
  (nat_lit 28, o28C P) ::
  (nat_lit 29, o29C P) ::
  (nat_lit 31, o31C P) ::
  (nat_lit 32, fnAt (Str.ofString "in_table_b1") (.str (Str.ofString "cpy313.stringprep") 187) (nat_lit 31) (i := 2) rfl) ::
  (nat_lit 72, o72D P) ::
  (nat_lit 74, o74D P) ::
  (nat_lit 75, o75D P) ::
  (nat_lit 77, o77D P) ::
  (nat_lit 78, fnAt (Str.ofString "map_table_b3") (.str (Str.ofString "cpy313.stringprep") 187) (nat_lit 77) (i := 4) rfl) ::
  (nat_lit 79, o79D P) ::
  (nat_lit 81, o81D P) ::
  (nat_lit 82, o82D P) ::
  (nat_lit 84, o84D P) ::
  (nat_lit 85, fnAt (Str.ofString "in_table_c11") (.str (Str.ofString "cpy313.stringprep") 187) (nat_lit 84) (i := 5) rfl) ::
  (nat_lit 97, o97F P) ::
  (nat_lit 99, o99F P) ::
  (nat_lit 100, o100F P) ::
  (nat_lit 102, o102F P) ::
  (nat_lit 103, fnAt (Str.ofString "in_table_c9") (.str (Str.ofString "cpy313.stringprep") 187) (nat_lit 102) (i := 7) rfl) ::
  (nat_lit 104, o104F P) ::
  (nat_lit 106, o106F P) ::
  (nat_lit 107, o107F P) ::
  (nat_lit 109, o109F P) ::
  (nat_lit 110, fnAt (Str.ofString "rgb_to_hls") (.str (Str.ofString "cpy313.colorsys") 2429) (nat_lit 109) (i := 9) rfl) ::
  (nat_lit 111, o111F P) ::
  (nat_lit 113, o113F P) ::
  (nat_lit 114, o114F P) ::
  (nat_lit 116, o116F P) ::
  (nat_lit 117, fnAt (Str.ofString "hsv_to_rgb") (.str (Str.ofString "cpy313.colorsys") 2429) (nat_lit 116) (i := 10) rfl) ::
  (nat_lit 118, o118F P) ::
  (nat_lit 120, o120F P) ::
  (nat_lit 121, o121F P) ::
  (nat_lit 123, o123F P) ::
  (nat_lit 124, fnAt (Str.ofString "Int2AP") (.str (Str.ofString "cpy313.imaplib") 2464) (nat_lit 123) (i := 12) rfl) ::
  (nat_lit 125, o125F P) ::
  (nat_lit 127, o127F P) ::
  (nat_lit 128, o128F P) ::
  (nat_lit 130, o130F P) ::
  (nat_lit 131, fnAt (Str.ofString "_law_sign") (.str (Str.ofString "law_tp0034_01") 2476) (nat_lit 130) (i := 14) rfl) ::
  (nat_lit 132, o132F P) ::
  (nat_lit 134, o134F P) ::
  (nat_lit 135, o135F P) ::
  (nat_lit 137, o137F P) ::
  (nat_lit 138, fnAt (Str.ofString "_law_typed") (.str (Str.ofString "law_tp0034_01") 2476) (nat_lit 137) (i := 15) rfl) ::
  (nat_lit 139, o139F P) ::
  (nat_lit 142, o142F P) ::
  (nat_lit 143, fnAt (Str.ofString "_law_read") (.str (Str.ofString "law_tp0034_01") 2476) (nat_lit 142) (i := 16) rfl) ::
  (nat_lit 144, o144F P) ::
  (nat_lit 147, o147F P) ::
  (nat_lit 148, fnAt (Str.ofString "law") (.str (Str.ofString "law_tp0034_01") 2476) (nat_lit 147) (i := 17) rfl) :: []

theorem k_list (w : World) (lf : Life) (Y : Nat → Obj) : (K w.params).map (fun p => (hpF w lf Y).get? p.1) = (K w.params).map fun p => some p.2 := by kernel_rfl
theorem in_of_list {K : Frag} {h : Heap} (e : K.map (fun p => h.get? p.1) = K.map fun p => some p.2) : K.In h := by
  induction K with
  | nil => exact fun a o q => (nomatch q)
  | cons p r ih =>
    obtain ⟨b, x⟩ := p
    simp only [List.map_cons, List.cons.injEq] at e
    intro a o q
    rw [List.lookup_cons] at q
    by_cases hb : (a == b) = true
    · rw [hb] at q
      cases q
      rw [beq_iff_eq] at hb
      subst hb
      exact e.1
    · rw [Bool.not_eq_true] at hb
      rw [hb] at q
      exact ih e.2 a o q
theorem k_of {w : World} {h : Heap} (T : TopFacts w h) : (K w.params).In h :=
  let ⟨Y, _, _, _, d⟩ := T
  (in_of_list (k_list w default Y)).keeps (d default)

/-- the table of B.1, of C.9 and of the exceptions of B.3 -/
theorem b1_of {w : World} {h : Heap} (T : TopFacts w h) : h.SetOf (intKind pw w) 22 (fun k' => (firstMet (fun i => b1ints.getD i 0) b1ints.length).any (· == k')) (firstMet (fun i => b1ints.getD i 0) b1ints.length).length :=
  let ⟨Y, a, _, _, d⟩ := T
  a.2 h 22 (d default 22 (Y 22) (Heap.get?_some_iff.mpr ⟨rfl, a.1⟩))
theorem c9_of {w : World} {h : Heap} (T : TopFacts w h) : h.SetOf (intKind pw w) 93 (fun k' => (firstMet (fun i => c9ints.getD i 0) c9ints.length).any (· == k')) (firstMet (fun i => c9ints.getD i 0) c9ints.length).length :=
  let ⟨Y, _, _, a, d⟩ := T
  a.2 h 93 (d default 93 (Y 93) (Heap.get?_some_iff.mpr ⟨rfl, a.1⟩))
theorem b3_of {w : World} {h : Heap} (T : TopFacts w h) : ∃ kvs, Match kvs D4 ∧ h.DictOf (intKind pw w) 33 kvs :=
  let ⟨Y, _, ⟨f, kvs, m, a⟩, _, d⟩ := T
  ⟨kvs, m, a h 33 (d default 33 (Y 33) (Heap.get?_some_iff.mpr ⟨rfl, f⟩))⟩
end Mine
end
section
open PySem PySem.W PySem.Calls PyProof.Rows PySem.Spec LCg
set_option maxRecDepth 100000
set_option linter.unusedVariables false
namespace Mine
section
variable {prog : Program} {w : World} {A : Around} {E : Value → Shared → Prop} {s : Shared} {h₀ : Heap} {L : Addr} {m : Str → Option Value} {env : Env}

/-- a list comprehension without a test, over anything that turns, whose element keeps what stands -/
theorem block_G {target elt iter : PySem.Expr} {scope : Scope} {cl : List (Str × Addr)} {pos : Pos} {s₂ : Shared} {I : Addr} {fp wr : List Addr} {n : Nat} {P Md : Nat → Value → Heap → Prop} {St : Nat → Heap → Prop} {news : List (Addr × Obj)}
    {Asg : Nat → (Str → Option Value) → Prop} {YS : Nat → List Value → List (Addr × Obj) → Prop} {RR : Value → Addr → Result → Shared → Prop}
    (W : KTurns prog w A target I fp wr n P Md St) (hself : ∀ (s : Shared) (Q : Value → Shared → Prop) (E : Value → Shared → Prop), St 0 s.heap → Q (.ref I) s → wpAny (model prog w) A (pyIter (.ref I)) Q E s) (hsz : n ≤ sizeLine)
    (hcell : ∀ y ∈ scope.names, y.2 ≠ .cell) (hkind : scope.kind = .function) (hst : St 0 s₂.heap) (hfp : ∀ b ∈ fp, b < s₂.heap.objs.size)
    (F : Fr h₀ L s₂.heap m) (N : News h₀ L s₂.heap news) (hLw : L ∉ wr) (hw₀ : ∀ b ∈ wr, h₀.get? b = none) (off : ∀ p ∈ news, p.1 ∉ wr) (h0 : YS 0 [] [])
    (hAs : ∀ C i v m₁ (s : Shared) (Q : Unit → Shared → Prop) (E : Value → Shared → Prop), i < n → P i v s.heap → s.heap.Ns C m₁ →
      (∀ h' tk m₂, h'.Ns C m₂ → Asg i m₂ → (∀ c o, c ≠ C → s.heap.get? c = some o → h'.get? c = some o) → Q () { s with heap := h', toks := tk }) → wpAny (model prog w) A (assign target (compEnvC scope cl C env) v) Q E s)
    (hEl : ∀ C i ys ow m₂ (s : Shared) (Q : Value → Shared → Prop) (E : Value → Shared → Prop), i < n → YS i ys ow → s.heap.Ns C m₂ → Asg i m₂ → Fr h₀ L s.heap m → News h₀ L s.heap (ow ++ news) →
      (∀ y h' tk own, (∀ c o, s.heap.get? c = some o → h'.get? c = some o) → (∀ p ∈ own, h'.get? p.1 = some p.2 ∧ s.heap.objs.size ≤ p.1) → YS (i + 1) (ys ++ [y]) (own ++ ow) → Q y { s with heap := h', toks := tk }) →
      wpAny (model prog w) A (eval elt (compEnvC scope cl C env)) Q E s)
    (hRR : ∀ D C h tk m' ys ow, Fr h₀ L h m → News h₀ L h ((D, lst ys) :: (ow ++ news)) → Off1 D (ow ++ news) → h.Ns C m' → h₀.get? C = none → h₀.get? D = none → C ≠ L → D ≠ L → C ≠ D → (∀ p ∈ ow ++ news, p.1 ≠ C) → YS n ys ow → RR (.ref D) C (.ok .next) { s₂ with heap := h, toks := tk }) :
    wpAny (model prog w) A (newList []) (fun acc s₃ => wpAny (model prog w) A (newFunctionEnv scope env.globals cl [] env.qual none .none (some env)) (fun cenv s₄ =>
      codeAny (model prog w) A (.compStart (.ListComp elt [⟨target, iter, [], 0⟩] scope pos) 0 (.ref I) acc { cenv with scope := relabel scope env }) (RR acc cenv.locals) s₄) E s₃) E s₂ := by
  refine wpAny_newObj_type (wpAny_newFunctionEnv hcell (by intro y hy; simp at hy) (fun h₁ hns₁ hsb₁ => ?_) hkind)
  dsimp only at hns₁ hsb₁ ⊢
  generalize hH2 : s₂.heap.push { cls := .type "list", dict := none, data := .seq ([] : List Value).toArray } = H2 at hns₁ hsb₁ ⊢
  have hC : H2.objs.size = s₂.heap.objs.size + 1 := by rw [← hH2, Heap.size_push]
  have hDC : s₂.heap.objs.size ≠ H2.objs.size := by rw [hC]; exact Nat.ne_of_lt (Nat.lt_succ_self _)
  have below : ∀ b, b < s₂.heap.objs.size → b ≠ H2.objs.size ∧ b ≠ s₂.heap.objs.size := fun b hb => ⟨by rw [hC]; exact Nat.ne_of_lt (Nat.lt_succ_of_lt hb), Nat.ne_of_lt hb⟩
  have hDf : s₂.heap.objs.size ∉ fp := fun hm => Nat.lt_irrefl _ (hfp _ hm)
  have hCf : H2.objs.size ∉ fp := fun hm => by have := hfp _ hm; rw [hC] at this; exact Nat.lt_irrefl _ (Nat.lt_of_succ_lt this)
  have old : ∀ b o, s₂.heap.get? b = some o → h₁.get? b = some o := fun b o e => hsb₁.extBut b o (below b (Heap.lt_size e)).1 (Heap.get?_push_of_some _ (hH2 ▸ Heap.get?_push_of_some _ e))
  have hacc : h₁.get? s₂.heap.objs.size = some (lst []) := hsb₁.extBut _ _ hDC (Heap.get?_push_of_some _ (hH2 ▸ Heap.get?_push_size _ rfl))
  have hst₁ : St 0 h₁ := W.frame _ _ _ hst fun b _ o e => old b o e
  have fresh : ∀ a, s₂.heap.objs.size ≤ a → s₂.heap.get? a = none := fun a ha => by
    cases e : s₂.heap.get? a with
    | none => rfl
    | some o' => exact absurd (Heap.lt_size e) (Nat.not_lt.mpr ha)
  have fresh₀ : ∀ a, s₂.heap.objs.size ≤ a → h₀.get? a = none := fun a ha => by
    cases e : h₀.get? a with
    | none => rfl
    | some o' => have := F.keep a o' e; rw [fresh a ha] at this; cases this
  have hD₀ : h₀.get? s₂.heap.objs.size = none := fresh₀ _ (Nat.le_refl _)
  have hC₀ : h₀.get? H2.objs.size = none := fresh₀ _ (by rw [hC]; exact Nat.le_succ _)
  have hLlt : L < s₂.heap.objs.size := F.ns.lt
  have hDL : s₂.heap.objs.size ≠ L := Ne.symm (below L hLlt).2
  have hCL : H2.objs.size ≠ L := Ne.symm (below L hLlt).1
  have hCw : H2.objs.size ∉ wr := fun q => hCf (W.sub _ q)
  have hDw : s₂.heap.objs.size ∉ wr := fun q => hDf (W.sub _ q)
  have old₀ : ∀ b o, h₀.get? b = some o → b ∉ wr := fun b o e hb => by rw [hw₀ b hb] at e; cases e
  have loop : ∀ s₃ : Shared, s₃ = { s₂ with heap := h₁, toks := s₂.toks + ([] : List (Str × Value)).length } →
      codeAny (model prog w) A (.compLoop (.ListComp elt [⟨target, iter, [], 0⟩] scope pos) 0 (.ref I) (.ref s₂.heap.objs.size) (compEnvC scope cl H2.objs.size env))
        (RR (.ref s₂.heap.objs.size) H2.objs.size) s₃ := by
    rintro s₃ rfl
    refine kcp_loop
      (fun k s' => ∃ h' tk i ys m' ow, s' = { s₂ with heap := h', toks := tk } ∧ i ≤ n ∧ k = n + 1 - i ∧ ys.length = i ∧ St i h' ∧ Fr h₀ L h' m ∧ h'.Ns H2.objs.size m' ∧
        News h₀ L h' ((s₂.heap.objs.size, lst ys) :: (ow ++ news)) ∧ (∀ p ∈ ow ++ news, p.1 ∉ wr ∧ p.1 ≠ H2.objs.size ∧ p.1 ≠ s₂.heap.objs.size) ∧ YS i ys ow) ?_ (n + 1)
      ⟨h₁, _, 0, [], _, [], rfl, Nat.zero_le _, rfl, rfl, hst₁, F.keeps old, hns₁, fun p hp => ?_, fun p hp => ⟨off p hp, (below _ (Heap.lt_size (N p hp).1)).1, (below _ (Heap.lt_size (N p hp).1)).2⟩, h0⟩
    · rintro k s' ⟨h', tk, i, ys, m', ow, rfl, hi, rfl, hyl, hst', F', hn', N', off', hY⟩
      by_cases hlt : i < n
      · refine W.item i _ _ _ hlt hst' fun v h₂ tk₂ hMd hk₂ => ?_
        refine W.go i v _ _ _ hMd fun h₃ hP hst₃ hk₃ => ?_
        dsimp only at hk₂ hk₃ ⊢
        have up₃ : ∀ c o, c ∉ wr → h'.get? c = some o → h₃.get? c = some o := fun c o hc e => hk₃ c o hc (hk₂ c o hc e)
        refine hAs H2.objs.size i v _ _ _ _ hlt hP (hn'.at' fun o e => up₃ _ o hCw e) fun h₄ tk₄ m₂ hn₄ hA₄ hs₄ => ?_
        dsimp only at hs₄ ⊢
        have up : ∀ c o, c ∉ wr → c ≠ H2.objs.size → h'.get? c = some o → h₄.get? c = some o := fun c o h1 h2 e => hs₄ c o h2 (up₃ c o h1 e)
        have hst₄ : St (i + 1) h₄ := W.frame _ _ _ hst₃ fun b hb o e => hs₄ b o (fun q => hCf (by have q' : b = H2.objs.size := q; rw [← q']; exact hb)) e
        have F₄ : Fr h₀ L h₄ m := ⟨F'.ns.at' fun o e => up _ o hLw (Ne.symm hCL) e, fun c o e => up c o (old₀ c o e) (fun q => by rw [q, hC₀] at e; cases e) (F'.keep c o e), F'.above⟩
        have N₄ : News h₀ L h₄ (ow ++ news) := fun q hq => by
          have z := N' q (List.mem_cons_of_mem _ hq)
          have o := off' q hq
          exact ⟨up _ _ o.1 o.2.1 z.1, z.2⟩
        have D₄ : h₄.get? s₂.heap.objs.size = some (lst ys) := up _ _ hDw hDC (N' _ (List.mem_cons_self ..)).1
        refine hEl H2.objs.size i ys ow m₂ _ _ _ hlt hY hn₄ hA₄ F₄ N₄ fun y h₅ tk₅ own hk₅ hown hY' => ?_
        dsimp only at hk₅ hown ⊢
        refine append_at (hsz := by show ys.toArray.size ≤ sizeLine; rw [List.size_toArray, hyl]; exact Nat.le_trans hi hsz) (hk₅ _ _ D₄) fun h₆ hs₆ hD₆ => ?_
        have hC₅ := hn₄.at' fun o e => hk₅ _ o e
        have big : ∀ p ∈ own, ∀ b, b < h₄.objs.size → p.1 ≠ b := fun p hp b hb q => Nat.lt_irrefl _ (Nat.lt_of_lt_of_le hb (q ▸ (hown p hp).2))
        have hCs : H2.objs.size < h₄.objs.size := hn₄.lt
        have hDs : s₂.heap.objs.size < h₄.objs.size := Heap.lt_size D₄
        have hws : ∀ b ∈ wr, b < h₄.objs.size := fun b hb => Nat.lt_trans (hfp b (W.sub b hb)) hDs
        have hLs : L < h₄.objs.size := F₄.ns.lt
        refine ⟨n + 1 - (i + 1), by omega, h₆, tk₅, i + 1, ys ++ [y], _, own ++ ow, rfl, hlt, rfl, by rw [List.length_append, List.length_singleton, hyl], W.frame _ _ _ hst₄ fun b hb o e => hs₆.extBut b o (fun q => hDf (q ▸ hb)) (hk₅ _ _ e),
          (F₄.keeps hk₅).change hs₆ hDL hD₀, hC₅.sameBut hs₆ (Ne.symm hDC), fun q hq => ?_, fun q hq => ?_, hY'⟩
        · rcases List.mem_cons.mp hq with rfl | hq
          · exact ⟨hD₆.trans (congrArg some (lst_snoc ys y)), hDL, hD₀⟩
          · rw [List.append_assoc] at hq
            rcases List.mem_append.mp hq with hq | hq
            · refine ⟨hs₆.extBut _ _ (big q hq _ hDs) (hown q hq).1, big q hq _ hLs, fresh₀ _ ?_⟩
              exact Nat.le_trans (Nat.le_of_lt hDs) (hown q hq).2
            · exact ⟨hs₆.extBut _ _ (off' q hq).2.2 (hk₅ _ _ (N₄ q hq).1), (N₄ q hq).2⟩
        · rw [List.append_assoc] at hq
          rcases List.mem_append.mp hq with hq | hq
          · exact ⟨fun hw => big q hq _ (hws _ hw) rfl, big q hq _ hCs, big q hq _ hDs⟩
          · exact off' q hq
      · have hin : i = n := Nat.le_antisymm hi (Nat.not_lt.mp hlt)
        subst hin
        refine W.done _ _ _ hst' fun h₂ tk₂ hk₂ => ?_
        dsimp only at hk₂ ⊢
        refine hRR _ _ h₂ tk₂ _ ys ow ⟨F'.ns.at' fun o e => hk₂ _ o hLw e, fun b o e => hk₂ b o (old₀ b o e) (F'.keep b o e), F'.above⟩ (fun p hp => ?_) ?_ (hn'.at' fun o e => hk₂ _ o hCw e) hC₀ hD₀ hCL hDL (Ne.symm hDC) (fun p hp => (off' p hp).2.1) hY
        · refine ⟨hk₂ _ _ ?_ (N' p hp).1, (N' p hp).2⟩
          rcases List.mem_cons.mp hp with rfl | hp
          · exact hDw
          · exact (off' p hp).1
        · exact (Off3.of (I := H2.objs.size) (C := H2.objs.size) fun p hp => ⟨(off' p hp).2.1, (off' p hp).2.1, (off' p hp).2.2⟩).one
    · rcases List.mem_cons.mp hp with rfl | hp
      · exact ⟨hacc, hDL, hD₀⟩
      · exact ⟨old _ _ (N p hp).1, (N p hp).2⟩
  exact codeAny_compStart_list (loop _ rfl) (hself _ _ _ hst₁ (loop _ rfl))

noncomputable def GSrc (prog : Program) (w : World) (A : Around) (h₀ : Heap) (L : Addr) (m : Str → Option Value) (env : Env) (target elt : PySem.Expr) (scope : Scope) (cl : List (Str × Addr)) (Q : Value → Shared → Prop) (it : Value) (s₂ : Shared) : Prop :=
  ∃ (I : Addr) (fp wr : List Addr) (n : Nat) (P Md : Nat → Value → Heap → Prop) (St : Nat → Heap → Prop) (news : List (Addr × Obj)) (Asg : Nat → (Str → Option Value) → Prop) (YS : Nat → List Value → List (Addr × Obj) → Prop),
    it = .ref I ∧ KTurns prog w A target I fp wr n P Md St ∧ (∀ (s : Shared) (Q : Value → Shared → Prop) (E : Value → Shared → Prop), St 0 s.heap → Q (.ref I) s → wpAny (model prog w) A (pyIter (.ref I)) Q E s) ∧ n ≤ sizeLine ∧
    St 0 s₂.heap ∧ (∀ b ∈ fp, b < s₂.heap.objs.size) ∧ Fr h₀ L s₂.heap m ∧ News h₀ L s₂.heap news ∧ L ∉ wr ∧ (∀ b ∈ wr, h₀.get? b = none) ∧ (∀ p ∈ news, p.1 ∉ wr) ∧ YS 0 [] [] ∧
    (∀ C i v m₁ (s : Shared) (Q : Unit → Shared → Prop) (E : Value → Shared → Prop), i < n → P i v s.heap → s.heap.Ns C m₁ →
      (∀ h' tk m₂, h'.Ns C m₂ → Asg i m₂ → (∀ c o, c ≠ C → s.heap.get? c = some o → h'.get? c = some o) → Q () { s with heap := h', toks := tk }) → wpAny (model prog w) A (assign target (compEnvC scope cl C env) v) Q E s) ∧
    (∀ C i ys ow m₂ (s : Shared) (Q : Value → Shared → Prop) (E : Value → Shared → Prop), i < n → YS i ys ow → s.heap.Ns C m₂ → Asg i m₂ → Fr h₀ L s.heap m → News h₀ L s.heap (ow ++ news) →
      (∀ y h' tk own, (∀ c o, s.heap.get? c = some o → h'.get? c = some o) → (∀ p ∈ own, h'.get? p.1 = some p.2 ∧ s.heap.objs.size ≤ p.1) → YS (i + 1) (ys ++ [y]) (own ++ ow) → Q y { s with heap := h', toks := tk }) →
      wpAny (model prog w) A (eval elt (compEnvC scope cl C env)) Q E s) ∧
    (∀ D h tk ys ow, Fr h₀ L h m → News h₀ L h ((D, lst ys) :: (ow ++ news)) → Off1 D (ow ++ news) → YS n ys ow → Q (.ref D) { s₂ with heap := h, toks := tk })

theorem comp_G {target elt iter : PySem.Expr} {scope : Scope} {cl : List (Str × Addr)} {pos : Pos} {Q : Value → Shared → Prop}
    (hclos : closureFor scope env = pure cl) (hcell : ∀ y ∈ scope.names, y.2 ≠ .cell) (hkind : scope.kind = .function)
    (hnames : ∀ y ∈ scope.names, y.2 = .local → scope.names.lookup y.1 = some .local)
    (h : wpAny (model prog w) A (eval iter env) (fun xv s₁ => wpAny (model prog w) A (pyIter xv) (GSrc prog w A h₀ L m env target elt scope cl Q) E s₁) E s)
    (hs : ∀ x, foldedSetIterable iter env x = pure x := by intro _; rfl) :
    wpAny (model prog w) A (eval (.ListComp elt [⟨target, iter, [], 0⟩] scope pos) env) Q E s := by
  rw [eval_ListComp]
  refine wpAny_comprehension_free (use := none) rfl hs hclos hkind hnames (wpAny_mono h (fun xv s₁ h₁ => ?_) fun _ _ e => e)
  refine wpAny_mono h₁ (fun it s₂ h₂ => ?_) fun _ _ e => e
  obtain ⟨I, fp, wr, n, P, Md, St, news, Asg, YS, rfl, W, hself, hsz, hst, hfp, F, N, hLw, hw₀, off, h0, hAs, hEl, fin⟩ := h₂
  refine block_G W hself hsz hcell hkind hst hfp F N hLw hw₀ off h0 hAs hEl ?_
  intro D C h tk m' ys ow F' N' o1 hn hC₀ hD₀ hCL hDL hCD offC hY
  refine ⟨m', hn, fun h'' hs'' => fin D h'' tk ys ow (F'.change hs'' hCL hC₀) (fun p hp => ?_) o1 hY⟩
  refine ⟨hs''.extBut _ _ ?_ (N' p hp).1, (N' p hp).2⟩
  rcases List.mem_cons.mp hp with rfl | hp
  · exact Ne.symm hCD
  · exact offC p hp
end
end Mine
end
section
open PySem PySem.W PySem.Calls PyProof.Rows PySem.Spec LCg
set_option maxRecDepth 100000
set_option linter.unusedVariables false
namespace Mine
section
variable {prog : Program} {w : World} {A : Around} {E : Value → Shared → Prop} {s : Shared} {h₀ : Heap} {L : Addr} {m : Str → Option Value} {env : Env}

theorem ints_get {vs : List Value} {ns : List Int} (h : IntsAre vs ns) : ∀ (i : Nat) {v : Value}, vs[i]? = some v → ∃ k t, ns[i]? = some k ∧ v = .int k t := by
  induction h with
  | nil => intro i v e; simp at e
  | cons a t r ih =>
    intro i v e
    cases i with
    | zero => exact ⟨_, _, rfl, (by simpa using e.symm)⟩
    | succ i => exact ih i (by simpa using e)

theorem compLocal {scope : Scope} {cl : List (Str × Addr)} {C : Addr} {x : Str} (hkind : scope.kind = .function) (hx : scope.names.lookup x = some .local) {m₂ : Str → Option Value} {v : Value} {pos : Pos} {Q : Value → Shared → Prop}
    (hn : s.heap.Ns C m₂) (hv : m₂ x = some v) (h : Q v s) (hd : (x == ("__debug__" : Str)) = false) : wpAny (model prog w) A (eval (.Name x pos) (compEnvC scope cl C env)) Q E s :=
  wpAny_Name (wpAny_loadName_local (by simp [compEnvC, relabel, hkind]) (lookup_relabel_local hx) hn hv h) hd

theorem zip_src {a b : Str} {pa pb tp p1 p2 p3 p4 p5 : Pos} {kk : Nat} {scope : Scope} {cl : List (Str × Addr)} {l1 l2 : Addr} {a1 a2 : Nat} {vs : List Value} {tl : List Int} {bl : List Bool} {news : List (Addr × Obj)} {Q : Value → Shared → Prop}
    (hh : A.handled = none) (F : Fr h₀ L s.heap m) (N : News h₀ L s.heap news) (m1 : (l1, listOf vs.toArray a1) ∈ news) (m2 : (l2, listOf (bl.map Value.bool).toArray a2) ∈ news) (hi : IntsAre vs tl) (hlen : bl.length = tl.length) (hsz : tl.length ≤ 100)
    (hkind : scope.kind = .function) (hxa : scope.names.lookup a = some .local) (hxb : scope.names.lookup b = some .local) (hab : ¬ a = b) (hda : (a == ("__debug__" : Str)) = false) (hdb : (b == ("__debug__" : Str)) = false)
    (h : ∀ D h tk ys, IntsAre ys (List.zipWith (fun (n : Int) (b : Bool) => if b then -n else n) tl bl) → Fr h₀ L h m → News h₀ L h ((D, lst ys) :: news) → Off1 D news → Q (.ref D) { s with heap := h, toks := tk }) :
    wpAny (model prog w) A (call (.type "zip") [.ref l1, .ref l2]) (fun xv s₁ => wpAny (model prog w) A (pyIter xv)
      (GSrc prog w A h₀ L m env (.Tuple [.Name a pa, .Name b pb] kk tp) (.IfExp (.Name b p1) (.UnaryOp .USub (.Name a p2) p3) (.Name a p4) p5) scope cl Q) E s₁) E s := by
  have hax1 := N _ m1
  have hax2 := N _ m2
  have hl1 : s.heap.IsList l1 vs.toArray := ⟨_, hax1.1, rfl, _, rfl⟩
  have hl2 : s.heap.IsList l2 (bl.map Value.bool).toArray := ⟨_, hax2.1, rfl, _, rfl⟩
  have hlt1 : l1 < s.heap.objs.size := Heap.lt_size hax1.1
  have hlt2 : l2 < s.heap.objs.size := Heap.lt_size hax2.1
  have hLs : L < s.heap.objs.size := F.ns.lt
  have D : ZipApart (s.heap.objs.size + 4) (s.heap.objs.size + 2) (s.heap.objs.size + 3) s.heap.objs.size (s.heap.objs.size + 1) l1 l2 := ktu_apart _ _ _ hlt1 hlt2
  have hvl : vs.length = tl.length := hi.length
  have hmin : min vs.toArray.size (bl.map Value.bool).toArray.size = tl.length := by simp only [List.size_toArray, List.length_map]; omega
  refine call_zip_2 hl1 hl2 fun h' hz hTI hTO hi1 hi2 hsz' hk => ?_
  refine wpAny_pyIter_zip hz ?_
  try dsimp only
  have W := (WalksT.zip2 (prog := prog) (w := w) (A := A) hh _ _ _ _ _ _ _ D vs.toArray (bl.map Value.bool).toArray).toU
  refine ⟨_, _, _, _, _, _, _, news, fun i m₂ => ∃ n t bb, tl[i]? = some n ∧ bl[i]? = some bb ∧ m₂ a = some (.int n t) ∧ m₂ b = some (.bool bb),
    fun i ys ow => ow = [] ∧ IntsAre ys ((List.zipWith (fun (n : Int) (b : Bool) => if b then -n else n) tl bl).take i), rfl, KTurns.ofWalksU W, fun s Q E st q => W.self 0 s Q E st q, ?_, ?_, ?_, F.keeps hk, N.grown hk, ?_, ?_, ?_, ⟨rfl, .nil⟩, ?_, ?_, ?_⟩
  · rw [hmin]; have : (1000 : Nat) ≤ sizeLine := by decide
    omega
  · exact ⟨hz, hTI, ⟨_, _, hTO⟩, hi1, hi2, hl1.at fun o e => hk l1 o e, hl2.at fun o e => hk l2 o e⟩
  · intro b hb
    have hb' : b = s.heap.objs.size + 4 ∨ b = s.heap.objs.size + 2 ∨ b = s.heap.objs.size + 3 ∨ b = s.heap.objs.size ∨ b = s.heap.objs.size + 1 ∨ b = l1 ∨ b = l2 := by simpa using hb
    show b < h'.objs.size
    have hq : h'.objs.size = s.heap.objs.size + 5 := hsz'
    have g1 : (l1 : Nat) < s.heap.objs.size := hlt1
    have g2 : (l2 : Nat) < s.heap.objs.size := hlt2
    rw [hq]
    generalize s.heap.objs.size = z at *
    have w1 : ∀ (x y : Addr), x = y → (x : Nat) = (y : Nat) := fun _ _ e => e
    rcases hb' with e | e | e | e | e | e | e <;> (rw [e]; first | exact Nat.add_lt_add_left (by decide) _ | exact Nat.lt_add_of_pos_right (by decide) | exact Nat.lt_add_right _ g1 | exact Nat.lt_add_right _ g2)
  · intro hI'
    have hb' : L = s.heap.objs.size + 4 ∨ L = s.heap.objs.size + 3 ∨ L = s.heap.objs.size ∨ L = s.heap.objs.size + 1 := by simpa using hI'
    rcases hb' with e | e | e | e
    · exact ktu_ne 4 hLs e
    · exact ktu_ne 3 hLs e
    · exact Nat.ne_of_lt hLs e
    · exact ktu_ne 1 hLs e
  · intro b hb
    have hb' : b = s.heap.objs.size + 4 ∨ b = s.heap.objs.size + 3 ∨ b = s.heap.objs.size ∨ b = s.heap.objs.size + 1 := by simpa using hb
    rcases hb' with rfl | rfl | rfl | rfl
    · exact ktu_new F (Nat.le_add_right _ _)
    · exact ktu_new F (Nat.le_add_right _ _)
    · exact ktu_new F (Nat.le_refl _)
    · exact ktu_new F (Nat.le_add_right _ _)
  · intro p hp hI'
    have hb' : p.1 = s.heap.objs.size + 4 ∨ p.1 = s.heap.objs.size + 3 ∨ p.1 = s.heap.objs.size ∨ p.1 = s.heap.objs.size + 1 := by simpa using hI'
    have hlp := Heap.lt_size (N p hp).1
    rcases hb' with e | e | e | e
    · exact ktu_ne 4 hlp e
    · exact ktu_ne 3 hlp e
    · exact Nat.ne_of_lt hlp e
    · exact ktu_ne 1 hlp e
  · rintro C i v m₁ s Q E hlt ⟨T, vals, rfl, ⟨x, y, hx, hy, rfl⟩, hT⟩ hn k
    rw [hmin] at hlt
    obtain ⟨n, t, hn1, rfl⟩ := ints_get hi i (by simpa using hx)
    have hy' : (bl.map Value.bool)[i]? = some y := by simpa using hy
    rw [List.getElem?_map] at hy'
    obtain ⟨bb, hb1, rfl⟩ := Option.map_eq_some_iff.mp hy'
    refine kcp_assign (env := compEnvC scope cl C env) hh hT (lookup_relabel_local hxa) (lookup_relabel_local hxb) (by simp [compEnvC, relabel, hkind]) hn fun h₄ tk₄ hn₄ hs₄ => ?_
    exact k h₄ tk₄ _ hn₄ ⟨n, t, bb, hn1, hb1, by simp [hab], by simp⟩ hs₄
  · rintro C i ys ow m₂ s Q E hlt ⟨rfl, hY⟩ hn ⟨n, t, bb, hn1, hb1, e1, e2⟩ F N k
    refine wpAny_IfExp (wpAny_isTrue_value (compLocal hkind hxb hn e2 (wpAny_truthy_bool ?_) hdb))
    have step : ∀ r : Int, r = (if bb then -n else n) → ∀ t, IntsAre (ys ++ [.int r t]) ((List.zipWith (fun (n : Int) (b : Bool) => if b then -n else n) tl bl).take (i + 1)) := by
      rintro r rfl t
      have e : (List.zipWith (fun (n : Int) (b : Bool) => if b then -n else n) tl bl)[i]? = some (if bb then -n else n) := by
        rw [List.getElem?_zipWith, hn1, hb1]
      rw [List.take_add_one, e]
      exact IntsAre.append hY (.cons _ _ .nil)
    cases bb with
    | true =>
      simp only [if_true]
      refine wpAny_UnaryOp (compLocal hkind hxa hn e1 (neg_int ?_) hda)
      exact k _ _ _ [] (fun _ _ e => e) (fun p hp => nomatch hp) ⟨rfl, step _ rfl _⟩
    | false =>
      simp only [Bool.false_eq_true, if_false]
      refine compLocal hkind hxa hn e1 ?_ hda
      exact k _ _ _ [] (fun _ _ e => e) (fun p hp => nomatch hp) ⟨rfl, step _ rfl _⟩
  · rintro D hx tk ys ow F N o ⟨rfl, hY⟩
    rw [hmin] at hY
    have e : (List.zipWith (fun (n : Int) (b : Bool) => if b then -n else n) tl bl).take tl.length = List.zipWith (fun (n : Int) (b : Bool) => if b then -n else n) tl bl := by
      apply List.take_of_length_le; rw [List.length_zipWith]; omega
    rw [e] at hY
    exact h _ _ _ _ hY F N o

noncomputable abbrev tupO (a b c : Value) : Obj := ⟨.type "tuple", none, .seq #[a, b, c] 0, #[]⟩
theorem spliced3 {e₁ e₂ e₃ : PySem.Expr} {pos : Pos} {env : Env} {Q : List Value → Shared → Prop}
    (h : wpAny (model prog w) A (eval e₁ env) (fun v₁ s₁ => wpAny (model prog w) A (eval e₂ env) (fun v₂ s₂ => wpAny (model prog w) A (eval e₃ env) (fun v₃ s₃ => Q [v₁, v₂, v₃] s₃) E s₂) E s₁) E s)
    (he1 : starEach [e₁, e₂, e₃] env = (false, eval e₁ env) :: starEach [e₂, e₃] env) (he2 : starEach [e₂, e₃] env = (false, eval e₂ env) :: starEach [e₃] env) (he3 : starEach [e₃] env = (false, eval e₃ env) :: starEach [] env) :
    wpAny (model prog w) A (spliced (backTo pos (starEach [e₁, e₂, e₃] env))) Q E s :=
  spliced_more (wpAny_mono h (fun v₁ s₁ h₁ => spliced_more (wpAny_mono h₁ (fun v₂ s₂ h₂ => spliced_more (wpAny_mono h₂ (fun v₃ s₃ h₃ => spliced_none h₃) fun _ _ e => e) he3) fun _ _ e => e) he2) fun _ _ e => e) he1

theorem mates_src {a b c : Str} {pa pb pc tp p1 p2 p3 p4 : Pos} {kk k2 : Nat} {scope : Scope} {cl : List (Str × Addr)} {l1 T0 T1 T2 T3 : Addr} {a1 : Nat} {x y z : Nat → Value} {news : List (Addr × Obj)} {Q : Value → Shared → Prop}
    (hh : A.handled = none) (F : Fr h₀ L s.heap m) (N : News h₀ L s.heap news) (m1 : (l1, listOf #[.ref T0, .ref T1, .ref T2, .ref T3] a1) ∈ news)
    (t0 : (T0, tupO (x 0) (y 0) (z 0)) ∈ news) (t1 : (T1, tupO (x 1) (y 1) (z 1)) ∈ news) (t2 : (T2, tupO (x 2) (y 2) (z 2)) ∈ news) (t3 : (T3, tupO (x 3) (y 3) (z 3)) ∈ news)
    (hkind : scope.kind = .function) (hxa : scope.names.lookup a = some .local) (hxb : scope.names.lookup b = some .local) (hxc : scope.names.lookup c = some .local) (hab : ¬ a = b) (hac : ¬ a = c) (hbc : ¬ b = c)
    (hda : (a == ("__debug__" : Str)) = false) (hdb : (b == ("__debug__" : Str)) = false) (hdc : (c == ("__debug__" : Str)) = false)
    (h : ∀ D h tk M0 M1 M2 M3 n, Fr h₀ L h m → News h₀ L h ((D, listOf #[.ref M0, .ref M1, .ref M2, .ref M3] n) :: (M0, tupO (x 0) (z 0) (y 0)) :: (M1, tupO (x 1) (z 1) (y 1)) :: (M2, tupO (x 2) (z 2) (y 2)) :: (M3, tupO (x 3) (z 3) (y 3)) :: news) → Q (.ref D) { s with heap := h, toks := tk }) :
    wpAny (model prog w) A (pyIter (.ref l1))
      (GSrc prog w A h₀ L m env (.Tuple [.Name a pa, .Name b pb, .Name c pc] kk tp) (.Tuple [.Name a p1, .Name c p2, .Name b p3] k2 p4) scope cl Q) E s := by
  have hax1 := N _ m1
  have hl1 : s.heap.IsList l1 #[.ref T0, .ref T1, .ref T2, .ref T3] := ⟨_, hax1.1, rfl, _, rfl⟩
  have hlt1 : l1 < s.heap.objs.size := Heap.lt_size hax1.1
  have hLs : L < s.heap.objs.size := F.ns.lt
  let Ts : Nat → Addr := fun j => [T0, T1, T2, T3].getD j 0
  let vals : Nat → Array Value := fun j => #[x j, y j, z j]
  have tup : ∀ k, k < 4 → (Ts k, tupO (x k) (y k) (z k)) ∈ news := by
    intro k hk
    match k, hk with
    | 0, _ => exact t0
    | 1, _ => exact t1
    | 2, _ => exact t2
    | 3, _ => exact t3
  refine wpAny_pyIter_list hl1 ?_
  have up : ∀ b o, s.heap.get? b = some o → (s.heap.push { cls := .type "list_iterator", data := .fields #[.ref l1, .int 0 0] }).get? b = some o := fun b o e => Heap.get?_push_of_some _ e
  have W := WalksU.listOfTuples (prog := prog) (w := w) (A := A) hh s.heap.objs.size l1 (Nat.ne_of_lt hlt1) #[.ref T0, .ref T1, .ref T2, .ref T3] Ts vals
    (by intro j hj; match j, hj with
        | 0, _ => rfl
        | 1, _ => rfl
        | 2, _ => rfl
        | 3, _ => rfl)
    (fun j hj => Nat.ne_of_lt (Heap.lt_size (N _ (tup j hj)).1))
  refine ⟨_, _, _, _, _, _, _, news, fun i m₂ => m₂ a = some (x i) ∧ m₂ b = some (y i) ∧ m₂ c = some (z i),
    fun i ys ow => ∃ Ms : List Addr, Ms.length = i ∧ ys = Ms.map Value.ref ∧ ∀ j M, Ms[j]? = some M → (M, tupO (x j) (z j) (y j)) ∈ ow, rfl, KTurns.ofWalksU W, fun s Q E st q => W.self 0 s Q E st q, ?_, ?_, ?_, F.keeps up, N.grown up, ?_, ?_, ?_, ⟨[], rfl, rfl, fun j M e => by simp at e⟩, ?_, ?_, ?_⟩
  · show (4 : Nat) ≤ sizeLine; decide
  · exact ⟨⟨_, Heap.get?_push_size _ rfl, rfl, rfl⟩, hl1.at fun o e => up l1 o e, fun k hk => ⟨_, up _ _ (N _ (tup k hk)).1, rfl, _, rfl⟩⟩
  · intro b hb
    show b < (s.heap.push _).objs.size
    rw [Heap.size_push]
    rcases List.mem_cons.mp hb with rfl | hb
    · exact Nat.lt_succ_self _
    · rcases List.mem_cons.mp hb with rfl | hb
      · exact Nat.lt_succ_of_lt hlt1
      · obtain ⟨k, hk, rfl⟩ := List.mem_map.mp hb
        exact Nat.lt_succ_of_lt (Heap.lt_size (N _ (tup k (List.mem_range.mp hk))).1)
  · exact fun q => absurd hLs ((List.mem_singleton.mp q) ▸ Nat.lt_irrefl _)
  · intro b hb
    rw [List.mem_singleton.mp hb]
    exact next_is_new F
  · intro p hp hI
    exact absurd (Heap.lt_size (N p hp).1) ((List.mem_singleton.mp hI) ▸ Nat.lt_irrefl _)
  · rintro C i v m₁ s Q E hlt ⟨T, vals', rfl, rfl, hT⟩ hn k
    have hp : ((compEnvC scope cl C env).scope.kind == .class || ((compEnvC scope cl C env).scope.kind == .module && (compEnvC scope cl C env).locals != (compEnvC scope cl C env).globals)) = false := by simp [compEnvC, relabel, hkind]
    refine wpAny_assign_Tuple hh hT rfl rfl fun h₁ he₁ => ?_
    have hL : C ≠ s.heap.objs.size := Nat.ne_of_lt hn.lt
    have hn₁ : h₁.Ns C m₁ := hn.at' fun o e => he₁ _ o hL e
    have up₁ : ∀ c o, s.heap.get? c = some o → h₁.get? c = some o := fun c o e => he₁ c o (Nat.ne_of_lt (Heap.lt_size e)) e
    show wpAny _ _ (assignInOrder [assign (.Name a pa) (compEnvC scope cl C env), assign (.Name b pb) (compEnvC scope cl C env), assign (.Name c pc) (compEnvC scope cl C env)] [x i, y i, z i]) _ _ _
    refine assignInOrder_cons ?_
    refine wpAny_assign_Name (wpAny_storeName_local (lookup_relabel_local hxa) hn₁ (fun h₂ hn₂ hs₂ => ?_) hp)
    refine assignInOrder_cons ?_
    refine wpAny_assign_Name (wpAny_storeName_local (lookup_relabel_local hxb) hn₂ (fun h₃ hn₃ hs₃ => ?_) hp)
    refine assignInOrder_cons ?_
    refine wpAny_assign_Name (wpAny_storeName_local (lookup_relabel_local hxc) hn₃ (fun h₄ hn₄ hs₄ => ?_) hp)
    refine assignInOrder_nil ?_
    exact k h₄ _ _ hn₄ ⟨by simp [hab, hac], by simp [hbc], by simp⟩ fun c o hc e => hs₄.extBut c o hc (hs₃.extBut c o hc (hs₂.extBut c o hc (up₁ c o e)))
  · rintro C i ys ow m₂ s Q E hlt ⟨Ms, hlen, rfl, hM⟩ hn ⟨e1, e2, e3⟩ F N k
    refine wpAny_Tuple (spliced3 (compLocal hkind hxa hn e1 (compLocal hkind hxc hn e3 (compLocal hkind hxb hn e2 ?_ hdb) hdc) hda) rfl rfl rfl)
    refine ⟨(by show (3 : Nat) ≤ sizeLine; decide), ?_⟩
    refine k _ _ _ [(s.heap.objs.size, tupO (x i) (z i) (y i))] (fun c o e => Heap.get?_push_of_some _ e) (fun p hp => ?_) ⟨Ms ++ [s.heap.objs.size], by simp [hlen], by simp, fun j M e => ?_⟩
    · rw [List.mem_singleton.mp hp]
      exact ⟨Heap.get?_push_size _ rfl, Nat.le_refl _⟩
    · by_cases hj : j < Ms.length
      · rw [List.getElem?_append_left hj] at e
        exact List.mem_append_right _ (hM j M e)
      · rw [List.getElem?_append_right (Nat.not_lt.mp hj)] at e
        have hj0 : j - Ms.length = 0 := by
          cases q : j - Ms.length with
          | zero => rfl
          | succ q' => rw [q] at e; simp at e
        rw [hj0] at e
        have e' : s.heap.objs.size = M := by simpa using e
        have hji : j = i := by omega
        subst e' hji
        exact List.mem_append_left _ (List.mem_singleton.mpr rfl)
  · rintro D hx tk ys ow F N o ⟨Ms, hlen, rfl, hM⟩
    match Ms, hlen with
    | [M0, M1, M2, M3], _ =>
      refine h D hx tk M0 M1 M2 M3 4 F (fun p hp => ?_)
      rcases List.mem_cons.mp hp with rfl | hp
      · exact N _ (List.mem_cons_self ..)
      · refine N p (List.mem_cons_of_mem _ ?_)
        rcases List.mem_cons.mp hp with rfl | hp
        · exact List.mem_append_left _ (hM 0 M0 rfl)
        rcases List.mem_cons.mp hp with rfl | hp
        · exact List.mem_append_left _ (hM 1 M1 rfl)
        rcases List.mem_cons.mp hp with rfl | hp
        · exact List.mem_append_left _ (hM 2 M2 rfl)
        rcases List.mem_cons.mp hp with rfl | hp
        · exact List.mem_append_left _ (hM 3 M3 rfl)
        exact List.mem_append_right _ hp
end
end Mine
end
section
open PySem PySem.W PySem.Calls PyProof.Rows PySem.Spec
set_option maxRecDepth 100000
set_option linter.unusedVariables false
set_option pp.deepTerms false
set_option pp.deepTerms.threshold 3
namespace Mine
theorem filled : PySem.Challenge.rw_tp0034_01 = PySem.Challenge.rw_tp0034_01 ∧ K = K := by k_fill; exact ⟨rfl, rfl⟩

/-- the dict's pairs as data -/
noncomputable def b3p : List (PyData × PyData) := D4.map fun p => (.int p.1, .str p.2)
theorem flat_of {l : List (Int × Value)} {D : List (Int × Str)} (h : Match l D) : PyProof.V.FlatPairs PyData.int l (D.map fun p => (PyData.int p.1, PyData.str p.2)) := by
  induction h with
  | nil => exact .nil
  | cons _ ih => exact .cons (PyProof.V.Flat.str _ _) ih
theorem tab_of {w : World} {h : Heap} (T : TopFacts w h) : IntTab pw w h 33 b3p :=
  let ⟨kvs, m, d⟩ := b3_of T
  ⟨rfl, kvs, d, flat_of m⟩
theorem b3p_str {c : Int} {d : PyData} (h : lookup (.int c) b3p = some d) : ∃ r, d = .str r := by
  unfold b3p at h
  generalize D4 = D at h
  induction D with
  | nil => cases h
  | cons p r ih =>
    rw [List.map_cons] at h
    unfold PySem.Spec.lookup at h
    split at h
    · cases h; exact ⟨_, rfl⟩
    · exact ih h
noncomputable def inC9 (c : Nat) : Bool := (firstMet (fun i => c9ints.getD i 0) c9ints.length).any (· == (c : Int))
noncomputable def inB1 (c : Nat) : Bool := (firstMet (fun i => b1ints.getD i 0) b1ints.length).any (· == (c : Int))
section
variable {w : World} {A A₀ : Around} {base h₀ : Heap} {outer : List Env} {env : Env} {L : Addr} {m mg mb : Str → Option Value} {news : List (Addr × Obj)} {mean : ExcName → Option Value} {loose : List Str} {s : Shared}
  {Q : Value → Shared → Prop} {E : Value → Shared → Prop}
set_option maxHeartbeats 1000000 in
theorem c11_call {x : Str} {t : Tok} (B : Below A₀ base outer h₀) (F : Fr h₀ L s.heap m) (X₀ : (K w.params).In h₀) (Y₀ : TopFacts w h₀) (N : News h₀ L s.heap news) (T : Top qv loose mean mg mb h₀)
    (hA : A.frames = some (env :: outer)) (hf : env.frame = some L) (hke : env.scope.kind = .function) (hroom : A.depth + 1 < recursionLimit) 
    (h : ∀ h' tk, Fr h₀ L h' m → News h₀ L h' news → Q (.bool (x == " ")) { s with heap := h', toks := tk }) : wpAny (model pw w) A (call (.ref 85) [.str x t]) Q E s := by
  w_on
  refine wpAny_call ?_
  refine code_def B F X₀ N T hA hf hke (by k_is) (by k_is) (by omega) (BindsTo.of_eq rfl) (locs rfl) ?_ rfl rfl rfl (by decide)
  intro g' L' h' FG' F' N' B' X' T'
  have Y' : TopFacts w h' := Y₀.keeps fun b o e => F'.keep b o (FG'.keep b o e)
  try dsimp only
  k_steps
  exact h _ _ (by assumption) (by assumption)
set_option maxHeartbeats 1000000 in
theorem c9_call {c : Nat} {t : Tok} (B : Below A₀ base outer h₀) (F : Fr h₀ L s.heap m) (X₀ : (K w.params).In h₀) (Y₀ : TopFacts w h₀) (N : News h₀ L s.heap news) (T : Top qv loose mean mg mb h₀)
    (hA : A.frames = some (env :: outer)) (hf : env.frame = some L) (hke : env.scope.kind = .function) (hroom : A.depth + 1 < recursionLimit) 
    (h : ∀ h' tk, Fr h₀ L h' m → News h₀ L h' news → Q (.bool (inC9 c)) { s with heap := h', toks := tk }) : wpAny (model pw w) A (call (.ref 103) [.str ⟨#[c]⟩ t]) Q E s := by
  w_on
  refine wpAny_call ?_
  refine code_def B F X₀ N T hA hf hke (by k_is) (by k_is) (by omega) (BindsTo.of_eq rfl) (locs rfl) ?_ rfl rfl rfl (by decide)
  intro g' L' h' FG' F' N' B' X' T'
  have Y' : TopFacts w h' := Y₀.keeps fun b o e => F'.keep b o (FG'.keep b o e)
  try dsimp only
  k_steps
  refine wpAny_inSet_of (intKind_is pw w c _) rfl (c9_of Y') ?_
  k_steps
  exact h _ _ (by assumption) (by assumption)
set_option maxHeartbeats 1000000 in
theorem b1_call {c : Nat} {t : Tok} (B : Below A₀ base outer h₀) (F : Fr h₀ L s.heap m) (X₀ : (K w.params).In h₀) (Y₀ : TopFacts w h₀) (N : News h₀ L s.heap news) (T : Top qv loose mean mg mb h₀)
    (hA : A.frames = some (env :: outer)) (hf : env.frame = some L) (hke : env.scope.kind = .function) (hroom : A.depth + 1 < recursionLimit) 
    (h : ∀ h' tk, Fr h₀ L h' m → News h₀ L h' news → Q (.bool (inB1 c)) { s with heap := h', toks := tk }) : wpAny (model pw w) A (call (.ref 32) [.str ⟨#[c]⟩ t]) Q E s := by
  w_on
  refine wpAny_call ?_
  refine code_def B F X₀ N T hA hf hke (by k_is) (by k_is) (by omega) (BindsTo.of_eq rfl) (locs rfl) ?_ rfl rfl rfl (by decide)
  intro g' L' h' FG' F' N' B' X' T'
  have Y' : TopFacts w h' := Y₀.keeps fun b o e => F'.keep b o (FG'.keep b o e)
  try dsimp only
  k_steps
  refine wpAny_inSet_of (intKind_is pw w c _) rfl (b1_of Y') ?_
  k_steps
  exact h _ _ (by assumption) (by assumption)
set_option maxHeartbeats 1000000 in
theorem b3_call {c : Nat} {t : Tok} (B : Below A₀ base outer h₀) (F : Fr h₀ L s.heap m) (X₀ : (K w.params).In h₀) (Y₀ : TopFacts w h₀) (N : News h₀ L s.heap news) (T : Top qv loose mean mg mb h₀)
    (hA : A.frames = some (env :: outer)) (hf : env.frame = some L) (hke : env.scope.kind = .function) (hroom : A.depth + 1 < recursionLimit) (hl : PySem.Builtin.Str.tooLong (Txt.lower ⟨#[c]⟩).length = false)
    (h : ∀ h' tk, Fr h₀ L h' m → News h₀ L h' news → ∀ tk', Q (.str (match lookup (.int c) b3p with | some (.str r) => r | _ => Txt.lower ⟨#[c]⟩) tk') { s with heap := h', toks := tk }) : wpAny (model pw w) A (call (.ref 78) [.str ⟨#[c]⟩ t]) Q E s := by
  w_on
  refine wpAny_call ?_
  refine code_def B F X₀ N T hA hf hke (by k_is) (by k_is) (by omega) (BindsTo.of_eq rfl) (locs rfl) ?_ rfl rfl rfl (by decide)
  intro g' L' h' FG' F' N' B' X' T'
  have Y' : TopFacts w h' := Y₀.keeps fun b o e => F'.keep b o (FG'.keep b o e)
  try dsimp only
  have dT := tab_of Y'
  k_steps
  rename_i v hv h2 F2 N2
  cases hlk : lookup (.int c) b3p with
  | none =>
    rw [hlk] at hv h
    obtain rfl := PyProof.V.Flat.none_inv hv
    k_steps
    refine call_gives PySem.F.slot_str_lower (typeIs_str _ _ _) PySem.F.entry_str_lower (PySem.F.args_str_lower_1 _) (gives_str_lower ⟨#[c]⟩ t hl) ⟨fit_le hl, ?_⟩
    k_steps
    exact h _ _ (by assumption) (by assumption) _
  | some d =>
    obtain ⟨r, rfl⟩ := b3p_str hlk
    rw [hlk] at hv h
    obtain ⟨t2, rfl⟩ := PyProof.V.Flat.str_inv hv
    k_steps
    exact h _ _ (by assumption) (by assumption) _
end
end Mine
end
section
open PySem PySem.W PySem.Calls PyProof.Rows PySem.Spec
set_option maxRecDepth 100000
set_option linter.unusedVariables false
set_option pp.deepTerms false
set_option pp.deepTerms.threshold 6
namespace Mine
section
variable {prog : Program} {w : World} {A : Around} {E : Value → Shared → Prop} {s : Shared}
set_option maxHeartbeats 1000000 in
theorem bytes_slice_one {bs : Array UInt8} {x : UInt8} {t ui uj : Tok} {a : Addr} {i j : Int} {Q : Value → Shared → Prop} (hj : j = 1 + i ∨ j = i + 1) (h0 : 0 ≤ i) (h1 : i < bs.size) (hx : bs[i.toNat]? = some x) (h2 : 1 < bs.size) (h3 : bs.size < 1000)
    (hs : s.heap.get? a = some ⟨.type "slice", none, .fields #[.int i ui, .int j uj, .none], #[]⟩)
    (h : ∀ t' tk, Q (.bytes #[x] t') { s with toks := tk }) : wpAny (model prog w) A (getItem (.bytes bs t) (.ref a)) Q E s := by
  refine getItem_meets (S := fun _ R s' => s' = s ∧ ∀ t' tk, R (.ok (.ret (.bytes #[x] t'))) { s with toks := tk }) (typeIs_bytes s _ t) (by decide) FB.slot_bytes_getitem FB.entry_bytes_getitem (FB.args_bytes_getitem_2 _ _) ?_ ⟨rfl, fun t' tk => h t' tk⟩
  intro prog w A R s1 hR
  obtain ⟨e1, hR⟩ := hR
  subst e1
  have hT : s1.TypeIs (.ref a) "slice" := ⟨_, hs, rfl⟩
  obtain ⟨hp, g, d, k, o⟩ := s1
  have f1 : typeLookup (.type "slice") "__index__" = pure none := by rw [typeLookup_type, builtinLookup_eq_fast]; kernel_rfl
  have f2 : typeLookup (.type "int") "__index__" = pure (some (.builtin "int.__index__")) := by rw [typeLookup_type, builtinLookup_eq_fast]; kernel_rfl
  have hs' : hp.get? a = some ⟨.type "slice", none, .fields #[.int i ui, .int j uj, .none], #[]⟩ := hs
  unfold Builtin.«bytes.__getitem__»
  with_reducible refine PySem.wpAny_bind ?_
  wp_delta
  (with_reducible apply PySem.wpAny_ite_false); focus (rfl; done)
  (with_reducible apply PySem.wpAny_ite_false); focus (rfl; done)
  with_reducible refine PySem.wpAny_pure ?_
  with_reducible refine PySem.wpAny_bind ?_
  wp_delta
  with_reducible refine PySem.wpAny_bind ?_
  wp_delta
  with_reducible refine PySem.wpAny_pure ?_
  with_reducible refine PySem.wpAny_pure ?_
  with_reducible refine PySem.wpAny_bind ?_
  wp_delta
  with_reducible refine PySem.wpAny_bind ?_
  with_reducible refine PySem.wpAny_specialOf (by assumption) (by assumption) ?_
  (with_reducible apply PySem.wpAny_ite_true); focus (rfl; done)
  with_reducible refine PySem.wpAny_pure ?_
  with_reducible refine PySem.wpAny_bind ?_
  with_reducible refine PySem.wpAny_typeOf (by assumption) ?_
  (with_reducible apply PySem.wpAny_ite_false); focus (rfl; done)
  with_reducible refine PySem.wpAny_bind ?_
  wp_delta
  with_reducible refine PySem.wpAny_bind ?_
  wp_delta
  with_reducible refine PySem.wpAny_bind ?_
  wp_delta
  with_reducible refine PySem.wpAny_bind ?_
  (with_reducible apply PySem.wpAny_load'); focus (heap_get; done)
  with_reducible refine PySem.wpAny_pure ?_
  wp_delta
  with_reducible refine PySem.wpAny_pure ?_
  with_reducible refine PySem.wpAny_bind ?_
  (with_reducible apply PySem.wpAny_ite_true); focus (rfl; done)
  with_reducible refine PySem.wpAny_pure ?_
  (with_reducible apply PySem.wpAny_ite_false); focus (rfl; done)
  with_reducible refine PySem.wpAny_bind ?_
  wp_delta
  with_reducible refine PySem.wpAny_bind ?_
  wp_delta
  with_reducible refine PySem.wpAny_bind ?_
  (with_reducible apply PySem.wpAny_load'); focus (heap_get; done)
  with_reducible refine PySem.wpAny_pure ?_
  wp_delta
  with_reducible refine PySem.wpAny_pure ?_
  with_reducible refine PySem.wpAny_bind ?_
  (with_reducible apply PySem.wpAny_ite_false); focus (rfl; done)
  with_reducible refine PySem.wpAny_bind ?_
  wp_delta
  with_reducible refine PySem.wpAny_bind ?_
  wp_delta
  with_reducible refine PySem.wpAny_pure ?_
  with_reducible refine PySem.wpAny_of_eq (by assumption) ?_
  (with_reducible apply PySem.wpAny_ite_false); focus (rfl; done)
  with_reducible refine PySem.wpAny_bind ?_
  wp_delta
  with_reducible refine PySem.wpAny_bind ?_
  wp_delta
  with_reducible refine PySem.wpAny_pure ?_
  with_reducible refine PySem.wpAny_pure ?_
  with_reducible refine PySem.wpAny_pure ?_
  with_reducible refine PySem.wpAny_bind ?_
  wp_delta
  with_reducible refine PySem.wpAny_bind ?_
  wp_delta
  with_reducible refine PySem.wpAny_bind ?_
  (with_reducible apply PySem.wpAny_load'); focus (heap_get; done)
  with_reducible refine PySem.wpAny_pure ?_
  wp_delta
  with_reducible refine PySem.wpAny_pure ?_
  with_reducible refine PySem.wpAny_bind ?_
  (with_reducible apply PySem.wpAny_ite_false); focus (rfl; done)
  with_reducible refine PySem.wpAny_bind ?_
  wp_delta
  with_reducible refine PySem.wpAny_bind ?_
  wp_delta
  with_reducible refine PySem.wpAny_pure ?_
  with_reducible refine PySem.wpAny_of_eq (by assumption) ?_
  (with_reducible apply PySem.wpAny_ite_false); focus (rfl; done)
  with_reducible refine PySem.wpAny_bind ?_
  wp_delta
  with_reducible refine PySem.wpAny_bind ?_
  wp_delta
  with_reducible refine PySem.wpAny_pure ?_
  with_reducible refine PySem.wpAny_pure ?_
  with_reducible refine PySem.wpAny_pure ?_
  with_reducible refine PySem.wpAny_pure ?_
  with_reducible refine PySem.wpAny_bind ?_
  wp_delta
  (with_reducible apply PySem.wpAny_ite_true); focus (rfl; done)
  with_reducible refine PySem.wpAny_bind ?_
  with_reducible refine PySem.wpAny_pure ?_
  (with_reducible apply PySem.wpAny_ite_false); focus (rfl; done)
  with_reducible refine PySem.wpAny_bind ?_
  (with_reducible apply PySem.wpAny_ite_false); focus (rfl; done)
  with_reducible refine PySem.wpAny_bind ?_
  wp_delta
  with_reducible refine PySem.wpAny_bind ?_
  wp_delta
  with_reducible refine PySem.wpAny_pure ?_
  with_reducible refine PySem.wpAny_pure ?_
  (with_reducible apply PySem.wpAny_ite_true); focus (rfl; done)
  with_reducible refine PySem.wpAny_pure ?_
  with_reducible refine PySem.wpAny_bind ?_
  (with_reducible apply PySem.wpAny_ite_false); focus (rfl; done)
  with_reducible refine PySem.wpAny_bind ?_
  wp_delta
  with_reducible refine PySem.wpAny_bind ?_
  wp_delta
  with_reducible refine PySem.wpAny_pure ?_
  with_reducible refine PySem.wpAny_pure ?_
  (with_reducible apply PySem.wpAny_ite_true); focus (rfl; done)
  with_reducible refine PySem.wpAny_pure ?_
  with_reducible refine PySem.wpAny_pure ?_
  wp_delta
  have hn : ¬ i < 0 := by omega
  have hnj : ¬ j < 0 := by omega
  have ej : j = i + 1 := by omega
  subst ej
  simp only [if_neg hn, if_neg hnj]
  have e1 : max 0 (min i (bs.size : Int)) = i := by omega
  have e2 : max 0 (min (i + 1) (bs.size : Int)) = i + 1 := by omega
  have e3 : Builtin.Bytes.sliced bs i (i + 1) 1 = #[x] := by
    unfold Builtin.Bytes.sliced sliceRange
    have e4 : ((i + 1 - i + 1 - 1) / 1 : Int) = 1 := by omega
    simp only [show (1 : Int) > 0 by decide, if_true, show i < i + 1 by omega, e4]
    simp [hx]
  simp only [e1, e2]
  rw [if_neg (by simp only [Bool.and_eq_true, beq_iff_eq]; rintro ⟨⟨⟨q1, q2⟩, q3⟩, q4⟩; omega)]

  rw [e3]
  with_reducible refine PySem.wpAny_bind ?_
  wp_delta
  (with_reducible apply PySem.wpAny_ite_false); focus (rfl; done)
  with_reducible refine PySem.wpAny_bind ?_
  with_reducible refine PySem.wpAny_fresh' ?_
  with_reducible refine PySem.wpAny_pure ?_
  wp_delta
  with_reducible refine PySem.wpAny_pure ?_
  exact hR _ _
theorem slice_one {value : Expr} {slice : Expr} {h₀ : Heap} {L : Addr} {m : Str → Option Value} {news : List (Addr × Obj)} {hp : Heap} {g : Array GenState} {d : Drawn} {k : Nat} {o : OsState}
    {bs : Array UInt8} {t ui uj : Tok} {i j : Int} {Q : Value → Shared → Prop} (F : Fr h₀ L hp m) (N : News h₀ L hp news)
    (hj : j = 1 + i ∨ j = i + 1) (h0 : 0 ≤ i) (h1 : i < bs.size) (h2 : 1 < bs.size) (h3 : bs.size < 1000)
    (h : ∀ h' tk t', Fr h₀ L h' m → News h₀ L h' news → Q (.bytes #[bs.getD i.toNat 0] t') ⟨h', g, d, tk, o⟩)
    (hs : subscripted slice false (.bytes bs t) (.ref hp.objs.size) = operate [.bytes bs t, .ref hp.objs.size] (getItem (.bytes bs t) (.ref hp.objs.size)) := by with_unfolding_all rfl) :
    wpAny (model prog w) A (subscriptTail value slice (.bytes bs t) (.ref hp.objs.size)) Q E ⟨hp.push ⟨.type "slice", none, .fields #[.int i ui, .int j uj, .none], #[]⟩, g, d, k, o⟩ := by
  refine tail_any (typeIs_bytes _ _ t) FB.slot_bytes_getitem.lookup (bytes_slice_one (x := bs.getD i.toNat 0) (ui := ui) (uj := uj) hj h0 h1 ?_ h2 h3 (Heap.get?_push_size _ rfl) fun t' tk => h _ tk t' (F.push _) (N.grown fun c o e => Heap.get?_push_of_some _ e)) hs
  have : i.toNat < bs.size := by omega
  simp [Array.getD, this]
end
end Mine
end
section
open PySem PySem.W PySem.Calls PyProof.Rows PySem.Spec
set_option maxRecDepth 100000
set_option linter.unusedVariables false
set_option pp.deepTerms false
set_option pp.deepTerms.threshold 3
namespace Mine
theorem filled2 : PySem.Challenge.rw_tp0034_01 = PySem.Challenge.rw_tp0034_01 ∧ K = K := by k_fill; exact ⟨rfl, rfl⟩

section
open Flt
variable {prog : Program} {w : World} {A : Around} {E : Value → Shared → Prop} {s : Shared} {h₀ : Heap} {L : Addr} {m : Str → Option Value} {news : List (Addr × Obj)}
noncomputable def ltF (x y : UInt64) : Bool := Float64.cmp x y == some .lt
noncomputable def max3 (x y z : UInt64) : UInt64 := if ltF x y then (if ltF y z then z else y) else (if ltF x z then z else x)
noncomputable def min3 (x y z : UInt64) : UInt64 := if ltF y x then (if ltF z y then z else y) else (if ltF z x then z else x)
theorem three_push {s : Shared} {a b c : Value} : (s.heap.push { cls := .type "tuple", data := .seq #[a, b, c] }).IsTuple s.heap.objs.size #[a, b, c] := ⟨_, Heap.get?_push_size _ rfl, rfl, 0, rfl⟩
theorem max_three_f {x y z : UInt64} {t u v : Tok} {Q : Value → Shared → Prop} (hh : A.handled = none) (F : Fr h₀ L s.heap m) (N : News h₀ L s.heap news)
    (h : ∀ h' tk t', Fr h₀ L h' m → News h₀ L h' news → Q (.float (max3 x y z) t') { s with heap := h', toks := tk }) :
    wpAny (model prog w) A (call (.builtin "max") [.float x t, .float y u, .float z v]) Q E s := by
  have hsz : (s.heap.push { cls := .type "tuple", data := .seq #[.float x t, .float y u, .float z v] }).objs.size = s.heap.objs.size + 1 := Heap.size_push ..
  refine call_max_three (wpAny_pyIter_tuple three_push ?_)
  refine ⟨_, [_, s.heap.objs.size], [_], _, _, _, _, rfl, Walks.tuple (A := A.in1) hh _ s.heap.objs.size (by rw [hsz]; exact Nat.ne_of_lt (Nat.lt_succ_self _)) #[.float x t, .float y u, .float z v],
    ⟨⟨_, Heap.get?_push_size _ rfl, rfl, rfl⟩, three_push.push _⟩, fun c hc => ?_, by simp, cmpOf_gt #[.float x t, .float y u, .float z v] (by simp only [List.mem_toArray, List.mem_cons, List.not_mem_nil, or_false]; rintro _ (rfl | rfl | rfl) <;> exact .float _ _), fun v' h' tk hP hk => ?_⟩
  · show c < ((s.heap.push _).push _).objs.size
    rw [Heap.size_push, hsz]
    rcases List.mem_cons.mp hc with rfl | hc
    · rw [hsz]; exact Nat.lt_succ_self _
    · rcases List.mem_cons.mp hc with rfl | hc
      · exact Nat.lt_succ_of_lt (Nat.lt_succ_self _)
      · cases hc
  · have hold : ∀ c o, s.heap.get? c = some o → h'.get? c = some o := fun c o e => by
      refine hk c o (fun hm => ?_) (Heap.get?_push_of_some _ (Heap.get?_push_of_some _ e))
      rcases List.mem_cons.mp hm with e1 | hm
      · have := Heap.lt_size e; rw [e1, hsz] at this; exact Nat.lt_irrefl _ (Nat.lt_of_succ_lt this)
      · cases hm
    have key := fun t' => h h' tk t' (F.grownK hold) (N.grown hold)
    have hv : ∃ t', v' = .float (max3 x y z) t' := by
      have e1 : ltV (.float x t) (.float y u) = ltF x y := rfl
      have e2 : ltV (.float y u) (.float z v) = ltF y z := rfl
      have e3 : ltV (.float x t) (.float z v) = ltF x z := rfl
      unfold max3
      cases h1 : ltF x y <;> cases h2 : ltF y z <;> cases h3 : ltF x z <;> simp [argBest, e1, e2, e3, h1, h2, h3] at hP <;> exact ⟨_, hP.symm⟩
    obtain ⟨t', rfl⟩ := hv
    exact key t'
theorem min_three_f {x y z : UInt64} {t u v : Tok} {Q : Value → Shared → Prop} (hh : A.handled = none) (F : Fr h₀ L s.heap m) (N : News h₀ L s.heap news)
    (h : ∀ h' tk t', Fr h₀ L h' m → News h₀ L h' news → Q (.float (min3 x y z) t') { s with heap := h', toks := tk }) :
    wpAny (model prog w) A (call (.builtin "min") [.float x t, .float y u, .float z v]) Q E s := by
  have hsz : (s.heap.push { cls := .type "tuple", data := .seq #[.float x t, .float y u, .float z v] }).objs.size = s.heap.objs.size + 1 := Heap.size_push ..
  refine call_min_three (wpAny_pyIter_tuple three_push ?_)
  refine ⟨_, [_, s.heap.objs.size], [_], _, _, _, _, rfl, Walks.tuple (A := A.in1) hh _ s.heap.objs.size (by rw [hsz]; exact Nat.ne_of_lt (Nat.lt_succ_self _)) #[.float x t, .float y u, .float z v],
    ⟨⟨_, Heap.get?_push_size _ rfl, rfl, rfl⟩, three_push.push _⟩, fun c hc => ?_, by simp, cmpOf_lt #[.float x t, .float y u, .float z v] (by simp only [List.mem_toArray, List.mem_cons, List.not_mem_nil, or_false]; rintro _ (rfl | rfl | rfl) <;> exact .float _ _), fun v' h' tk hP hk => ?_⟩
  · show c < ((s.heap.push _).push _).objs.size
    rw [Heap.size_push, hsz]
    rcases List.mem_cons.mp hc with rfl | hc
    · rw [hsz]; exact Nat.lt_succ_self _
    · rcases List.mem_cons.mp hc with rfl | hc
      · exact Nat.lt_succ_of_lt (Nat.lt_succ_self _)
      · cases hc
  · have hold : ∀ c o, s.heap.get? c = some o → h'.get? c = some o := fun c o e => by
      refine hk c o (fun hm => ?_) (Heap.get?_push_of_some _ (Heap.get?_push_of_some _ e))
      rcases List.mem_cons.mp hm with e1 | hm
      · have := Heap.lt_size e; rw [e1, hsz] at this; exact Nat.lt_irrefl _ (Nat.lt_of_succ_lt this)
      · cases hm
    have key := fun t' => h h' tk t' (F.grownK hold) (N.grown hold)
    have hv : ∃ t', v' = .float (min3 x y z) t' := by
      have e1 : ltV (.float y u) (.float x t) = ltF y x := rfl
      have e2 : ltV (.float z v) (.float y u) = ltF z y := rfl
      have e3 : ltV (.float z v) (.float x t) = ltF z x := rfl
      unfold min3
      cases h1 : ltF y x <;> cases h2 : ltF z y <;> cases h3 : ltF z x <;> simp [argBest, e1, e2, e3, h1, h2, h3] at hP <;> exact ⟨_, hP.symm⟩
    obtain ⟨t', rfl⟩ := hv
    exact key t'
end

noncomputable def six : UInt64 := 4618441417868443648
noncomputable def one : UInt64 := 4607182418800017408
/-- what hsv_to_rgb gives, at a fullness that is not nought -/
noncomputable def hsvF (a b c : UInt64) : UInt64 × UInt64 × UInt64 :=
  let i := Flt.toInt Float64.truncOf (Float64.mul a six)
  let f := Float64.sub (Float64.mul a six) (Float64.ofInt i)
  let p := Float64.mul c (Float64.sub one b)
  let q := Float64.mul c (Float64.sub one (Float64.mul b f))
  let t := Float64.mul c (Float64.sub one (Float64.mul b (Float64.sub one f)))
  if i.fmod 6 = 0 then (c, t, p) else if i.fmod 6 = 1 then (q, c, p) else if i.fmod 6 = 2 then (p, c, t) else if i.fmod 6 = 3 then (p, q, c) else if i.fmod 6 = 4 then (t, p, c) else (c, p, q)

noncomputable def two : UInt64 := 4611686018427387904
noncomputable def leHalf (x : UInt64) : Bool := Float64.cmp x 4602678819172646912 == some .lt || Float64.cmp x 4602678819172646912 == some .eq
noncomputable def hlsOk (r g b : UInt64) : Bool :=
  (Float64.cmp (min3 r g b) (max3 r g b) == some Ordering.eq) || (!Float64.isZero (Float64.sub (max3 r g b) (min3 r g b)) &&
    !Float64.isZero (if (Float64.cmp (Float64.div (Float64.add (max3 r g b) (min3 r g b)) 4611686018427387904) 4602678819172646912 == some .lt || Float64.cmp (Float64.div (Float64.add (max3 r g b) (min3 r g b)) 4611686018427387904) 4602678819172646912 == some .eq) = true
      then Float64.add (max3 r g b) (min3 r g b) else Float64.sub (Float64.sub 4611686018427387904 (max3 r g b)) (min3 r g b)))
/-- what rgb_to_hls gives -/
noncomputable def hlsF (r g b : UInt64) : UInt64 × UInt64 × UInt64 :=
  if (Float64.cmp (min3 r g b) (max3 r g b) == some Ordering.eq) = true then (0, Float64.div (Float64.add (max3 r g b) (min3 r g b)) 4611686018427387904, 0)
  else
    ((Float64.divmod (Float64.div (if (Float64.cmp r (max3 r g b) == some Ordering.eq) = true then Float64.sub (Float64.div (Float64.sub (max3 r g b) b) (Float64.sub (max3 r g b) (min3 r g b))) (Float64.div (Float64.sub (max3 r g b) g) (Float64.sub (max3 r g b) (min3 r g b)))
      else if (Float64.cmp g (max3 r g b) == some Ordering.eq) = true then Float64.sub (Float64.add 4611686018427387904 (Float64.div (Float64.sub (max3 r g b) r) (Float64.sub (max3 r g b) (min3 r g b)))) (Float64.div (Float64.sub (max3 r g b) b) (Float64.sub (max3 r g b) (min3 r g b)))
      else Float64.sub (Float64.add 4616189618054758400 (Float64.div (Float64.sub (max3 r g b) g) (Float64.sub (max3 r g b) (min3 r g b)))) (Float64.div (Float64.sub (max3 r g b) r) (Float64.sub (max3 r g b) (min3 r g b)))) 4618441417868443648) 4607182418800017408).2,
     Float64.div (Float64.add (max3 r g b) (min3 r g b)) 4611686018427387904,
     if (Float64.cmp (Float64.div (Float64.add (max3 r g b) (min3 r g b)) 4611686018427387904) 4602678819172646912 == some .lt || Float64.cmp (Float64.div (Float64.add (max3 r g b) (min3 r g b)) 4611686018427387904) 4602678819172646912 == some .eq) = true
      then Float64.div (Float64.sub (max3 r g b) (min3 r g b)) (Float64.add (max3 r g b) (min3 r g b)) else Float64.div (Float64.sub (max3 r g b) (min3 r g b)) (Float64.sub (Float64.sub 4611686018427387904 (max3 r g b)) (min3 r g b)))
section
variable {prog : Program} {w : World} {A : Around} {E : Value → Shared → Prop} {s : Shared}
end
section
variable {w : World} {A A₀ : Around} {base h₀ : Heap} {outer : List Env} {env : Env} {L : Addr} {m mg mb : Str → Option Value} {news : List (Addr × Obj)} {mean : ExcName → Option Value} {loose : List Str} {s : Shared}
  {Q : Value → Shared → Prop} {E : Value → Shared → Prop}
end
end Mine
end
section
open PySem PySem.W PySem.Calls PyProof.Rows PySem.Spec
set_option maxRecDepth 100000
set_option linter.unusedVariables false
set_option pp.deepTerms false
set_option pp.deepTerms.threshold 8
namespace Mine
theorem filled2T : PySem.Challenge.rw_tp0034_01 = PySem.Challenge.rw_tp0034_01 ∧ K = K := by k_fill; exact ⟨rfl, rfl⟩
section
variable {prog : Program} {w : World} {A : Around} {E : Value → Shared → Prop} {s : Shared} {h₀ : Heap} {L : Addr} {m : Str → Option Value} {news : List (Addr × Obj)}
theorem max_three_T {x y z : UInt64} {t u v : Tok} {Q : Value → Shared → Prop} (hh : A.handled = none) (F : Fr h₀ L s.heap m) (N : News h₀ L s.heap news)
    (h : ∀ h' tk t', s.toks ≤ tk → Fr h₀ L h' m → News h₀ L h' news → Q (.float (max3 x y z) t') { s with heap := h', toks := tk }) :
    wpAny (model prog w) A (call (.builtin "max") [.float x t, .float y u, .float z v]) Q E s :=
  wpAny_with_toks (Nat.le_refl _) (max_three_f hh F N fun h' tk t' F N ht => h h' tk t' ht F N)
theorem min_three_T {x y z : UInt64} {t u v : Tok} {Q : Value → Shared → Prop} (hh : A.handled = none) (F : Fr h₀ L s.heap m) (N : News h₀ L s.heap news)
    (h : ∀ h' tk t', s.toks ≤ tk → Fr h₀ L h' m → News h₀ L h' news → Q (.float (min3 x y z) t') { s with heap := h', toks := tk }) :
    wpAny (model prog w) A (call (.builtin "min") [.float x t, .float y u, .float z v]) Q E s :=
  wpAny_with_toks (Nat.le_refl _) (min_three_f hh F N fun h' tk t' F N ht => h h' tk t' ht F N)
theorem gen_le {α : Type} {t : Sem α} {Q : α → Shared → Prop} {heap gens drawn X os} {n : Nat} (hX : n ≤ X) (h : ∀ tk, n ≤ tk → wpAny (model prog w) A t Q E ⟨heap, gens, drawn, tk, os⟩) : wpAny (model prog w) A t Q E ⟨heap, gens, drawn, X, os⟩ := h _ hX
/-- a token that a call has made, or the one that was handed in -/
noncomputable def TokOk (lo hi : Nat) (v : Tok) (c x : UInt64) (tx : Nat) : Prop := (tx = v ∧ x = c) ∨ (lo ≤ tx ∧ tx < hi)
theorem tok_new {lo hi : Nat} {v : Tok} {c x : UInt64} {tx : Nat} (h1 : lo ≤ tx) (h2 : tx < hi) : TokOk lo hi v c x tx := Or.inr ⟨h1, h2⟩
theorem tok_old {lo hi : Nat} {v : Tok} {c : UInt64} : TokOk lo hi v c c v := Or.inl ⟨rfl, rfl⟩
end
local macro_rules | `(tactic| walk_at "call builtin:max") => `(tactic| ((with_reducible show wpAny _ _ (call _ [Value.float _ _, Value.float _ _, Value.float _ _]) _ _ _); (rename News _ _ _ _ => N'); (rename Fr _ _ _ _ => F'); refine max_three_T rfl F' N' ?_; clear F' N'; intro h' tk t' htk F' N'; try dsimp only at *))
local macro_rules | `(tactic| walk_at "call builtin:min") => `(tactic| ((with_reducible show wpAny _ _ (call _ [Value.float _ _, Value.float _ _, Value.float _ _]) _ _ _); (rename News _ _ _ _ => N'); (rename Fr _ _ _ _ => F'); refine min_three_T rfl F' N' ?_; clear F' N'; intro h' tk t' htk F' N'; try dsimp only at *))
local macro_rules | `(tactic| walk_at "execs cons") => `(tactic| ((with_reducible refine wpAny_execs_cons ?_); try dsimp only))
local macro_rules | `(tactic| walk_at "execs nil") => `(tactic| (refine wpAny_execs_nil ?_))
theorem six_no {x : Int} (h0 : x ≠ 0) (h1 : x ≠ 1) (h2 : x ≠ 2) (h3 : x ≠ 3) (h4 : x ≠ 4) (h5 : x ≠ 5) (hl : 0 ≤ x) (hu : x < 6) : False := by omega
section
variable {w : World} {A A₀ : Around} {base h₀ : Heap} {outer : List Env} {env : Env} {L : Addr} {m mg mb : Str → Option Value} {news : List (Addr × Obj)} {mean : ExcName → Option Value} {loose : List Str} {s : Shared}
  {Q : Value → Shared → Prop} {E : Value → Shared → Prop}
set_option maxHeartbeats 4000000 in
theorem hsv_callT {a b c : UInt64} {t u v : Tok} (B : Below A₀ base outer h₀) (F : Fr h₀ L s.heap m) (X₀ : (K w.params).In h₀) (Y₀ : TopFacts w h₀) (N : News h₀ L s.heap news) (T : Top qv loose mean mg mb h₀)
    (hA : A.frames = some (env :: outer)) (hf : env.frame = some L) (hke : env.scope.kind = .function) (hroom : A.depth + 1 < recursionLimit) (hh : A.handled = none) (h6 : Float64.isFinite (Float64.mul a six) = true) (hi : (Flt.toInt Float64.truncOf (Float64.mul a six)).natAbs < 2 ^ 1024 - 2 ^ 970) (hb : (Float64.cmp b 0 == some .eq) = false)
    (h : ∀ h' tk D x y z tx ty tz, hsvF a b c = (x, y, z) → s.toks ≤ tk → TokOk s.toks tk v c x tx → TokOk s.toks tk v c y ty → TokOk s.toks tk v c z tz → Fr h₀ L h' m → News h₀ L h' ((D, ⟨.type "tuple", none, .seq #[.float x tx, .float y ty, .float z tz] 0, #[]⟩) :: news) → Q (.ref D) { s with heap := h', toks := tk }) : wpAny (model pw w) A (call (.ref 117) [.float a t, .float b u, .float c v]) Q E s := by
  obtain ⟨hdl, dep, frm, gds, uni⟩ := A
  obtain rfl : hdl = none := hh
  w_on
  refine wpAny_call ?_
  refine code_def B F X₀ N T hA hf hke (by k_is) (by k_is) (Nat.lt_of_succ_lt hroom) (BindsTo.of_eq rfl) (locs rfl) ?_ rfl rfl rfl (by decide)
  intro g' L' h' FG' F' N' B' X' T'
  have Y' : TopFacts w h' := Y₀.keeps fun b o e => F'.keep b o (FG'.keep b o e)
  try dsimp only
  refine gen_le (n := s.toks) (Nat.le_add_right _ _) fun T0 hT0 => ?_
  unfold six at h6 hi
  k_steps
  all_goals first
    | exact absurd ‹_ ≤ _› (Nat.not_le.mpr hi)
    | (refine h _ _ _ _ _ _ _ _ _ ?_ ?_ ?_ ?_ ?_ (by assumption) (by assumption)
       all_goals first
         | (simp [hsvF, six, one, *]; done)
         | ((repeat (first | exact hT0 | refine Nat.le_succ_of_le ?_)); done)
         | exact tok_old
         | (refine tok_new ?_ (Nat.lt_of_lt_of_le (Nat.lt_succ_self _) ?_) <;> ((repeat (first | exact hT0 | exact Nat.le_refl _ | refine Nat.le_succ_of_le ?_)); done))
         | (refine tok_new ?_ ?_ <;> ((try dsimp only); omega)))
    | exact (six_no (x := (Flt.toInt Float64.truncOf (Float64.mul a 4618441417868443648)).fmod 6) (by assumption) (by assumption) (by assumption) (by assumption) (by assumption) (by assumption) (Int.fmod_nonneg_of_pos _ (by decide)) (Int.fmod_lt_of_pos _ (by decide))).elim
set_option maxHeartbeats 4000000 in
theorem hls_callT {a b c : UInt64} {t u v : Tok} (B : Below A₀ base outer h₀) (F : Fr h₀ L s.heap m) (X₀ : (K w.params).In h₀) (Y₀ : TopFacts w h₀) (N : News h₀ L s.heap news) (T : Top qv loose mean mg mb h₀)
    (hA : A.frames = some (env :: outer)) (hf : env.frame = some L) (hke : env.scope.kind = .function) (hroom : A.depth + 1 < recursionLimit) (hh : A.handled = none) (hk : hlsOk a b c = true)
    (h : ∀ h' tk D x y z tx ty tz, hlsF a b c = (x, y, z) → s.toks ≤ tk → (s.toks ≤ tx ∧ tx < tk) → Fr h₀ L h' m → News h₀ L h' ((D, ⟨.type "tuple", none, .seq #[.float x tx, .float y ty, .float z tz] 0, #[]⟩) :: news) → Q (.ref D) { s with heap := h', toks := tk }) : wpAny (model pw w) A (call (.ref 110) [.float a t, .float b u, .float c v]) Q E s := by
  obtain ⟨hdl, dep, frm, gds, uni⟩ := A
  obtain rfl : hdl = none := hh
  w_on
  refine wpAny_call ?_
  refine code_def B F X₀ N T hA hf hke (by k_is) (by k_is) (Nat.lt_of_succ_lt hroom) (BindsTo.of_eq rfl) (locs rfl) ?_ rfl rfl rfl (by decide)
  intro g' L' h' FG' F' N' B' X' T'
  have Y' : TopFacts w h' := Y₀.keeps fun b o e => F'.keep b o (FG'.keep b o e)
  try dsimp only
  refine gen_le (n := s.toks) (Nat.le_add_right _ _) fun T0 hT0 => ?_
  unfold hlsOk at hk
  k_steps
  all_goals first
    | (refine h _ _ _ _ _ _ _ _ _ ?_ ?_ ?_ (by assumption) (by assumption)
       · unfold hlsF; simp only [*, if_true, if_false, Bool.false_eq_true]; done
       · first
           | ((repeat (first | exact hT0 | refine Nat.le_succ_of_le ?_)); done)
           | ((try dsimp only); omega)
       · first
           | (refine ⟨?_, Nat.lt_of_lt_of_le (Nat.lt_succ_self _) ?_⟩ <;> ((repeat (first | exact hT0 | exact Nat.le_refl _ | refine Nat.le_succ_of_le ?_)); done))
           | (refine ⟨?_, ?_⟩ <;> ((try dsimp only); omega)))
    | (exfalso; simp_all; done)
end
end Mine
end
section
open PySem PySem.W PySem.Calls PyProof.Rows PySem.Spec
set_option maxRecDepth 100000
set_option linter.unusedVariables false
set_option pp.deepTerms false
set_option pp.deepTerms.threshold 6
namespace Mine
theorem filled3 : PySem.Challenge.rw_tp0034_01 = PySem.Challenge.rw_tp0034_01 ∧ K = K := by k_fill; exact ⟨rfl, rfl⟩
noncomputable def Stop (P : Prop) : Prop := P
theorem Stop.intro {P : Prop} (h : P) : Stop P := h
theorem Stop.out {P : Prop} (h : Stop P) : P := h

noncomputable def signCode (n f : Int) : Nat := (if f.fmod 8 = 0 then 97 + n else if f.fmod 8 = 1 then 65 + n else 120068 + 52 * f.fmod 8 + n).toNat
noncomputable def apF : Nat → Nat → List UInt8
  | 0, _ => []
  | f + 1, n => if n = 0 then [] else apF f (n / 16) ++ [UInt8.ofNat (65 + n % 16)]
theorem apF_enough : ∀ (f g n : Nat), n ≤ f → n ≤ g → apF f n = apF g n
  | 0, 0, _, _, _ => rfl
  | 0, g + 1, n, h, _ => by unfold apF; rw [if_pos (Nat.le_zero.mp h)]
  | f + 1, 0, n, _, h => by unfold apF; rw [if_pos (Nat.le_zero.mp h)]
  | f + 1, g + 1, n, h, h' => by
    unfold apF
    by_cases h0 : n = 0
    · rw [if_pos h0, if_pos h0]
    · have e : n / 16 < n := Nat.div_lt_self (Nat.pos_of_ne_zero h0) (by decide)
      rw [if_neg h0, if_neg h0, apF_enough f g (n / 16) (Nat.le_of_lt_succ (Nat.lt_of_lt_of_le e h)) (Nat.le_of_lt_succ (Nat.lt_of_lt_of_le e h'))]
noncomputable def apB (n : Nat) : List UInt8 := apF n n
theorem apB_zero : apB 0 = [] := rfl
theorem apB_eq (n : Nat) : apB n = if n = 0 then [] else apB (n / 16) ++ [UInt8.ofNat (65 + n % 16)] := by
  cases n with
  | zero => rfl
  | succ k => exact congrArg (fun l => if k + 1 = 0 then [] else l ++ [UInt8.ofNat (65 + (k + 1) % 16)]) (apF_enough k ((k + 1) / 16) ((k + 1) / 16) (Nat.le_of_lt_succ (Nat.div_lt_self (Nat.succ_pos k) (by decide))) (Nat.le_refl _))
theorem apB_short {n : Nat} (h : n < 256) : (apB n).length ≤ 2 := by
  by_cases h1 : n = 0
  · subst h1; rw [apB_zero]; decide
  · rw [apB_eq n, if_neg h1, List.length_append]
    by_cases h2 : n / 16 = 0
    · rw [h2, apB_zero]; simp
    · rw [apB_eq (n / 16), if_neg h2, List.length_append, show n / 16 / 16 = 0 by omega, apB_zero]
      simp
theorem four_map {a b c d : Str} {A B C : Option Value} {R : Str → Option Value} (h1 : a ≠ b) (h2 : a ≠ c) (h3 : a ≠ d) :
    (fun y => if y = b then A else if y = c then B else if y = d then C else R y) = fun y => if y = a then R a else if y = b then A else if y = c then B else if y = d then C else R y := by
  funext y
  by_cases h : y = a
  · subst h; simp [h1, h2, h3]
  · simp [h]
theorem turn_map {v md nm ap : Str} {V M N M0 N0 P V0 : Option Value} {R : Str → Option Value} (h1 : v ≠ md) (h2 : v ≠ nm) (h3 : v ≠ ap) :
    (fun y => if y = v then V else if y = md then M else if y = nm then N else if y = md then M0 else if y = nm then N0 else if y = ap then P else if y = v then V0 else R y) =
      fun y => if y = md then M else if y = nm then N else if y = ap then P else if y = v then V else R y := by
  funext y
  by_cases a : y = v
  · subst a; simp [h1, h2, h3]
  · by_cases b : y = md
    · simp [b, Ne.symm h1]
    · by_cases c : y = nm
      · simp [c, Ne.symm h2]
      · simp [a, b, c]
theorem apB_step {k : Nat} {b : List UInt8} {l : List UInt8} (h0 : k ≠ 0) (h : apB k ++ b = l) : apB (k / 16) ++ (UInt8.ofNat (65 + k % 16) :: b) = l := by
  rw [← h, apB_eq k, if_neg h0]
  simp
theorem ap_sixteen : ∀ r : Fin 16, (#[65, 66, 67, 68, 69, 70, 71, 72, 73, 74, 75, 76, 77, 78, 79, 80] : Array UInt8).getD r.val 0 = UInt8.ofNat (65 + r.val) := by decide +kernel
theorem ap_letter {k : Nat} {j : Int} (hj : j = ((k % 16 : Nat) : Int)) : (#[65, 66, 67, 68, 69, 70, 71, 72, 73, 74, 75, 76, 77, 78, 79, 80] : Array UInt8).getD j.toNat 0 = UInt8.ofNat (65 + k % 16) := by
  subst hj
  rw [Int.toNat_natCast]
  exact ap_sixteen ⟨k % 16, Nat.mod_lt _ (by decide)⟩
local macro_rules | `(tactic| walk_at "exec") => `(tactic| ((with_reducible show wpAny _ _ (exec (Stmt.While _ _ [] _) _) _ _ _); refine Stop.out (Stop.intro ?_); refine Stop.out ?_))
local macro_rules | `(tactic| walk_at "subscriptTail Name Slice bytes ref") => `(tactic| (refine Stop.out ?_))

section
variable {w : World} {A A₀ : Around} {base h₀ : Heap} {outer : List Env} {env : Env} {L : Addr} {m mg mb : Str → Option Value} {news : List (Addr × Obj)} {mean : ExcName → Option Value} {loose : List Str} {s : Shared}
  {Q : Value → Shared → Prop} {E : Value → Shared → Prop}
set_option maxHeartbeats 4000000 in
theorem sign_call {n f : Int} {t u : Tok} (B : Below A₀ base outer h₀) (F : Fr h₀ L s.heap m) (X₀ : (K w.params).In h₀) (Y₀ : TopFacts w h₀) (N : News h₀ L s.heap news) (T : Top qv loose mean mg mb h₀)
    (hA : A.frames = some (env :: outer)) (hf : env.frame = some L) (hke : env.scope.kind = .function) (hroom : A.depth + 1 < recursionLimit) (hh : A.handled = none) (h0 : 0 ≤ n) (h1 : n < 16) (hf0 : 0 ≤ f) (hf1 : f < 2 ^ 40)
    (h : ∀ h' tk t', Fr h₀ L h' m → News h₀ L h' news → Q (.str ⟨#[signCode n f]⟩ t') { s with heap := h', toks := tk }) : wpAny (model pw w) A (call (.ref 131) [.int n t, .int f u]) Q E s := by
  obtain ⟨hdl, dep, frm, gds, uni⟩ := A
  obtain rfl : hdl = none := hh
  w_on
  refine wpAny_call ?_
  refine code_def B F X₀ N T hA hf hke (by k_is) (by k_is) (Nat.lt_of_succ_lt hroom) (BindsTo.of_eq rfl) (locs rfl) ?_ rfl rfl rfl (by decide)
  intro g' L' h' FG' F' N' B' X' T'
  have Y' : TopFacts w h' := Y₀.keeps fun b o e => F'.keep b o (FG'.keep b o e)
  try dsimp only
  have hl := Int.fmod_nonneg_of_pos f (show (0:Int) < 8 by decide)
  have hu := Int.fmod_lt_of_pos f (show (0:Int) < 8 by decide)
  have key : ∀ c, signCode n f = c → ∀ h' tk t', Fr h₀ L h' m → News h₀ L h' news → Q (.str ⟨#[c]⟩ t') { s with heap := h', toks := tk } := by rintro _ rfl; exact h
  clear h
  k_steps
  all_goals (refine key _ ?_ _ _ _ (by assumption) (by assumption); unfold signCode; simp [*])
set_option maxHeartbeats 4000000 in
theorem ap_call {n : Int} {t : Tok} (B : Below A₀ base outer h₀) (F : Fr h₀ L s.heap m) (X₀ : (K w.params).In h₀) (Y₀ : TopFacts w h₀) (N : News h₀ L s.heap news) (T : Top qv loose mean mg mb h₀)
    (hA : A.frames = some (env :: outer)) (hf : env.frame = some L) (hke : env.scope.kind = .function) (hroom : A.depth + 1 < recursionLimit) (hh : A.handled = none) (hn : n.natAbs < 256)
    (h : ∀ h' tk t', Fr h₀ L h' m → News h₀ L h' news → Q (.bytes ⟨apB n.natAbs⟩ t') { s with heap := h', toks := tk }) : wpAny (model pw w) A (call (.ref 124) [.int n t]) Q E s := by
  obtain ⟨hdl, dep, frm, gds, uni⟩ := A
  obtain rfl : hdl = none := hh
  w_on
  refine wpAny_call ?_
  refine code_def B F X₀ N T hA hf hke (by k_is) (by k_is) (Nat.lt_of_succ_lt hroom) (BindsTo.of_eq rfl) (locs rfl) ?_ rfl rfl rfl (by decide)
  intro g' L' h' FG' F' N' B' X' T'
  have Y' : TopFacts w h' := Y₀.keeps fun b o e => F'.keep b o (FG'.keep b o e)
  try dsimp only
  k_steps
  rename_i h2 F2 N2
  have en : (if n < 0 then -n else n) = (n.natAbs : Int) := by split <;> omega
  rw [en] at F2
  refine Stop.out ?_
  refine While_inv (fun k m₁ news₁ => news₁ = news ∧ k ≤ n.natAbs ∧ ∃ t1 t2 t3 b md, ∃ r : Str → Option Value, m₁ = (fun y => if y = Str.ofString "mod" then md else if y = Str.ofString "num" then some (.int (k : Int) t1) else if y = Str.ofString "AP" then some (.bytes #[65, 66, 67, 68, 69, 70, 71, 72, 73, 74, 75, 76, 77, 78, 79, 80] t2) else if y = Str.ofString "val" then some (.bytes ⟨b⟩ t3) else r y) ∧ apB k ++ b = apB n.natAbs) (n₀ := n.natAbs) F2 N2 ⟨rfl, Nat.le_refl _, ?_⟩ ?_
  · exact ⟨_, _, _, [], _, _, four_map (by decide) (by decide) (by decide), List.append_nil _⟩
  rintro k m₁ news₁ h₁ tk₁ F₁ N₁ ⟨rfl, hk, t1, t2, t3, b, md, r, rfl, hb⟩
  clear F2 N2
  have hl := Int.fmod_nonneg_of_pos (k : Int) (show (0:Int) < 16 by decide)
  have hu := Int.fmod_lt_of_pos (k : Int) (show (0:Int) < 16 by decide)
  have hsz := apB_short hn
  rw [← hb, List.length_append] at hsz
  k_steps
  · refine Stop.intro ?_
    (rename News _ _ _ _ => N')
    (rename Fr _ _ _ _ => F')
    refine slice_one F' N' (by first | exact .inl rfl | exact .inr rfl) (by omega) (by simp only [List.size_toArray, List.length_cons, List.length_nil]; omega) (by decide) (by decide) ?_
    clear F' N'
    intro h' tk t' F' N'
    try dsimp only
    k_steps
    refine PySem.W.KBy.add_bytes (by simp only [List.size_toArray, List.length_cons, List.length_nil]; omega) ?_
    intro t4 tk4
    k_steps
    rename_i F3 N3
    rw [turn_map (by decide) (by decide) (by decide)] at F3
    have hk0 : k ≠ 0 := by omega
    have e1 : Int.fdiv (k : Int) 16 = ((k / 16 : Nat) : Int) := by rw [Int.fdiv_eq_ediv_of_nonneg _ (by decide)]; omega
    have e2 : Int.fmod (k : Int) 16 = ((k % 16 : Nat) : Int) := by rw [Int.fmod_eq_emod_of_nonneg _ (by decide)]; omega
    rw [e1, ap_letter e2, show (#[UInt8.ofNat (65 + k % 16)] ++ (⟨b⟩ : Array UInt8)) = ⟨UInt8.ofNat (65 + k % 16) :: b⟩ from by simp] at F3
    exact WhileStep.intro F3 (fun p hp => N3 p (List.mem_cons_of_mem _ hp)) (Nat.div_lt_self (Nat.pos_of_ne_zero hk0) (by decide)) ⟨rfl, Nat.le_trans (Nat.div_le_self _ _) hk, _, _, _, _, _, _, rfl, apB_step hk0 hb⟩
  · have hk0 : k = 0 := by omega
    subst hk0
    rw [apB_zero, List.nil_append] at hb
    subst hb
    exact h _ _ _ (by assumption) (by assumption)
end
end Mine
end
section
open PySem PySem.W PySem.Calls PyProof.Rows PySem.Spec
set_option maxRecDepth 100000
set_option linter.unusedVariables false
set_option pp.deepTerms false
set_option pp.deepTerms.threshold 9
namespace Mine
theorem filled4 : PySem.Challenge.rw_tp0034_01 = PySem.Challenge.rw_tp0034_01 ∧ K = K := by k_fill; exact ⟨rfl, rfl⟩

/-- the text of a number's octets -/
noncomputable def typedL (neg : Bool) : List UInt8 → Int → List Nat
  | [], _ => []
  | o :: r, f => (if neg then 917504 + o.toNat else signCode ((o.toNat : Int) - 65) f) :: ((if (f.fdiv 8).fmod 2 = 1 then [(65024 + f.fmod 16).toNat] else []) ++ typedL neg r (f + 3))
theorem ap_oct (k : Nat) : 65 ≤ (UInt8.ofNat (65 + k % 16)).toNat ∧ (UInt8.ofNat (65 + k % 16)).toNat ≤ 80 := by
  have h : k % 16 < 16 := Nat.mod_lt _ (by decide)
  have e : (UInt8.ofNat (65 + k % 16)).toNat = 65 + k % 16 := by
    rw [UInt8.toNat_ofNat']; omega
  omega
theorem apB_cases {n : Nat} (h : n < 256) : apB n = [] ∨ (∃ a, apB n = [a] ∧ 65 ≤ a.toNat ∧ a.toNat ≤ 80) ∨ ∃ a b, apB n = [a, b] ∧ (65 ≤ a.toNat ∧ a.toNat ≤ 80) ∧ 65 ≤ b.toNat ∧ b.toNat ≤ 80 := by
  by_cases h1 : n = 0
  · subst h1; exact .inl apB_zero
  · by_cases h2 : n / 16 = 0
    · refine .inr (.inl ⟨_, ?_, ap_oct n⟩)
      rw [apB_eq n, if_neg h1, h2, apB_zero, List.nil_append]
    · refine .inr (.inr ⟨_, _, ?_, ap_oct (n / 16), ap_oct n⟩)
      rw [apB_eq n, if_neg h1, apB_eq (n / 16), if_neg h2, show n / 16 / 16 = 0 by omega, apB_zero]
      rfl
theorem typed_len (neg : Bool) : ∀ (l : List UInt8) (f : Int), (typedL neg l f).length ≤ 2 * l.length
  | [], _ => Nat.le_refl _
  | o :: r, f => by
    have := typed_len neg r (f + 3)
    unfold typedL
    have h2 : (if (f.fdiv 8).fmod 2 = 1 then [(65024 + f.fmod 16).toNat] else []).length ≤ 1 := by split <;> simp
    simp only [List.length_cons, List.length_append]
    omega
noncomputable def tmap (oc : Option Value) (fv nv : Value) (acc : List Nat) (tx : Tok) (r : Str → Option Value) : Str → Option Value := fun y =>
  if y = Str.ofString "octet" then oc else if y = Str.ofString "form" then some fv else if y = Str.ofString "text" then some (.str ⟨acc.toArray⟩ tx) else if y = Str.ofString "number" then some nv else r y
theorem tmap_of (m : Str → Option Value) {fv nv : Value} {acc : List Nat} {tx : Tok} (h1 : m (Str.ofString "form") = some fv) (h2 : m (Str.ofString "text") = some (.str ⟨acc.toArray⟩ tx)) (h3 : m (Str.ofString "number") = some nv) :
    m = tmap (m (Str.ofString "octet")) fv nv acc tx m := by
  funext y
  unfold tmap
  by_cases a : y = Str.ofString "octet"
  · simp [a]
  · by_cases b : y = Str.ofString "form"
    · subst b; rw [if_neg a, if_pos rfl, h1]
    · by_cases c : y = Str.ofString "text"
      · subst c; rw [if_neg a, if_neg b, if_pos rfl, h2]
      · by_cases d : y = Str.ofString "number"
        · subst d; rw [if_neg a, if_neg b, if_neg c, if_pos rfl, h3]
        · rw [if_neg a, if_neg b, if_neg c, if_neg d]
theorem rest_map {prog : Program} {w : World} {A : Around} {E : Value → Shared → Prop} {h₀ : Heap} {env : Env} {x : Str} {body : List Stmt} {Q : Flow → Shared → Prop} {s : Shared} {I : Addr} {l : List Int} {m m' : Str → Option Value} {news : List (Addr × Obj)}
    (e : m = m') (h : BytesRest prog w A E h₀ env x body Q s I l m' news) : BytesRest prog w A E h₀ env x body Q s I l m news := e ▸ h
theorem all_tmap {P : (Str → Option Value) → Prop} {f : Int} {nv : Value} {acc : List Nat} {oc : Option Value} {u tx : Tok} {r : Str → Option Value} (h : ∀ oc u tx r, P (tmap oc (.int f u) nv acc tx r)) : P (tmap oc (.int f u) nv acc tx r) := h _ _ _ _
noncomputable def typedS (n f : Int) : Str := ⟨(typedL (decide (n < 0)) (apB n.natAbs) f).toArray⟩
theorem put_sign {prog : Program} {w : World} {A : Around} {E : Value → Shared → Prop} {s : Shared} {acc : List Nat} {c : Nat} {t u : Tok} {Q : Value → Shared → Prop} (hsz : acc.length ≤ 100) (h : ∀ t' k, Q (.str ⟨(acc ++ [c]).toArray⟩ t') { s with toks := k }) :
    wpAny (model prog w) A (inplaceOp .Add (.str ⟨acc.toArray⟩ t) (.str ⟨#[c]⟩ u)) Q E s := by
  have e : (⟨acc.toArray⟩ : Str) ++ (⟨#[c]⟩ : Str) = ⟨(acc ++ [c]).toArray⟩ := by
    show Str.mk (acc.toArray ++ #[c]) = _
    simp
  refine SB.iadd (fun t' k => ?_) ?_
  · rw [e]; exact h t' k
  · show acc.toArray.size + 1 ≤ sizeLine
    rw [List.size_toArray]
    have : (1000 : Nat) ≤ sizeLine := by decide
    omega
local macro_rules | `(tactic| walk_at "inplaceOp Add str str") => `(tactic| (refine put_sign ?k ?_; (case k => ((try simp only [List.length_append, List.length_cons, List.length_nil]); omega)); intro _ _; try dsimp only))
local macro_rules | `(tactic| walk_at "call ref") => `(tactic| (refine Stop.out ?_))

section
variable {w : World} {A A₀ : Around} {base h₀ : Heap} {outer : List Env} {env : Env} {L : Addr} {m mg mb : Str → Option Value} {news : List (Addr × Obj)} {mean : ExcName → Option Value} {loose : List Str} {s : Shared}
  {Q : Value → Shared → Prop} {E : Value → Shared → Prop}
set_option maxHeartbeats 4000000 in
theorem typed_call {n f : Int} {t u : Tok} (B : Below A₀ base outer h₀) (F : Fr h₀ L s.heap m) (X₀ : (K w.params).In h₀) (Y₀ : TopFacts w h₀) (N : News h₀ L s.heap news) (T : Top qv loose mean mg mb h₀)
    (hA : A.frames = some (env :: outer)) (hf : env.frame = some L) (hke : env.scope.kind = .function) (hroom : A.depth + 2 < recursionLimit) (hh : A.handled = none) (hn : n.natAbs < 256) (hf0 : 0 ≤ f) (hf1 : f < 16)
    (h : ∀ h' tk t', Fr h₀ L h' m → News h₀ L h' news → Q (.str (typedS n f) t') { s with heap := h', toks := tk }) : wpAny (model pw w) A (call (.ref 138) [.int n t, .int f u]) Q E s := by
  obtain ⟨hdl, dep, frm, gds, uni⟩ := A
  obtain rfl : hdl = none := hh
  obtain rfl : frm = some (env :: outer) := hA
  w_on
  refine wpAny_call ?_
  refine code_def B F X₀ N T rfl hf hke (by k_is) (by k_is) (show dep < recursionLimit from Nat.lt_of_le_of_lt (Nat.le_add_right _ _) hroom) (BindsTo.of_eq rfl) (locs rfl) ?_ rfl rfl rfl (by decide)
  intro g' L' h' FG' F' N' B' X' T'
  have Yg : TopFacts w g' := Y₀.keeps fun b o e => FG'.keep b o e
  clear FG' F N
  try dsimp only
  have key : ∀ x, typedS n f = x → ∀ h' tk t', Fr h₀ L h' m → News h₀ L h' news → Q (.str x t') { s with heap := h', toks := tk } := by rintro _ rfl; exact h
  clear h
  k_steps
  refine Stop.intro ?_
  (with_reducible rename Fr _ _ _ _ => kF)
  (with_reducible rename News _ _ _ _ => kN)
  refine ap_call (by assumption) kF (by assumption) (by assumption) kN (by assumption) rfl rfl rfl (by assumption) rfl (by omega) ?_
  clear kF kN
  intro h2 tk2 t2 F2 N2
  try dsimp only
  k_steps
  have hap : ∀ o ∈ apB n.natAbs, 65 ≤ o.toNat ∧ o.toNat ≤ 80 := by
    rcases apB_cases hn with e | ⟨a, e, ha⟩ | ⟨a, b, e, ha, hb⟩ <;> rw [e] <;> simp_all
  have hlen : (typedL (decide (n < 0)) (apB n.natAbs) f).length ≤ 4 := by
    have h1 := apB_short hn
    have h2 := typed_len (decide (n < 0)) (apB n.natAbs) f
    omega
  obtain ⟨l, hl0⟩ : ∃ l, l = apB n.natAbs := ⟨_, rfl⟩
  unfold typedS at key
  rw [← hl0] at hap hlen key ⊢
  have hl : l.length ≤ 2 := by rw [hl0]; exact apB_short hn
  clear hl0
  refine iter_bytesUnr (l := KBw.bInts ⟨l⟩) rfl F2 N2 rfl ?_
  intro I l1
  clear F2 N2
  rw [show KBw.bInts ⟨l⟩ = l.map fun c => ((c.toNat : Nat) : Int) from KBw.ints_list l]
  refine rest_map (tmap_of _ (acc := []) rfl rfl rfl) ?_
  generalize hT : typedL (decide (n < 0)) l f = T at key hlen
  have hacc : ([] : List Nat) ++ typedL (decide (n < 0)) l f = T := hT
  have hf2 : f + 3 * l.length ≤ 100 := by have := hl; omega
  clear hT hf1 hn
  generalize ([] : List Nat) = acc at hacc ⊢
  refine all_tmap (P := fun M => BytesRest _ _ _ _ _ _ _ _ _ _ _ _ M _) ?_
  clear u
  induction l generalizing acc f with
  | nil =>
    intro oc u tx r
    refine BytesRest.zero (fun h' tk' F' N' => ?_)
    rw [show typedL (decide (n < 0)) [] f = [] from rfl, List.append_nil] at hacc
    subst hacc
    k_steps
    all_goals (refine key _ rfl _ _ _ (by assumption) (by assumption))
  | cons o l ih =>
    intro oc u tx r
    refine BytesRest.succ (fun iu v u' it' h' tk' F' N' => ?_)
    have ho := hap o (List.mem_cons_self ..)
    have hal : acc.length ≤ 4 := by have := congrArg List.length hacc; rw [List.length_append] at this; omega
    have q1 := Int.fmod_nonneg_of_pos f (show (0:Int) < 16 by decide)
    have q2 := Int.fmod_lt_of_pos f (show (0:Int) < 16 by decide)
    simp only [List.length_cons] at hf2 hl
    have hap' : ∀ o ∈ l, 65 ≤ o.toNat ∧ o.toNat ≤ 80 := fun o' ho' => hap o' (List.mem_cons_of_mem _ ho')
    clear hap
    k_steps
    all_goals try (
      refine Stop.intro ?_
      (with_reducible rename Fr _ _ _ _ => kF)
      (with_reducible rename News _ _ _ _ => kN)
      refine sign_call (by assumption) kF (by assumption) (by assumption) kN (by assumption) rfl rfl rfl (by assumption) rfl (by omega) (by omega) (by omega) (by omega) ?_
      clear kF kN
      intro h' tk t' F' N'
      try dsimp only
      k_steps)
    all_goals (
      (with_reducible rename Fr _ _ _ _ => kF)
      (with_reducible rename News _ _ _ _ => kN)
      refine UnrEnd.intro kF kN news (fun p hp => by rcases List.mem_cons.mp hp with rfl | hp <;> simp [*]) (fun p hp => Nat.ne_of_lt (l1 p hp)) (rest_map (tmap_of _ rfl rfl rfl) (ih ?_ ?_ ?_ ?_ _ ?_ _ _ _ _))
      all_goals first
        | omega
        | exact hap'
        | (rw [← hacc]; simp [typedL, *]; done)
        | (have e9 : (917504 + (o.toNat : Int)).toNat = 917504 + o.toNat := by omega
           rw [← hacc, e9]; simp [typedL, *]; done))
end
end Mine
end
section
open PySem PySem.W PySem.Calls PyProof.Rows PySem.Spec LCg
set_option maxRecDepth 100000
set_option linter.unusedVariables false
set_option pp.deepTerms false
set_option pp.deepTerms.threshold 7
namespace Mine
theorem filled5 : PySem.Challenge.rw_tp0034_01 = PySem.Challenge.rw_tp0034_01 ∧ K = K := by k_fill; exact ⟨rfl, rfl⟩
section
variable {prog : Program} {w : World} {A : Around} {E : Value → Shared → Prop} {s : Shared} {env : Env} {h₀ : Heap} {x : Str} {body : List Stmt} {Q : Flow → Shared → Prop}
/-- a loop over a text, sign by sign -/
theorem iter_textN {cs : List Nat} {tx : Tok} {m₀ : Str → Option Value} {news : List (Addr × Obj)} (J : Nat → (Str → Option Value) → List (Addr × Obj) → Prop)
    (hh : A.handled = none) (F : Fr h₀ env.locals s.heap m₀) (N : News h₀ env.locals s.heap news) (hj : J 0 m₀ news)
    (turn : ∀ i c t m₁ news₁ h tk own, cs[i]? = some c → news₁.map (·.1) = news.map (·.1) → OwnOff own (news.map (·.1)) → J i m₁ news₁ → Fr h₀ env.locals h (fun y => if y = x then some (.str ⟨#[c]⟩ t) else m₁ y) → News h₀ env.locals h (news₁ ++ own) →
      wpAny (model prog w) A (execs body env) (InvPostN h₀ env.locals (J (i + 1)) own (news.map (·.1)) { s with heap := h, toks := tk } Q) E { s with heap := h, toks := tk })
    (done : ∀ m₁ news₁ h tk, J cs.length m₁ news₁ → Fr h₀ env.locals h m₁ → News h₀ env.locals h news₁ → Q .next { s with heap := h, toks := tk }) :
    wpAny (model prog w) A (pyIter (.str ⟨cs.toArray⟩ tx)) (fun it s₂ => LoopAtV prog w A h₀ env x body Q E it s₂) E s := by
  have hsz : (⟨cs.toArray⟩ : Str).cps.size = cs.length := by simp
  refine wpAny_pyIter_str fun o St W hst => ?_
  have W' := W A hh
  rw [hsz] at W'
  refine loop_invN (s := { s with heap := s.heap.push o }) J W' ?_ ?_ ?_ ?_ hst (F.push _) (N.grown fun c o e => Heap.get?_push_of_some _ e) hj ?_ ?_
  · intro hm
    exact absurd F.ns.lt ((List.mem_singleton.mp hm) ▸ Nat.lt_irrefl _)
  · intro b hb
    rw [List.mem_singleton.mp hb]
    exact next_is_new F
  · intro p hp hI
    exact absurd (Heap.lt_size (N p hp).1) ((List.mem_singleton.mp hI) ▸ Nat.lt_irrefl _)
  · intro p hp hI
    exact absurd (Heap.lt_size (N p hp).1) ((List.mem_singleton.mp hI) ▸ Nat.lt_irrefl _)
  · rintro i v m₁ news₁ h tk own hi ⟨c, u, hc, rfl⟩ ha ho hJ F₁ N₁
    exact turn i c u m₁ news₁ h tk own (by simpa using hc) ha ho hJ F₁ N₁
  · intro m₁ news₁ h tk hJ F₁ N₁
    exact done m₁ news₁ h tk hJ F₁ N₁
end

noncomputable def B3 (c e : Nat) : Prop := Builtin.Str.tooLong (Txt.lower ⟨#[c]⟩).length = false ∧ (match lookup (.int c) b3p with | some (.str r) => r | _ => Txt.lower ⟨#[c]⟩) = ⟨#[e]⟩
theorem one_blank (c : Nat) : ((⟨#[c]⟩ : Str) == Str.ofString " ") = decide (c = 32) := by
  by_cases h : c = 32
  · subst h; rfl
  · rw [decide_eq_false h]
    have : (⟨#[c]⟩ : Str) ≠ Str.ofString " " := by
      intro e
      have e2 : #[c] = #[32] := congrArg Str.cps e
      simp at e2
      exact h e2
    simpa using this
section
variable {w : World} {A A₀ : Around} {base h₀ : Heap} {outer : List Env} {env : Env} {L : Addr} {m mg mb : Str → Option Value} {news : List (Addr × Obj)} {mean : ExcName → Option Value} {loose : List Str} {s : Shared}
  {Q : Value → Shared → Prop} {E : Value → Shared → Prop}

theorem c11_yes {c : Nat} {t : Tok} (B : Below A₀ base outer h₀) (F : Fr h₀ L s.heap m) (X₀ : (K w.params).In h₀) (Y₀ : TopFacts w h₀) (N : News h₀ L s.heap news) (T : Top qv loose mean mg mb h₀)
    (hA : A.frames = some (env :: outer)) (hf : env.frame = some L) (hke : env.scope.kind = .function) (hroom : A.depth + 1 < recursionLimit) (hc : c = 32)
    (h : ∀ h' tk, Fr h₀ L h' m → News h₀ L h' news → Q (.bool true) { s with heap := h', toks := tk }) : wpAny (model pw w) A (call (.ref 85) [.str ⟨#[c]⟩ t]) Q E s :=
  c11_call B F X₀ Y₀ N T hA hf hke hroom fun h' tk a b => by
    have := h h' tk a b
    rw [← decide_eq_true hc, ← one_blank] at this; exact this
theorem c11_no {c : Nat} {t : Tok} (B : Below A₀ base outer h₀) (F : Fr h₀ L s.heap m) (X₀ : (K w.params).In h₀) (Y₀ : TopFacts w h₀) (N : News h₀ L s.heap news) (T : Top qv loose mean mg mb h₀)
    (hA : A.frames = some (env :: outer)) (hf : env.frame = some L) (hke : env.scope.kind = .function) (hroom : A.depth + 1 < recursionLimit) (hc : c ≠ 32)
    (h : ∀ h' tk, Fr h₀ L h' m → News h₀ L h' news → Q (.bool false) { s with heap := h', toks := tk }) : wpAny (model pw w) A (call (.ref 85) [.str ⟨#[c]⟩ t]) Q E s :=
  c11_call B F X₀ Y₀ N T hA hf hke hroom fun h' tk a b => by
    have := h h' tk a b
    rw [← decide_eq_false hc, ← one_blank] at this; exact this
theorem c9_is {c : Nat} {t : Tok} {b : Bool} (B : Below A₀ base outer h₀) (F : Fr h₀ L s.heap m) (X₀ : (K w.params).In h₀) (Y₀ : TopFacts w h₀) (N : News h₀ L s.heap news) (T : Top qv loose mean mg mb h₀)
    (hA : A.frames = some (env :: outer)) (hf : env.frame = some L) (hke : env.scope.kind = .function) (hroom : A.depth + 1 < recursionLimit) (hc : inC9 c = b)
    (h : ∀ h' tk, Fr h₀ L h' m → News h₀ L h' news → Q (.bool b) { s with heap := h', toks := tk }) : wpAny (model pw w) A (call (.ref 103) [.str ⟨#[c]⟩ t]) Q E s := by
  subst hc
  exact c9_call B F X₀ Y₀ N T hA hf hke hroom h
theorem b1_is {c : Nat} {t : Tok} {b : Bool} (B : Below A₀ base outer h₀) (F : Fr h₀ L s.heap m) (X₀ : (K w.params).In h₀) (Y₀ : TopFacts w h₀) (N : News h₀ L s.heap news) (T : Top qv loose mean mg mb h₀)
    (hA : A.frames = some (env :: outer)) (hf : env.frame = some L) (hke : env.scope.kind = .function) (hroom : A.depth + 1 < recursionLimit) (hc : inB1 c = b)
    (h : ∀ h' tk, Fr h₀ L h' m → News h₀ L h' news → Q (.bool b) { s with heap := h', toks := tk }) : wpAny (model pw w) A (call (.ref 32) [.str ⟨#[c]⟩ t]) Q E s := by
  subst hc
  exact b1_call B F X₀ Y₀ N T hA hf hke hroom h
theorem b3_is {c e : Nat} {t : Tok} (B : Below A₀ base outer h₀) (F : Fr h₀ L s.heap m) (X₀ : (K w.params).In h₀) (Y₀ : TopFacts w h₀) (N : News h₀ L s.heap news) (T : Top qv loose mean mg mb h₀)
    (hA : A.frames = some (env :: outer)) (hf : env.frame = some L) (hke : env.scope.kind = .function) (hroom : A.depth + 1 < recursionLimit) (hc : B3 c e)
    (h : ∀ h' tk t', Fr h₀ L h' m → News h₀ L h' news → Q (.str ⟨#[e]⟩ t') { s with heap := h', toks := tk }) : wpAny (model pw w) A (call (.ref 78) [.str ⟨#[c]⟩ t]) Q E s :=
  b3_call B F X₀ Y₀ N T hA hf hke hroom hc.1 fun h' tk a b tk' => by
    have q := h h' tk tk' a b
    rw [← hc.2] at q
    exact q
end
inductive Sgn | gap | neg (e : Nat) | pos (e : Nat) | mute
noncomputable def IsSgn (c : Nat) : Sgn → Prop
  | .gap => c = 32
  | .neg e => c ≠ 32 ∧ inC9 c = true ∧ 917504 ≤ c ∧ c ≤ 1114111 ∧ B3 (c - 917504) (e + 97)
  | .pos e => c ≠ 32 ∧ inC9 c = false ∧ inB1 c = false ∧ B3 c (e + 97)
  | .mute => c ≠ 32 ∧ inC9 c = false ∧ inB1 c = true
structure Rd where
  ts : List Int
  d : Int
  bs : List Bool
  b : Bool
noncomputable def Rd.step (r : Rd) : Sgn → Rd
  | .gap => ⟨r.ts ++ [r.d], 0, r.bs ++ [r.b], false⟩
  | .neg e => ⟨r.ts, 16 * r.d + e, r.bs, true⟩
  | .pos e => ⟨r.ts, 16 * r.d + e, r.bs, r.b⟩
  | .mute => r

section
variable {prog : Program} {w : World} {A : Around} {E : Value → Shared → Prop} {s : Shared} {h₀ : Heap} {L D : Addr} {m : Str → Option Value} {news news' : List (Addr × Obj)}
theorem setL_last {ws : List Value} {x v : Value} : ki_setL (ws ++ [x]) ws.length v = some (ws ++ [v]) := by
  induction ws with
  | nil => rfl
  | cons y ws ih => simp [ki_setL, ih]
theorem last_idx {n : Nat} : seqIndex? (-1) (n + 1) = some n := by
  rw [PySem.seqIndex_neg (by decide) (by omega)]
  congr 1
  omega
theorem set_last {ws : List Value} {x v : Value} {n : Nat} {t : Tok} {Q : Unit → Shared → Prop} (F : Fr h₀ L s.heap m) (N : News h₀ L s.heap news)
    (U : Upd D (listOf (ws ++ [x]).toArray n) (listOf (ws ++ [v]).toArray n) news news')
    (h : ∀ h', Fr h₀ L h' m → News h₀ L h' news' → Q () { s with heap := h' }) : wpAny (model prog w) A (setItem (.ref D) (.int (-1) t) v) Q E s :=
  ki_setNeg F N (by decide) (by decide) (j := ws.length) (by simp only [List.size_toArray, List.length_append, List.length_cons, List.length_nil]; exact last_idx) (by simpa using setL_last) U h
theorem get_last {value slice : Expr} {ws : List Value} {x : Value} {n : Nat} {t : Tok} {Q : Value → Shared → Prop} (hl : s.heap.get? D = some (listOf (ws ++ [x]).toArray n)) (h : Q x s)
    (hs : subscripted slice false (.ref D) (.int (-1) t) = operate [.ref D, .int (-1) t] (getItem (.ref D) (.int (-1) t)) := by with_unfolding_all rfl) :
    wpAny (model prog w) A (subscriptTail value slice (.ref D) (.int (-1) t)) Q E s := by
  have hL : s.heap.IsList D (ws ++ [x]).toArray := ⟨_, hl, rfl, _, rfl⟩
  refine subscriptTail_builtinR hL.typeIs slot_list_getitem.lookup (wpAny_getItem_list_neg (Q := fun r s' => r = x ∧ Q r s') hL (by decide) (by simp only [List.size_toArray, List.length_append, List.length_cons, List.length_nil]; omega) (by decide) ?_ ⟨rfl, h⟩) hs
  have e : ((-1 : Int) + ((ws ++ [x]).toArray.size : Nat)).toNat = ws.length := by simp only [List.size_toArray, List.length_append, List.length_cons, List.length_nil]; omega
  rw [e]
  simp
theorem ints_last {vs : List Value} : ∀ {ts : List Int} {d : Int}, IntsAre vs (ts ++ [d]) → ∃ ws t, vs = ws ++ [.int d t] ∧ IntsAre ws ts := by
  induction vs with
  | nil =>
    intro ts d h
    have := h.length
    simp at this
  | cons v vs ih =>
    intro ts d h
    cases ts with
    | nil =>
      cases h with
      | cons a t r =>
        cases r with
        | nil => exact ⟨[], _, rfl, .nil⟩
    | cons a ts =>
      cases h with
      | cons a t r =>
        obtain ⟨ws, t', e, hi⟩ := ih r
        exact ⟨_ :: ws, t', by rw [e]; rfl, .cons _ _ hi⟩
theorem cons_ne {p : Addr × Obj} {r : List (Addr × Obj)} {D : Addr} (h : p.1 ≠ D) (hr : ∀ q ∈ r, q.1 ≠ D) : ∀ q ∈ p :: r, q.1 ≠ D := fun q hq => by
  rcases List.mem_cons.mp hq with rfl | hq
  · exact h
  · exact hr q hq
end

noncomputable def signMap (sg : Option Value) (D1 D2 : Addr) (r : Str → Option Value) : Str → Option Value := fun y =>
  if y = Str.ofString "sign" then sg else if y = Str.ofString "below" then some (.ref D2) else if y = Str.ofString "told" then some (.ref D1) else r y
theorem signMap_of (m : Str → Option Value) {D1 D2 : Addr} (h1 : m (Str.ofString "below") = some (.ref D2)) (h2 : m (Str.ofString "told") = some (.ref D1)) :
    m = signMap (m (Str.ofString "sign")) D1 D2 m := by
  funext y
  unfold signMap
  by_cases a : y = Str.ofString "sign"
  · simp [a]
  · by_cases b : y = Str.ofString "below"
    · subst b; rw [if_neg a, if_pos rfl, h1]
    · by_cases c : y = Str.ofString "told"
      · subst c; rw [if_neg a, if_neg b, if_pos rfl, h2]
      · rw [if_neg a, if_neg b, if_neg c]
noncomputable def readAll (l : List Sgn) : Rd := l.foldl Rd.step ⟨[], 0, [], false⟩
theorem read_len (l : List Sgn) : (readAll l).ts.length ≤ l.length ∧ (readAll l).bs.length = (readAll l).ts.length := by
  unfold readAll
  suffices ∀ (l : List Sgn) (r : Rd), r.bs.length = r.ts.length → (l.foldl Rd.step r).ts.length ≤ r.ts.length + l.length ∧ (l.foldl Rd.step r).bs.length = (l.foldl Rd.step r).ts.length by
    have := this l ⟨[], 0, [], false⟩ rfl
    simpa using this
  intro l
  induction l with
  | nil => intro r h; exact ⟨Nat.le_refl _, h⟩
  | cons k l ih =>
    intro r h
    have := ih (r.step k) (by cases k <;> simp [Rd.step, h])
    refine ⟨Nat.le_trans this.1 ?_, this.2⟩
    have : (r.step k).ts.length ≤ r.ts.length + 1 := by cases k <;> simp [Rd.step]
    simp only [List.length_cons]; omega
theorem read_succ {l : List Sgn} {i : Nat} {k : Sgn} (h : l[i]? = some k) : readAll (l.take (i + 1)) = (readAll (l.take i)).step k := by
  unfold readAll
  rw [List.take_add_one, h]
  simp
local macro_rules | `(tactic| walk_at "call type:zip") => `(tactic| ((with_reducible show wpAny _ _ (call (Value.type _) _) _ _ _); refine Stop.out ?_))
local macro_rules | `(tactic| walk_at "eval ListComp") => `(tactic| ((with_reducible show wpAny _ _ (eval (Expr.ListComp _ _ _ _) _) _ _ _); refine Stop.out ?_))
local macro_rules | `(tactic| walk_at "exec For") => `(tactic| (k_here; (with_reducible show wpAny _ _ (exec (Stmt.For _ _ _ _ _) _) _ _ _); (with_reducible rename Fr _ _ _ _ => lF'); (with_unfolding_all refine' For_invVF lF' ?k1 ?k2 ?_; (case k1 => exact rfl); (case k2 => exact rfl); k_whole)))
local macro_rules | `(tactic| walk_at "pyIter str") => `(tactic| ((with_reducible show wpAny _ _ (pyIter (Value.str _ _)) _ _ _); refine Stop.out ?_))
local macro_rules | `(tactic| walk_at "call ref") => `(tactic| ((with_reducible show wpAny _ _ (call (Value.ref 85) _) _ _ _); (with_reducible rename Fr _ _ _ _ => kF); (with_reducible rename News _ _ _ _ => kN); first | refine c11_no (by assumption) kF (by assumption) (by assumption) kN (by assumption) rfl rfl rfl (by assumption) (by with_reducible assumption) ?_ | refine c11_yes (by assumption) kF (by assumption) (by assumption) kN (by assumption) rfl rfl rfl (by assumption) (by with_reducible assumption) ?_; clear kF kN; intro h' tk F' N'; try dsimp only))
local macro_rules | `(tactic| walk_at "call ref") => `(tactic| ((with_reducible show wpAny _ _ (call (Value.ref 103) _) _ _ _); (with_reducible rename Fr _ _ _ _ => kF); (with_reducible rename News _ _ _ _ => kN); refine c9_is (by assumption) kF (by assumption) (by assumption) kN (by assumption) rfl rfl rfl (by assumption) (by with_reducible assumption) ?_; clear kF kN; intro h' tk F' N'; try dsimp only))
local macro_rules | `(tactic| walk_at "call ref") => `(tactic| ((with_reducible show wpAny _ _ (call (Value.ref 32) _) _ _ _); (with_reducible rename Fr _ _ _ _ => kF); (with_reducible rename News _ _ _ _ => kN); refine b1_is (by assumption) kF (by assumption) (by assumption) kN (by assumption) rfl rfl rfl (by assumption) (by with_reducible assumption) ?_; clear kF kN; intro h' tk F' N'; try dsimp only))
local macro_rules | `(tactic| walk_at "call ref") => `(tactic| ((with_reducible show wpAny _ _ (call (Value.ref 78) _) _ _ _); (with_reducible rename Fr _ _ _ _ => kF); (with_reducible rename News _ _ _ _ => kN); refine b3_is (by assumption) kF (by assumption) (by assumption) kN (by assumption) rfl rfl rfl (by assumption) (by with_reducible assumption) ?_; clear kF kN; intro h' tk t' F' N'; try dsimp only))
local macro_rules | `(tactic| walk_at "call builtin:list.append") => `(tactic| (k_here; (show wpAny _ _ (call (Value.builtin _) [Value.ref _, _]) _ _ _); (refine' append_K ?k1 ?k2 ?k3 ?_ ?z; (case k1 => k_asm); (case k2 => k_asm); (case k3 => first | exact Upd.head (cons_ne (by assumption) (by assumption)) | exact Upd.tail (by assumption) (Upd.head (by assumption))); (case z => assumption)); intro h' F' N'; try dsimp only))
local macro_rules | `(tactic| walk_at "setItem ref int") => `(tactic| (k_here; (with_reducible show wpAny _ _ (setItem (Value.ref _) (Value.int _ _) _) _ _ _); (refine' set_last ?k1 ?k2 ?k3 ?_; (case k1 => k_asm); (case k2 => k_asm); (case k3 => first | exact Upd.head (cons_ne (by assumption) (by assumption)) | exact Upd.tail (by assumption) (Upd.head (by assumption)))); intro h' F' N'; try dsimp only))
local macro_rules | `(tactic| walk_at "subscriptTail Name UnaryOp ref int") => `(tactic| ((with_reducible show wpAny _ _ (subscriptTail _ _ (Value.ref _) (Value.int _ _)) _ _ _); (with_reducible rename News _ _ _ _ => kN); with_unfolding_all (refine get_last (kN _ (.tail _ (.head _))).1 ?_)))
theorem IntsAre.of_eq {vs : List Value} {a b : List Int} (h : IntsAre vs a) (e : a = b) : IntsAre vs b := e ▸ h
/-- what _law_read tells -/
noncomputable def readOut (l : List Sgn) : List Int := List.zipWith (fun (n : Int) (b : Bool) => if b then -n else n) ((readAll l).ts ++ [(readAll l).d]) ((readAll l).bs ++ [(readAll l).b])
theorem news_sub {h₀ h : Heap} {L : Addr} {a b : List (Addr × Obj)} (N : News h₀ L h b) (e : ∀ p ∈ a, p ∈ b) : News h₀ L h a := fun p hp => N p (e p hp)
noncomputable def ReadJ (ps : List (Nat × Sgn)) (D1 D2 : Addr) (news : List (Addr × Obj)) (i : Nat) (m : Str → Option Value) (n₁ : List (Addr × Obj)) : Prop :=
  ∃ sg r vs a1 a2, m = signMap sg D1 D2 r ∧ IntsAre vs ((readAll ((ps.map (·.2)).take i)).ts ++ [(readAll ((ps.map (·.2)).take i)).d]) ∧
    n₁ = (D2, listOf ((((readAll ((ps.map (·.2)).take i)).bs ++ [(readAll ((ps.map (·.2)).take i)).b]).map Value.bool).toArray) a2) :: (D1, listOf vs.toArray a1) :: news
theorem read_end {g h : Heap} {L D1 D2 : Addr} {m : Str → Option Value} {news own : List (Addr × Obj)} {ps : List (Nat × Sgn)} {i a1 a2 tk : Nat} {s₁ : Shared} {vs : List Value} {ba : Array Value} {rd : Rd} {adr : List Addr}
    (F : Fr g L h m) (N : News g L h ((D2, listOf ba a2) :: (D1, listOf vs.toArray a1) :: (news ++ own))) (h1 : m (Str.ofString "below") = some (.ref D2)) (h2 : m (Str.ofString "told") = some (.ref D1))
    (hr : readAll ((ps.map (·.2)).take i) = rd) (hi : IntsAre vs (rd.ts ++ [rd.d])) (hb : ba = ((rd.bs ++ [rd.b]).map Value.bool).toArray) (ha : D2 :: D1 :: news.map (·.1) = adr) :
    InvEndN g L (ReadJ ps D1 D2 news i) own adr s₁ { s₁ with heap := h, toks := tk } := by
  subst hb
  refine InvEndN.intro (nx := (D2, listOf ((rd.bs ++ [rd.b]).map Value.bool).toArray a2) :: (D1, listOf vs.toArray a1) :: news) F N ?_ ha (fun p hp => ?_) (fun p hp => ?_)
  · refine ⟨m (Str.ofString "sign"), m, vs, a1, a2, signMap_of m h1 h2, ?_, ?_⟩
    · rw [hr]; exact hi
    · rw [hr]
  · simp only [List.mem_cons, List.mem_append] at hp ⊢
    rcases hp with q | q | q
    · exact .inl q
    · exact .inr (.inl q)
    · exact .inr (.inr (.inl q))
  · simp only [List.mem_cons, List.mem_append]
    exact .inr (.inr (.inr hp))

section
variable {w : World} {A A₀ : Around} {base h₀ : Heap} {outer : List Env} {env : Env} {L : Addr} {m mg mb : Str → Option Value} {news : List (Addr × Obj)} {mean : ExcName → Option Value} {loose : List Str} {s : Shared}
  {Q : Value → Shared → Prop} {E : Value → Shared → Prop}
set_option maxHeartbeats 8000000 in
theorem read_call {ps : List (Nat × Sgn)} {t : Tok} (B : Below A₀ base outer h₀) (F : Fr h₀ L s.heap m) (X₀ : (K w.params).In h₀) (Y₀ : TopFacts w h₀) (N : News h₀ L s.heap news) (T : Top qv loose mean mg mb h₀)
    (hA : A.frames = some (env :: outer)) (hf : env.frame = some L) (hke : env.scope.kind = .function) (hroom : A.depth + 2 < recursionLimit) (hh : A.handled = none) (hks : ∀ p ∈ ps, IsSgn p.1 p.2) (hlen : ps.length ≤ 60)
    (h : ∀ h' tk D ys, IntsAre ys (readOut (ps.map (·.2))) → Fr h₀ L h' m → News h₀ L h' ((D, lst ys) :: news) → Q (.ref D) { s with heap := h', toks := tk }) : wpAny (model pw w) A (call (.ref 143) [.str ⟨(ps.map (·.1)).toArray⟩ t]) Q E s := by
  obtain ⟨hdl, dep, frm, gds, uni⟩ := A
  obtain rfl : hdl = none := hh
  obtain rfl : frm = some (env :: outer) := hA
  w_on
  refine wpAny_call ?_
  refine code_def B F X₀ N T rfl hf hke (by k_is) (by k_is) (show dep < recursionLimit from Nat.lt_of_le_of_lt (Nat.le_add_right _ _) hroom) (BindsTo.of_eq rfl) (locs rfl) ?_ rfl rfl rfl (by decide)
  intro g' L' h' FG' F' N' B' X' T'
  have Yg : TopFacts w g' := Y₀.keeps fun b o e => FG'.keep b o e
  clear FG'
  try dsimp only
  have h0 : ∀ h' tk D ys, IntsAre ys (readOut (ps.map (·.2))) → Fr h₀ L h' m → News h₀ L h' ((D, LCg.lst ys) :: news) → Q (.ref D) { s with heap := h', toks := tk } := h
  clear h
  k_steps
  refine Stop.out ?_
  rename_i D1 _ lD1 _ D2 _ lD2 h2 F2 N2
  refine iter_textN (ReadJ ps _ _ news) rfl F2 N2 ⟨_, _, [_], _, _, signMap_of _ rfl rfl, .cons _ _ .nil, rfl⟩ ?_ ?_
  · intro i c t m₁ news₁ h tk own hc _ ho hJ F₁ N₁
    clear F2 N2
    obtain ⟨sg, r, vs, a1, a2, rfl, hi, rfl⟩ := hJ
    have hps : ∃ p, ps[i]? = some p ∧ p.1 = c := by
      rw [List.getElem?_map] at hc
      obtain ⟨p, h1, h2⟩ := Option.map_eq_some_iff.mp hc
      exact ⟨p, h1, h2⟩
    obtain ⟨⟨c', k⟩, hp, rfl⟩ := hps
    have hk : (ps.map (·.2))[i]? = some k := by rw [List.getElem?_map, hp]; rfl
    have hs := hks _ (List.mem_of_getElem? hp)
    have hr' := read_succ hk
    have hb := read_len ((ps.map (·.2)).take i)
    have hb2 : ((ps.map (·.2)).take i).length ≤ 60 := by rw [List.length_take, List.length_map]; omega
    generalize readAll ((ps.map (·.2)).take i) = rd at hi hr' N₁ hb
    obtain ⟨ts, d, bs, b⟩ := rd
    obtain ⟨ws, t1, rfl, hw⟩ := ints_last hi
    have hw : IntsAre ws ts := hw
    have hwl : ws.length = ts.length := hw.length
    have hb1 : ts.length ≤ ((ps.map (·.2)).take i).length := hb.1
    have hb3 : bs.length = ts.length := hb.2
    clear hb
    have hz1 : (ws ++ [Value.int d t1]).toArray.size ≤ sizeLine := by
      have : (1000 : Nat) ≤ sizeLine := by decide
      simp only [List.size_toArray, List.length_append, List.length_cons, List.length_nil]; omega
    have hz2 : ((bs.map Value.bool) ++ [Value.bool b]).toArray.size ≤ sizeLine := by
      have : (1000 : Nat) ≤ sizeLine := by decide
      simp only [List.size_toArray, List.length_append, List.length_cons, List.length_nil, List.length_map]; omega
    simp only [List.map_append, List.map_cons, List.map_nil] at N₁
    have hr1 : ∀ p ∈ news ++ own, p.1 ≠ D1 := fun p hp => (List.mem_append.mp hp).elim (fun q => Nat.ne_of_lt (lD1 p q)) fun q => ho p q D1 (.tail _ (.head _))
    have hr2 : ∀ p ∈ news ++ own, p.1 ≠ D2 := fun p hp => (List.mem_append.mp hp).elim (fun q => Nat.ne_of_lt (Nat.lt_trans (lD1 p q) lD2.1)) fun q => ho p q D2 (.head _)
    have hd21 : D2 ≠ D1 := Nat.ne_of_gt lD2.1
    have hd12 : ((D1, listOf (ws ++ [Value.int d t1]).toArray a1) : Addr × Obj).1 ≠ D2 := Nat.ne_of_lt lD2.1
    have N₁ : News g' L' h ((D2, listOf (bs.map Value.bool ++ [Value.bool b]).toArray a2) :: (D1, listOf (ws ++ [Value.int d t1]).toArray a1) :: (news ++ own)) := N₁
    cases k with
    | gap =>
      have hcc : c' = 32 := hs
      k_steps
      (with_reducible rename Fr _ _ _ _ => kF)
      (with_reducible rename News _ _ _ _ => kN)
      simp only [List.push_toArray] at kN
      exact read_end kF kN rfl rfl hr' (IntsAre.append (IntsAre.append hw (.cons _ _ .nil)) (.cons _ _ .nil)) (by simp [Rd.step]) rfl
    | neg e =>
      obtain ⟨q1, q2, q3, q4, q5⟩ := hs
      have q6 : B3 ((c' : Int) - 917504).toNat (e + 97) := by rw [show ((c' : Int) - 917504).toNat = c' - 917504 by omega]; exact q5
      clear q5
      k_steps
      (with_reducible rename Fr _ _ _ _ => kF)
      (with_reducible rename News _ _ _ _ => kN)
      refine read_end kF kN rfl rfl hr' (IntsAre.append hw (IntsAre.of_eq (.cons _ _ .nil) ?_)) ?_ rfl
      · simp only [Rd.step]; congr 1; omega
      · simp [Rd.step]
    | pos e =>
      obtain ⟨q1, q2, q3, q4⟩ := hs
      k_steps
      (with_reducible rename Fr _ _ _ _ => kF)
      (with_reducible rename News _ _ _ _ => kN)
      refine read_end kF kN rfl rfl hr' (IntsAre.append hw (IntsAre.of_eq (.cons _ _ .nil) ?_)) ?_ rfl
      · simp only [Rd.step]; congr 1; omega
      · simp [Rd.step]
    | mute =>
      obtain ⟨q1, q2, q3⟩ := hs
      k_steps
      (with_reducible rename Fr _ _ _ _ => kF)
      (with_reducible rename News _ _ _ _ => kN)
      exact read_end kF kN rfl rfl hr' (IntsAre.append hw (.cons _ _ .nil)) (by simp [Rd.step]) rfl
  · intro m₁ news₁ h tk hJ F₁ N₁
    clear F2 N2
    obtain ⟨sg, r, vs, a1, a2, rfl, hi, rfl⟩ := hJ
    have hall : (ps.map (·.2)).take (ps.map (·.1)).length = ps.map (·.2) := by rw [List.length_map]; exact List.take_of_length_le (Nat.le_of_eq (List.length_map ..))
    rw [hall] at hi N₁
    have hb := read_len (ps.map (·.2))
    rw [List.length_map] at hb
    generalize hrd : readAll (ps.map (·.2)) = rd at hi N₁ hb
    clear hks
    k_steps
    refine Stop.intro ?_
    refine comp_G (h₀ := g') (L := L') (m := signMap sg D1 D2 r) (by with_unfolding_all rfl) (by decide) (by rfl) (by decide) ?_
    k_steps
    refine Stop.intro ?_
    refine zip_src rfl F₁ N₁ (.tail _ (.head _)) (.head _) hi (by simp [hb.2]) (by simp only [List.length_append, List.length_cons, List.length_nil]; omega) (by rfl) (by rfl) (by rfl) (by decide) (by decide) (by decide) ?_
    intro D h₂ tk₂ ys hy F₃ N₃ o₃
    refine leaveK_ F₃ (news_sub (b := (D, lst ys) :: (D2, listOf ((rd.bs ++ [rd.b]).map Value.bool).toArray a2) :: (D1, listOf vs.toArray a1) :: news) N₃ (a := (D, lst ys) :: news) ?_) ?_
    · intro p hp
      rcases List.mem_cons.mp hp with rfl | hp
      · exact List.mem_cons_self
      · exact List.mem_cons_of_mem _ (List.mem_cons_of_mem _ (List.mem_cons_of_mem _ hp))
    · intro F₄ N₄
      subst hrd
      exact h0 _ _ _ _ hy F₄ N₄

end
end Mine
end
section
open PySem PySem.W PySem.Calls PyProof.Rows PySem.Spec
set_option maxRecDepth 100000
set_option linter.unusedVariables false
namespace Mine
section
variable {prog : Program} {w : World} {A : Around} {E : Value → Shared → Prop} {s : Shared} {env : Env} {h₀ : Heap} {x : Str} {body : List Stmt} {Q : Flow → Shared → Prop}
/-- the end of a turn, the clock of the tokens told -/
noncomputable def StepT (h₀ : Heap) (L : Addr) (wr : List Addr) (own : List (Addr × Obj)) (Jn : (Str → Option Value) → List (Addr × Obj) → Nat → Prop) (s₁ : Shared) (Q : Flow → Shared → Prop) (f : Flow) (s₂ : Shared) : Prop :=
  match f with
  | .ret v => Q (.ret v) s₂
  | .brk => Q .next s₂
  | _ => ∃ h' tk m₂ news₂, s₂ = { s₁ with heap := h', toks := tk } ∧ Fr h₀ L h' m₂ ∧ News h₀ L h' (own ++ news₂) ∧ (∀ p ∈ news₂, p.1 ∉ wr) ∧ Jn m₂ news₂ tk

theorem forLoop_T {R : Result → Shared → Prop} {px : Pos} {I : Addr} {fp wr : List Addr} {n : Nat} {P : Nat → Value → Prop} {St : Nat → Heap → Prop} {m : Str → Option Value}
    {news : List (Addr × Obj)} (W : Walks prog w A I fp wr n P St) (hx : env.kindOf x = some .local)
    (hp : (env.scope.kind == .class || (env.scope.kind == .module && env.locals != env.globals)) = false)
    (hLf : env.locals ∉ fp) (hwr : ∀ b ∈ wr, h₀.get? b = none) (hnw : ∀ p ∈ news, p.1 ∉ wr)
    (hst : St 0 s.heap) (F : Fr h₀ env.locals s.heap m) (N : News h₀ env.locals s.heap news)
    (J : Nat → (Str → Option Value) → List (Addr × Obj) → Nat → Prop) (h0 : J 0 m news s.toks)
    (step : ∀ i v m₁ news₁ h₁ T tk own, T ≤ tk → i < n → P i v → J i m₁ news₁ T → (∀ p ∈ news₁, p.1 ∉ wr) → (∀ p ∈ own, p.1 ∈ fp) → (∀ p ∈ own, h₁.get? p.1 = some p.2) → (∀ b ∈ fp, h₀.get? b = none → ∀ o, h₁.get? b = some o → (b, o) ∈ own) → St (i + 1) h₁ →
      Fr h₀ env.locals h₁ (fun y => if y = x then some v else m₁ y) → News h₀ env.locals h₁ (own ++ news₁) →
      wpAny (model prog w) A (execs body env) (StepT h₀ env.locals wr own (J (i + 1)) { s with heap := h₁, toks := tk } fun f s' => R (.ok f) s') (notedBy (model prog w) A env fun e s' => R (.error e) s') { s with heap := h₁, toks := tk })
    (hR : ∀ h' tk T m' news', T ≤ tk → Fr h₀ env.locals h' m' → News h₀ env.locals h' news' → (∀ p ∈ news', p.1 ∉ wr) → J n m' news' T → R (.ok .next) { s with heap := h', toks := tk }) :
    codeAny (model prog w) A (.forLoop (.Name x px) (.ref I) body [] env) R s := by
  have hLw : env.locals ∉ wr := fun h => hLf (W.sub _ h)
  have old : ∀ b o, h₀.get? b = some o → b ∉ wr := fun b o e hb => by rw [hwr b hb] at e; cases e
  refine codeAny_forLoop
    (fun k s' => ∃ h' tk m' news' i, s' = { s with heap := h', toks := tk } ∧ St i h' ∧ Fr h₀ env.locals h' m' ∧ News h₀ env.locals h' news' ∧ (∀ p ∈ news', p.1 ∉ wr) ∧ J i m' news' tk ∧ i ≤ n ∧ k = n + 1 - i) ?_ (n + 1)
    ⟨s.heap, s.toks, m, news, 0, rfl, hst, F, N, hnw, h0, Nat.zero_le _, rfl⟩
  rintro k s' ⟨h', tk, m', news', i, rfl, hst', F', N', hnw', hJ, hi, rfl⟩
  have next : ∀ h₁ : Heap, (∀ b o, b ∉ wr → h'.get? b = some o → h₁.get? b = some o) → Fr h₀ env.locals h₁ m' ∧ News h₀ env.locals h₁ news' := fun h₁ hk₁ =>
    ⟨⟨F'.ns.at' fun o e => hk₁ _ o hLw e, fun b o e => hk₁ b o (old b o e) (F'.keep b o e), F'.above⟩, fun p hp => ⟨hk₁ _ _ (hnw' p hp) (N' p hp).1, (N' p hp).2⟩⟩
  by_cases hlt : i < n
  · refine wpAny_with_toks (n := tk) (Nat.le_refl _) ?_
    refine W.item i _ _ _ hlt hst' fun v h₁ tk₁ hP hst₁ hk₁ ht₁ => ?_
    dsimp only at ht₁ hk₁ ⊢
    obtain ⟨F₁, N₁⟩ := next h₁ hk₁
    refine wpAny_assign_Name (wpAny_storeName_local hx F₁.ns (fun h₂ hn₂ hs₂ => ?_) hp)
    have F₂ := F₁.set hn₂ hs₂
    have Nown : News h₀ env.locals h₂ (ownOf h₀ fp h₂) := news_ownOf hLf
    have hst₂ : St (i + 1) h₂ := W.frame _ _ _ hst₁ fun b hb o e => (hs₂.2 b fun q => hLf (q ▸ hb)).trans e
    refine wpAny_mono (step i v m' news' h₂ tk (tk₁ + 1) (ownOf h₀ fp h₂) (Nat.le_succ_of_le ht₁) hlt hP hJ hnw' ownOf_sub (fun p hp => (Nown p hp).1) (fun b hb hn o e => mem_ownOf hb hn e) hst₂ F₂ (Nown.append (N₁.set hs₂))) (fun f s₃ h₃ => ?_) fun _ _ e => e
    have fin : (∃ h'' tk' m₂ news₂, s₃ = { s with heap := h'', toks := tk' } ∧ Fr h₀ env.locals h'' m₂ ∧ News h₀ env.locals h'' (ownOf h₀ fp h₂ ++ news₂) ∧ (∀ p ∈ news₂, p.1 ∉ wr) ∧ J (i + 1) m₂ news₂ tk') →
        ∃ k', k' < n + 1 - i ∧ ∃ h' tk m' news' i, s₃ = { s with heap := h', toks := tk } ∧ St i h' ∧ Fr h₀ env.locals h' m' ∧ News h₀ env.locals h' news' ∧ (∀ p ∈ news', p.1 ∉ wr) ∧ J i m' news' tk ∧ i ≤ n ∧ k' = n + 1 - i := by
      rintro ⟨h₃', tk₃, m₂, news₂, rfl, F₃, N₃, ha₃, hJ₃⟩
      refine ⟨n + 1 - (i + 1), by omega, h₃', tk₃, m₂, news₂, i + 1, rfl, ?_, F₃, N₃.right, ha₃, hJ₃, hlt, rfl⟩
      refine W.frame _ _ _ hst₁ fun b hb o e => ?_
      have e₂ : h₂.get? b = some o := (hs₂.2 b fun q => hLf (q ▸ hb)).trans e
      cases hn : h₀.get? b with
      | some o₀ =>
        have : o₀ = o := by have := F₂.keep b o₀ hn; rw [e₂] at this; exact (Option.some.inj this).symm
        exact this ▸ F₃.keep b o₀ hn
      | none => exact (N₃ _ (List.mem_append_left _ (mem_ownOf hb hn e₂))).1
    cases f with
    | ret v => exact h₃
    | brk => exact h₃
    | cont => exact fin h₃
    | next => exact fin h₃
  · have hin : i = n := by omega
    subst hin
    refine wpAny_with_toks (n := tk) (Nat.le_refl _) ?_
    refine W.done _ _ _ hst' fun h₁ tk₁ hk₁ ht₁ => wpAny_execs_nil ?_
    obtain ⟨F₁, N₁⟩ := next h₁ hk₁
    exact hR h₁ tk₁ tk m' news' ht₁ F₁ N₁ hnw' hJ

noncomputable def LoopT (prog : Program) (w : World) (A : Around) (h₀ : Heap) (env : Env) (x : Str) (body : List Stmt) (Q : Flow → Shared → Prop) (it : Value) (s₂ : Shared) : Prop :=
  ∃ (I : Addr) (fp wr : List Addr) (n : Nat) (P : Nat → Value → Prop) (St : Nat → Heap → Prop) (m : Str → Option Value) (news : List (Addr × Obj)) (J : Nat → (Str → Option Value) → List (Addr × Obj) → Nat → Prop),
    it = .ref I ∧ Walks prog w A I fp wr n P St ∧ env.locals ∉ fp ∧ (∀ b ∈ wr, h₀.get? b = none) ∧ (∀ p ∈ news, p.1 ∉ wr) ∧ St 0 s₂.heap ∧ Fr h₀ env.locals s₂.heap m ∧ News h₀ env.locals s₂.heap news ∧ J 0 m news s₂.toks ∧
    (∀ i v m₁ news₁ h₁ T tk own, T ≤ tk → i < n → P i v → J i m₁ news₁ T → (∀ p ∈ news₁, p.1 ∉ wr) → (∀ p ∈ own, p.1 ∈ fp) → (∀ p ∈ own, h₁.get? p.1 = some p.2) → (∀ b ∈ fp, h₀.get? b = none → ∀ o, h₁.get? b = some o → (b, o) ∈ own) → St (i + 1) h₁ →
      Fr h₀ env.locals h₁ (fun y => if y = x then some v else m₁ y) → News h₀ env.locals h₁ (own ++ news₁) →
      wpAny (model prog w) A (execs body env) (StepT h₀ env.locals wr own (J (i + 1)) { s₂ with heap := h₁, toks := tk } Q) (fun _ _ => False) { s₂ with heap := h₁, toks := tk }) ∧
    ∀ h' tk T m' news', T ≤ tk → Fr h₀ env.locals h' m' → News h₀ env.locals h' news' → (∀ p ∈ news', p.1 ∉ wr) → J n m' news' T → Q .next { s₂ with heap := h', toks := tk }

theorem For_T {px pos : Pos} {iter : PySem.Expr} (hx : env.kindOf x = some .local)
    (hp : (env.scope.kind == .class || (env.scope.kind == .module && env.locals != env.globals)) = false)
    (h : wpAny (model prog w) A (eval iter env) (fun xv s₁ => wpAny (model prog w) A (pyIter xv) (fun it s₂ => LoopT prog w A h₀ env x body Q it s₂) (fun _ _ => False) s₁) (fun _ _ => False) s)
    (hs : ∀ x, foldedSetIterable iter env x = pure x := by intro _; rfl) :
    wpAny (model prog w) A (exec (.For (.Name x px) iter body [] pos) env) Q E s := by
  refine wpAny_noRaise ?_
  refine wpAny_For (wpAny_mono h (fun xv s₁ h₁ => wpAny_mono h₁ (fun it s₂ h₂ => ?_) fun _ _ e => e) fun _ _ e => e) hs
  obtain ⟨I, fp, wr, n, P, St, m, news, J, rfl, W, hLf, hwr, hnw, hst, F, N, h0, step, hQ⟩ := h₂
  exact forLoop_T (R := fun r s' => match r with | .ok f => Q f s' | .error e => cameBackBy (model prog w) A env (fun _ _ => False) e s') W hx hp hLf hwr hnw hst F N J h0
    (fun i v m₁ news₁ h₁ T tk own a b c d e f g hh i' j k => wpAny_noRaise (step i v m₁ news₁ h₁ T tk own a b c d e f g hh i' j k)) hQ

/-- what stands at a turn's end -/
noncomputable def UEnd (h₀ : Heap) (L : Addr) (s₁ : Shared) (I : Addr) (it : Obj) (rest : (Str → Option Value) → List (Addr × Obj) → Nat → Prop) (Q : Flow → Shared → Prop) (f : Flow) (s₂ : Shared) : Prop :=
  match f with
  | .ret v => Q (.ret v) s₂
  | .brk => Q .next s₂
  | _ => ∃ h' tk m' news', s₂ = { s₁ with heap := h', toks := tk } ∧ Fr h₀ L h' m' ∧ News h₀ L h' ((I, it) :: news') ∧ (∀ p ∈ news', p.1 ≠ I) ∧ rest m' news' tk
theorem UEnd.intro {L I : Addr} {it : Obj} {rest : (Str → Option Value) → List (Addr × Obj) → Nat → Prop} {s₁ : Shared} {h' : Heap} {tk : Nat} {m' : Str → Option Value} {news' : List (Addr × Obj)} (F : Fr h₀ L h' m') (N : News h₀ L h' ((I, it) :: news'))
    (off : ∀ p ∈ news', p.1 ≠ I) (r : rest m' news' tk) : UEnd h₀ L s₁ I it rest Q .next { s₁ with heap := h', toks := tk } := ⟨h', tk, m', news', rfl, F, N, off, r⟩

/-- the rest of a loop over a list that lies in the ledger -/
noncomputable def LRest (prog : Program) (w : World) (A : Around) (h₀ : Heap) (env : Env) (x : Str) (body : List Stmt) (Q : Flow → Shared → Prop) (s : Shared) (I : Addr) (lp : Addr × Obj) : List Value → (Str → Option Value) → List (Addr × Obj) → Nat → Prop
  | [], m, news, T => ∀ h tk, T ≤ tk → Fr h₀ env.locals h m → News h₀ env.locals h news → Q .next { s with heap := h, toks := tk }
  | v :: r, m, news, T => ∀ (it : Obj) h tk, T ≤ tk → it.cls = .type "list_iterator" → Fr h₀ env.locals h (fun y => if y = x then some v else m y) → News h₀ env.locals h ((I, it) :: news) →
      wpAny (model prog w) A (execs body env) (UEnd h₀ env.locals { s with heap := h, toks := tk } I it (fun m' n' T' => lp ∈ n' ∧ LRest prog w A h₀ env x body Q s I lp r m' n' T') Q) (fun _ _ => False) { s with heap := h, toks := tk }

theorem LRest.zero {I : Addr} {lp : Addr × Obj} {m : Str → Option Value} {news : List (Addr × Obj)} {T : Nat} (h : ∀ h tk, T ≤ tk → Fr h₀ env.locals h m → News h₀ env.locals h news → Q .next { s with heap := h, toks := tk }) : LRest prog w A h₀ env x body Q s I lp [] m news T := h
theorem LRest.succ {I : Addr} {lp : Addr × Obj} {v : Value} {r : List Value} {m : Str → Option Value} {news : List (Addr × Obj)} {T : Nat}
    (h : ∀ (it : Obj) h tk, T ≤ tk → it.cls = .type "list_iterator" → Fr h₀ env.locals h (fun y => if y = x then some v else m y) → News h₀ env.locals h ((I, it) :: news) →
      wpAny (model prog w) A (execs body env) (UEnd h₀ env.locals { s with heap := h, toks := tk } I it (fun m' n' T' => lp ∈ n' ∧ LRest prog w A h₀ env x body Q s I lp r m' n' T') Q) (fun _ _ => False) { s with heap := h, toks := tk }) :
    LRest prog w A h₀ env x body Q s I lp (v :: r) m news T := h
theorem iter_listT {ax : Addr} {lo : Obj} {vs : List Value} {n : Nat} {m₀ : Str → Option Value} {news : List (Addr × Obj)}
    (hh : A.handled = none) (F : Fr h₀ env.locals s.heap m₀) (N : News h₀ env.locals s.heap news) (hm : (ax, lo) ∈ news) (hc : lo.cls = .type "list") (hd : lo.data = .seq vs.toArray n)
    (rest₀ : ∀ I : Addr, (∀ p ∈ news, p.1 < I) → LRest prog w A h₀ env x body Q s I (ax, lo) vs m₀ news s.toks) :
    wpAny (model prog w) A (pyIter (.ref ax)) (fun it s₂ => LoopT prog w A h₀ env x body Q it s₂) E s := by
  have hax := N _ hm
  have hl : s.heap.IsList ax vs.toArray := ⟨lo, hax.1, hc, n, hd⟩
  have hlt : ax < s.heap.objs.size := Heap.lt_size hax.1
  have hne : ax ≠ s.heap.objs.size := Nat.ne_of_lt hlt
  refine wpAny_pyIter_list hl ?_
  have rest := rest₀ s.heap.objs.size fun p hp => Heap.lt_size (N p hp).1
  have W := Walks.list (prog := prog) (w := w) hh s.heap.objs.size ax hne vs.toArray
  have hnew := next_is_new F
  have hlen : vs.toArray.size = vs.length := by simp
  rw [hlen] at W
  let J : Nat → (Str → Option Value) → List (Addr × Obj) → Nat → Prop := fun i m₁ news₁ T => (ax, lo) ∈ news₁ ∧ LRest prog w A h₀ env x body Q s s.heap.objs.size (ax, lo) (vs.drop i) m₁ news₁ T
  refine ⟨_, _, _, vs.length, _, _, m₀, news, J, rfl, W, ?_, ?_, ?_, ⟨⟨_, Heap.get?_push_size _ rfl, rfl, rfl⟩, hl.at fun o e => Heap.get?_push_of_some _ e⟩, F.push _, (fun p hp => ⟨Heap.get?_push_of_some _ (N p hp).1, (N p hp).2⟩), ⟨hm, by rw [List.drop_zero]; exact rest⟩, ?_, ?_⟩
  · intro hmm
    rcases List.mem_cons.mp hmm with e | hmm
    · exact absurd F.ns.lt (e ▸ Nat.lt_irrefl _)
    · exact hax.2.1 (List.mem_singleton.mp hmm).symm
  · intro b hb
    rw [List.mem_singleton.mp hb]
    exact hnew
  · intro p hp hI
    exact absurd (Heap.lt_size (N p hp).1) ((List.mem_singleton.mp hI) ▸ Nat.lt_irrefl _)
  · rintro i v m₁ news₁ hh' T tk' own hT hin hP ⟨hmem₁, hJ⟩ hoff hown hget hall hst F₁ N₁
    obtain ⟨it, hit, hic, hid⟩ := hst.1
    have hmemI := hall s.heap.objs.size (List.mem_cons_self ..) hnew _ hit
    have hdrop : vs.drop i = v :: vs.drop (i + 1) := by
      have hlt' : i < vs.length := hin
      have hv : vs[i]? = some v := by simpa using hP
      rw [List.drop_eq_getElem_cons hlt']
      congr 1
      exact Option.some.inj ((List.getElem?_eq_getElem hlt').symm.trans hv)
    rw [hdrop] at hJ
    have N₂ : News h₀ env.locals hh' ((s.heap.objs.size, it) :: news₁) := fun p hp => by
      rcases List.mem_cons.mp hp with rfl | hp
      · exact N₁ _ (List.mem_append_left _ hmemI)
      · exact N₁ _ (List.mem_append_right _ hp)
    refine wpAny_mono (hJ it hh' tk' hT hic F₁ N₂) (fun f s₂ p => ?_) fun _ _ e => e
    have fin : (∃ h' tk m' news', s₂ = { s with heap := h', toks := tk } ∧ Fr h₀ env.locals h' m' ∧ News h₀ env.locals h' ((s.heap.objs.size, it) :: news') ∧ (∀ p ∈ news', p.1 ≠ s.heap.objs.size) ∧ ((ax, lo) ∈ news' ∧ LRest prog w A h₀ env x body Q s s.heap.objs.size (ax, lo) (vs.drop (i + 1)) m' news' tk)) →
        ∃ h' tk m₂ news₂, s₂ = { s with heap := h', toks := tk } ∧ Fr h₀ env.locals h' m₂ ∧ News h₀ env.locals h' (own ++ news₂) ∧ (∀ p ∈ news₂, p.1 ∉ [s.heap.objs.size]) ∧ J (i + 1) m₂ news₂ tk := by
      rintro ⟨h', tk, m', news', e, F', N', ho, hmm, r⟩
      refine ⟨h', tk, m', news', e, F', fun p hp => ?_, fun p hp hI => ho p hp (List.mem_singleton.mp hI), hmm, r⟩
      rcases List.mem_append.mp hp with hp | hp
      · have h2 : hh'.get? p.1 = some p.2 := hget p hp
        rcases List.mem_cons.mp (hown p hp) with h1 | h1
        · have h3 : p = (s.heap.objs.size, it) := by
            rw [h1, hit] at h2
            exact Prod.ext h1 (Option.some.inj h2).symm
          rw [h3]; exact N' _ (List.mem_cons_self ..)
        · have h1' : p.1 = ax := List.mem_singleton.mp h1
          have h3 : p = (ax, lo) := by
            rw [h1', (N₁ _ (List.mem_append_right _ hmem₁)).1] at h2
            exact Prod.ext h1' (Option.some.inj h2).symm
          rw [h3]; exact N' _ (List.mem_cons_of_mem _ hmm)
      · exact N' _ (List.mem_cons_of_mem _ hp)
    cases f with
    | ret v => exact p
    | brk => exact p
    | next => exact fin p
    | cont => exact fin p
  · rintro h' tk T m' news' hT F' N' _ ⟨_, hJ⟩
    rw [List.drop_length] at hJ
    exact hJ h' tk hT F' N'

/-- the rest of a loop over a range -/
noncomputable def RRest (prog : Program) (w : World) (A : Around) (h₀ : Heap) (env : Env) (x : Str) (body : List Stmt) (Q : Flow → Shared → Prop) (s : Shared) (I : Addr) (a : Int) (n : Nat) : Nat → Nat → (Str → Option Value) → List (Addr × Obj) → Nat → Prop
  | 0, _, m, news, T => ∀ h tk, T ≤ tk → Fr h₀ env.locals h m → News h₀ env.locals h news → Q .next { s with heap := h, toks := tk }
  | k + 1, i, m, news, T => ∀ t h tk, T ≤ tk → Fr h₀ env.locals h (fun y => if y = x then some (.int (a + (i : Int)) t) else m y) →
      News h₀ env.locals h ((I, itR (a + ((i + 1 : Nat) : Int)) ((n : Int) - ((i + 1 : Nat) : Int))) :: news) →
      wpAny (model prog w) A (execs body env) (UEnd h₀ env.locals { s with heap := h, toks := tk } I (itR (a + ((i + 1 : Nat) : Int)) ((n : Int) - ((i + 1 : Nat) : Int))) (RRest prog w A h₀ env x body Q s I a n k (i + 1)) Q) (fun _ _ => False) { s with heap := h, toks := tk }

theorem RRest.zero {I : Addr} {a : Int} {n i T : Nat} {m : Str → Option Value} {news : List (Addr × Obj)} (h : ∀ h tk, T ≤ tk → Fr h₀ env.locals h m → News h₀ env.locals h news → Q .next { s with heap := h, toks := tk }) :
    RRest prog w A h₀ env x body Q s I a n 0 i m news T := h
theorem RRest.succ {I : Addr} {a : Int} {n k i T : Nat} {m : Str → Option Value} {news : List (Addr × Obj)}
    (h : ∀ t h tk, T ≤ tk → Fr h₀ env.locals h (fun y => if y = x then some (.int (a + (i : Int)) t) else m y) → News h₀ env.locals h ((I, itR (a + ((i + 1 : Nat) : Int)) ((n : Int) - ((i + 1 : Nat) : Int))) :: news) →
      wpAny (model prog w) A (execs body env) (UEnd h₀ env.locals { s with heap := h, toks := tk } I (itR (a + ((i + 1 : Nat) : Int)) ((n : Int) - ((i + 1 : Nat) : Int))) (RRest prog w A h₀ env x body Q s I a n k (i + 1)) Q) (fun _ _ => False) { s with heap := h, toks := tk }) :
    RRest prog w A h₀ env x body Q s I a n (k + 1) i m news T := h
theorem iter_rangeT {r : Addr} {a₀ b₀ : Int} {t₀ u₀ v₀ : Tok} {n : Nat} {m₀ : Str → Option Value} {news : List (Addr × Obj)}
    (hh : A.handled = none) (hr : IsRange s.heap r a₀ b₀ 1 t₀ u₀ v₀) (hsmall : Builtin.Range.small a₀ b₀ 1 = true) (hn : Builtin.Range.rangeSize a₀ b₀ 1 = (n : Int)) (F : Fr h₀ env.locals s.heap m₀) (N : News h₀ env.locals s.heap news)
    (rest₀ : ∀ I : Addr, (∀ p ∈ news, p.1 < I) → RRest prog w A h₀ env x body Q s I a₀ n n 0 m₀ news s.toks) :
    wpAny (model prog w) A (pyIter (.ref r)) (fun it s₂ => LoopT prog w A h₀ env x body Q it s₂) E s := by
  refine wpAny_pyIter_range hr hsmall ?_
  have rest := rest₀ s.heap.objs.size fun p hp => Heap.lt_size (N p hp).1
  have W : Walks prog w A s.heap.objs.size [s.heap.objs.size] [s.heap.objs.size] n (fun i v => i < n ∧ ∃ t, v = .int (a₀ + i * 1) t)
      (fun i h => IsRangeIter h s.heap.objs.size (a₀ + (i : Nat) * 1) ((n : Int) - (i : Nat)) 1) := (Walks.range hh _ a₀ 1 n).bound
  have hnew := next_is_new F
  let J : Nat → (Str → Option Value) → List (Addr × Obj) → Nat → Prop := fun i m₁ news₁ T => RRest prog w A h₀ env x body Q s s.heap.objs.size a₀ n (n - i) i m₁ news₁ T
  refine ⟨_, _, _, n, _, _, m₀, news, J, rfl, W, ?_, ?_, ?_, (by show IsRangeIter _ _ _ _ _; rw [hn]; simpa using Heap.get?_push_size _ rfl), F.push _, (fun p hp => ⟨Heap.get?_push_of_some _ (N p hp).1, (N p hp).2⟩), rest, ?_, ?_⟩
  · intro hm
    exact absurd F.ns.lt ((List.mem_singleton.mp hm) ▸ Nat.lt_irrefl _)
  · intro b hb
    rw [List.mem_singleton.mp hb]
    exact hnew
  · intro p hp hI
    exact absurd (Heap.lt_size (N p hp).1) ((List.mem_singleton.mp hI) ▸ Nat.lt_irrefl _)
  · rintro i v m₁ news₁ hh' T tk' own hT hin ⟨_, t, rfl⟩ hJ hoff hown hget hall hst F₁ N₁
    obtain ⟨j, hj⟩ : ∃ j, n - i = j + 1 := ⟨n - i - 1, by omega⟩
    have hJ' : RRest prog w A h₀ env x body Q s s.heap.objs.size a₀ n (j + 1) i m₁ news₁ T := by
      have q : RRest prog w A h₀ env x body Q s s.heap.objs.size a₀ n (n - i) i m₁ news₁ T := hJ
      rw [hj] at q; exact q
    have hj' : n - (i + 1) = j := by omega
    have hst' : hh'.get? s.heap.objs.size = some (itR (a₀ + ((i + 1 : Nat) : Int)) ((n : Int) - ((i + 1 : Nat) : Int))) := by
      have q : IsRangeIter hh' s.heap.objs.size (a₀ + ((i + 1 : Nat) : Int) * 1) ((n : Int) - ((i + 1 : Nat) : Int)) 1 := hst
      rw [Int.mul_one] at q
      exact q
    have hmem := hall s.heap.objs.size (List.mem_cons_self ..) hnew _ hst'
    have N₂ : News h₀ env.locals hh' ((s.heap.objs.size, itR (a₀ + ((i + 1 : Nat) : Int)) ((n : Int) - ((i + 1 : Nat) : Int))) :: news₁) := fun p hp => by
      rcases List.mem_cons.mp hp with rfl | hp
      · exact N₁ _ (List.mem_append_left _ hmem)
      · exact N₁ _ (List.mem_append_right _ hp)
    have F₁' : Fr h₀ env.locals hh' (fun y => if y = x then some (.int (a₀ + (i : Int)) t) else m₁ y) := by
      have q := F₁
      rw [Int.mul_one] at q
      exact q
    refine wpAny_mono (hJ' t hh' tk' hT F₁' N₂) (fun f s₂ p => ?_) fun _ _ e => e
    have fin : (∃ h' tk m' news', s₂ = { s with heap := h', toks := tk } ∧ Fr h₀ env.locals h' m' ∧ News h₀ env.locals h' ((s.heap.objs.size, itR (a₀ + ((i + 1 : Nat) : Int)) ((n : Int) - ((i + 1 : Nat) : Int))) :: news') ∧ (∀ p ∈ news', p.1 ≠ s.heap.objs.size) ∧ RRest prog w A h₀ env x body Q s s.heap.objs.size a₀ n j (i + 1) m' news' tk) →
        ∃ h' tk m₂ news₂, s₂ = { s with heap := h', toks := tk } ∧ Fr h₀ env.locals h' m₂ ∧ News h₀ env.locals h' (own ++ news₂) ∧ (∀ p ∈ news₂, p.1 ∉ [s.heap.objs.size]) ∧ J (i + 1) m₂ news₂ tk := by
      rintro ⟨h', tk, m', news', e, F', N', ho, r⟩
      refine ⟨h', tk, m', news', e, F', fun p hp => ?_, fun p hp hI => ho p hp (List.mem_singleton.mp hI), ?_⟩
      · rcases List.mem_append.mp hp with hp | hp
        · have h1 : p.1 = s.heap.objs.size := List.mem_singleton.mp (hown p hp)
          have h2 : hh'.get? p.1 = some p.2 := hget p hp
          have h3 : p = (s.heap.objs.size, itR (a₀ + ((i + 1 : Nat) : Int)) ((n : Int) - ((i + 1 : Nat) : Int))) := by
            rw [h1, hst'] at h2
            exact Prod.ext h1 (Option.some.inj h2).symm
          rw [h3]; exact N' _ (List.mem_cons_self ..)
        · exact N' _ (List.mem_cons_of_mem _ hp)
      · show RRest prog w A h₀ env x body Q s s.heap.objs.size a₀ n (n - (i + 1)) (i + 1) m' news' tk
        rw [hj']; exact r
    cases f with
    | ret v => exact p
    | brk => exact p
    | next => exact fin p
    | cont => exact fin p
  · rintro h' tk T m' news' hT F' N' _ hJ
    have hJ' : RRest prog w A h₀ env x body Q s s.heap.objs.size a₀ n 0 n m' news' T := by
      have z : n - n = 0 := Nat.sub_self n
      have q : RRest prog w A h₀ env x body Q s s.heap.objs.size a₀ n (n - n) n m' news' T := hJ
      rw [z] at q; exact q
    exact hJ' h' tk hT F' N'
end
end Mine
end
section
open PySem PySem.W PySem.Calls PyProof.Rows PySem.Spec
set_option maxRecDepth 100000
set_option linter.unusedVariables false
namespace Mine
/-- what sum keeps back of a float that it adds -/
noncomputable def lostF (t x : UInt64) : UInt64 :=
  if (Float64.cmp (Float64.abs t) (Float64.abs x) == some .lt || Float64.isNaN t || Float64.isNaN x) then Float64.add (Float64.sub x (Float64.add t x)) t else Float64.add (Float64.sub t (Float64.add t x)) x
noncomputable def settledF (t c : UInt64) : UInt64 := if Float64.isFinite c && !Float64.isZero c then Float64.add t c else t
noncomputable def fsum (val : Nat → UInt64) : Nat → Nat → UInt64 → UInt64 → UInt64
  | 0, _, t, c => settledF t c
  | k + 1, i, t, c => fsum val k (i + 1) (Float64.add t (val i)) (Float64.add c (lostF t (val i)))
theorem back64 (c : UInt64) : (((c.toNat : Nat) : Int).toNat.toUInt64) = c := by
  rw [Int.toNat_natCast]
  exact UInt64.ofNat_toNat
section
variable {prog : Program} {w : World} {A : Around} {R : Result → Shared → Prop} {I : Addr} {fp wr : List Addr} {n : Nat} {P : Nat → Value → Prop} {St : Nat → Heap → Prop}
theorem codeAny_fsum_loop (W : Walks prog w A.in1 I fp wr n P St) (val : Nat → UInt64) (hval : ∀ i v, P i v → ∃ t, v = .float (val i) t) (S : Addr) (hSf : S ∉ fp) (n0 : Nat) :
    ∀ (k i : Nat) (s : Shared) (t c : UInt64) (tA : Tok) (cn : Nat), n0 ≤ s.toks → n - i = k → i ≤ n → St i s.heap → s.heap.get? S = some { cls := .type "list", dict := none, data := .seq #[.float t tA] cn, slots := #[] } →
    (∀ h' tk t', n0 ≤ t' → t' < tk → (∀ b o, b ∉ wr → b ≠ S → s.heap.get? b = some o → h'.get? b = some o) → R (.ok (.ret (.float (fsum val k i t c) t'))) { s with heap := h', toks := tk }) →
    codeAny (model prog w) A (.builtin "sum.loop" ⟨[.ref I, .ref S, rawInt 1, rawInt (c.toNat : Nat)], []⟩) R s := by
  have hSw : S ∉ wr := fun h => hSf (W.sub _ h)
  intro k
  induction k with
  | zero =>
    intro i s t c tA cn hn0 hk hi hst hS hR
    have hin : i = n := by omega
    subst hin
    refine codeAny_builtin F.entry_sum_loop ?_
    rw [Around.under_plainId F.plain_sum_loop _]
    show wpAny _ A.in1 (seqItems? (.ref S) >>= _) _ _ s
    refine wpAny_bind (wpAny_seqItems hS rfl ?_)
    show wpAny _ A.in1 (tryCatch (pyNext (.ref I)) _ >>= _) _ _ s
    refine wpAny_bind (wpAny_tryCatch (wpAny_with_toks hn0 (W.done s _ _ hst fun h' tk hk' htk => ?_)))
    show wpAny _ A.in1 (mkFloat (if Float64.isFinite (((c.toNat : Nat) : Int).toNat.toUInt64) && !Float64.isZero (((c.toNat : Nat) : Int).toNat.toUInt64) then Float64.add t (((c.toNat : Nat) : Int).toNat.toUInt64) else t) >>= _) _ _ _
    rw [back64]
    refine wpAny_bind (wpAny_mkFloat ?_)
    exact wpAny_pure (hR h' _ _ htk (Nat.lt_succ_self _) fun b o hbw _ e => hk' b o hbw e)
  | succ k ih =>
    intro i s t c tA cn hn0 hk hi hst hS hR
    have hlt : i < n := by omega
    refine codeAny_builtin F.entry_sum_loop ?_
    rw [Around.under_plainId F.plain_sum_loop _]
    show wpAny _ A.in1 (seqItems? (.ref S) >>= _) _ _ s
    refine wpAny_bind (wpAny_seqItems hS rfl ?_)
    show wpAny _ A.in1 (tryCatch (pyNext (.ref I)) _ >>= _) _ _ s
    refine wpAny_bind (wpAny_tryCatch (wpAny_with_toks hn0 (W.item i s _ _ hlt hst fun v h' tk hP hst' hk' htk => ?_)))
    obtain ⟨u, rfl⟩ := hval i v hP
    have hS' := hk' S _ hSw hS
    show wpAny _ A.in1 (rule "sum.compensated" >>= _) _ _ _
    refine wpAny_bind (wpAny_rule ?_)
    refine wpAny_bind (wpAny_mkFloat ?_)
    rw [back64]
    show wpAny _ A.in1 (updateSeq S (fun _ => #[.float (Float64.add t (val i)) tk]) >>= _) _ _ _
    refine wpAny_bind ?_
    refine wpAny_updateSeq hS' rfl (wpAny_pure ⟨plainId_quiet F.plain_sum_loop _, ih (i + 1) _ (Float64.add t (val i)) (Float64.add c (lostF t (val i))) tk _ (Nat.le_succ_of_le htk) (by omega) hlt (W.frame _ _ _ hst' fun b hb o e => ?_) (Heap.get?_update_self _ hS' rfl) fun h'' tk'' t'' ha'' hb'' hk'' => ?_⟩)
    · exact (Heap.get?_update_other _ _ (fun h : S = b => hSf (by rw [h]; exact hb))).trans e
    · exact hR h'' tk'' t'' ha'' hb'' fun b o hbw hbS e => hk'' b o hbw hbS ((Heap.get?_update_other _ _ (Ne.symm hbS)).trans (hk' b o hbw e))

theorem codeAny_fsum_first (W : Walks prog w A.in1 I fp wr (n + 1) P St) (val : Nat → UInt64) (hval : ∀ i v, P i v → ∃ t, v = .float (val i) t) (S : Addr) (hSf : S ∉ fp) (hh : A.handled = none)
    (s : Shared) (tA : Tok) (cn : Nat) (hst : St 0 s.heap) (hS : s.heap.get? S = some { cls := .type "list", dict := none, data := .seq #[.int 0 tA] cn, slots := #[] })
    (hR : ∀ h' tk t', s.toks ≤ t' → t' < tk → (∀ b o, b ∉ wr → b ≠ S → s.heap.get? b = some o → h'.get? b = some o) → R (.ok (.ret (.float (fsum val n 1 (Float64.add (Float64.ofInt 0) (val 0)) 0) t'))) { s with heap := h', toks := tk }) :
    codeAny (model prog w) A (.builtin "sum.loop" ⟨[.ref I, .ref S, rawInt 0, rawInt 0], []⟩) R s := by
  have hSw : S ∉ wr := fun h => hSf (W.sub _ h)
  refine codeAny_builtin F.entry_sum_loop ?_
  rw [Around.under_plainId F.plain_sum_loop _]
  show wpAny _ A.in1 (seqItems? (.ref S) >>= _) _ _ s
  refine wpAny_bind (wpAny_seqItems hS rfl ?_)
  show wpAny _ A.in1 (tryCatch (pyNext (.ref I)) _ >>= _) _ _ s
  refine wpAny_bind (wpAny_tryCatch (wpAny_with_toks (Nat.le_refl _) (W.item 0 s _ _ (Nat.succ_pos _) hst fun v h' tk hP hst' hk' htk => ?_)))
  obtain ⟨u, rfl⟩ := hval 0 v hP
  have hS' := hk' S _ hSw hS
  show wpAny _ A.in1 (rule "sum.leaves-ints" >>= _) _ _ _
  refine wpAny_bind (wpAny_rule ?_)
  show wpAny _ A.in1 ((holding [Value.float (val 0) u] (binaryOp .Add (.int 0 tA) (.float (val 0) u))).attempt >>= _) _ _ _
  refine wpAny_bind (wpAny_attempt (wpAny_holding (AutoFloatOps.add_if_1 (by decide +kernel) ?_)))
  show wpAny _ A.in1 (updateSeq S (fun _ => #[.float (Float64.add (Float64.ofInt 0) (val 0)) tk]) >>= _) _ _ _
  refine wpAny_bind (wpAny_updateSeq hS' rfl ?_)
  have hS₂ := Heap.get?_update_self (Obj.mapSeq fun _ => #[Value.float (Float64.add (Float64.ofInt 0) (val 0)) tk]) hS' rfl
  refine wpAny_bind (wpAny_letGo ?_)
  have e0 : rawInt 0 = rawInt (((0 : UInt64).toNat : Nat) : Int) := rfl
  show wpAny _ A.in1 (updateSeq S (fun _ => #[.float (Float64.add (Float64.ofInt 0) (val 0)) tk]) >>= _) _ _ _
  refine wpAny_bind (wpAny_updateSeq hS₂ rfl (wpAny_pure ⟨plainId_quiet F.plain_sum_loop _, codeAny_fsum_loop W val hval S hSf s.toks n 1 _ (Float64.add (Float64.ofInt 0) (val 0)) 0 tk _ (Nat.le_succ_of_le htk) (by omega) (by omega) (W.frame _ _ _ hst' fun b hb o e => ?_) (Heap.get?_update_self _ hS₂ rfl) fun h'' tk'' t'' ha'' hb'' hk'' => ?_⟩))
  · exact (Heap.get?_update_other _ _ (fun h : S = b => hSf (by rw [h]; exact hb))).trans ((Heap.get?_update_other _ _ (fun h : S = b => hSf (by rw [h]; exact hb))).trans e)
  · exact hR h'' tk'' t'' ha'' hb'' fun b o hbw hbS e => hk'' b o hbw hbS ((Heap.get?_update_other _ _ (Ne.symm hbS)).trans ((Heap.get?_update_other _ _ (Ne.symm hbS)).trans (hk' b o hbw e)))
end
section
variable {prog : Program} {w : World} {A : Around} {E : Value → Shared → Prop} {s : Shared} {h₀ : Heap} {L : Addr} {m : Str → Option Value} {news : List (Addr × Obj)}
/-- the sum of four floats -/
noncomputable def sum4 (a b c d : UInt64) : UInt64 := fsum (fun i => [a, b, c, d].getD i 0) 3 1 (Float64.add (Float64.ofInt 0) a) 0
theorem sum_four {a b c d : UInt64} {ta tb tc td : Tok} {l : Addr} {nl : Nat} {Q : Value → Shared → Prop} (F : Fr h₀ L s.heap m) (N : News h₀ L s.heap news) (hh : A.handled = none) (hm : (l, listOf #[.float a ta, .float b tb, .float c tc, .float d td] nl) ∈ news)
    (h : ∀ h' tk t', s.toks ≤ t' → t' < tk → Fr h₀ L h' m → News h₀ L h' news → Q (.float (sum4 a b c d) t') { s with heap := h', toks := tk }) : wpAny (model prog w) A (call (.builtin "sum") [.ref l]) Q E s := by
  have hl : s.heap.IsList l #[.float a ta, .float b tb, .float c tc, .float d td] := ⟨_, (N _ hm).1, rfl, _, rfl⟩
  have hlt : l < s.heap.objs.size := by obtain ⟨_, e, _⟩ := hl; exact Heap.lt_size e
  refine call_function_tree PySem.F.kind_sum PySem.F.plain_sum PySem.F.entry_sum (PySem.F.args_sum1 _) ?_
  unfold Builtin.«sum»
  simp only [List.length_cons, List.length_nil]
  rw [if_neg (by decide)]
  refine wpAny_bind (wpAny_of_eq (show Builtin.Builtins.bindParams "sum" ["start"] 0 { } = pure [none] from rfl) ?_)
  refine wpAny_bind (wpAny_pyIter_list hl ?_)
  refine wpAny_bind (wpAny_mkInt ?_)
  refine wpAny_bind (wpAny_pure ?_)
  simp only [List.forIn_cons, List.forIn_nil]
  refine wpAny_bind (wpAny_bind (wpAny_bind (wpAny_isInstance (T := "int") (b := false) (typeIs_int _ _ _) PySem.sub_int_str ?_)))
  simp only [Bool.false_eq_true, if_false]
  refine wpAny_pure (wpAny_bind (wpAny_bind (wpAny_isInstance (T := "int") (b := false) (typeIs_int _ _ _) PySem.sub_int_bytes ?_)))
  simp only [Bool.false_eq_true, if_false]
  refine wpAny_pure (wpAny_bind (wpAny_bind (wpAny_isInstance (T := "int") (b := false) (typeIs_int _ _ _) PySem.sub_int_bytearray ?_)))
  simp only [Bool.false_eq_true, if_false]
  refine wpAny_pure (wpAny_pure ?_)
  refine wpAny_bind (wpAny_newObj_type ?_)
  have W := Walks.list (prog := prog) (w := w) (A := A.in1) hh s.heap.objs.size l (Nat.ne_of_lt hlt) #[.float a ta, .float b tb, .float c tc, .float d td]
  have hf : ∀ b ∈ [s.heap.objs.size, l], b < (s.heap.push { cls := .type "list_iterator", data := .fields #[.ref l, .int 0 0] }).objs.size := by
    intro b hb
    rw [Heap.size_push]
    rcases List.mem_cons.mp hb with rfl | hb
    · exact Nat.lt_succ_self _
    · rw [List.mem_singleton.mp hb]; exact Nat.lt_succ_of_lt hlt
  refine wpAny_pure ⟨plainId_quiet PySem.F.plain_sum_loop _, codeAny_fsum_first W (fun i => [a, b, c, d].getD i 0) ?_ _ (fun hm => Nat.lt_irrefl _ (hf _ hm)) hh _ _ 0 ?_ (Heap.get?_push_size _ rfl) fun h' tk t' ha hb hk => ?_⟩
  · intro i v hv
    match i, hv with
    | 0, hv => exact ⟨_, (Option.some.inj hv).symm⟩
    | 1, hv => exact ⟨_, (Option.some.inj hv).symm⟩
    | 2, hv => exact ⟨_, (Option.some.inj hv).symm⟩
    | 3, hv => exact ⟨_, (Option.some.inj hv).symm⟩
    | i + 4, hv => simp at hv
  · exact ⟨⟨_, Heap.get?_push_of_some _ (Heap.get?_push_size _ rfl), rfl, rfl⟩, (hl.push _).push _⟩
  · have up : ∀ x o, s.heap.get? x = some o → h'.get? x = some o := fun x o e => hk x o (fun hm => by rw [List.mem_singleton.mp hm] at e; exact Nat.lt_irrefl _ (Heap.lt_size e)) (fun q => by
        rw [q] at e
        have := Heap.lt_size e
        rw [Heap.size_push] at this
        exact absurd this (Nat.not_lt.mpr (Nat.le_succ _))) (Heap.get?_push_of_some _ (Heap.get?_push_of_some _ e))
    exact h h' tk t' (Nat.le_trans (Nat.le_succ _) ha) hb (F.keeps up) (N.grown up)
end
end Mine
end
section
open PySem PySem.W PySem.Calls PyProof.Rows PySem.Spec
set_option maxRecDepth 100000
set_option linter.unusedVariables false
namespace Mine
section
variable {prog : Program} {w : World} {A : Around} {E : Value → Shared → Prop} {s : Shared}
noncomputable def eqF (a b : UInt64) : Bool := Float64.cmp a b == some .eq
/-- two floats' tokens that may be asked after -/
noncomputable def TokSep (a b : UInt64) (t u : Nat) : Prop := t ≠ 0 ∧ u ≠ 0 ∧ (t = u → a = b)
theorem EqAt_float {a b : UInt64} {t u : Nat} (hs : TokSep a b t u) (hn : a = b → eqF a b = true) (hb : NoneBooked s.heap) : SeqAt.EqAt A s (.float a t) (.float b u) (eqF a b) := fun prog w E Q h => by
  obtain ⟨h0, h1, h2⟩ := hs
  unfold eqBool
  refine wpAny_holding ?_
  refine wpAny_ite_split (fun hab => ?_) (fun _ => ?_)
  · have e := eq_of_beq hab
    have e2 : a = b := by injection e
    rw [hn e2] at h
    exact wpAny_bind (wpAny_rule (wpAny_pure h))
  · have rich : wpAny (model prog w) A (do let r ← richCompare CmpOp.Eq (.float a t) (.float b u); truthOfDropped r) Q E s := by
      refine wpAny_bind ?_
      show wpAny _ _ (compareOp .Eq (.float a t) (.float b u)) _ _ _
      exact AutoFloatOps.eq_0 (wpAny_truthy_bool h)
    refine wpAny_bind ?_
    show wpAny _ _ (isSame.created (a == b && !Float64.isNaN a) t u) _ _ _
    unfold isSame.created
    refine wpAny_ite_split (fun hz => ?_) (fun _ => ?_)
    · exfalso
      simp only [Bool.or_eq_true, beq_iff_eq] at hz
      rcases hz with hz | hz
      · exact h0 hz
      · exact h1 hz
    refine wpAny_ite_split (fun htu => ?_) (fun _ => ?_)
    · have e := h2 (eq_of_beq htu)
      rw [hn e] at h
      exact wpAny_pure (wpAny_pure h)
    refine wpAny_ite_split (fun hc => ?_) (fun hc => ?_)
    · exact wpAny_pure rich
    have hc' : (a == b && !Float64.isNaN a) = true := by simpa using hc
    have e : a = b := by
      rw [Bool.and_eq_true] at hc'
      exact eq_of_beq hc'.1
    refine wpAny_bind (wpAny_sharingNotTold_none hb ?_)
    first | rw [if_neg Bool.false_ne_true] | simp only [Bool.false_eq_true, if_false]
    refine wpAny_bind (wpAny_sharingNotTold_none hb ?_)
    first | rw [if_neg Bool.false_ne_true] | simp only [Bool.false_eq_true, if_false]
    refine wpAny_bind (wpAny_rule (wpAny_bind (wpAny_askSetting (wpAny_pure ?_))))
    refine wpAny_ite_split (fun _ => ?_) (fun _ => ?_)
    · rw [hn e] at h
      exact wpAny_pure h
    · exact rich
end
section
variable {w : World} {mg mb : Str → Option Value} {mean : ExcName → Option Value} {loose : List Str}
theorem none_booked {h : Heap} (X : (K w.params).In h) (T : Top qv loose mean mg mb h) : NoneBooked h := by
  obtain ⟨mc, ⟨o, es, ep, ho, hd, hk, hf⟩, _⟩ := T.nolimit
  refine ⟨mc, ⟨o, es, ep, ho, hd, hk, hf⟩, ?_⟩
  rw [← hf]
  have e : h.get? 2 = some (boot_o_2 w.params) := X 2 _ rfl
  have e2 : o = boot_o_2 w.params := Option.some.inj (ho.symm.trans e)
  subst e2
  have e3 : (boot_o_2 w.params).data = .dict es ep := hd
  have e4 : nsFind (match (boot_o_2 w.params).data with | .dict es _ => es | _ => #[]) sharingNotToldKey = none := by kernel_rfl
  rw [e3] at e4
  exact e4
theorem NoneBooked.keeps {h h' : Heap} (x : NoneBooked h) (hk : ∀ b o, h.get? b = some o → h'.get? b = some o) : NoneBooked h' := by
  obtain ⟨mc, hn, he⟩ := x
  exact ⟨mc, hn.keeps hk, he⟩
end
end Mine
end
section
open PySem PySem.W PySem.Calls PyProof.Rows PySem.Spec LCg LCt
set_option maxRecDepth 100000
set_option linter.unusedVariables false
namespace Mine
section
variable {prog : Program} {w : World} {A : Around} {E : Value → Shared → Prop} {s : Shared} {h₀ : Heap} {L : Addr} {m : Str → Option Value} {env : Env}
theorem tuple_st {ax I : Addr} {its : Array Value} {ot : Obj} (hc : ot.cls = .type "tuple") (hd : ∃ n, ot.data = .seq its n) : ∀ i (h h' : Heap) (o : Obj) (nw : List (Addr × Obj)), (h.IsTupleIter I ax i ∧ h.IsTuple ax its) → h.get? I = some o → h'.get? I = some o →
    (∀ b o, h₀.get? b = some o → h'.get? b = some o) → News h₀ L h' nw → (ax, ot) ∈ nw → (h'.IsTupleIter I ax i ∧ h'.IsTuple ax its) := by
  intro i h h' o nw st e e' _ N hm
  refine ⟨?_, ⟨ot, (N _ hm).1, hc, hd⟩⟩
  obtain ⟨o', ho', r⟩ := st.1
  rw [e] at ho'
  cases ho'
  exact ⟨o, e', r⟩
/-- a list comprehension with one test over a tuple of the ledger, under a name -/
theorem assign_tupT {ct elt iter : PySem.Expr} {x y : Str} {px py : Pos} {scope : Scope} {cl : List (Str × Addr)} {pos spos : Pos} {Q : Flow → Shared → Prop} (hLe : env.locals = L)
    (hsw : swapsWith (.ListComp elt [⟨.Name x px, iter, [ct], 0⟩] scope pos) (some (.Name y py)) spos.line env = pure true)
    (hclos : closureFor scope env = pure cl) (hcell : ∀ z ∈ scope.names, z.2 ≠ .cell) (hkind : scope.kind = .function)
    (hnames : ∀ z ∈ scope.names, z.2 = .local → scope.names.lookup z.1 = some .local) (hx : scope.names.lookup x = some .local)
    (hy : env.kindOf y = some .local) (hp : (env.scope.kind == .class || (env.scope.kind == .module && env.locals != env.globals)) = false)
    (h : wpAny (model prog w) A (eval iter env) (fun xv s₁ => ∃ ax ot its n news, xv = .ref ax ∧ A.handled = none ∧ Fr h₀ L s₁.heap m ∧ News h₀ L s₁.heap news ∧ (ax, ot) ∈ news ∧ ot.cls = .type "tuple" ∧ ot.data = .seq its n ∧ its.size ≤ sizeLine ∧
      ∀ g, CompRestT prog w A h₀ L m env ct elt x scope cl { s₁ with heap := g } (fun nw => (ax, ot) ∈ nw) (fun i v => its[i]? = some v) (FinA h₀ L m { s₁ with heap := g } y Q) its.size 0 [] news) E s)
    (hs : ∀ x, foldedSetIterable iter env x = pure x := by intro _; rfl) :
    wpAny (model prog w) A (exec (.Assign [.Name y py] (.ListComp elt [⟨.Name x px, iter, [ct], 0⟩] scope pos) spos) env) Q E s := by
  subst hLe
  rw [exec_Assign_Name_used _ _ _ _ hsw]
  refine wpAny_bind (wpAny_standAt (wpAny_bind ?_))
  show wpAny _ A (do let _ ← comprehension (.ListComp elt [⟨.Name x px, iter, [ct], 0⟩] scope pos) scope env _ (newList []) false (eval iter env) (some (assign (.Name y py) env))) _ _ s
  refine wpAny_bind (wpAny_mono (wpAny_comprehension_free (use := some (assign (.Name y py) env)) (Q := fun _ s' => Q .next s') rfl hs hclos hkind hnames
    (wpAny_mono h (fun xv s₁ h₁ => ?_) fun _ _ e => e)) (fun _ s' hq => wpAny_pure (wpAny_pure hq)) fun _ _ e => e)
  obtain ⟨ax, ot, its, n, news, rfl, hh, F, N, hm, hc, hd, hsz, R⟩ := h₁
  have hl : s₁.heap.IsTuple ax its := ⟨ot, (N _ hm).1, hc, n, hd⟩
  have hlt : ax < s₁.heap.objs.size := Heap.lt_size (N _ hm).1
  refine wpAny_pyIter_tuple hl ?_
  have up : ∀ b o, s₁.heap.get? b = some o → (s₁.heap.push { cls := .type "tuple_iterator", data := .fields #[.ref ax, .int 0 0] }).get? b = some o := fun b o e => Heap.get?_push_of_some _ e
  refine block_T (Walks.tuple hh s₁.heap.objs.size ax (Nat.ne_of_lt hlt) its) hsz (fun i h st => by obtain ⟨o, e, _⟩ := st.1; exact ⟨o, e⟩) (tuple_st hc ⟨n, hd⟩) hcell hkind hx ⟨⟨_, Heap.get?_push_size _ rfl, rfl, rfl⟩, hl.push _⟩ (fun b hb => ?_)
    (F.keeps up) (N.grown up) (Nat.ne_of_lt F.ns.lt) (next_is_new F) (fun p hp => Nat.ne_of_lt (Heap.lt_size (N p hp).1)) hm (R _) ?_
  · show b < (s₁.heap.push _).objs.size
    rw [Heap.size_push]
    rcases List.mem_cons.mp hb with rfl | hb
    · exact Nat.lt_succ_self _
    · rw [List.mem_singleton.mp hb]; exact Nat.lt_succ_of_lt hlt
  · intro D C h' tk m' ys news' F' N' o1 hn hC₀ hD₀ hCL hDL hCD offC fin
    show wpAny _ A (assign (.Name y py) env (.ref D)) _ _ _
    refine wpAny_assign_Name (wpAny_storeName_local hy F'.ns (fun h₂ hn₂ hs₂ => ?_) hp)
    have hL₀ : h₀.get? env.locals = none := Heap.get?_none_of_le F'.above
    have F₂ : Fr h₀ env.locals h₂ (fun z => if z = y then some (.ref D) else m z) := ⟨hn₂, fun b o e => hs₂.extBut b o (fun q => by rw [q, hL₀] at e; cases e) (F'.keep b o e), F'.above⟩
    refine ⟨m', hn.sameBut hs₂ hCL, fun h'' hs'' => fin D h'' _ (F₂.change hs'' hCL hC₀) (fun p hp => ?_) o1⟩
    have z : h₂.get? p.1 = some p.2 := hs₂.extBut _ _ (N' p hp).2.1 (N' p hp).1
    refine ⟨hs''.extBut _ _ ?_ z, (N' p hp).2⟩
    rcases List.mem_cons.mp hp with rfl | hp
    · exact Ne.symm hCD
    · exact offC p hp
end
end Mine
end
section
open PySem PySem.W PySem.Calls PyProof.Rows PySem.Spec LCg
set_option maxRecDepth 100000
set_option linter.unusedVariables false
set_option pp.deepTerms false
set_option pp.deepTerms.threshold 7
namespace Mine
/-- the law's body and scope, by name -/
noncomputable abbrev stAt (i : Nat) {b : Stmt} (_ : lawAt.1.1.body[i]? = some b) : Stmt := b
noncomputable abbrev scAt {c : Scope} (_ : lawAt.1.1.scope = c) : Scope := c
noncomputable abbrev lawEnv (L fa ca : Addr) : Env := envOfC (Str.ofString "law") (scAt rfl) L fa (.ref ca)
theorem news_ne {h₀ h : Heap} {L a b : Addr} {l : List (Addr × Obj)} {o o' : Obj} (N : News h₀ L h l) (m1 : (a, o) ∈ l) (m2 : (b, o') ∈ l) (hd : o.data ≠ o'.data) : @Ne Nat a b := fun e => by
  have e : a = b := e
  subst e
  have h1 := (N _ m1).1
  have h2 := (N _ m2).1
  dsimp only at h1 h2
  rw [h1] at h2
  cases h2
  exact hd rfl
theorem news_nil {h₀ h : Heap} {L : Addr} : News h₀ L h [] := fun p hp => nomatch hp
theorem news_cons {h₀ h : Heap} {L : Addr} {b a : List (Addr × Obj)} {p : Addr × Obj} (N : News h₀ L h b) (e : p ∈ b) (r : News h₀ L h a) : News h₀ L h (p :: a) := fun q hq => by
  rcases List.mem_cons.mp hq with rfl | hq
  · exact N _ e
  · exact r q hq
/-- a map with one more name -/
noncomputable abbrev putM (x : Str) (v : Value) (m : Str → Option Value) : Str → Option Value := fun y => if y = x then some v else m y
theorem filledA : PySem.Challenge.rw_tp0034_01 = PySem.Challenge.rw_tp0034_01 ∧ K = K := by k_fill; exact ⟨rfl, rfl⟩
section
variable {w : World} {A A₀ : Around} {base h₀ : Heap} {outer : List Env} {L fa ca c0 c1 c2 c3 : Addr} {m mg mb : Str → Option Value} {mean : ExcName → Option Value} {loose : List Str} {s : Shared}
  {o0 o1 o2 o3 : Obj} {Q : Flow → Shared → Prop} {E : Value → Shared → Prop} {rest : List Stmt}
set_option maxHeartbeats 4000000 in
theorem st_size {D : Addr} {d0 d1 d2 d3 d4 : Int} {t0 t1 t2 t3 t4 : Tok} {nD : Nat} (B : Below A₀ base outer h₀) (F : Fr h₀ L s.heap m) (X₀ : (K w.params).In h₀) (Y₀ : TopFacts w h₀) (T : Top qv loose mean mg mb h₀)
    (N : News h₀ L s.heap [(L + 1 + 1 + 1 + 1, o3), (L + 1 + 1 + 1, o2), (L + 1 + 1, o1), (L + 1, o0), (D, listOf #[.int d0 t0, .int d1 t1, .int d2 t2, .int d3 t3, .int d4 t4] nD)])
    (ho : o0.data = .cell (some (.ref D))) (hd0 : 0 ≤ d0) (hd1 : 0 ≤ d1) (hd2 : 0 ≤ d2) (hd3 : 0 ≤ d3) (hd4 : 0 ≤ d4) (hD : d4 < 1000000) (hD1 : d1 < 1000000) (hD2 : d2 < 1000000) (hD3 : d3 < 1000000) (hA : A.frames = some (lawEnv L fa ca :: outer)) (hroom : A.depth + 5 < recursionLimit) (hh : A.handled = none)
    {n : Nat} (hT : n ≤ s.toks) (next : ∀ h' tk, n ≤ tk → 1 ≤ tk → ∀ (sz : Int) (ts : Tok), (sz = 8 ∨ sz = 16 ∨ sz = 32) → Fr h₀ L h' (putM (Str.ofString "size") (.int sz ts) m) → News h₀ L h' [(L + 1 + 1 + 1 + 1, o3), (L + 1 + 1 + 1, o2), (L + 1 + 1, o1), (L + 1, o0), (D, listOf #[.int d0 t0, .int d1 t1, .int d2 t2, .int d3 t3, .int d4 t4] nD)] →
      wpAny (model pw w) A (execs rest (lawEnv L fa ca)) Q E { s with heap := h', toks := tk }) :
    wpAny (model pw w) A (execs (stAt 2 rfl :: rest) (lawEnv L fa ca)) Q E s := by
  obtain ⟨hdl, dep, frm, gds, uni⟩ := A
  obtain rfl : hdl = none := hh
  obtain rfl : frm = some (lawEnv L fa ca :: outer) := hA
  w_on
  try dsimp only
  with_reducible refine wpAny_execs_cons (wpAny_with_toks hT ?_)
  k_steps
  all_goals (
    (with_reducible rename Fr _ _ _ _ => kF)
    (with_reducible rename News _ _ _ _ => kN)
    (try simp only [List.cons_append, List.nil_append] at kN)
    refine next _ _ (by assumption) ?_ _ _ ?_ kF (by (repeat (refine news_cons kN (by repeat (first | with_reducible exact List.mem_cons_self | with_reducible refine List.mem_cons_of_mem _ ?_)) ?_)); exact news_nil)
    all_goals first | exact .inl rfl | exact .inr (.inl rfl) | exact .inr (.inr rfl) | ((try dsimp only); omega))

set_option maxHeartbeats 4000000 in
theorem st_pq {D : Addr} {d0 d1 d2 d3 d4 : Int} {t0 t1 t2 t3 t4 : Tok} {nD : Nat} {sz : Int} {ts : Tok} (B : Below A₀ base outer h₀) (F : Fr h₀ L s.heap (putM (Str.ofString "size") (.int sz ts) m)) (X₀ : (K w.params).In h₀) (Y₀ : TopFacts w h₀) (T : Top qv loose mean mg mb h₀)
    (N : News h₀ L s.heap [(L + 1 + 1 + 1 + 1, o3), (L + 1 + 1 + 1, o2), (L + 1 + 1, o1), (L + 1, o0), (D, listOf #[.int d0 t0, .int d1 t1, .int d2 t2, .int d3 t3, .int d4 t4] nD)])
    (ho : o0.data = .cell (some (.ref D))) (hd0 : 0 ≤ d0) (hd1 : 0 ≤ d1) (hd2 : 0 ≤ d2) (hd3 : 0 ≤ d3) (hd4 : 0 ≤ d4) (hD : d4 < 1000000) (hD1 : d1 < 1000000) (hD2 : d2 < 1000000) (hD3 : d3 < 1000000) (hz0 : 0 < sz) (hz1 : sz ≤ 32) (hA : A.frames = some (lawEnv L fa ca :: outer)) (hroom : A.depth + 5 < recursionLimit) (hh : A.handled = none)
    {n : Nat} (hT : n ≤ s.toks) (next : ∀ h' tk, n ≤ tk → ∀ (p q : Int) (tp tq : Tok), (0 ≤ p ∧ p < sz) → (0 ≤ q ∧ q < sz) → Fr h₀ L h' (putM (Str.ofString "p") (.int p tp) (putM (Str.ofString "q") (.int q tq) (putM (Str.ofString "size") (.int sz ts) m))) → News h₀ L h' [(L + 1 + 1 + 1 + 1, o3), (L + 1 + 1 + 1, o2), (L + 1 + 1, o1), (L + 1, o0), (D, listOf #[.int d0 t0, .int d1 t1, .int d2 t2, .int d3 t3, .int d4 t4] nD)] →
      wpAny (model pw w) A (execs rest (lawEnv L fa ca)) Q E { s with heap := h', toks := tk }) :
    wpAny (model pw w) A (execs (stAt 3 rfl :: rest) (lawEnv L fa ca)) Q E s := by
  obtain ⟨hdl, dep, frm, gds, uni⟩ := A
  obtain rfl : hdl = none := hh
  obtain rfl : frm = some (lawEnv L fa ca :: outer) := hA
  w_on
  try dsimp only
  with_reducible refine wpAny_execs_cons (wpAny_with_toks hT ?_)
  k_steps
  all_goals (
    (with_reducible rename Fr _ _ _ _ => kF)
    (with_reducible rename News _ _ _ _ => kN)
    (try simp only [List.cons_append, List.nil_append] at kN)
    refine next _ _ (by assumption) _ _ _ _ ?_ ?_ kF (by (repeat (refine news_cons kN (by repeat (first | with_reducible exact List.mem_cons_self | with_reducible refine List.mem_cons_of_mem _ ?_)) ?_)); exact news_nil)
    all_goals exact ⟨Int.fmod_nonneg_of_pos _ hz0, Int.fmod_lt_of_pos _ hz0⟩)

set_option maxHeartbeats 4000000 in
theorem st_bits {D : Addr} {d0 d1 d2 d3 d4 : Int} {t0 t1 t2 t3 t4 : Tok} {nD : Nat} (B : Below A₀ base outer h₀) (F : Fr h₀ L s.heap m) (X₀ : (K w.params).In h₀) (Y₀ : TopFacts w h₀) (T : Top qv loose mean mg mb h₀)
    (N : News h₀ L s.heap [(L + 1 + 1 + 1 + 1, o3), (L + 1 + 1 + 1, o2), (L + 1 + 1, o1), (L + 1, o0), (D, listOf #[.int d0 t0, .int d1 t1, .int d2 t2, .int d3 t3, .int d4 t4] nD)])
    (ho : o0.data = .cell (some (.ref D))) (hd0 : 0 ≤ d0) (hd1 : 0 ≤ d1) (hd2 : 0 ≤ d2) (hd3 : 0 ≤ d3) (hd4 : 0 ≤ d4) (hD : d4 < 1000000) (hD1 : d1 < 1000000) (hD2 : d2 < 1000000) (hD3 : d3 < 1000000) (hA : A.frames = some (lawEnv L fa ca :: outer)) (hroom : A.depth + 5 < recursionLimit) (hh : A.handled = none)
    {n : Nat} (hT : n ≤ s.toks) (next : ∀ h' tk, n ≤ tk → ∀ (bi : Int) (tb : Tok), 0 ≤ bi → bi < 1000000 → Fr h₀ L h' (putM (Str.ofString "bits") (.int bi tb) m) → News h₀ L h' [(L + 1 + 1 + 1 + 1, o3), (L + 1 + 1 + 1, o2), (L + 1 + 1, o1), (L + 1, o0), (D, listOf #[.int d0 t0, .int d1 t1, .int d2 t2, .int d3 t3, .int d4 t4] nD)] →
      wpAny (model pw w) A (execs rest (lawEnv L fa ca)) Q E { s with heap := h', toks := tk }) :
    wpAny (model pw w) A (execs (stAt 4 rfl :: rest) (lawEnv L fa ca)) Q E s := by
  obtain ⟨hdl, dep, frm, gds, uni⟩ := A
  obtain rfl : hdl = none := hh
  obtain rfl : frm = some (lawEnv L fa ca :: outer) := hA
  w_on
  try dsimp only
  with_reducible refine wpAny_execs_cons (wpAny_with_toks hT ?_)
  k_steps
  all_goals (
    (with_reducible rename Fr _ _ _ _ => kF)
    (with_reducible rename News _ _ _ _ => kN)
    (try simp only [List.cons_append, List.nil_append] at kN)
    refine next _ _ (by assumption) _ _ ?_ ?_ kF (by (repeat (refine news_cons kN (by repeat (first | with_reducible exact List.mem_cons_self | with_reducible refine List.mem_cons_of_mem _ ?_)) ?_)); exact news_nil)
    all_goals assumption)

noncomputable def IsPart (x : UInt64) : Prop := x = 4607182418800017408 ∨ x = 4602678819172646912 ∨ x = 4598175219545276416
noncomputable def Bit (b : Int) : Prop := b = 0 ∨ b = 1
theorem bit_of (a : Int) : Bit (a.fmod 2) := by
  have h1 := Int.fmod_nonneg_of_pos a (show (0 : Int) < 2 by decide)
  have h2 := Int.fmod_lt_of_pos a (show (0 : Int) < 2 by decide)
  unfold Bit; omega
noncomputable def Corn (sz p q n0 n1 n2 n3 : Int) : Prop := ∃ b0 b1 b2 b3 : Int, Bit b0 ∧ Bit b1 ∧ Bit b2 ∧ Bit b3 ∧ n0 = p + q - 1 - sz * b0 ∧ n1 = sz * b1 - p ∧ n2 = sz * b2 - q ∧ n3 = 1 - sz * b3
set_option maxHeartbeats 4000000 in
theorem st_share {D : Addr} {d0 d1 d2 d3 d4 : Int} {t0 t1 t2 t3 t4 : Tok} {nD : Nat} {bi : Int} {tb : Tok} (B : Below A₀ base outer h₀) (F : Fr h₀ L s.heap (putM (Str.ofString "bits") (.int bi tb) m)) (X₀ : (K w.params).In h₀) (Y₀ : TopFacts w h₀) (T : Top qv loose mean mg mb h₀)
    (N : News h₀ L s.heap [(L + 1 + 1 + 1 + 1, o3), (L + 1 + 1 + 1, o2), (L + 1 + 1, o1), (L + 1, o0), (D, listOf #[.int d0 t0, .int d1 t1, .int d2 t2, .int d3 t3, .int d4 t4] nD)])
    (ho : o0.data = .cell (some (.ref D))) (hd0 : 0 ≤ d0) (hd1 : 0 ≤ d1) (hd2 : 0 ≤ d2) (hd3 : 0 ≤ d3) (hd4 : 0 ≤ d4) (hD : d4 < 1000000) (hD1 : d1 < 1000000) (hD2 : d2 < 1000000) (hD3 : d3 < 1000000) (hb : 0 ≤ bi) (hA : A.frames = some (lawEnv L fa ca :: outer)) (hroom : A.depth + 5 < recursionLimit) (hh : A.handled = none)
    {n : Nat} (hT : n ≤ s.toks) (next : ∀ h' tk, n ≤ tk → ∀ (sh : UInt64) (tf : Tok), IsPart sh → Fr h₀ L h' (putM (Str.ofString "share") (.float sh tf) (putM (Str.ofString "bits") (.int bi tb) m)) → News h₀ L h' [(L + 1 + 1 + 1 + 1, o3), (L + 1 + 1 + 1, o2), (L + 1 + 1, o1), (L + 1, o0), (D, listOf #[.int d0 t0, .int d1 t1, .int d2 t2, .int d3 t3, .int d4 t4] nD)] →
      wpAny (model pw w) A (execs rest (lawEnv L fa ca)) Q E { s with heap := h', toks := tk }) :
    wpAny (model pw w) A (execs (stAt 5 rfl :: rest) (lawEnv L fa ca)) Q E s := by
  obtain ⟨hdl, dep, frm, gds, uni⟩ := A
  obtain rfl : hdl = none := hh
  obtain rfl : frm = some (lawEnv L fa ca :: outer) := hA
  w_on
  try dsimp only
  with_reducible refine wpAny_execs_cons (wpAny_with_toks hT ?_)
  k_steps
  all_goals (
    (with_reducible rename Fr _ _ _ _ => kF)
    (with_reducible rename News _ _ _ _ => kN)
    (try simp only [List.cons_append, List.nil_append] at kN)
    refine next _ _ (by assumption) _ _ ?_ kF (by (repeat (refine news_cons kN (by repeat (first | with_reducible exact List.mem_cons_self | with_reducible refine List.mem_cons_of_mem _ ?_)) ?_)); exact news_nil)
    first | exact .inl rfl | exact .inr (.inl rfl) | exact .inr (.inr rfl))

set_option maxHeartbeats 4000000 in
theorem st_value {D : Addr} {d0 d1 d2 d3 d4 : Int} {t0 t1 t2 t3 t4 : Tok} {nD : Nat} {bi : Int} {tb : Tok} {sh : UInt64} {tf : Tok} (B : Below A₀ base outer h₀) (F : Fr h₀ L s.heap (putM (Str.ofString "share") (.float sh tf) (putM (Str.ofString "bits") (.int bi tb) m))) (X₀ : (K w.params).In h₀) (Y₀ : TopFacts w h₀) (T : Top qv loose mean mg mb h₀)
    (N : News h₀ L s.heap [(L + 1 + 1 + 1 + 1, o3), (L + 1 + 1 + 1, o2), (L + 1 + 1, o1), (L + 1, o0), (D, listOf #[.int d0 t0, .int d1 t1, .int d2 t2, .int d3 t3, .int d4 t4] nD)])
    (ho : o0.data = .cell (some (.ref D))) (hd0 : 0 ≤ d0) (hd1 : 0 ≤ d1) (hd2 : 0 ≤ d2) (hd3 : 0 ≤ d3) (hd4 : 0 ≤ d4) (hD : d4 < 1000000) (hD1 : d1 < 1000000) (hD2 : d2 < 1000000) (hD3 : d3 < 1000000) (hb : 0 ≤ bi) (hA : A.frames = some (lawEnv L fa ca :: outer)) (hroom : A.depth + 5 < recursionLimit) (hh : A.handled = none)
    {n : Nat} (hT : n ≤ s.toks) (next : ∀ h' tk, n ≤ tk → ∀ (va : UInt64) (tv : Nat), IsPart va → (n ≤ tv ∧ tv < tk) → Fr h₀ L h' (putM (Str.ofString "value") (.float va tv) (putM (Str.ofString "share") (.float sh tf) (putM (Str.ofString "bits") (.int bi tb) m))) → News h₀ L h' [(L + 1 + 1 + 1 + 1, o3), (L + 1 + 1 + 1, o2), (L + 1 + 1, o1), (L + 1, o0), (D, listOf #[.int d0 t0, .int d1 t1, .int d2 t2, .int d3 t3, .int d4 t4] nD)] →
      wpAny (model pw w) A (execs rest (lawEnv L fa ca)) Q E { s with heap := h', toks := tk }) :
    wpAny (model pw w) A (execs (stAt 6 rfl :: rest) (lawEnv L fa ca)) Q E s := by
  obtain ⟨hdl, dep, frm, gds, uni⟩ := A
  obtain rfl : hdl = none := hh
  obtain rfl : frm = some (lawEnv L fa ca :: outer) := hA
  w_on
  try dsimp only
  with_reducible refine wpAny_execs_cons (wpAny_with_toks hT ?_)
  k_steps
  all_goals (
    (with_reducible rename Fr _ _ _ _ => kF)
    (with_reducible rename News _ _ _ _ => kN)
    (try simp only [List.cons_append, List.nil_append] at kN)
    refine next _ _ (by assumption) _ _ ?_ ?_ kF (by (repeat (refine news_cons kN (by repeat (first | with_reducible exact List.mem_cons_self | with_reducible refine List.mem_cons_of_mem _ ?_)) ?_)); exact news_nil)
    all_goals first | exact .inl rfl | exact .inr (.inl rfl) | exact .inr (.inr rfl) | (refine ⟨?_, ?_⟩ <;> (try dsimp only) <;> omega))

end
end Mine
end
section
open PySem PySem.W PySem.Calls PyProof.Rows PySem.Spec LCg
set_option maxRecDepth 100000
set_option linter.unusedVariables false
set_option pp.deepTerms false
set_option pp.deepTerms.threshold 7
namespace Mine
theorem filledB : PySem.Challenge.rw_tp0034_01 = PySem.Challenge.rw_tp0034_01 ∧ K = K := by k_fill; exact ⟨rfl, rfl⟩
section
variable {w : World} {A A₀ : Around} {base h₀ : Heap} {outer : List Env} {L fa ca c0 c1 c2 c3 : Addr} {m mg mb : Str → Option Value} {mean : ExcName → Option Value} {loose : List Str} {s : Shared}
  {o0 o1 o2 o3 : Obj} {Q : Flow → Shared → Prop} {E : Value → Shared → Prop} {rest : List Stmt}
set_option maxHeartbeats 4000000 in
theorem st_corners {D : Addr} {d0 d1 d2 d3 d4 : Int} {t0 t1 t2 t3 t4 : Tok} {nD : Nat} {bi p q sz : Int} {tb tp tq ts : Tok} {sh va : UInt64} {tf tv : Tok} (B : Below A₀ base outer h₀) (F : Fr h₀ L s.heap (putM (Str.ofString "value") (.float va tv) (putM (Str.ofString "share") (.float sh tf) (putM (Str.ofString "bits") (.int bi tb) (putM (Str.ofString "p") (.int p tp) (putM (Str.ofString "q") (.int q tq) (putM (Str.ofString "size") (.int sz ts) m))))))) (X₀ : (K w.params).In h₀) (Y₀ : TopFacts w h₀) (T : Top qv loose mean mg mb h₀)
    (N : News h₀ L s.heap [(L + 1 + 1 + 1 + 1, o3), (L + 1 + 1 + 1, o2), (L + 1 + 1, o1), (L + 1, o0), (D, listOf #[.int d0 t0, .int d1 t1, .int d2 t2, .int d3 t3, .int d4 t4] nD)])
    (ho : o0.data = .cell (some (.ref D))) (hd0 : 0 ≤ d0) (hd1 : 0 ≤ d1) (hd2 : 0 ≤ d2) (hd3 : 0 ≤ d3) (hd4 : 0 ≤ d4) (hD : d4 < 1000000) (hD1 : d1 < 1000000) (hD2 : d2 < 1000000) (hD3 : d3 < 1000000) (hb : 0 ≤ bi) (hb1 : bi < 1000000) (hp : 0 ≤ p ∧ p < sz) (hq : 0 ≤ q ∧ q < sz) (hz0 : 0 < sz) (hz1 : sz ≤ 32) (ho1 : o1.data = .cell none) (hA : A.frames = some (lawEnv L fa ca :: outer)) (hroom : A.depth + 5 < recursionLimit) (hh : A.handled = none)
    {n : Nat} (hT : n ≤ s.toks) (next : ∀ h' tk, n ≤ tk → ∀ (n0 n1 n2 n3 : Int) (tn0 tn1 tn2 tn3 : Tok) (nC : Nat) (Dc : Addr) (o1' : Obj), Corn sz p q n0 n1 n2 n3 → o1'.data = .cell (some (.ref Dc)) →  Fr h₀ L h' (putM (Str.ofString "value") (.float va tv) (putM (Str.ofString "share") (.float sh tf) (putM (Str.ofString "bits") (.int bi tb) (putM (Str.ofString "p") (.int p tp) (putM (Str.ofString "q") (.int q tq) (putM (Str.ofString "size") (.int sz ts) m)))))) → News h₀ L h' [(L + 1 + 1 + 1 + 1, o3), (L + 1 + 1 + 1, o2), (L + 1 + 1, o1'), (L + 1, o0), (D, listOf #[.int d0 t0, .int d1 t1, .int d2 t2, .int d3 t3, .int d4 t4] nD), (Dc, listOf #[.int n0 tn0, .int n1 tn1, .int n2 tn2, .int n3 tn3] nC)] →
      wpAny (model pw w) A (execs rest (lawEnv L fa ca)) Q E { s with heap := h', toks := tk }) :
    wpAny (model pw w) A (execs (stAt 7 rfl :: rest) (lawEnv L fa ca)) Q E s := by
  obtain ⟨hdl, dep, frm, gds, uni⟩ := A
  obtain rfl : hdl = none := hh
  obtain rfl : frm = some (lawEnv L fa ca :: outer) := hA
  w_on
  try dsimp only
  with_reducible refine wpAny_execs_cons (wpAny_with_toks hT ?_)
  k_steps
  all_goals (
    (with_reducible rename Fr _ _ _ _ => kF)
    (with_reducible rename News _ _ _ _ => kN)
    (try simp only [List.cons_append, List.nil_append] at kN)
    refine next _ _ (by assumption) _ _ _ _ _ _ _ _ _ _ _ ?_ ?_ kF (by (repeat (refine news_cons kN (by repeat (first | with_reducible exact List.mem_cons_self | with_reducible refine List.mem_cons_of_mem _ ?_)) ?_)); exact news_nil)
    all_goals first | assumption | exact ⟨_, _, _, _, bit_of _, bit_of _, bit_of _, bit_of _, rfl, rfl, rfl, rfl⟩)

end
end Mine
end
section
open PySem PySem.W PySem.Calls PyProof.Rows PySem.Spec LCg
set_option maxRecDepth 100000
set_option linter.unusedVariables false
set_option pp.deepTerms false
set_option pp.deepTerms.threshold 6
namespace Mine
theorem filledC : PySem.Challenge.rw_tp0034_01 = PySem.Challenge.rw_tp0034_01 ∧ K = K := by k_fill; exact ⟨rfl, rfl⟩
section
variable {w : World} {A A₀ : Around} {base h₀ : Heap} {outer : List Env} {L fa ca c0 c1 c2 c3 : Addr} {m mg mb : Str → Option Value} {mean : ExcName → Option Value} {loose : List Str} {s : Shared}
  {o0 o1 o2 o3 : Obj} {Q : Flow → Shared → Prop} {E : Value → Shared → Prop} {rest : List Stmt}
theorem typedS_len {n : Int} (f : Int) (hn : n.natAbs < 256) : (typedS n f).length ≤ 4 := by
  have h1 := apB_short hn
  have h2 := typed_len (decide (n < 0)) (apB n.natAbs) f
  show (List.toArray _).size ≤ 4
  rw [List.size_toArray]
  omega
local macro_rules | `(tactic| walk_at "eval ListComp") => `(tactic| ((with_reducible show wpAny _ _ (eval (Expr.ListComp _ _ _ _) _) _ _ _); refine Stop.out ?_))
local macro_rules | `(tactic| walk_at "CompSrc") => `(tactic| ((with_reducible show LCg.CompSrc _ _ _ _ _ _ _ _ _ _ _ _ _ _); refine Stop.out ?_))
local macro_rules | `(tactic| walk_at "call ref") => `(tactic| ((with_reducible show wpAny _ _ (call (Value.ref 138) _) _ _ _); (with_reducible rename Fr _ _ _ _ => kF); (with_reducible rename News _ _ _ _ => kN); refine typed_call (by assumption) kF (by assumption) (by assumption) kN (by assumption) rfl rfl rfl (by simp only at *; omega) rfl (by assumption) (by omega) (by omega) ?_; clear kF kN; intro h' tk t' F' N'; try dsimp only))
set_option maxHeartbeats 4000000 in
theorem st_text {D : Addr} {d0 d1 d2 d3 d4 : Int} {t0 t1 t2 t3 t4 : Tok} {nD : Nat} {bi p q sz : Int} {tb tp tq ts : Tok} {sh va : UInt64} {tf tv : Tok} {n0 n1 n2 n3 : Int} {tn0 tn1 tn2 tn3 : Tok} {nC : Nat} {Dc : Addr} (B : Below A₀ base outer h₀) (F : Fr h₀ L s.heap (putM (Str.ofString "value") (.float va tv) (putM (Str.ofString "share") (.float sh tf) (putM (Str.ofString "bits") (.int bi tb) (putM (Str.ofString "p") (.int p tp) (putM (Str.ofString "q") (.int q tq) (putM (Str.ofString "size") (.int sz ts) m))))))) (X₀ : (K w.params).In h₀) (Y₀ : TopFacts w h₀) (T : Top qv loose mean mg mb h₀)
    (N : News h₀ L s.heap [(L + 1 + 1 + 1 + 1, o3), (L + 1 + 1 + 1, o2), (L + 1 + 1, o1), (L + 1, o0), (D, listOf #[.int d0 t0, .int d1 t1, .int d2 t2, .int d3 t3, .int d4 t4] nD), (Dc, listOf #[.int n0 tn0, .int n1 tn1, .int n2 tn2, .int n3 tn3] nC)])
    (ho : o0.data = .cell (some (.ref D))) (hd0 : 0 ≤ d0) (hd1 : 0 ≤ d1) (hd2 : 0 ≤ d2) (hd3 : 0 ≤ d3) (hd4 : 0 ≤ d4) (hD : d4 < 1000000) (hD1 : d1 < 1000000) (hD2 : d2 < 1000000) (hD3 : d3 < 1000000) (ho1 : o1.data = .cell (some (.ref Dc))) (hn0 : n0.natAbs < 256) (hn1 : n1.natAbs < 256) (hn2 : n2.natAbs < 256) (hn3 : n3.natAbs < 256) (hA : A.frames = some (lawEnv L fa ca :: outer)) (hroom : A.depth + 5 < recursionLimit) (hh : A.handled = none)
    {n : Nat} (hT : n ≤ s.toks) (next : ∀ h' tk, n ≤ tk → ∀ (f0 f1 f2 f3 : Int) (t t0 t1 t2 t3 : Tok), (0 ≤ f0 ∧ f0 < 16) → (0 ≤ f1 ∧ f1 < 16) → (0 ≤ f2 ∧ f2 < 16) → (0 ≤ f3 ∧ f3 < 16) →  Fr h₀ L h' (putM (Str.ofString "text") (.str (Txt.join (Str.ofString " ") [typedS n0 f0, typedS n1 f1, typedS n2 f2, typedS n3 f3]) t) (putM (Str.ofString "value") (.float va tv) (putM (Str.ofString "share") (.float sh tf) (putM (Str.ofString "bits") (.int bi tb) (putM (Str.ofString "p") (.int p tp) (putM (Str.ofString "q") (.int q tq) (putM (Str.ofString "size") (.int sz ts) m))))))) → News h₀ L h' [(L + 1 + 1 + 1 + 1, o3), (L + 1 + 1 + 1, o2), (L + 1 + 1, o1), (L + 1, o0), (D, listOf #[.int d0 t0, .int d1 t1, .int d2 t2, .int d3 t3, .int d4 t4] nD), (Dc, listOf #[.int n0 tn0, .int n1 tn1, .int n2 tn2, .int n3 tn3] nC)] →
      wpAny (model pw w) A (execs rest (lawEnv L fa ca)) Q E { s with heap := h', toks := tk }) :
    wpAny (model pw w) A (execs (stAt 8 rfl :: rest) (lawEnv L fa ca)) Q E s := by
  obtain ⟨hdl, dep, frm, gds, uni⟩ := A
  obtain rfl : hdl = none := hh
  obtain rfl : frm = some (lawEnv L fa ca :: outer) := hA
  w_on
  try dsimp only
  with_reducible refine wpAny_execs_cons (wpAny_with_toks hT ?_)
  k_steps
  refine Stop.intro ?_
  refine LCg.ListComp_U (h₀ := h₀) (L := L) F (by with_unfolding_all rfl) (by decide) (by rfl) (by decide) (by rfl) ?_
  k_steps
  refine Stop.intro ?_
  refine CompSrc.range (n := 4) rfl (by assumption) (by assumption) (by assumption) (by decide) (by rfl) (by decide) ?_
  intro g
  refine CompRest.succ ?_
  rintro v I oI C oC Dl m₂ h tk E' ⟨t, rfl⟩ hC hx F' N' off ne
  have hx : m₂ (Str.ofString "j") = some (.int 0 t) := hx
  k_steps
  refine typed_call (n := n0) B F' X₀ Y₀ N' T rfl rfl rfl (by simp only at hroom ⊢; omega) rfl hn0 (Int.fmod_nonneg_of_pos _ (by decide)) (Int.fmod_lt_of_pos _ (by decide)) ?_
  clear F' N'
  intro h' tk' u0 F'' N''
  refine CompEnd.intro F'' N'' _ (fun p hp => hp) off trivial ?_
  (try clear ek); (try clear qk); clear off ne hC hx F'' N''; (try clear oC C oI I Dl)
  refine CompRest.succ ?_
  rintro v I oI C oC Dl m₂ h tk E' ⟨t, rfl⟩ hC hx F' N' off ne
  have hx : m₂ (Str.ofString "j") = some (.int 1 t) := hx
  k_steps
  refine typed_call (n := n1) B F' X₀ Y₀ N' T rfl rfl rfl (by simp only at hroom ⊢; omega) rfl hn1 (Int.fmod_nonneg_of_pos _ (by decide)) (Int.fmod_lt_of_pos _ (by decide)) ?_
  clear F' N'
  intro h' tk' u1 F'' N''
  refine CompEnd.intro F'' N'' _ (fun p hp => hp) off trivial ?_
  (try clear ek); (try clear qk); clear off ne hC hx F'' N''; (try clear oC C oI I Dl)
  refine CompRest.succ ?_
  rintro v I oI C oC Dl m₂ h tk E' ⟨t, rfl⟩ hC hx F' N' off ne
  have hx : m₂ (Str.ofString "j") = some (.int 2 t) := hx
  k_steps
  refine typed_call (n := n2) B F' X₀ Y₀ N' T rfl rfl rfl (by simp only at hroom ⊢; omega) rfl hn2 (Int.fmod_nonneg_of_pos _ (by decide)) (Int.fmod_lt_of_pos _ (by decide)) ?_
  clear F' N'
  intro h' tk' u2 F'' N''
  refine CompEnd.intro F'' N'' _ (fun p hp => hp) off trivial ?_
  (try clear ek); (try clear qk); clear off ne hC hx F'' N''; (try clear oC C oI I Dl)
  refine CompRest.succ ?_
  rintro v I oI C oC Dl m₂ h tk E' ⟨t, rfl⟩ hC hx F' N' off ne
  have hx : m₂ (Str.ofString "j") = some (.int 3 t) := hx
  k_steps
  refine typed_call (n := n3) B F' X₀ Y₀ N' T rfl rfl rfl (by simp only at hroom ⊢; omega) rfl hn3 (Int.fmod_nonneg_of_pos _ (by decide)) (Int.fmod_lt_of_pos _ (by decide)) ?_
  clear F' N'
  intro h' tk' u3 F'' N''
  refine CompEnd.intro F'' N'' _ (fun p hp => hp) off trivial ?_
  (try clear ek); (try clear qk); clear off ne hC hx F'' N''; (try clear oC C oI I Dl)
  refine CompRest.zero ?_
  intro Dl h tk F' N' o1
  (try simp only [List.nil_append, List.cons_append] at N')
  k_steps
  refine join_listW (D := Dl) (ys := [typedS n0 _, typedS n1 _, typedS n2 _, typedS n3 _]) ⟨_, (N' _ (.head _)).1, rfl, _, rfl⟩ (.cons _ _ (.cons _ _ (.cons _ _ (.cons _ _ .nil)))) (by decide) ?_ ?_
  · have b0 := fun f => typedS_len f hn0
    have b1 := fun f => typedS_len f hn1
    have b2 := fun f => typedS_len f hn2
    have b3 := fun f => typedS_len f hn3
    simp only [List.map_cons, List.map_nil, List.sum_cons, List.sum_nil, List.length_cons, List.length_nil]
    refine Nat.le_trans (Nat.add_le_add (Nat.add_le_add (b0 _) (Nat.add_le_add (b1 _) (Nat.add_le_add (b2 _) (Nat.add_le_add (b3 _) (Nat.le_refl 0))))) (Nat.le_refl _)) (by decide)
  intro t' k
  k_steps
  all_goals (
    (with_reducible rename Fr _ _ _ _ => kF)
    (with_reducible rename News _ _ _ _ => kN)
    (try simp only [List.cons_append, List.nil_append] at kN)
    refine next _ _ (by assumption) _ _ _ _ _ _ _ _ _ ?_ ?_ ?_ ?_ kF (by (repeat (refine news_cons kN (by repeat (first | with_reducible exact List.mem_cons_self | with_reducible refine List.mem_cons_of_mem _ ?_)) ?_)); exact news_nil)
    all_goals exact ⟨Int.fmod_nonneg_of_pos _ (by decide), Int.fmod_lt_of_pos _ (by decide)⟩)

end
end Mine
end
section
open PySem PySem.W PySem.Calls PyProof.Rows PySem.Spec LCg
set_option maxRecDepth 100000
set_option linter.unusedVariables false
set_option pp.deepTerms false
set_option pp.deepTerms.threshold 6
namespace Mine
theorem filledD : PySem.Challenge.rw_tp0034_01 = PySem.Challenge.rw_tp0034_01 ∧ K = K := by k_fill; exact ⟨rfl, rfl⟩
section
variable {w : World} {A A₀ : Around} {base h₀ : Heap} {outer : List Env} {L fa ca c0 c1 c2 c3 : Addr} {m mg mb : Str → Option Value} {mean : ExcName → Option Value} {loose : List Str} {s : Shared}
  {o0 o1 o2 o3 : Obj} {Q : Flow → Shared → Prop} {E : Value → Shared → Prop} {rest : List Stmt}
local macro_rules | `(tactic| walk_at "execs cons") => `(tactic| (refine wpAny_execs_cons (wpAny_with_toks (by assumption) ?_); try dsimp only))
local macro_rules | `(tactic| walk_at "call ref") => `(tactic| ((with_reducible show wpAny _ _ (call (Value.ref 143) _) _ _ _); refine Stop.out ?_))
theorem ints4 {vs : List Value} {a b c d : Int} (h : IntsAre vs [a, b, c, d]) : ∃ t u v x, vs = [.int a t, .int b u, .int c v, .int d x] := by
  cases h with
  | cons _ t h => cases h with
    | cons _ u h => cases h with
      | cons _ v h => cases h with
        | cons _ x h => cases h with
          | nil => exact ⟨t, u, v, x, rfl⟩
set_option maxHeartbeats 4000000 in
theorem st_told {D : Addr} {d0 d1 d2 d3 d4 : Int} {t0 t1 t2 t3 t4 : Tok} {nD : Nat} {bi p q sz : Int} {tb tp tq ts : Tok} {sh va : UInt64} {tf tv : Tok} {n0 n1 n2 n3 : Int} {tn0 tn1 tn2 tn3 : Tok} {nC : Nat} {Dc : Addr} {X : Str} {tx : Tok} {ps : List (Nat × Sgn)} (B : Below A₀ base outer h₀) (F : Fr h₀ L s.heap (putM (Str.ofString "text") (.str X tx) (putM (Str.ofString "value") (.float va tv) (putM (Str.ofString "share") (.float sh tf) (putM (Str.ofString "bits") (.int bi tb) (putM (Str.ofString "p") (.int p tp) (putM (Str.ofString "q") (.int q tq) (putM (Str.ofString "size") (.int sz ts) m)))))))) (X₀ : (K w.params).In h₀) (Y₀ : TopFacts w h₀) (T : Top qv loose mean mg mb h₀)
    (N : News h₀ L s.heap [(L + 1 + 1 + 1 + 1, o3), (L + 1 + 1 + 1, o2), (L + 1 + 1, o1), (L + 1, o0), (D, listOf #[.int d0 t0, .int d1 t1, .int d2 t2, .int d3 t3, .int d4 t4] nD), (Dc, listOf #[.int n0 tn0, .int n1 tn1, .int n2 tn2, .int n3 tn3] nC)])
    (ho : o0.data = .cell (some (.ref D))) (hd0 : 0 ≤ d0) (hd1 : 0 ≤ d1) (hd2 : 0 ≤ d2) (hd3 : 0 ≤ d3) (hd4 : 0 ≤ d4) (hD : d4 < 1000000) (hD1 : d1 < 1000000) (hD2 : d2 < 1000000) (hD3 : d3 < 1000000) (ho1 : o1.data = .cell (some (.ref Dc))) (hX : X = ⟨(ps.map (·.1)).toArray⟩) (hks : ∀ p ∈ ps, IsSgn p.1 p.2) (hlen : ps.length ≤ 60) (hout : readOut (ps.map (·.2)) = [n0, n1, n2, n3]) (hu : A.units + 64 < cLine) (hA : A.frames = some (lawEnv L fa ca :: outer)) (hroom : A.depth + 5 < recursionLimit) (hh : A.handled = none)
    {n : Nat} (hT : n ≤ s.toks) (next : ∀ h' tk, n ≤ tk → ∀ (ta tb1 tc td : Tok) (nT : Nat) (Dt : Addr),  Fr h₀ L h' (putM (Str.ofString "told") (.ref Dt) (putM (Str.ofString "text") (.str X tx) (putM (Str.ofString "value") (.float va tv) (putM (Str.ofString "share") (.float sh tf) (putM (Str.ofString "bits") (.int bi tb) (putM (Str.ofString "p") (.int p tp) (putM (Str.ofString "q") (.int q tq) (putM (Str.ofString "size") (.int sz ts) m)))))))) → News h₀ L h' [(L + 1 + 1 + 1 + 1, o3), (L + 1 + 1 + 1, o2), (L + 1 + 1, o1), (L + 1, o0), (Dc, listOf #[.int n0 tn0, .int n1 tn1, .int n2 tn2, .int n3 tn3] nC), (Dt, listOf #[.int n0 ta, .int n1 tb1, .int n2 tc, .int n3 td] nT)] →
      wpAny (model pw w) A (execs rest (lawEnv L fa ca)) Q E { s with heap := h', toks := tk }) :
    wpAny (model pw w) A (execs (stAt 9 rfl :: stAt 10 rfl :: rest) (lawEnv L fa ca)) Q E s := by
  obtain ⟨hdl, dep, frm, gds, uni⟩ := A
  obtain rfl : hdl = none := hh
  obtain rfl : frm = some (lawEnv L fa ca :: outer) := hA
  w_on
  try dsimp only
  with_reducible refine wpAny_execs_cons (wpAny_with_toks hT ?_)
  subst hX
  k_steps
  refine Stop.intro ?_
  refine read_call B F X₀ Y₀ N T rfl rfl rfl (by simp only at hroom ⊢; omega) rfl hks hlen ?_
  clear F N
  intro h' tk Dt ys hy F N
  rw [hout] at hy
  obtain ⟨t, u, v, x, rfl⟩ := ints4 hy
  k_steps
  all_goals (
    (with_reducible rename Fr _ _ _ _ => kF)
    (with_reducible rename News _ _ _ _ => kN)
    (try simp only [List.cons_append, List.nil_append] at kN)
    refine next _ _ (by assumption) _ _ _ _ _ _ kF (by (repeat (refine news_cons kN (by repeat (first | with_reducible exact List.mem_cons_self | with_reducible refine List.mem_cons_of_mem _ ?_)) ?_)); exact news_nil)
    skip)

set_option maxHeartbeats 4000000 in
theorem st_inits  {bi p q sz : Int} {tb tp tq ts : Tok} {sh va : UInt64} {tf tv : Tok} {n0 n1 n2 n3 : Int} {tn0 tn1 tn2 tn3 : Tok} {nC : Nat} {Dc : Addr} {X : Str} {tx ta tb1 tc td : Tok} {Dt : Addr} {nT : Nat} (B : Below A₀ base outer h₀) (F : Fr h₀ L s.heap (putM (Str.ofString "told") (.ref Dt) (putM (Str.ofString "text") (.str X tx) (putM (Str.ofString "value") (.float va tv) (putM (Str.ofString "share") (.float sh tf) (putM (Str.ofString "bits") (.int bi tb) (putM (Str.ofString "p") (.int p tp) (putM (Str.ofString "q") (.int q tq) (putM (Str.ofString "size") (.int sz ts) m))))))))) (X₀ : (K w.params).In h₀) (Y₀ : TopFacts w h₀) (T : Top qv loose mean mg mb h₀)
    (N : News h₀ L s.heap [(L + 1 + 1 + 1 + 1, o3), (L + 1 + 1 + 1, o2), (L + 1 + 1, o1), (L + 1, o0), (Dc, listOf #[.int n0 tn0, .int n1 tn1, .int n2 tn2, .int n3 tn3] nC), (Dt, listOf #[.int n0 ta, .int n1 tb1, .int n2 tc, .int n3 td] nT)])
    (ho2 : o2.data = .cell none) (hA : A.frames = some (lawEnv L fa ca :: outer)) (hroom : A.depth + 5 < recursionLimit) (hh : A.handled = none)
    {n : Nat} (hT : n ≤ s.toks) (next : ∀ h' tk, n ≤ tk → ∀ (Dl : Addr) (nL : Nat) (o2' : Obj), o2'.data = .cell (some (.ref Dl)) →  Fr h₀ L h' (putM (Str.ofString "cyan") (.bool false) (putM (Str.ofString "empty") (.bool true) (putM (Str.ofString "told") (.ref Dt) (putM (Str.ofString "text") (.str X tx) (putM (Str.ofString "value") (.float va tv) (putM (Str.ofString "share") (.float sh tf) (putM (Str.ofString "bits") (.int bi tb) (putM (Str.ofString "p") (.int p tp) (putM (Str.ofString "q") (.int q tq) (putM (Str.ofString "size") (.int sz ts) m)))))))))) → News h₀ L h' [(L + 1 + 1 + 1 + 1, o3), (L + 1 + 1 + 1, o2'), (L + 1 + 1, o1), (L + 1, o0), (Dt, listOf #[.int n0 ta, .int n1 tb1, .int n2 tc, .int n3 td] nT), (Dl, listOf #[] nL)] →
      wpAny (model pw w) A (execs rest (lawEnv L fa ca)) Q E { s with heap := h', toks := tk }) :
    wpAny (model pw w) A (execs (stAt 11 rfl :: stAt 12 rfl :: stAt 13 rfl :: rest) (lawEnv L fa ca)) Q E s := by
  obtain ⟨hdl, dep, frm, gds, uni⟩ := A
  obtain rfl : hdl = none := hh
  obtain rfl : frm = some (lawEnv L fa ca :: outer) := hA
  w_on
  try dsimp only
  with_reducible refine wpAny_execs_cons (wpAny_with_toks hT ?_)
  have e1 : @Ne Nat Dc (L + 1 + 1 + 1) := news_ne N (o' := o2) (by repeat (first | with_reducible exact List.mem_cons_self | with_reducible refine List.mem_cons_of_mem _ ?_)) (by repeat (first | with_reducible exact List.mem_cons_self | with_reducible refine List.mem_cons_of_mem _ ?_)) (by rw [ho2]; exact fun h => nomatch h)
  have e2 : @Ne Nat Dt (L + 1 + 1 + 1) := news_ne N (o' := o2) (by repeat (first | with_reducible exact List.mem_cons_self | with_reducible refine List.mem_cons_of_mem _ ?_)) (by repeat (first | with_reducible exact List.mem_cons_self | with_reducible refine List.mem_cons_of_mem _ ?_)) (by rw [ho2]; exact fun h => nomatch h)
  k_steps
  all_goals (
    (with_reducible rename Fr _ _ _ _ => kF)
    (with_reducible rename News _ _ _ _ => kN)
    (try simp only [List.cons_append, List.nil_append] at kN)
    refine next _ _ (by assumption) _ _ _ ?_ kF (by (repeat (refine news_cons kN (by repeat (first | with_reducible exact List.mem_cons_self | with_reducible refine List.mem_cons_of_mem _ ?_)) ?_)); exact news_nil)
    assumption)

end
end Mine
end
section
open PySem PySem.W PySem.Calls PyProof.Rows PySem.Spec LCg
namespace Mine
local macro_rules | `(tactic| walk_at "execs cons") => `(tactic| ((with_reducible refine wpAny_execs_cons ?_); try dsimp only))
local macro_rules | `(tactic| walk_at "execs nil") => `(tactic| (refine wpAny_execs_nil ?_))
section
open PySem PySem.W PySem.Calls PyProof.Rows PySem.Spec LCg
set_option maxRecDepth 100000
set_option linter.unusedVariables false
set_option pp.deepTerms false
set_option pp.deepTerms.threshold 12
section
theorem filledE : PySem.Challenge.rw_tp0034_01 = PySem.Challenge.rw_tp0034_01 ∧ K = K := by k_fill; exact ⟨rfl, rfl⟩
section
variable {w : World} {A A₀ : Around} {base h₀ : Heap} {outer : List Env} {L fa ca c0 c1 c2 c3 : Addr} {m mg mb : Str → Option Value} {mean : ExcName → Option Value} {loose : List Str} {s : Shared}
  {o0 o1 o2 o3 : Obj} {Q : Flow → Shared → Prop} {E : Value → Shared → Prop} {rest : List Stmt}
noncomputable abbrev forBody {st : Stmt} {t : PySem.Expr} {i : PySem.Expr} {b : List Stmt} {o : List Stmt} {p : _} (_ : st = Stmt.For t i b o p) : List Stmt := b
noncomputable abbrev kBody : List Stmt := forBody (st := stAt 14 rfl) rfl
noncomputable abbrev kAt (i : Nat) {b : Stmt} (_ : kBody[i]? = some b) : Stmt := b
noncomputable abbrev nBody : List Stmt := forBody (st := kAt 1 rfl) rfl
theorem hsv_is {env : Env} {news : List (Addr × Obj)} {Q E : Value → Shared → Prop} {a b c cr cg cb : UInt64} {t u v : Tok} (hv : hsvF a b c = (cr, cg, cb)) (h6 : Float64.isFinite (Float64.mul a six) = true) (hi : (Flt.toInt Float64.truncOf (Float64.mul a six)).natAbs < 2 ^ 1024 - 2 ^ 970) (hb : (Float64.cmp b 0 == some .eq) = false)
    (B : Below A₀ base outer h₀) (F : Fr h₀ L s.heap m) (X₀ : (K w.params).In h₀) (Y₀ : TopFacts w h₀) (N : News h₀ L s.heap news) (T : Top qv loose mean mg mb h₀)
    (hA : A.frames = some (env :: outer)) (hf : env.frame = some L) (hke : env.scope.kind = .function) (hroom : A.depth + 1 < recursionLimit) (hh : A.handled = none)
    (h : ∀ h' tk D tx ty tz, s.toks ≤ tk → TokOk s.toks tk v c cr tx → TokOk s.toks tk v c cg ty → TokOk s.toks tk v c cb tz → Fr h₀ L h' m → News h₀ L h' ((D, ⟨.type "tuple", none, .seq #[.float cr tx, .float cg ty, .float cb tz] 0, #[]⟩) :: news) → Q (.ref D) { s with heap := h', toks := tk }) : wpAny (model pw w) A (call (.ref 117) [.float a t, .float b u, .float c v]) Q E s :=
  hsv_callT B F X₀ Y₀ N T hA hf hke hroom hh h6 hi hb fun h' tk D x y z tx ty tz e e1 e2 e3 e4 F' N' => by
    rw [hv] at e
    cases e
    exact h h' tk D tx ty tz e1 e2 e3 e4 F' N'
theorem hls_is {env : Env} {news : List (Addr × Obj)} {Q E : Value → Shared → Prop} {a b c x1 x2 x3 : UInt64} {t u v : Tok} (hl : hlsF a b c = (x1, x2, x3)) (hk : hlsOk a b c = true)
    (B : Below A₀ base outer h₀) (F : Fr h₀ L s.heap m) (X₀ : (K w.params).In h₀) (Y₀ : TopFacts w h₀) (N : News h₀ L s.heap news) (T : Top qv loose mean mg mb h₀)
    (hA : A.frames = some (env :: outer)) (hf : env.frame = some L) (hke : env.scope.kind = .function) (hroom : A.depth + 1 < recursionLimit) (hh : A.handled = none)
    (h : ∀ h' tk D tx ty tz, s.toks ≤ tk → (s.toks ≤ tx ∧ tx < tk) → Fr h₀ L h' m → News h₀ L h' ((D, ⟨.type "tuple", none, .seq #[.float x1 tx, .float x2 ty, .float x3 tz] 0, #[]⟩) :: news) → Q (.ref D) { s with heap := h', toks := tk }) : wpAny (model pw w) A (call (.ref 110) [.float a t, .float b u, .float c v]) Q E s :=
  hls_callT B F X₀ Y₀ N T hA hf hke hroom hh hk fun h' tk D x y z tx ty tz e e1 e2 F' N' => by
    rw [hl] at e
    cases e
    exact h h' tk D tx ty tz e1 e2 F' N'
local macro_rules | `(tactic| walk_at "call ref") => `(tactic| (refine Stop.out ?_))
theorem size100 {hs : List Value} (h : hs.length ≤ 100) : hs.toArray.size ≤ sizeLine := by
  have : (1000 : Nat) ≤ sizeLine := by decide
  rw [List.size_toArray]; omega
/-- what one painting of a corner gives -/
noncomputable def HueOk (k n sz : Int) (sh va cr cg cb hue : UInt64) : Prop := ∃ a li fu : UInt64, Float64.ofFrac (decide (k * n.fmod sz < 0) != decide (sz < 0)) (k * n.fmod sz).natAbs sz.natAbs = a ∧ Float64.isInf a = false ∧ Float64.isFinite (Float64.mul a six) = true ∧ (Flt.toInt Float64.truncOf (Float64.mul a six)).natAbs < 2 ^ 1024 - 2 ^ 970 ∧
  (Float64.cmp sh 0 == some .eq) = false ∧ hsvF a sh va = (cr, cg, cb) ∧ hlsF cr cg cb = (hue, li, fu) ∧ hlsOk cr cg cb = true ∧ (Float64.cmp (Float64.mul (Float64.ofInt 2) li) (Float64.mul va (Float64.sub (Float64.ofInt 2) sh)) != some .eq) = false
theorem put_self {m : Str → Option Value} {x : Str} {v : Value} (h : m x = some v) : putM x v m = m := by
  funext y
  unfold putM
  by_cases e : y = x
  · subst e; rw [if_pos rfl, h]
  · rw [if_neg e]
theorem fr_put {h₀ h : Heap} {L : Addr} {m : Str → Option Value} {x : Str} {v : Value} (F : Fr h₀ L h m) (e : m x = some v) : Fr h₀ L h (putM x v m) := by rw [put_self e]; exact F
set_option maxHeartbeats 4000000 in
theorem turn_n {k n sz p q : Int} {sh va cr cg cb hue : UInt64} {tn tk tv tf tp tq ts : Tok} {Dt Dh : Addr} {hs : List Value} {nH : Nat} {cy em : Bool} {keep : List (Addr × Obj)} {r : Str → Option Value} (B : Below A₀ base outer h₀) (F : Fr h₀ L s.heap (putM (Str.ofString "number") (.int n tn) (putM (Str.ofString "hues") (.ref Dh) (putM (Str.ofString "k") (.int k tk) (putM (Str.ofString "cyan") (.bool cy) (putM (Str.ofString "empty") (.bool em) (putM (Str.ofString "told") (.ref Dt) (putM (Str.ofString "value") (.float va tv) (putM (Str.ofString "share") (.float sh tf) (putM (Str.ofString "p") (.int p tp) (putM (Str.ofString "q") (.int q tq) (putM (Str.ofString "size") (.int sz ts) r)))))))))))) (X₀ : (K w.params).In h₀) (Y₀ : TopFacts w h₀) (T : Top qv loose mean mg mb h₀)
    (N : News h₀ L s.heap ((Dh, listOf hs.toArray nH) :: keep)) (hoff : ∀ p ∈ keep, p.1 ≠ Dh)
    (H : HueOk k n sz sh va cr cg cb hue) (hsz : hs.length ≤ 100)
    (hz0 : 0 < sz) (hz1 : sz ≤ 32) (hk0 : 1 < k) (hk1 : k < sz) (hA : A.frames = some (lawEnv L fa ca :: outer)) (hroom : A.depth + 5 < recursionLimit) (hh : A.handled = none) (hu : A.units + 64 < cLine)
    (next : ∀ h' tk' r t nH', s.toks ≤ tk' → (s.toks ≤ t ∧ t < tk') → Fr h₀ L h' (putM (Str.ofString "hues") (.ref Dh) (putM (Str.ofString "k") (.int k tk) (putM (Str.ofString "cyan") (.bool cy) (putM (Str.ofString "empty") (.bool em) (putM (Str.ofString "told") (.ref Dt) (putM (Str.ofString "value") (.float va tv) (putM (Str.ofString "share") (.float sh tf) (putM (Str.ofString "p") (.int p tp) (putM (Str.ofString "q") (.int q tq) (putM (Str.ofString "size") (.int sz ts) r)))))))))) → News h₀ L h' ((Dh, listOf (hs ++ [Value.float hue t]).toArray nH') :: keep) → Q .next { s with heap := h', toks := tk' }) :
    wpAny (model pw w) A (execs nBody (lawEnv L fa ca)) Q E s := by
  obtain ⟨hdl, dep, frm, gds, uni⟩ := A
  obtain rfl : hdl = none := hh
  obtain rfl : frm = some (lawEnv L fa ca :: outer) := hA
  have hroom1 : ({ handled := none, depth := dep, frames := some (lawEnv L fa ca :: outer), guards := gds, units := uni } : Around).depth + 1 < recursionLimit := by simp only at hroom ⊢; omega
  w_on
  try dsimp only
  obtain ⟨a, li, fu, ha, hinf, h6, hi, hb, hv, hl, hok, hcond⟩ := H
  unfold nBody
  k_steps
  · rename_i q1 _ _ _ _
    rw [ha, hinf] at q1
    cases q1
  rw [ha]
  k_steps
  refine Stop.intro ?_
  (with_reducible rename Fr _ _ _ _ => kF)
  (with_reducible rename News _ _ _ _ => kN)
  refine hsv_is hv h6 hi hb (by assumption) kF (by assumption) (by assumption) kN (by assumption) rfl rfl rfl (by assumption) rfl ?_
  clear kF kN
  intro h' tk D tx ty tz e1 e2 e3 e4 F' N'
  try dsimp only at e1 e2 e3 e4 ⊢
  k_steps
  refine Stop.intro ?_
  (with_reducible rename Fr _ _ _ _ => kF)
  (with_reducible rename News _ _ _ _ => kN)
  refine hls_is hl hok (by assumption) kF (by assumption) (by assumption) kN (by assumption) rfl rfl rfl (by assumption) rfl ?_
  clear kF kN
  intro h' tk D tx ty tz e5 e6 F' N'
  try dsimp only at e5 e6 ⊢
  k_steps
  (with_reducible rename Fr _ _ _ _ => kF)
  (with_reducible rename News _ _ _ _ => kN)
  refine append_K (D := Dh) (its := hs.toArray) (n := nH) (news := (Dh, listOf hs.toArray nH) :: keep) kF (news_sub kN fun p hp => .tail _ (.tail _ hp)) (Upd.head hoff) ?_ (size100 hsz)
  clear kF kN
  intro h' F' N'
  simp only [List.push_toArray] at N'
  have hkd : ¬ k = 1 := by omega
  have hkd1 : decide (k = 1) = false := decide_eq_false hkd
  have hkd2 : (k == 1) = false := by simpa using hkd
  k_steps
  (with_reducible rename Fr _ _ _ _ => kF)
  refine next _ _ _ _ _ ?_ ?_ (fr_put (fr_put (fr_put (fr_put (fr_put (fr_put (fr_put (fr_put (fr_put (fr_put (kF) rfl) rfl) rfl) rfl) rfl) rfl) rfl) rfl) rfl) rfl) (by assumption)
  · ((try dsimp only); omega)
  · refine ⟨?_, ?_⟩ <;> ((try dsimp only); omega)
end
end
end
section
open PySem PySem.W PySem.Calls PyProof.Rows PySem.Spec LCg
set_option maxRecDepth 100000
set_option linter.unusedVariables false
set_option pp.deepTerms false
set_option pp.deepTerms.threshold 12
section
theorem filledF : PySem.Challenge.rw_tp0034_01 = PySem.Challenge.rw_tp0034_01 ∧ K = K := by k_fill; exact ⟨rfl, rfl⟩
section
variable {w : World} {A A₀ : Around} {base h₀ : Heap} {outer : List Env} {L fa ca c0 c1 c2 c3 : Addr} {m mg mb : Str → Option Value} {mean : ExcName → Option Value} {loose : List Str} {s : Shared}
  {o0 o1 o2 o3 : Obj} {Q : Flow → Shared → Prop} {E : Value → Shared → Prop} {rest : List Stmt}
local macro_rules | `(tactic| walk_at "call ref") => `(tactic| (refine Stop.out ?_))
theorem TokOk.mono {lo hi lo' hi' : Nat} {v : Tok} {c x : UInt64} {tx : Nat} (h : TokOk lo hi v c x tx) (h1 : lo' ≤ lo) (h2 : hi ≤ hi') : TokOk lo' hi' v c x tx := h.elim .inl fun h => .inr ⟨Nat.le_trans h1 h.1, Nat.lt_of_lt_of_le h.2 h2⟩
theorem news_rot {h₀ h : Heap} {L : Addr} {a b c : Addr × Obj} {r : List (Addr × Obj)} (N : News h₀ L h (a :: b :: c :: r)) : News h₀ L h (c :: a :: b :: r) := news_sub N (by
  intro p hp
  rcases List.mem_cons.mp hp with rfl | hp
  · exact .tail _ (.tail _ (.head _))
  rcases List.mem_cons.mp hp with rfl | hp
  · exact .head _
  rcases List.mem_cons.mp hp with rfl | hp
  · exact .tail _ (.head _)
  exact .tail _ (.tail _ (.tail _ hp)))
set_option maxHeartbeats 4000000 in
theorem turn_1 {n sz p q : Int} {sh va cr cg cb hue : UInt64} {tn tk tv tf tp tq ts : Tok} {Dt Dh : Addr} {hs : List Value} {nH : Nat} {cy em : Bool} {keep : List (Addr × Obj)} {r : Str → Option Value} {Dl : Addr} {ls : List Value} {nL : Nat} (B : Below A₀ base outer h₀) (F : Fr h₀ L s.heap (putM (Str.ofString "number") (.int n tn) (putM (Str.ofString "hues") (.ref Dh) (putM (Str.ofString "k") (.int 1 tk) (putM (Str.ofString "cyan") (.bool cy) (putM (Str.ofString "empty") (.bool em) (putM (Str.ofString "told") (.ref Dt) (putM (Str.ofString "value") (.float va tv) (putM (Str.ofString "share") (.float sh tf) (putM (Str.ofString "p") (.int p tp) (putM (Str.ofString "q") (.int q tq) (putM (Str.ofString "size") (.int sz ts) r)))))))))))) (X₀ : (K w.params).In h₀) (Y₀ : TopFacts w h₀) (T : Top qv loose mean mg mb h₀)
    (N : News h₀ L s.heap ((Dh, listOf hs.toArray nH) :: (Dl, listOf ls.toArray nL) :: (L + 1 + 1 + 1, o2) :: keep)) (ho2 : o2.data = .cell (some (.ref Dl))) (hoff : ∀ p ∈ keep, p.1 ≠ Dh) (hoff2 : ∀ p ∈ keep, p.1 ≠ Dl) (hhl : Dl ≠ Dh) (hch : L + 1 + 1 + 1 ≠ Dh) (hcl : L + 1 + 1 + 1 ≠ Dl)
    (H : HueOk 1 n sz sh va cr cg cb hue) (hsz : hs.length ≤ 100) (hsz2 : ls.length ≤ 100)
    (hz0 : 0 < sz) (hz1 : sz ≤ 32) (hA : A.frames = some (lawEnv L fa ca :: outer)) (hroom : A.depth + 5 < recursionLimit) (hh : A.handled = none) (hu : A.units + 64 < cLine)
    (next : ∀ h' tk' r t nH' nL' T1 t1 t2 t3, s.toks ≤ tk' → (s.toks ≤ t ∧ t < tk') → TokOk s.toks tk' tv va cr t1 → TokOk s.toks tk' tv va cg t2 → TokOk s.toks tk' tv va cb t3 → Fr h₀ L h' (putM (Str.ofString "hues") (.ref Dh) (putM (Str.ofString "k") (.int 1 tk) (putM (Str.ofString "cyan") (.bool cy) (putM (Str.ofString "empty") (.bool em) (putM (Str.ofString "told") (.ref Dt) (putM (Str.ofString "value") (.float va tv) (putM (Str.ofString "share") (.float sh tf) (putM (Str.ofString "p") (.int p tp) (putM (Str.ofString "q") (.int q tq) (putM (Str.ofString "size") (.int sz ts) r)))))))))) → News h₀ L h' ((Dh, listOf (hs ++ [Value.float hue t]).toArray nH') :: (Dl, listOf (ls ++ [Value.ref T1]).toArray nL') :: (T1, tupO (.float cr t1) (.float cg t2) (.float cb t3)) :: (L + 1 + 1 + 1, o2) :: keep) → Q .next { s with heap := h', toks := tk' }) :
    wpAny (model pw w) A (execs nBody (lawEnv L fa ca)) Q E s := by
  obtain ⟨hdl, dep, frm, gds, uni⟩ := A
  obtain rfl : hdl = none := hh
  obtain rfl : frm = some (lawEnv L fa ca :: outer) := hA
  have hroom1 : ({ handled := none, depth := dep, frames := some (lawEnv L fa ca :: outer), guards := gds, units := uni } : Around).depth + 1 < recursionLimit := by simp only at hroom ⊢; omega
  w_on
  try dsimp only
  obtain ⟨a, li, fu, ha, hinf, h6, hi, hb, hv, hl, hok, hcond⟩ := H
  unfold nBody
  k_steps
  · rename_i q1 _ _ _ _
    rw [ha, hinf] at q1
    cases q1
  rw [ha]
  k_steps
  refine Stop.intro ?_
  (with_reducible rename Fr _ _ _ _ => kF)
  (with_reducible rename News _ _ _ _ => kN)
  refine hsv_is hv h6 hi hb (by assumption) kF (by assumption) (by assumption) kN (by assumption) rfl rfl rfl (by assumption) rfl ?_
  clear kF kN
  intro h' tk D tx ty tz e1 e2 e3 e4 F' N'
  try dsimp only at e1 e2 e3 e4 ⊢
  k_steps
  refine Stop.intro ?_
  (with_reducible rename Fr _ _ _ _ => kF)
  (with_reducible rename News _ _ _ _ => kN)
  refine hls_is hl hok (by assumption) kF (by assumption) (by assumption) kN (by assumption) rfl rfl rfl (by assumption) rfl ?_
  clear kF kN
  intro h' tk D tx ty tz e5 e6 F' N'
  try dsimp only at e5 e6 ⊢
  k_steps
  (with_reducible rename Fr _ _ _ _ => kF)
  (with_reducible rename News _ _ _ _ => kN)
  have off1 : ∀ p ∈ (Dl, listOf ls.toArray nL) :: (L + 1 + 1 + 1, o2) :: keep, p.1 ≠ Dh := by
    intro p hp
    rcases List.mem_cons.mp hp with rfl | hp
    · exact hhl
    rcases List.mem_cons.mp hp with rfl | hp
    · exact hch
    exact hoff p hp
  refine append_K (D := Dh) (its := hs.toArray) (n := nH) (news := (Dh, listOf hs.toArray nH) :: (Dl, listOf ls.toArray nL) :: (L + 1 + 1 + 1, o2) :: keep) kF (news_sub kN fun p hp => .tail _ (.tail _ hp)) (Upd.head off1) ?_ (size100 hsz)
  clear kF kN
  intro h' F' N'
  simp only [List.push_toArray] at N'
  k_steps
  (with_reducible rename Fr _ _ _ _ => kF)
  (with_reducible rename News _ _ _ _ => kN)
  rename_i T1 hT l1
  have off2 : ∀ u1 u2 u3 u4, ∀ p ∈ (T1, tupO (.float cr u1) (.float cg u2) (.float cb u3)) :: (Dh, listOf (hs ++ [Value.float hue u4]).toArray (nH + 1)) :: (L + 1 + 1 + 1, o2) :: keep, p.1 ≠ Dl := by
    intro _ _ _ _ p hp
    rcases List.mem_cons.mp hp with rfl | hp
    · exact Nat.ne_of_gt l1.2.1
    rcases List.mem_cons.mp hp with rfl | hp
    · exact fun e => hhl e.symm
    rcases List.mem_cons.mp hp with rfl | hp
    · exact hcl
    exact hoff2 p hp
  refine append_K (D := Dl) (its := ls.toArray) (n := nL) kF (news_rot kN) (Upd.head (off2 _ _ _ _)) ?_ (size100 hsz2)
  clear kF kN
  intro h' F' N'
  simp only [List.push_toArray] at N'
  k_steps
  (with_reducible rename Fr _ _ _ _ => kF)
  refine next _ _ _ _ _ _ _ _ _ _ ?_ ?_ ?_ ?_ ?_ (fr_put (fr_put (fr_put (fr_put (fr_put (fr_put (fr_put (fr_put (fr_put (fr_put (kF) rfl) rfl) rfl) rfl) rfl) rfl) rfl) rfl) rfl) rfl) (news_rot (by assumption))
  · ((try dsimp only); omega)
  · refine ⟨?_, ?_⟩ <;> ((try dsimp only); omega)
  all_goals (refine TokOk.mono (by assumption) ?_ ?_ <;> ((try dsimp only); omega))
end
end
end
end Mine
end
section
open PySem PySem.W PySem.Calls PyProof.Rows PySem.Spec LCg
set_option maxRecDepth 100000
set_option linter.unusedVariables false
set_option pp.deepTerms false
set_option pp.deepTerms.threshold 9
namespace Mine
theorem filledG : PySem.Challenge.rw_tp0034_01 = PySem.Challenge.rw_tp0034_01 ∧ K = K := by k_fill; exact ⟨rfl, rfl⟩
section
variable {w : World} {A A₀ : Around} {base h₀ : Heap} {outer : List Env} {L fa ca c0 c1 c2 c3 : Addr} {m mg mb : Str → Option Value} {mean : ExcName → Option Value} {loose : List Str} {s : Shared}
  {o0 o1 o2 o3 : Obj} {Q : Flow → Shared → Prop} {E : Value → Shared → Prop} {rest : List Stmt}
theorem news_in3 {h₀ h : Heap} {L : Addr} {a b c d : Addr × Obj} {r : List (Addr × Obj)} (N : News h₀ L h (a :: b :: c :: d :: r)) : News h₀ L h (b :: c :: d :: a :: r) := news_sub N (by
  intro p hp
  rcases List.mem_cons.mp hp with rfl | hp
  · exact .tail _ (.head _)
  rcases List.mem_cons.mp hp with rfl | hp
  · exact .tail _ (.tail _ (.head _))
  rcases List.mem_cons.mp hp with rfl | hp
  · exact .tail _ (.tail _ (.tail _ (.head _)))
  rcases List.mem_cons.mp hp with rfl | hp
  · exact .head _
  exact .tail _ (.tail _ (.tail _ (.tail _ hp))))
theorem news_out4 {h₀ h : Heap} {L : Addr} {a b c d e : Addr × Obj} {r : List (Addr × Obj)} (N : News h₀ L h (b :: c :: d :: e :: a :: r)) : News h₀ L h (a :: b :: c :: e :: d :: r) := news_sub N (by
  intro p hp
  rcases List.mem_cons.mp hp with rfl | hp
  · exact .tail _ (.tail _ (.tail _ (.tail _ (.head _))))
  rcases List.mem_cons.mp hp with rfl | hp
  · exact .head _
  rcases List.mem_cons.mp hp with rfl | hp
  · exact .tail _ (.head _)
  rcases List.mem_cons.mp hp with rfl | hp
  · exact .tail _ (.tail _ (.tail _ (.head _)))
  rcases List.mem_cons.mp hp with rfl | hp
  · exact .tail _ (.tail _ (.head _))
  exact .tail _ (.tail _ (.tail _ (.tail _ (.tail _ hp)))))
theorem tup_list {a b c : Value} {x : Array Value} {n : Nat} : (tupO a b c).cls ≠ (listOf x n).cls := by
  show Value.type "tuple" ≠ Value.type "list"
  intro h; injection h with h; exact absurd h (by decide)
theorem tup_it {a b c : Value} {it : Obj} (h : it.cls = .type "list_iterator") : (tupO a b c).cls ≠ it.cls := by
  rw [h]
  show Value.type "tuple" ≠ Value.type "list_iterator"
  intro h; injection h with h; exact absurd h (by decide)
theorem news_swap {h₀ h : Heap} {L : Addr} {a b : Addr × Obj} {r : List (Addr × Obj)} (N : News h₀ L h (a :: b :: r)) : News h₀ L h (b :: a :: r) := news_sub N (by
  intro p hp
  rcases List.mem_cons.mp hp with rfl | hp
  · exact .tail _ (.head _)
  rcases List.mem_cons.mp hp with rfl | hp
  · exact .head _
  exact .tail _ (.tail _ hp))
theorem news_cls {h₀ h : Heap} {L a b : Addr} {l : List (Addr × Obj)} {o o' : Obj} (N : News h₀ L h l) (m1 : (a, o) ∈ l) (m2 : (b, o') ∈ l) (hd : o.cls ≠ o'.cls) : a ≠ b := fun e => by
  subst e
  have h1 := (N _ m1).1
  have h2 := (N _ m2).1
  dsimp only at h1 h2
  rw [h1] at h2
  cases h2
  exact hd rfl
theorem all_cons {a : Addr × Obj} {r : List (Addr × Obj)} {P : Addr × Obj → Prop} (h : P a) (hr : ∀ p ∈ r, P p) : ∀ p ∈ a :: r, P p := fun p hp => by
  rcases List.mem_cons.mp hp with rfl | hp
  · exact h
  · exact hr p hp
local macro_rules | `(tactic| walk_at "pyIter ref") => `(tactic| ((with_reducible show wpAny _ _ (pyIter (Value.ref _)) _ _ _); refine Stop.out ?_))
set_option maxHeartbeats 4000000 in
theorem inner_n {k sz p q n0 n1 n2 n3 : Int} {sh va x0 y0 z0 u0 x1 y1 z1 u1 x2 y2 z2 u2 x3 y3 z3 u3 : UInt64} {tk tv tf tp tq ts ta tb1 tc td : Tok} {Dt Dh : Addr} {nH nT : Nat} {cy em : Bool} {keep : List (Addr × Obj)} {r : Str → Option Value} (B : Below A₀ base outer h₀) (F : Fr h₀ L s.heap (putM (Str.ofString "hues") (.ref Dh) (putM (Str.ofString "k") (.int k tk) (putM (Str.ofString "cyan") (.bool cy) (putM (Str.ofString "empty") (.bool em) (putM (Str.ofString "told") (.ref Dt) (putM (Str.ofString "value") (.float va tv) (putM (Str.ofString "share") (.float sh tf) (putM (Str.ofString "p") (.int p tp) (putM (Str.ofString "q") (.int q tq) (putM (Str.ofString "size") (.int sz ts) r))))))))))) (X₀ : (K w.params).In h₀) (Y₀ : TopFacts w h₀) (T : Top qv loose mean mg mb h₀)
    (N : News h₀ L s.heap ((Dh, listOf #[] nH) :: (Dt, listOf #[.int n0 ta, .int n1 tb1, .int n2 tc, .int n3 td] nT) :: keep)) (hoff : ∀ p ∈ (Dt, listOf #[.int n0 ta, .int n1 tb1, .int n2 tc, .int n3 td] nT) :: keep, p.1 ≠ Dh)
    (H0 : HueOk k n0 sz sh va x0 y0 z0 u0) (H1 : HueOk k n1 sz sh va x1 y1 z1 u1) (H2 : HueOk k n2 sz sh va x2 y2 z2 u2) (H3 : HueOk k n3 sz sh va x3 y3 z3 u3) (hz0 : 0 < sz) (hz1 : sz ≤ 32) (hk0 : 1 < k) (hk1 : k < sz) (hA : A.frames = some (lawEnv L fa ca :: outer)) (hroom : A.depth + 5 < recursionLimit) (hh : A.handled = none) (hu : A.units + 64 < cLine)
    (next : ∀ h' tk' r v0 v1 v2 v3 nH', s.toks ≤ tk' → (s.toks ≤ v0 ∧ v0 < tk') → (s.toks ≤ v1 ∧ v1 < tk') → (s.toks ≤ v2 ∧ v2 < tk') → (s.toks ≤ v3 ∧ v3 < tk') → Fr h₀ L h' (putM (Str.ofString "hues") (.ref Dh) (putM (Str.ofString "k") (.int k tk) (putM (Str.ofString "cyan") (.bool cy) (putM (Str.ofString "empty") (.bool em) (putM (Str.ofString "told") (.ref Dt) (putM (Str.ofString "value") (.float va tv) (putM (Str.ofString "share") (.float sh tf) (putM (Str.ofString "p") (.int p tp) (putM (Str.ofString "q") (.int q tq) (putM (Str.ofString "size") (.int sz ts) r)))))))))) → News h₀ L h' ((Dh, listOf [Value.float u0 v0, Value.float u1 v1, Value.float u2 v2, Value.float u3 v3].toArray nH') :: (Dt, listOf #[.int n0 ta, .int n1 tb1, .int n2 tc, .int n3 td] nT) :: keep) → Q .next { s with heap := h', toks := tk' }) :
    wpAny (model pw w) A (exec (kAt 1 rfl) (lawEnv L fa ca)) Q E s := by
  obtain ⟨hdl, dep, frm, gds, uni⟩ := A
  obtain rfl : hdl = none := hh
  obtain rfl : frm = some (lawEnv L fa ca :: outer) := hA
  have hroom1 : ({ handled := none, depth := dep, frames := some (lawEnv L fa ca :: outer), guards := gds, units := uni } : Around).depth + 1 < recursionLimit := by simp only at hroom ⊢; omega
  w_on
  try dsimp only
  unfold kAt
  refine For_T (h₀ := h₀) (env := lawEnv L fa ca) rfl rfl ?_
  k_steps
  refine Stop.intro ?_
  refine iter_listT (s := s) (env := lawEnv L fa ca) (lo := listOf #[.int n0 ta, .int n1 tb1, .int n2 tc, .int n3 td] nT) (vs := [.int n0 ta, .int n1 tb1, .int n2 tc, .int n3 td]) (n := nT) rfl F N (.tail _ (.head _)) rfl rfl ?_
  intro I l1
  clear F N
  have iD : Dh < I := l1 _ (.head _)
  have iK : ∀ p ∈ (Dt, listOf #[.int n0 ta, .int n1 tb1, .int n2 tc, .int n3 td] nT) :: keep, p.1 < I := fun p hp => l1 p (.tail _ hp)
  refine LRest.succ ?_
  intro it h tk' hT0 hit F' N'
  refine turn_n (hs := []) (n := n0) B F' X₀ Y₀ T (news_swap N') (all_cons (Nat.ne_of_gt iD) hoff) H0 (by simp only [List.length_cons, List.length_nil]; omega) hz0 hz1 hk0 hk1 rfl (by simp only at hroom ⊢; omega) rfl hu ?_
  clear F' N'
  intro h' tk0 r v0 nH0 q0 w0 F' N'
  (try dsimp only at q0 w0)
  refine UEnd.intro F' (news_swap N') (all_cons (Nat.ne_of_lt iD) fun p hp => Nat.ne_of_lt (iK p hp)) ⟨.tail _ (.head _), ?_⟩
  clear F' N'
  refine LRest.succ ?_
  intro it h tk' hT1 hit F' N'
  refine turn_n (hs := [Value.float u0 v0]) (n := n1) B F' X₀ Y₀ T (news_swap N') (all_cons (Nat.ne_of_gt iD) hoff) H1 (by simp only [List.length_cons, List.length_nil]; omega) hz0 hz1 hk0 hk1 rfl (by simp only at hroom ⊢; omega) rfl hu ?_
  clear F' N'
  intro h' tk1 r v1 nH1 q1 w1 F' N'
  (try dsimp only at q1 w1)
  refine UEnd.intro F' (news_swap N') (all_cons (Nat.ne_of_lt iD) fun p hp => Nat.ne_of_lt (iK p hp)) ⟨.tail _ (.head _), ?_⟩
  clear F' N'
  refine LRest.succ ?_
  intro it h tk' hT2 hit F' N'
  refine turn_n (hs := [Value.float u0 v0, Value.float u1 v1]) (n := n2) B F' X₀ Y₀ T (news_swap N') (all_cons (Nat.ne_of_gt iD) hoff) H2 (by simp only [List.length_cons, List.length_nil]; omega) hz0 hz1 hk0 hk1 rfl (by simp only at hroom ⊢; omega) rfl hu ?_
  clear F' N'
  intro h' tk2 r v2 nH2 q2 w2 F' N'
  (try dsimp only at q2 w2)
  refine UEnd.intro F' (news_swap N') (all_cons (Nat.ne_of_lt iD) fun p hp => Nat.ne_of_lt (iK p hp)) ⟨.tail _ (.head _), ?_⟩
  clear F' N'
  refine LRest.succ ?_
  intro it h tk' hT3 hit F' N'
  refine turn_n (hs := [Value.float u0 v0, Value.float u1 v1, Value.float u2 v2]) (n := n3) B F' X₀ Y₀ T (news_swap N') (all_cons (Nat.ne_of_gt iD) hoff) H3 (by simp only [List.length_cons, List.length_nil]; omega) hz0 hz1 hk0 hk1 rfl (by simp only at hroom ⊢; omega) rfl hu ?_
  clear F' N'
  intro h' tk3 r v3 nH3 q3 w3 F' N'
  (try dsimp only at q3 w3)
  refine UEnd.intro F' (news_swap N') (all_cons (Nat.ne_of_lt iD) fun p hp => Nat.ne_of_lt (iK p hp)) ⟨.tail _ (.head _), ?_⟩
  clear F' N'
  refine LRest.zero fun h tk hT4 F' N' => ?_
  refine next _ _ _ _ _ _ _ _ ?_ ⟨?_, ?_⟩ ⟨?_, ?_⟩ ⟨?_, ?_⟩ ⟨?_, ?_⟩ F' N' <;> omega
set_option maxHeartbeats 4000000 in
theorem inner_1 {sz p q n0 n1 n2 n3 : Int} {sh va x0 y0 z0 u0 x1 y1 z1 u1 x2 y2 z2 u2 x3 y3 z3 u3 : UInt64} {tk tv tf tp tq ts ta tb1 tc td : Tok} {Dt Dh : Addr} {nH nT : Nat} {cy em : Bool} {keep : List (Addr × Obj)} {r : Str → Option Value} {Dl : Addr} {nL : Nat} (B : Below A₀ base outer h₀) (F : Fr h₀ L s.heap (putM (Str.ofString "hues") (.ref Dh) (putM (Str.ofString "k") (.int 1 tk) (putM (Str.ofString "cyan") (.bool cy) (putM (Str.ofString "empty") (.bool em) (putM (Str.ofString "told") (.ref Dt) (putM (Str.ofString "value") (.float va tv) (putM (Str.ofString "share") (.float sh tf) (putM (Str.ofString "p") (.int p tp) (putM (Str.ofString "q") (.int q tq) (putM (Str.ofString "size") (.int sz ts) r))))))))))) (X₀ : (K w.params).In h₀) (Y₀ : TopFacts w h₀) (T : Top qv loose mean mg mb h₀)
    (N : News h₀ L s.heap ((Dh, listOf #[] nH) :: (Dl, listOf #[] nL) :: (L + 1 + 1 + 1, o2) :: (Dt, listOf #[.int n0 ta, .int n1 tb1, .int n2 tc, .int n3 td] nT) :: keep)) (ho2 : o2.data = .cell (some (.ref Dl))) (hoff : ∀ p ∈ (Dt, listOf #[.int n0 ta, .int n1 tb1, .int n2 tc, .int n3 td] nT) :: keep, p.1 ≠ Dh) (hoff2 : ∀ p ∈ (Dt, listOf #[.int n0 ta, .int n1 tb1, .int n2 tc, .int n3 td] nT) :: keep, p.1 ≠ Dl) (hhl : Dl ≠ Dh) (hch : L + 1 + 1 + 1 ≠ Dh) (hcl : L + 1 + 1 + 1 ≠ Dl)
    (H0 : HueOk 1 n0 sz sh va x0 y0 z0 u0) (H1 : HueOk 1 n1 sz sh va x1 y1 z1 u1) (H2 : HueOk 1 n2 sz sh va x2 y2 z2 u2) (H3 : HueOk 1 n3 sz sh va x3 y3 z3 u3) (hz0 : 0 < sz) (hz1 : sz ≤ 32) (hA : A.frames = some (lawEnv L fa ca :: outer)) (hroom : A.depth + 5 < recursionLimit) (hh : A.handled = none) (hu : A.units + 64 < cLine)
    (next : ∀ h' tk' r v0 v1 v2 v3 nH' nL' T0 T1 T2 T3 a0 b0 c0 a1 b1 c1 a2 b2 c2 a3 b3 c3 (e1 e2 e3 : Nat), s.toks ≤ tk' → (s.toks ≤ v0 ∧ v0 < tk') → (s.toks ≤ v1 ∧ v1 < tk') → (s.toks ≤ v2 ∧ v2 < tk') → (s.toks ≤ v3 ∧ v3 < tk') → s.toks ≤ e1 → e1 ≤ e2 → e2 ≤ e3 → e3 ≤ tk' → (TokOk s.toks e1 tv va x0 a0 ∧ TokOk s.toks e1 tv va y0 b0 ∧ TokOk s.toks e1 tv va z0 c0) ∧ (TokOk e1 e2 tv va x1 a1 ∧ TokOk e1 e2 tv va y1 b1 ∧ TokOk e1 e2 tv va z1 c1) ∧ (TokOk e2 e3 tv va x2 a2 ∧ TokOk e2 e3 tv va y2 b2 ∧ TokOk e2 e3 tv va z2 c2) ∧ (TokOk e3 tk' tv va x3 a3 ∧ TokOk e3 tk' tv va y3 b3 ∧ TokOk e3 tk' tv va z3 c3) → Fr h₀ L h' (putM (Str.ofString "hues") (.ref Dh) (putM (Str.ofString "k") (.int 1 tk) (putM (Str.ofString "cyan") (.bool cy) (putM (Str.ofString "empty") (.bool em) (putM (Str.ofString "told") (.ref Dt) (putM (Str.ofString "value") (.float va tv) (putM (Str.ofString "share") (.float sh tf) (putM (Str.ofString "p") (.int p tp) (putM (Str.ofString "q") (.int q tq) (putM (Str.ofString "size") (.int sz ts) r)))))))))) → News h₀ L h' ((Dh, listOf [Value.float u0 v0, Value.float u1 v1, Value.float u2 v2, Value.float u3 v3].toArray nH') :: (Dl, listOf [Value.ref T0, Value.ref T1, Value.ref T2, Value.ref T3].toArray nL') :: (L + 1 + 1 + 1, o2) :: (T3, tupO (.float x3 a3) (.float y3 b3) (.float z3 c3)) :: (T2, tupO (.float x2 a2) (.float y2 b2) (.float z2 c2)) :: (T1, tupO (.float x1 a1) (.float y1 b1) (.float z1 c1)) :: (T0, tupO (.float x0 a0) (.float y0 b0) (.float z0 c0)) :: (Dt, listOf #[.int n0 ta, .int n1 tb1, .int n2 tc, .int n3 td] nT) :: keep) → Q .next { s with heap := h', toks := tk' }) :
    wpAny (model pw w) A (exec (kAt 1 rfl) (lawEnv L fa ca)) Q E s := by
  obtain ⟨hdl, dep, frm, gds, uni⟩ := A
  obtain rfl : hdl = none := hh
  obtain rfl : frm = some (lawEnv L fa ca :: outer) := hA
  have hroom1 : ({ handled := none, depth := dep, frames := some (lawEnv L fa ca :: outer), guards := gds, units := uni } : Around).depth + 1 < recursionLimit := by simp only at hroom ⊢; omega
  w_on
  try dsimp only
  unfold kAt
  refine For_T (h₀ := h₀) (env := lawEnv L fa ca) rfl rfl ?_
  k_steps
  refine Stop.intro ?_
  refine iter_listT (s := s) (env := lawEnv L fa ca) (lo := listOf #[.int n0 ta, .int n1 tb1, .int n2 tc, .int n3 td] nT) (vs := [.int n0 ta, .int n1 tb1, .int n2 tc, .int n3 td]) (n := nT) rfl F N (.tail _ (.tail _ (.tail _ (.head _)))) rfl rfl ?_
  intro I l1
  clear F N
  have iD : Dh < I := l1 _ (.head _)
  have iL : Dl < I := l1 _ (.tail _ (.head _))
  have iC : L + 1 + 1 + 1 < I := l1 _ (.tail _ (.tail _ (.head _)))
  have iK : ∀ p ∈ (Dt, listOf #[.int n0 ta, .int n1 tb1, .int n2 tc, .int n3 td] nT) :: keep, p.1 < I := fun p hp => l1 p (.tail _ (.tail _ (.tail _ hp)))
  refine LRest.succ ?_
  intro it h tk' hT0 hit F' N'
  refine turn_1 (hs := []) (ls := []) (n := n0) (keep := (I, it) :: (Dt, listOf #[.int n0 ta, .int n1 tb1, .int n2 tc, .int n3 td] nT) :: keep) B F' X₀ Y₀ T (news_in3 N') ho2 (all_cons (Nat.ne_of_gt iD) hoff) (all_cons (Nat.ne_of_gt iL) hoff2) hhl hch hcl H0 (by simp only [List.length_cons, List.length_nil]; omega) (by simp only [List.length_cons, List.length_nil]; omega) hz0 hz1 rfl (by simp only at hroom ⊢; omega) rfl hu ?_
  clear F' N'
  intro h' tk0 r v0 nH0 nL0 T0 a0 b0 c0 q0 w0 A0 B0 C0 F' N'
  (try dsimp only at q0 w0 A0 B0 C0)
  have eD0 : T0 ≠ Dh := news_cls N' (.tail _ (.tail _ (.head _))) (.head _) tup_list
  have eL0 : T0 ≠ Dl := news_cls N' (.tail _ (.tail _ (.head _))) (.tail _ (.head _)) tup_list
  have eI0 : T0 ≠ I := news_cls N' (.tail _ (.tail _ (.head _))) (.tail _ (.tail _ (.tail _ (.tail _ (.head _))))) (tup_it hit)
  refine UEnd.intro F' (news_out4 N') (news' := (Dh, listOf [Value.float u0 v0].toArray nH0) :: (Dl, listOf [Value.ref T0].toArray nL0) :: (L + 1 + 1 + 1, o2) :: (T0, tupO (.float x0 a0) (.float y0 b0) (.float z0 c0)) :: (Dt, listOf #[.int n0 ta, .int n1 tb1, .int n2 tc, .int n3 td] nT) :: keep) (all_cons (Nat.ne_of_lt iD) (all_cons (Nat.ne_of_lt iL) (all_cons (Nat.ne_of_lt iC) (all_cons eI0 fun p hp => Nat.ne_of_lt (iK p hp))))) ⟨.tail _ (.tail _ (.tail _ (.tail _ (.head _)))), ?_⟩
  clear F' N'
  refine LRest.succ ?_
  intro it h tk' hT1 hit F' N'
  refine turn_1 (hs := [Value.float u0 v0]) (ls := [Value.ref T0]) (n := n1) (keep := (I, it) :: (T0, tupO (.float x0 a0) (.float y0 b0) (.float z0 c0)) :: (Dt, listOf #[.int n0 ta, .int n1 tb1, .int n2 tc, .int n3 td] nT) :: keep) B F' X₀ Y₀ T (news_in3 N') ho2 (all_cons (Nat.ne_of_gt iD) (all_cons eD0 hoff)) (all_cons (Nat.ne_of_gt iL) (all_cons eL0 hoff2)) hhl hch hcl H1 (by simp only [List.length_cons, List.length_nil]; omega) (by simp only [List.length_cons, List.length_nil]; omega) hz0 hz1 rfl (by simp only at hroom ⊢; omega) rfl hu ?_
  clear F' N'
  intro h' tk1 r v1 nH1 nL1 T1 a1 b1 c1 q1 w1 A1 B1 C1 F' N'
  (try dsimp only at q1 w1 A1 B1 C1)
  have eD1 : T1 ≠ Dh := news_cls N' (.tail _ (.tail _ (.head _))) (.head _) tup_list
  have eL1 : T1 ≠ Dl := news_cls N' (.tail _ (.tail _ (.head _))) (.tail _ (.head _)) tup_list
  have eI1 : T1 ≠ I := news_cls N' (.tail _ (.tail _ (.head _))) (.tail _ (.tail _ (.tail _ (.tail _ (.head _))))) (tup_it hit)
  refine UEnd.intro F' (news_out4 N') (news' := (Dh, listOf [Value.float u0 v0, Value.float u1 v1].toArray nH1) :: (Dl, listOf [Value.ref T0, Value.ref T1].toArray nL1) :: (L + 1 + 1 + 1, o2) :: (T1, tupO (.float x1 a1) (.float y1 b1) (.float z1 c1)) :: (T0, tupO (.float x0 a0) (.float y0 b0) (.float z0 c0)) :: (Dt, listOf #[.int n0 ta, .int n1 tb1, .int n2 tc, .int n3 td] nT) :: keep) (all_cons (Nat.ne_of_lt iD) (all_cons (Nat.ne_of_lt iL) (all_cons (Nat.ne_of_lt iC) (all_cons eI1 (all_cons eI0 fun p hp => Nat.ne_of_lt (iK p hp)))))) ⟨.tail _ (.tail _ (.tail _ (.tail _ (.tail _ (.head _))))), ?_⟩
  clear F' N'
  refine LRest.succ ?_
  intro it h tk' hT2 hit F' N'
  refine turn_1 (hs := [Value.float u0 v0, Value.float u1 v1]) (ls := [Value.ref T0, Value.ref T1]) (n := n2) (keep := (I, it) :: (T1, tupO (.float x1 a1) (.float y1 b1) (.float z1 c1)) :: (T0, tupO (.float x0 a0) (.float y0 b0) (.float z0 c0)) :: (Dt, listOf #[.int n0 ta, .int n1 tb1, .int n2 tc, .int n3 td] nT) :: keep) B F' X₀ Y₀ T (news_in3 N') ho2 (all_cons (Nat.ne_of_gt iD) (all_cons eD1 (all_cons eD0 hoff))) (all_cons (Nat.ne_of_gt iL) (all_cons eL1 (all_cons eL0 hoff2))) hhl hch hcl H2 (by simp only [List.length_cons, List.length_nil]; omega) (by simp only [List.length_cons, List.length_nil]; omega) hz0 hz1 rfl (by simp only at hroom ⊢; omega) rfl hu ?_
  clear F' N'
  intro h' tk2 r v2 nH2 nL2 T2 a2 b2 c2 q2 w2 A2 B2 C2 F' N'
  (try dsimp only at q2 w2 A2 B2 C2)
  have eD2 : T2 ≠ Dh := news_cls N' (.tail _ (.tail _ (.head _))) (.head _) tup_list
  have eL2 : T2 ≠ Dl := news_cls N' (.tail _ (.tail _ (.head _))) (.tail _ (.head _)) tup_list
  have eI2 : T2 ≠ I := news_cls N' (.tail _ (.tail _ (.head _))) (.tail _ (.tail _ (.tail _ (.tail _ (.head _))))) (tup_it hit)
  refine UEnd.intro F' (news_out4 N') (news' := (Dh, listOf [Value.float u0 v0, Value.float u1 v1, Value.float u2 v2].toArray nH2) :: (Dl, listOf [Value.ref T0, Value.ref T1, Value.ref T2].toArray nL2) :: (L + 1 + 1 + 1, o2) :: (T2, tupO (.float x2 a2) (.float y2 b2) (.float z2 c2)) :: (T1, tupO (.float x1 a1) (.float y1 b1) (.float z1 c1)) :: (T0, tupO (.float x0 a0) (.float y0 b0) (.float z0 c0)) :: (Dt, listOf #[.int n0 ta, .int n1 tb1, .int n2 tc, .int n3 td] nT) :: keep) (all_cons (Nat.ne_of_lt iD) (all_cons (Nat.ne_of_lt iL) (all_cons (Nat.ne_of_lt iC) (all_cons eI2 (all_cons eI1 (all_cons eI0 fun p hp => Nat.ne_of_lt (iK p hp))))))) ⟨.tail _ (.tail _ (.tail _ (.tail _ (.tail _ (.tail _ (.head _)))))), ?_⟩
  clear F' N'
  refine LRest.succ ?_
  intro it h tk' hT3 hit F' N'
  refine turn_1 (hs := [Value.float u0 v0, Value.float u1 v1, Value.float u2 v2]) (ls := [Value.ref T0, Value.ref T1, Value.ref T2]) (n := n3) (keep := (I, it) :: (T2, tupO (.float x2 a2) (.float y2 b2) (.float z2 c2)) :: (T1, tupO (.float x1 a1) (.float y1 b1) (.float z1 c1)) :: (T0, tupO (.float x0 a0) (.float y0 b0) (.float z0 c0)) :: (Dt, listOf #[.int n0 ta, .int n1 tb1, .int n2 tc, .int n3 td] nT) :: keep) B F' X₀ Y₀ T (news_in3 N') ho2 (all_cons (Nat.ne_of_gt iD) (all_cons eD2 (all_cons eD1 (all_cons eD0 hoff)))) (all_cons (Nat.ne_of_gt iL) (all_cons eL2 (all_cons eL1 (all_cons eL0 hoff2)))) hhl hch hcl H3 (by simp only [List.length_cons, List.length_nil]; omega) (by simp only [List.length_cons, List.length_nil]; omega) hz0 hz1 rfl (by simp only at hroom ⊢; omega) rfl hu ?_
  clear F' N'
  intro h' tk3 r v3 nH3 nL3 T3 a3 b3 c3 q3 w3 A3 B3 C3 F' N'
  (try dsimp only at q3 w3 A3 B3 C3)
  have eD3 : T3 ≠ Dh := news_cls N' (.tail _ (.tail _ (.head _))) (.head _) tup_list
  have eL3 : T3 ≠ Dl := news_cls N' (.tail _ (.tail _ (.head _))) (.tail _ (.head _)) tup_list
  have eI3 : T3 ≠ I := news_cls N' (.tail _ (.tail _ (.head _))) (.tail _ (.tail _ (.tail _ (.tail _ (.head _))))) (tup_it hit)
  refine UEnd.intro F' (news_out4 N') (news' := (Dh, listOf [Value.float u0 v0, Value.float u1 v1, Value.float u2 v2, Value.float u3 v3].toArray nH3) :: (Dl, listOf [Value.ref T0, Value.ref T1, Value.ref T2, Value.ref T3].toArray nL3) :: (L + 1 + 1 + 1, o2) :: (T3, tupO (.float x3 a3) (.float y3 b3) (.float z3 c3)) :: (T2, tupO (.float x2 a2) (.float y2 b2) (.float z2 c2)) :: (T1, tupO (.float x1 a1) (.float y1 b1) (.float z1 c1)) :: (T0, tupO (.float x0 a0) (.float y0 b0) (.float z0 c0)) :: (Dt, listOf #[.int n0 ta, .int n1 tb1, .int n2 tc, .int n3 td] nT) :: keep) (all_cons (Nat.ne_of_lt iD) (all_cons (Nat.ne_of_lt iL) (all_cons (Nat.ne_of_lt iC) (all_cons eI3 (all_cons eI2 (all_cons eI1 (all_cons eI0 fun p hp => Nat.ne_of_lt (iK p hp)))))))) ⟨.tail _ (.tail _ (.tail _ (.tail _ (.tail _ (.tail _ (.tail _ (.head _))))))), ?_⟩
  clear F' N'
  refine LRest.zero fun h tk hT4 F' N' => ?_
  refine next _ _ _ _ _ _ _ _ _ _ _ _ _ _ _ _ _ _ _ _ _ _ _ _ _ tk0 tk1 tk2 (by omega) ⟨?_, ?_⟩ ⟨?_, ?_⟩ ⟨?_, ?_⟩ ⟨?_, ?_⟩ (by omega) (by omega) (by omega) (by omega) ⟨⟨?_, ?_, ?_⟩, ⟨?_, ?_, ?_⟩, ⟨?_, ?_, ?_⟩, ?_, ?_, ?_⟩ F' N'
  all_goals first | omega | (refine TokOk.mono (by assumption) ?_ ?_ <;> omega)
end
end Mine
end
section
open PySem PySem.W PySem.Calls PyProof.Rows PySem.Spec LCg
namespace Mine
local macro_rules | `(tactic| walk_at "execs cons") => `(tactic| ((with_reducible refine wpAny_execs_cons ?_); try dsimp only))
local macro_rules | `(tactic| walk_at "execs nil") => `(tactic| (refine wpAny_execs_nil ?_))
section
open PySem PySem.W PySem.Calls PyProof.Rows PySem.Spec LCg
set_option maxRecDepth 100000
set_option linter.unusedVariables false
set_option pp.deepTerms false
set_option pp.deepTerms.threshold 9
section
theorem filledH : PySem.Challenge.rw_tp0034_01 = PySem.Challenge.rw_tp0034_01 ∧ K = K := by k_fill; exact ⟨rfl, rfl⟩
section
variable {w : World} {A A₀ : Around} {base h₀ : Heap} {outer : List Env} {L fa ca c0 c1 c2 c3 : Addr} {m mg mb : Str → Option Value} {mean : ExcName → Option Value} {loose : List Str} {s : Shared}
  {o0 o1 o2 o3 : Obj} {Q : Flow → Shared → Prop} {E : Value → Shared → Prop} {rest : List Stmt}
local macro_rules | `(tactic| walk_at "call builtin:sum") => `(tactic| (refine Stop.out ?_))
theorem eqf_is {prog : Program} {w : World} {A : Around} {E : Value → Shared → Prop} {s : Shared} {a b : UInt64} {t u : Tok} {c : Bool} {Q : Value → Shared → Prop} (e : (Float64.cmp a b == some .eq) = c) (h : Q (.bool c) s) : wpAny (model prog w) A (compareOp .Eq (.float a t) (.float b u)) Q E s := AutoFloatOps.eq_0 (e ▸ h)
local macro_rules | `(tactic| walk_at "compareOp Eq float float") => `(tactic| (refine eqf_is (by with_reducible assumption) ?_))
set_option maxHeartbeats 4000000 in
theorem tail_a {k sz p q : Int} {sh va u0 u1 u2 u3 : UInt64} {tk tv tf tp tq ts : Tok} {v0 v1 v2 v3 : Nat} {Dt Dh : Addr} {nH : Nat} {cy em : Bool} {keep : List (Addr × Obj)} {r : Str → Option Value} {n : Nat} (B : Below A₀ base outer h₀) (F : Fr h₀ L s.heap (putM (Str.ofString "hues") (.ref Dh) (putM (Str.ofString "k") (.int k tk) (putM (Str.ofString "cyan") (.bool cy) (putM (Str.ofString "empty") (.bool em) (putM (Str.ofString "told") (.ref Dt) (putM (Str.ofString "value") (.float va tv) (putM (Str.ofString "share") (.float sh tf) (putM (Str.ofString "p") (.int p tp) (putM (Str.ofString "q") (.int q tq) (putM (Str.ofString "size") (.int sz ts) r))))))))))) (X₀ : (K w.params).In h₀) (Y₀ : TopFacts w h₀) (T : Top qv loose mean mg mb h₀)
    (N : News h₀ L s.heap ((Dh, listOf #[.float u0 v0, .float u1 v1, .float u2 v2, .float u3 v3] nH) :: keep)) (hoff : ∀ p ∈ keep, p.1 ≠ Dh) (hT : n ≤ s.toks) (hn : 0 < n) (htu : sum4 u0 u1 u2 u3 = tu) (hturn : (eqF 4607182418800017408 tu || eqF 4611686018427387904 tu || eqF 4613937818241073152 tu) = true)
    (hz0 : 0 < sz) (hz1 : sz ≤ 32) (hk0 : 1 ≤ k) (hk1 : k < sz) (hp : 0 ≤ p ∧ p < sz) (hq : 0 ≤ q ∧ q < sz) (hA : A.frames = some (lawEnv L fa ca :: outer)) (hroom : A.depth + 5 < recursionLimit) (hh : A.handled = none) (hu : A.units + 64 < cLine)
    (next : ∀ h' tk' r, n ≤ tk' → ∀ tt : Tok,  Fr h₀ L h' (putM (Str.ofString "turns") (.float tu tt) (putM (Str.ofString "hues") (.ref Dh) (putM (Str.ofString "k") (.int k tk) (putM (Str.ofString "cyan") (.bool cy) (putM (Str.ofString "empty") (.bool em) (putM (Str.ofString "told") (.ref Dt) (putM (Str.ofString "value") (.float va tv) (putM (Str.ofString "share") (.float sh tf) (putM (Str.ofString "p") (.int p tp) (putM (Str.ofString "q") (.int q tq) (putM (Str.ofString "size") (.int sz ts) r))))))))))) → News h₀ L h' ((Dh, listOf #[.float u0 v0, .float u1 v1, .float u2 v2, .float u3 v3] nH) :: keep) → wpAny (model pw w) A (execs rest (lawEnv L fa ca)) Q E { s with heap := h', toks := tk' }) :
    wpAny (model pw w) A (execs (kAt 2 rfl :: kAt 3 rfl :: rest) (lawEnv L fa ca)) Q E s := by
  obtain ⟨hdl, dep, frm, gds, uni⟩ := A
  obtain rfl : hdl = none := hh
  obtain rfl : frm = some (lawEnv L fa ca :: outer) := hA
  have hroom1 : ({ handled := none, depth := dep, frames := some (lawEnv L fa ca :: outer), guards := gds, units := uni } : Around).depth + 1 < recursionLimit := by simp only at hroom ⊢; omega
  w_on
  try dsimp only
  with_reducible refine wpAny_execs_cons (wpAny_with_toks hT ?_)
  subst htu
  k_steps
  refine Stop.intro ?_
  (with_reducible rename Fr _ _ _ _ => kF)
  (with_reducible rename News _ _ _ _ => kN)
  refine sum_four kF kN rfl (.head _) ?_
  clear kF kN
  intro h' tk t' ha hb F' N'
  try dsimp only at ha hb ⊢
  k_steps
  (with_reducible rename Fr _ _ _ _ => kF)
  (with_reducible rename News _ _ _ _ => kN)
  have nb := NoneBooked.keeps (none_booked X₀ T) kF.keep
  refine SeqAt.notIn_tupleAt (fun y => match y with | .float c _ => eqF c (sum4 u0 u1 u2 u3) | _ => false) ⟨_, (kN _ (.head _)).1, rfl, _, rfl⟩ ?_ ?_
  · intro y hy
    simp only [List.mem_toArray, List.mem_cons, List.not_mem_nil, or_false] at hy
    rcases hy with rfl | rfl | rfl
    · refine EqAt_float ⟨?_, ?_, ?_⟩ (fun e => e ▸ (by decide +kernel : eqF 4607182418800017408 4607182418800017408 = true)) nb
      · omega
      · omega
      · intro e; exfalso; omega
    · refine EqAt_float ⟨?_, ?_, ?_⟩ (fun e => e ▸ (by decide +kernel : eqF 4611686018427387904 4611686018427387904 = true)) nb
      · omega
      · omega
      · intro e; exfalso; omega
    · refine EqAt_float ⟨?_, ?_, ?_⟩ (fun e => e ▸ (by decide +kernel : eqF 4613937818241073152 4613937818241073152 = true)) nb
      · omega
      · omega
      · intro e; exfalso; omega
  have ht : ∀ t1 t2 t3, (!(#[Value.float 4607182418800017408 t1, Value.float 4611686018427387904 t2, Value.float 4613937818241073152 t3] : Array Value).any fun y => match y with | .float c _ => eqF c (sum4 u0 u1 u2 u3) | _ => false) = false := by
    intro t1 t2 t3
    simp only [List.any_toArray, List.any_cons, List.any_nil, Bool.or_false]
    rw [Bool.or_assoc] at hturn
    rw [hturn]; rfl
  rw [ht]
  k_steps
  (with_reducible rename Fr _ _ _ _ => kF2)
  refine next _ _ _ ?_ _ (fr_put (fr_put (fr_put (fr_put (fr_put (fr_put (fr_put (fr_put (fr_put (fr_put (fr_put (kF2) rfl) rfl) rfl) rfl) rfl) rfl) rfl) rfl) rfl) rfl) rfl) ?_
  · ((try dsimp only); omega)
  · exact news_sub kN fun p hp => .tail _ hp
set_option maxHeartbeats 4000000 in
theorem tail_b {k sz p q : Int} {sh va u0 u1 u2 u3 : UInt64} {tk tv tf tp tq ts : Tok} {v0 v1 v2 v3 : Nat} {Dt Dh : Addr} {nH : Nat} {cy em : Bool} {keep : List (Addr × Obj)} {r : Str → Option Value} {n : Nat} {tu : UInt64} {tt : Tok} {ins : Bool} (B : Below A₀ base outer h₀) (F : Fr h₀ L s.heap (putM (Str.ofString "turns") (.float tu tt) (putM (Str.ofString "hues") (.ref Dh) (putM (Str.ofString "k") (.int k tk) (putM (Str.ofString "cyan") (.bool cy) (putM (Str.ofString "empty") (.bool em) (putM (Str.ofString "told") (.ref Dt) (putM (Str.ofString "value") (.float va tv) (putM (Str.ofString "share") (.float sh tf) (putM (Str.ofString "p") (.int p tp) (putM (Str.ofString "q") (.int q tq) (putM (Str.ofString "size") (.int sz ts) r)))))))))))) (X₀ : (K w.params).In h₀) (Y₀ : TopFacts w h₀) (T : Top qv loose mean mg mb h₀)
    (N : News h₀ L s.heap ((Dh, listOf #[.float u0 v0, .float u1 v1, .float u2 v2, .float u3 v3] nH) :: keep)) (hoff : ∀ p ∈ keep, p.1 ≠ Dh) (hT : n ≤ s.toks) (hn : 0 < n) (hins : decide (sz * (-((-p * k).fdiv sz) + -((-q * k).fdiv sz)) + k - (p + q) * k ≤ sz) = ins)
    (hz0 : 0 < sz) (hz1 : sz ≤ 32) (hk0 : 1 ≤ k) (hk1 : k < sz) (hp : 0 ≤ p ∧ p < sz) (hq : 0 ≤ q ∧ q < sz) (hA : A.frames = some (lawEnv L fa ca :: outer)) (hroom : A.depth + 5 < recursionLimit) (hh : A.handled = none) (hu : A.units + 64 < cLine)
    (next : ∀ h' tk' r, n ≤ tk' →  Fr h₀ L h' (putM (Str.ofString "inside") (.bool ins) (putM (Str.ofString "turns") (.float tu tt) (putM (Str.ofString "hues") (.ref Dh) (putM (Str.ofString "k") (.int k tk) (putM (Str.ofString "cyan") (.bool cy) (putM (Str.ofString "empty") (.bool em) (putM (Str.ofString "told") (.ref Dt) (putM (Str.ofString "value") (.float va tv) (putM (Str.ofString "share") (.float sh tf) (putM (Str.ofString "p") (.int p tp) (putM (Str.ofString "q") (.int q tq) (putM (Str.ofString "size") (.int sz ts) r)))))))))))) → News h₀ L h' ((Dh, listOf #[.float u0 v0, .float u1 v1, .float u2 v2, .float u3 v3] nH) :: keep) → wpAny (model pw w) A (execs rest (lawEnv L fa ca)) Q E { s with heap := h', toks := tk' }) :
    wpAny (model pw w) A (execs (kAt 4 rfl :: kAt 5 rfl :: rest) (lawEnv L fa ca)) Q E s := by
  obtain ⟨hdl, dep, frm, gds, uni⟩ := A
  obtain rfl : hdl = none := hh
  obtain rfl : frm = some (lawEnv L fa ca :: outer) := hA
  have hroom1 : ({ handled := none, depth := dep, frames := some (lawEnv L fa ca :: outer), guards := gds, units := uni } : Around).depth + 1 < recursionLimit := by simp only at hroom ⊢; omega
  w_on
  try dsimp only
  with_reducible refine wpAny_execs_cons (wpAny_with_toks hT ?_)
  subst hins
  k_steps
  (with_reducible rename Fr _ _ _ _ => kF2)
  (with_reducible rename News _ _ _ _ => kN2)
  refine next _ _ _ ?_ (fr_put (fr_put (fr_put (fr_put (fr_put (fr_put (fr_put (fr_put (fr_put (fr_put (fr_put (fr_put (kF2) rfl) rfl) rfl) rfl) rfl) rfl) rfl) rfl) rfl) rfl) rfl) rfl) ?_
  · repeat (first | exact hT | refine Nat.le_succ_of_le ?_)
  · first | exact kN2 | exact news_sub kN2 fun p hp => .tail _ hp
set_option maxHeartbeats 4000000 in
theorem tail_c {k sz p q : Int} {sh va u0 u1 u2 u3 : UInt64} {tk tv tf tp tq ts : Tok} {v0 v1 v2 v3 : Nat} {Dt Dh : Addr} {nH : Nat} {cy em : Bool} {keep : List (Addr × Obj)} {r : Str → Option Value} {n : Nat} {tu : UInt64} {tt : Tok} {ins : Bool} (B : Below A₀ base outer h₀) (F : Fr h₀ L s.heap (putM (Str.ofString "inside") (.bool ins) (putM (Str.ofString "turns") (.float tu tt) (putM (Str.ofString "hues") (.ref Dh) (putM (Str.ofString "k") (.int k tk) (putM (Str.ofString "cyan") (.bool cy) (putM (Str.ofString "empty") (.bool em) (putM (Str.ofString "told") (.ref Dt) (putM (Str.ofString "value") (.float va tv) (putM (Str.ofString "share") (.float sh tf) (putM (Str.ofString "p") (.int p tp) (putM (Str.ofString "q") (.int q tq) (putM (Str.ofString "size") (.int sz ts) r))))))))))))) (X₀ : (K w.params).In h₀) (Y₀ : TopFacts w h₀) (T : Top qv loose mean mg mb h₀)
    (N : News h₀ L s.heap ((Dh, listOf #[.float u0 v0, .float u1 v1, .float u2 v2, .float u3 v3] nH) :: keep)) (hoff : ∀ p ∈ keep, p.1 ≠ Dh) (hT : n ≤ s.toks) (hn : 0 < n) (heq : (Float64.cmp tu 4607182418800017408 == some .eq) = ins)
    (hz0 : 0 < sz) (hz1 : sz ≤ 32) (hk0 : 1 ≤ k) (hk1 : k < sz) (hp : 0 ≤ p ∧ p < sz) (hq : 0 ≤ q ∧ q < sz) (hA : A.frames = some (lawEnv L fa ca :: outer)) (hroom : A.depth + 5 < recursionLimit) (hh : A.handled = none) (hu : A.units + 64 < cLine)
    (next : ∀ h' tk' r, n ≤ tk' →  Fr h₀ L h' (putM (Str.ofString "hues") (.ref Dh) (putM (Str.ofString "k") (.int k tk) (putM (Str.ofString "cyan") (.bool cy) (putM (Str.ofString "empty") (.bool (if ins then false else em)) (putM (Str.ofString "told") (.ref Dt) (putM (Str.ofString "value") (.float va tv) (putM (Str.ofString "share") (.float sh tf) (putM (Str.ofString "p") (.int p tp) (putM (Str.ofString "q") (.int q tq) (putM (Str.ofString "size") (.int sz ts) r)))))))))) → News h₀ L h' ((Dh, listOf #[.float u0 v0, .float u1 v1, .float u2 v2, .float u3 v3] nH) :: keep) → wpAny (model pw w) A (execs rest (lawEnv L fa ca)) Q E { s with heap := h', toks := tk' }) :
    wpAny (model pw w) A (execs (kAt 6 rfl :: kAt 7 rfl :: rest) (lawEnv L fa ca)) Q E s := by
  obtain ⟨hdl, dep, frm, gds, uni⟩ := A
  obtain rfl : hdl = none := hh
  obtain rfl : frm = some (lawEnv L fa ca :: outer) := hA
  have hroom1 : ({ handled := none, depth := dep, frames := some (lawEnv L fa ca :: outer), guards := gds, units := uni } : Around).depth + 1 < recursionLimit := by simp only at hroom ⊢; omega
  w_on
  try dsimp only
  with_reducible refine wpAny_execs_cons (wpAny_with_toks hT ?_)
  cases ins
  · k_steps
    (with_reducible rename Fr _ _ _ _ => kF2)
    (with_reducible rename News _ _ _ _ => kN2)
    refine next _ _ _ ?_ (fr_put (fr_put (fr_put (fr_put (fr_put (fr_put (fr_put (fr_put (fr_put (fr_put (kF2) rfl) rfl) rfl) rfl) rfl) rfl) rfl) rfl) rfl) rfl) ?_
    · first | assumption | ((try dsimp only); omega)
    · first | exact kN2 | exact news_sub kN2 fun p hp => .tail _ hp
  · k_steps
    (with_reducible rename Fr _ _ _ _ => kF2)
    (with_reducible rename News _ _ _ _ => kN2)
    refine next _ _ _ ?_ (fr_put (fr_put (fr_put (fr_put (fr_put (fr_put (fr_put (fr_put (fr_put (fr_put (kF2) rfl) rfl) rfl) rfl) rfl) rfl) rfl) rfl) rfl) rfl) ?_
    · first | assumption | ((try dsimp only); omega)
    · first | exact kN2 | exact news_sub kN2 fun p hp => .tail _ hp
end
end
end
section
open PySem PySem.W PySem.Calls PyProof.Rows PySem.Spec LCg
set_option maxRecDepth 100000
set_option linter.unusedVariables false
set_option pp.deepTerms false
set_option pp.deepTerms.threshold 9
section
theorem filledI : PySem.Challenge.rw_tp0034_01 = PySem.Challenge.rw_tp0034_01 ∧ K = K := by k_fill; exact ⟨rfl, rfl⟩
section
variable {w : World} {A A₀ : Around} {base h₀ : Heap} {outer : List Env} {L fa ca c0 c1 c2 c3 : Addr} {m mg mb : Str → Option Value} {mean : ExcName → Option Value} {loose : List Str} {s : Shared}
  {o0 o1 o2 o3 : Obj} {Q : Flow → Shared → Prop} {E : Value → Shared → Prop} {rest : List Stmt}
local macro_rules | `(tactic| walk_at "compareOp Eq ref ref") => `(tactic| ((with_reducible show wpAny _ _ (compareOp _ (Value.ref _) (Value.ref _)) _ _ _); refine Stop.out ?_))
theorem all4 (a b c d : UInt64) : ((List.range 4).all fun j => eqF ([a, b, c, d].getD j 0) 4602678819172646912) = (eqF a 4602678819172646912 && eqF b 4602678819172646912 && eqF c 4602678819172646912 && eqF d 4602678819172646912) := by
  simp [List.range, List.range.loop, Bool.and_assoc]
set_option maxHeartbeats 4000000 in
theorem tail_d {k sz p q : Int} {sh va u0 u1 u2 u3 : UInt64} {tk tv tf tp tq ts : Tok} {v0 v1 v2 v3 : Nat} {Dt Dh : Addr} {nH : Nat} {cy em : Bool} {keep : List (Addr × Obj)} {r : Str → Option Value} {n : Nat} (B : Below A₀ base outer h₀) (F : Fr h₀ L s.heap (putM (Str.ofString "hues") (.ref Dh) (putM (Str.ofString "k") (.int k tk) (putM (Str.ofString "cyan") (.bool cy) (putM (Str.ofString "empty") (.bool em) (putM (Str.ofString "told") (.ref Dt) (putM (Str.ofString "value") (.float va tv) (putM (Str.ofString "share") (.float sh tf) (putM (Str.ofString "p") (.int p tp) (putM (Str.ofString "q") (.int q tq) (putM (Str.ofString "size") (.int sz ts) r))))))))))) (X₀ : (K w.params).In h₀) (Y₀ : TopFacts w h₀) (T : Top qv loose mean mg mb h₀)
    (N : News h₀ L s.heap ((Dh, listOf #[.float u0 v0, .float u1 v1, .float u2 v2, .float u3 v3] nH) :: keep)) (hoff : ∀ p ∈ keep, p.1 ≠ Dh) (hT : n ≤ s.toks) (hn : 0 < n) (w0 : 0 < v0 ∧ v0 < n) (w1 : 0 < v1 ∧ v1 < n) (w2 : 0 < v2 ∧ v2 < n) (w3 : 0 < v3 ∧ v3 < n)
    (hz0 : 0 < sz) (hz1 : sz ≤ 32) (hk0 : 1 ≤ k) (hk1 : k < sz) (hp : 0 ≤ p ∧ p < sz) (hq : 0 ≤ q ∧ q < sz) (hA : A.frames = some (lawEnv L fa ca :: outer)) (hroom : A.depth + 5 < recursionLimit) (hh : A.handled = none) (hu : A.units + 64 < cLine)
    (next : ∀ h' tk' r, n ≤ tk' →  Fr h₀ L h' (putM (Str.ofString "hues") (.ref Dh) (putM (Str.ofString "k") (.int k tk) (putM (Str.ofString "cyan") (.bool (if 2 * k = sz then (eqF u0 4602678819172646912 && eqF u1 4602678819172646912 && eqF u2 4602678819172646912 && eqF u3 4602678819172646912) else cy)) (putM (Str.ofString "empty") (.bool em) (putM (Str.ofString "told") (.ref Dt) (putM (Str.ofString "value") (.float va tv) (putM (Str.ofString "share") (.float sh tf) (putM (Str.ofString "p") (.int p tp) (putM (Str.ofString "q") (.int q tq) (putM (Str.ofString "size") (.int sz ts) r)))))))))) → News h₀ L h' ((Dh, listOf #[.float u0 v0, .float u1 v1, .float u2 v2, .float u3 v3] nH) :: keep) → wpAny (model pw w) A (execs rest (lawEnv L fa ca)) Q E { s with heap := h', toks := tk' }) :
    wpAny (model pw w) A (execs (kAt 8 rfl :: rest) (lawEnv L fa ca)) Q E s := by
  obtain ⟨hdl, dep, frm, gds, uni⟩ := A
  obtain rfl : hdl = none := hh
  obtain rfl : frm = some (lawEnv L fa ca :: outer) := hA
  have hroom1 : ({ handled := none, depth := dep, frames := some (lawEnv L fa ca :: outer), guards := gds, units := uni } : Around).depth + 1 < recursionLimit := by simp only at hroom ⊢; omega
  w_on
  try dsimp only
  with_reducible refine wpAny_execs_cons (wpAny_with_toks hT ?_)
  by_cases h2 : 2 * k = sz
  · rw [if_pos h2] at next
    have hkd1 : decide (2 * k = sz) = true := decide_eq_true h2
    have hkd2 : (2 * k == sz) = true := by simpa using h2
    k_steps
    refine Stop.intro ?_
    (with_reducible rename Fr _ _ _ _ => kF)
    (with_reducible rename News _ _ _ _ => kN)
    have nb := NoneBooked.keeps (none_booked X₀ T) kF.keep
    refine SeqAt.eq_listAt (items := #[.float u0 v0, .float u1 v1, .float u2 v2, .float u3 v3]) (e := fun j => eqF ([u0, u1, u2, u3].getD j 0) 4602678819172646912) ⟨_, (kN _ (.tail _ (.head _))).1, rfl, _, rfl⟩ ⟨_, (kN _ (.head _)).1, rfl, _, rfl⟩ rfl (by simp only at hu ⊢; omega) ?_ ?_
    · intro j h1 h2
      match j, h1 with
      | 0, _ =>
        show SeqAt.EqAt _ _ (.float u0 v0) (.float 4602678819172646912 _) (eqF u0 4602678819172646912)
        refine EqAt_float ⟨?_, ?_, ?_⟩ (fun e => e ▸ (by decide +kernel : eqF 4602678819172646912 4602678819172646912 = true)) nb
        · omega
        · (try dsimp only); omega
        · intro e; exfalso; (try dsimp only at e); omega
      | 1, _ =>
        show SeqAt.EqAt _ _ (.float u1 v1) (.float 4602678819172646912 _) (eqF u1 4602678819172646912)
        refine EqAt_float ⟨?_, ?_, ?_⟩ (fun e => e ▸ (by decide +kernel : eqF 4602678819172646912 4602678819172646912 = true)) nb
        · omega
        · (try dsimp only); omega
        · intro e; exfalso; (try dsimp only at e); omega
      | 2, _ =>
        show SeqAt.EqAt _ _ (.float u2 v2) (.float 4602678819172646912 _) (eqF u2 4602678819172646912)
        refine EqAt_float ⟨?_, ?_, ?_⟩ (fun e => e ▸ (by decide +kernel : eqF 4602678819172646912 4602678819172646912 = true)) nb
        · omega
        · (try dsimp only); omega
        · intro e; exfalso; (try dsimp only at e); omega
      | 3, _ =>
        show SeqAt.EqAt _ _ (.float u3 v3) (.float 4602678819172646912 _) (eqF u3 4602678819172646912)
        refine EqAt_float ⟨?_, ?_, ?_⟩ (fun e => e ▸ (by decide +kernel : eqF 4602678819172646912 4602678819172646912 = true)) nb
        · omega
        · (try dsimp only); omega
        · intro e; exfalso; (try dsimp only at e); omega
    rw [show ((List.range (#[Value.float u0 v0, Value.float u1 v1, Value.float u2 v2, Value.float u3 v3] : Array Value).size).all fun j => eqF ([u0, u1, u2, u3].getD j 0) 4602678819172646912) = (eqF u0 4602678819172646912 && eqF u1 4602678819172646912 && eqF u2 4602678819172646912 && eqF u3 4602678819172646912) from all4 _ _ _ _]
    k_steps
    (with_reducible rename Fr _ _ _ _ => kF2)
    (with_reducible rename News _ _ _ _ => kN2)
    refine next _ _ _ ?_ (fr_put (fr_put (fr_put (fr_put (fr_put (fr_put (fr_put (fr_put (fr_put (fr_put (kF2) rfl) rfl) rfl) rfl) rfl) rfl) rfl) rfl) rfl) rfl) ?_
    · first | assumption | ((try dsimp only); omega)
    · first | exact kN2 | exact news_sub kN2 fun p hp => .tail _ hp
  · rw [if_neg h2] at next
    have hkd1 : decide (2 * k = sz) = false := decide_eq_false h2
    have hkd2 : (2 * k == sz) = false := by simpa using h2
    k_steps
    (with_reducible rename Fr _ _ _ _ => kF2)
    (with_reducible rename News _ _ _ _ => kN2)
    refine next _ _ _ ?_ (fr_put (fr_put (fr_put (fr_put (fr_put (fr_put (fr_put (fr_put (fr_put (fr_put (kF2) rfl) rfl) rfl) rfl) rfl) rfl) rfl) rfl) rfl) rfl) ?_
    · first | assumption | ((try dsimp only); omega)
    · first | exact kN2 | exact news_sub kN2 fun p hp => .tail _ hp
end
end
end
section
open PySem PySem.W PySem.Calls PyProof.Rows PySem.Spec LCg
set_option maxRecDepth 100000
set_option linter.unusedVariables false
set_option pp.deepTerms false
set_option pp.deepTerms.threshold 9
section
theorem filledJ : PySem.Challenge.rw_tp0034_01 = PySem.Challenge.rw_tp0034_01 ∧ K = K := by k_fill; exact ⟨rfl, rfl⟩
section
variable {w : World} {A A₀ : Around} {base h₀ : Heap} {outer : List Env} {L fa ca c0 c1 c2 c3 : Addr} {m mg mb : Str → Option Value} {mean : ExcName → Option Value} {loose : List Str} {s : Shared}
  {o0 o1 o2 o3 : Obj} {Q : Flow → Shared → Prop} {E : Value → Shared → Prop} {rest : List Stmt}
set_option maxHeartbeats 4000000 in
theorem hues_start {k sz p q : Int} {sh va : UInt64} {tk tv tf tp tq ts : Tok} {Dt : Addr} {cy em : Bool} {keep : List (Addr × Obj)} {r : Str → Option Value} (B : Below A₀ base outer h₀) (F : Fr h₀ L s.heap (putM (Str.ofString "k") (.int k tk) (putM (Str.ofString "cyan") (.bool cy) (putM (Str.ofString "empty") (.bool em) (putM (Str.ofString "told") (.ref Dt) (putM (Str.ofString "value") (.float va tv) (putM (Str.ofString "share") (.float sh tf) (putM (Str.ofString "p") (.int p tp) (putM (Str.ofString "q") (.int q tq) (putM (Str.ofString "size") (.int sz ts) r)))))))))) (X₀ : (K w.params).In h₀) (Y₀ : TopFacts w h₀) (T : Top qv loose mean mg mb h₀)
    (N : News h₀ L s.heap keep) (hA : A.frames = some (lawEnv L fa ca :: outer)) (hroom : A.depth + 5 < recursionLimit) (hh : A.handled = none) (hu : A.units + 64 < cLine)
    (next : ∀ h' tk' r Dh nH, s.toks ≤ tk' → (∀ p ∈ keep, p.1 ≠ Dh) → Fr h₀ L h' (putM (Str.ofString "hues") (.ref Dh) (putM (Str.ofString "k") (.int k tk) (putM (Str.ofString "cyan") (.bool cy) (putM (Str.ofString "empty") (.bool em) (putM (Str.ofString "told") (.ref Dt) (putM (Str.ofString "value") (.float va tv) (putM (Str.ofString "share") (.float sh tf) (putM (Str.ofString "p") (.int p tp) (putM (Str.ofString "q") (.int q tq) (putM (Str.ofString "size") (.int sz ts) r)))))))))) → News h₀ L h' ((Dh, listOf #[] nH) :: keep) → wpAny (model pw w) A (execs rest (lawEnv L fa ca)) Q E { s with heap := h', toks := tk' }) :
    wpAny (model pw w) A (execs (kAt 0 rfl :: rest) (lawEnv L fa ca)) Q E s := by
  obtain ⟨hdl, dep, frm, gds, uni⟩ := A
  obtain rfl : hdl = none := hh
  obtain rfl : frm = some (lawEnv L fa ca :: outer) := hA
  have hroom1 : ({ handled := none, depth := dep, frames := some (lawEnv L fa ca :: outer), guards := gds, units := uni } : Around).depth + 1 < recursionLimit := by simp only at hroom ⊢; omega
  w_on
  try dsimp only
  k_steps
  (with_reducible rename Fr _ _ _ _ => kF2)
  (with_reducible rename News _ _ _ _ => kN2)
  refine next _ _ _ _ _ ?_ (fun p hp => Nat.ne_of_lt ?_) (fr_put (fr_put (fr_put (fr_put (fr_put (fr_put (fr_put (fr_put (fr_put (fr_put (kF2) rfl) rfl) rfl) rfl) rfl) rfl) rfl) rfl) rfl) rfl) kN2
  · ((try dsimp only); omega)
  · exact (by assumption : ∀ p ∈ keep, p.1 < _) p hp
/-- what a height of blue gives -/
noncomputable def KOk (k sz p q n0 n1 n2 n3 : Int) (sh va : UInt64) (ins cyf : Bool) (x0 y0 z0 x1 y1 z1 x2 y2 z2 x3 y3 z3 : UInt64) : Prop := ∃ u0 u1 u2 u3 : UInt64,
  HueOk k n0 sz sh va x0 y0 z0 u0 ∧ HueOk k n1 sz sh va x1 y1 z1 u1 ∧ HueOk k n2 sz sh va x2 y2 z2 u2 ∧ HueOk k n3 sz sh va x3 y3 z3 u3 ∧
  (eqF 4607182418800017408 (sum4 u0 u1 u2 u3) || eqF 4611686018427387904 (sum4 u0 u1 u2 u3) || eqF 4613937818241073152 (sum4 u0 u1 u2 u3)) = true ∧
  decide (sz * (-((-p * k).fdiv sz) + -((-q * k).fdiv sz)) + k - (p + q) * k ≤ sz) = ins ∧ (Float64.cmp (sum4 u0 u1 u2 u3) 4607182418800017408 == some .eq) = ins ∧
  (eqF u0 4602678819172646912 && eqF u1 4602678819172646912 && eqF u2 4602678819172646912 && eqF u3 4602678819172646912) = cyf
theorem news_drop {h₀ h : Heap} {L : Addr} {a : Addr × Obj} {r : List (Addr × Obj)} (N : News h₀ L h (a :: r)) : News h₀ L h r := news_sub N fun p hp => .tail _ hp
set_option maxHeartbeats 4000000 in
theorem outer_n {k sz p q n0 n1 n2 n3 : Int} {sh va x0 y0 z0 x1 y1 z1 x2 y2 z2 x3 y3 z3 : UInt64} {tk tf tp tq ts ta tb1 tc td : Tok} {tv : Nat} {Dt : Addr} {nT : Nat} {cy em ins cyf : Bool} {keep : List (Addr × Obj)} {r : Str → Option Value} (B : Below A₀ base outer h₀) (F : Fr h₀ L s.heap (putM (Str.ofString "k") (.int k tk) (putM (Str.ofString "cyan") (.bool cy) (putM (Str.ofString "empty") (.bool em) (putM (Str.ofString "told") (.ref Dt) (putM (Str.ofString "value") (.float va tv) (putM (Str.ofString "share") (.float sh tf) (putM (Str.ofString "p") (.int p tp) (putM (Str.ofString "q") (.int q tq) (putM (Str.ofString "size") (.int sz ts) r)))))))))) (X₀ : (K w.params).In h₀) (Y₀ : TopFacts w h₀) (T : Top qv loose mean mg mb h₀)
    (N : News h₀ L s.heap ((Dt, listOf #[.int n0 ta, .int n1 tb1, .int n2 tc, .int n3 td] nT) :: keep)) (hs0 : 0 < s.toks) (hK : KOk k sz p q n0 n1 n2 n3 sh va ins cyf x0 y0 z0 x1 y1 z1 x2 y2 z2 x3 y3 z3)
    (hz0 : 0 < sz) (hz1 : sz ≤ 32) (hk0 : 1 < k) (hk1 : k < sz) (hp : 0 ≤ p ∧ p < sz) (hq : 0 ≤ q ∧ q < sz) (hA : A.frames = some (lawEnv L fa ca :: outer)) (hroom : A.depth + 5 < recursionLimit) (hh : A.handled = none) (hu : A.units + 64 < cLine)
    (next : ∀ h' tk' r, s.toks ≤ tk' → Fr h₀ L h' (putM (Str.ofString "cyan") (.bool (if 2 * k = sz then cyf else cy)) (putM (Str.ofString "empty") (.bool (if ins then false else em)) (putM (Str.ofString "told") (.ref Dt) (putM (Str.ofString "value") (.float va tv) (putM (Str.ofString "share") (.float sh tf) (putM (Str.ofString "p") (.int p tp) (putM (Str.ofString "q") (.int q tq) (putM (Str.ofString "size") (.int sz ts) r)))))))) → News h₀ L h' ((Dt, listOf #[.int n0 ta, .int n1 tb1, .int n2 tc, .int n3 td] nT) :: keep) → Q .next { s with heap := h', toks := tk' }) :
    wpAny (model pw w) A (execs kBody (lawEnv L fa ca)) Q E s := by
  obtain ⟨hdl, dep, frm, gds, uni⟩ := A
  obtain rfl : hdl = none := hh
  obtain rfl : frm = some (lawEnv L fa ca :: outer) := hA
  have hroom1 : ({ handled := none, depth := dep, frames := some (lawEnv L fa ca :: outer), guards := gds, units := uni } : Around).depth + 1 < recursionLimit := by simp only at hroom ⊢; omega
  w_on
  try dsimp only
  obtain ⟨u0, u1, u2, u3, H0, H1, H2, H3, hturn, hins, heq, hcy⟩ := hK
  show wpAny _ _ (execs (kAt 0 rfl :: kAt 1 rfl :: kAt 2 rfl :: kAt 3 rfl :: kAt 4 rfl :: kAt 5 rfl :: kAt 6 rfl :: kAt 7 rfl :: kAt 8 rfl :: []) _) _ _ _
  refine hues_start B F X₀ Y₀ T N rfl hroom rfl hu ?_
  intro h1 tk1 r1 Dh nH ht1 off F1 N1
  with_reducible refine wpAny_execs_cons ?_
  refine inner_n B F1 X₀ Y₀ T N1 off H0 H1 H2 H3 hz0 hz1 hk0 hk1 rfl hroom rfl hu ?_
  intro h2 tk2 r2 v0 v1 v2 v3 nH2 ht2' a0 a1 a2 a3 F2 N2
  (try dsimp only at ht2' a0 a1 a2 a3)
  have ht2 : tk2 ≤ tk2 := Nat.le_refl _
  have w0 : 0 < v0 ∧ v0 < tk2 := ⟨by omega, a0.2⟩
  have w1 : 0 < v1 ∧ v1 < tk2 := ⟨by omega, a1.2⟩
  have w2 : 0 < v2 ∧ v2 < tk2 := ⟨by omega, a2.2⟩
  have w3 : 0 < v3 ∧ v3 < tk2 := ⟨by omega, a3.2⟩
  refine tail_a (tu := sum4 u0 u1 u2 u3) B F2 X₀ Y₀ T N2 off ht2 (by omega) rfl hturn hz0 hz1 (by omega) hk1 hp hq rfl hroom rfl hu ?_
  intro h3 tk3 r3 ht3 tt F3 N3
  with_reducible refine tail_b B F3 X₀ Y₀ T N3 off ht3 (by omega) hins hz0 hz1 (by omega) hk1 hp hq rfl hroom rfl hu ?_
  intro h4 tk4 r4 ht4 F4 N4
  refine tail_c B F4 X₀ Y₀ T N4 off ht4 (by omega) heq hz0 hz1 (by omega) hk1 hp hq rfl hroom rfl hu ?_
  intro h5 tk5 r5 ht5 F5 N5
  refine tail_d B F5 X₀ Y₀ T N5 off ht5 (by omega) w0 w1 w2 w3 hz0 hz1 (by omega) hk1 hp hq rfl hroom rfl hu ?_
  intro h6 tk6 r6 ht6 F6 N6
  rw [hcy] at F6
  refine wpAny_execs_nil ?_
  exact next _ _ _ (by omega) (fr_put (fr_put (fr_put (fr_put (fr_put (fr_put (fr_put (fr_put (F6) rfl) rfl) rfl) rfl) rfl) rfl) rfl) rfl) (news_drop N6)
set_option maxHeartbeats 4000000 in
theorem outer_1 {sz p q n0 n1 n2 n3 : Int} {sh va x0 y0 z0 x1 y1 z1 x2 y2 z2 x3 y3 z3 : UInt64} {tk tf tp tq ts ta tb1 tc td : Tok} {tv : Nat} {Dt : Addr} {nT : Nat} {cy em ins cyf : Bool} {keep : List (Addr × Obj)} {r : Str → Option Value} {Dl : Addr} {nL : Nat} (B : Below A₀ base outer h₀) (F : Fr h₀ L s.heap (putM (Str.ofString "k") (.int 1 tk) (putM (Str.ofString "cyan") (.bool cy) (putM (Str.ofString "empty") (.bool em) (putM (Str.ofString "told") (.ref Dt) (putM (Str.ofString "value") (.float va tv) (putM (Str.ofString "share") (.float sh tf) (putM (Str.ofString "p") (.int p tp) (putM (Str.ofString "q") (.int q tq) (putM (Str.ofString "size") (.int sz ts) r)))))))))) (X₀ : (K w.params).In h₀) (Y₀ : TopFacts w h₀) (T : Top qv loose mean mg mb h₀)
    (N : News h₀ L s.heap ((Dl, listOf #[] nL) :: (L + 1 + 1 + 1, o2) :: (Dt, listOf #[.int n0 ta, .int n1 tb1, .int n2 tc, .int n3 td] nT) :: keep)) (ho2 : o2.data = .cell (some (.ref Dl))) (hoff2 : ∀ p ∈ (Dt, listOf #[.int n0 ta, .int n1 tb1, .int n2 tc, .int n3 td] nT) :: keep, p.1 ≠ Dl) (hcl : L + 1 + 1 + 1 ≠ Dl) (hs0 : 0 < s.toks) (hK : KOk 1 sz p q n0 n1 n2 n3 sh va ins cyf x0 y0 z0 x1 y1 z1 x2 y2 z2 x3 y3 z3)
    (hz0 : 0 < sz) (hz1 : sz ≤ 32) (hk1 : 1 < sz) (hp : 0 ≤ p ∧ p < sz) (hq : 0 ≤ q ∧ q < sz) (hA : A.frames = some (lawEnv L fa ca :: outer)) (hroom : A.depth + 5 < recursionLimit) (hh : A.handled = none) (hu : A.units + 64 < cLine)
    (next : ∀ h' tk' r nL' T0 T1 T2 T3 a0 b0 c0 a1 b1 c1 a2 b2 c2 a3 b3 c3 (e0 e1 e2 e3 e4 : Nat), s.toks ≤ tk' → s.toks ≤ e0 → e0 ≤ e1 → e1 ≤ e2 → e2 ≤ e3 → e3 ≤ e4 → (TokOk e0 e1 tv va x0 a0 ∧ TokOk e0 e1 tv va y0 b0 ∧ TokOk e0 e1 tv va z0 c0) ∧ (TokOk e1 e2 tv va x1 a1 ∧ TokOk e1 e2 tv va y1 b1 ∧ TokOk e1 e2 tv va z1 c1) ∧ (TokOk e2 e3 tv va x2 a2 ∧ TokOk e2 e3 tv va y2 b2 ∧ TokOk e2 e3 tv va z2 c2) ∧ (TokOk e3 e4 tv va x3 a3 ∧ TokOk e3 e4 tv va y3 b3 ∧ TokOk e3 e4 tv va z3 c3) → Fr h₀ L h' (putM (Str.ofString "cyan") (.bool (if 2 * 1 = sz then cyf else cy)) (putM (Str.ofString "empty") (.bool (if ins then false else em)) (putM (Str.ofString "told") (.ref Dt) (putM (Str.ofString "value") (.float va tv) (putM (Str.ofString "share") (.float sh tf) (putM (Str.ofString "p") (.int p tp) (putM (Str.ofString "q") (.int q tq) (putM (Str.ofString "size") (.int sz ts) r)))))))) → News h₀ L h' ((Dl, listOf [Value.ref T0, Value.ref T1, Value.ref T2, Value.ref T3].toArray nL') :: (L + 1 + 1 + 1, o2) :: (T3, tupO (.float x3 a3) (.float y3 b3) (.float z3 c3)) :: (T2, tupO (.float x2 a2) (.float y2 b2) (.float z2 c2)) :: (T1, tupO (.float x1 a1) (.float y1 b1) (.float z1 c1)) :: (T0, tupO (.float x0 a0) (.float y0 b0) (.float z0 c0)) :: (Dt, listOf #[.int n0 ta, .int n1 tb1, .int n2 tc, .int n3 td] nT) :: keep) → Q .next { s with heap := h', toks := tk' }) :
    wpAny (model pw w) A (execs kBody (lawEnv L fa ca)) Q E s := by
  obtain ⟨hdl, dep, frm, gds, uni⟩ := A
  obtain rfl : hdl = none := hh
  obtain rfl : frm = some (lawEnv L fa ca :: outer) := hA
  have hroom1 : ({ handled := none, depth := dep, frames := some (lawEnv L fa ca :: outer), guards := gds, units := uni } : Around).depth + 1 < recursionLimit := by simp only at hroom ⊢; omega
  w_on
  try dsimp only
  obtain ⟨u0, u1, u2, u3, H0, H1, H2, H3, hturn, hins, heq, hcy⟩ := hK
  show wpAny _ _ (execs (kAt 0 rfl :: kAt 1 rfl :: kAt 2 rfl :: kAt 3 rfl :: kAt 4 rfl :: kAt 5 rfl :: kAt 6 rfl :: kAt 7 rfl :: kAt 8 rfl :: []) _) _ _ _
  refine hues_start B F X₀ Y₀ T N rfl hroom rfl hu ?_
  intro h1 tk1 r1 Dh nH ht1 off F1 N1
  have hhl : Dl ≠ Dh := off _ (.head _)
  have hch : L + 1 + 1 + 1 ≠ Dh := off _ (.tail _ (.head _))
  with_reducible refine wpAny_execs_cons ?_
  refine inner_1 B F1 X₀ Y₀ T N1 ho2 (fun p hp => off p (.tail _ (.tail _ hp))) hoff2 hhl hch hcl H0 H1 H2 H3 hz0 hz1 rfl hroom rfl hu ?_
  intro h2 tk2 r2 v0 v1 v2 v3 nH2 nL2 T0 T1 T2 T3 a0 b0 c0 a1 b1 c1 a2 b2 c2 a3 b3 c3 e1 e2 e3 ht2' g0 g1 g2 g3 he1 he2 he3 he4 hTK F2 N2
  (try dsimp only at ht2' g0 g1 g2 g3 he1 he2 he3 he4 hTK)
  have ht2 : tk2 ≤ tk2 := Nat.le_refl _
  have w0 : 0 < v0 ∧ v0 < tk2 := ⟨by omega, g0.2⟩
  have w1 : 0 < v1 ∧ v1 < tk2 := ⟨by omega, g1.2⟩
  have w2 : 0 < v2 ∧ v2 < tk2 := ⟨by omega, g2.2⟩
  have w3 : 0 < v3 ∧ v3 < tk2 := ⟨by omega, g3.2⟩
  have d0 : T0 ≠ Dh := news_cls N2 (.tail _ (.tail _ (.tail _ (.tail _ (.tail _ (.tail _ (.head _))))))) (.head _) tup_list
  have d1 : T1 ≠ Dh := news_cls N2 (.tail _ (.tail _ (.tail _ (.tail _ (.tail _ (.head _)))))) (.head _) tup_list
  have d2 : T2 ≠ Dh := news_cls N2 (.tail _ (.tail _ (.tail _ (.tail _ (.head _))))) (.head _) tup_list
  have d3 : T3 ≠ Dh := news_cls N2 (.tail _ (.tail _ (.tail _ (.head _)))) (.head _) tup_list
  have offA : ∀ p ∈ (Dl, listOf [Value.ref T0, Value.ref T1, Value.ref T2, Value.ref T3].toArray nL2) :: (L + 1 + 1 + 1, o2) :: (T3, tupO (.float x3 a3) (.float y3 b3) (.float z3 c3)) :: (T2, tupO (.float x2 a2) (.float y2 b2) (.float z2 c2)) :: (T1, tupO (.float x1 a1) (.float y1 b1) (.float z1 c1)) :: (T0, tupO (.float x0 a0) (.float y0 b0) (.float z0 c0)) :: (Dt, listOf #[.int n0 ta, .int n1 tb1, .int n2 tc, .int n3 td] nT) :: keep, p.1 ≠ Dh := all_cons hhl (all_cons hch (all_cons d3 (all_cons d2 (all_cons d1 (all_cons d0 fun p hp => off p (.tail _ (.tail _ hp)))))))
  refine tail_a (tu := sum4 u0 u1 u2 u3) B F2 X₀ Y₀ T N2 offA ht2 (by omega) rfl hturn hz0 hz1 (by omega) hk1 hp hq rfl hroom rfl hu ?_
  intro h3 tk3 r3 ht3 tt F3 N3
  with_reducible refine tail_b B F3 X₀ Y₀ T N3 offA ht3 (by omega) hins hz0 hz1 (by omega) hk1 hp hq rfl hroom rfl hu ?_
  intro h4 tk4 r4 ht4 F4 N4
  refine tail_c B F4 X₀ Y₀ T N4 offA ht4 (by omega) heq hz0 hz1 (by omega) hk1 hp hq rfl hroom rfl hu ?_
  intro h5 tk5 r5 ht5 F5 N5
  refine tail_d B F5 X₀ Y₀ T N5 offA ht5 (by omega) w0 w1 w2 w3 hz0 hz1 (by omega) hk1 hp hq rfl hroom rfl hu ?_
  intro h6 tk6 r6 ht6 F6 N6
  rw [hcy] at F6
  refine wpAny_execs_nil ?_
  exact next _ _ _ _ _ _ _ _ _ _ _ _ _ _ _ _ _ _ _ _ tk1 e1 e2 e3 tk2 (by omega) (by omega) he1 he2 he3 he4 hTK (fr_put (fr_put (fr_put (fr_put (fr_put (fr_put (fr_put (fr_put (F6) rfl) rfl) rfl) rfl) rfl) rfl) rfl) rfl) (news_drop N6)
end
end
end
section
open PySem PySem.W PySem.Calls PyProof.Rows PySem.Spec LCg
set_option maxRecDepth 100000
set_option linter.unusedVariables false
set_option pp.deepTerms false
set_option pp.deepTerms.threshold 9
section
theorem filledK : PySem.Challenge.rw_tp0034_01 = PySem.Challenge.rw_tp0034_01 ∧ K = K := by k_fill; exact ⟨rfl, rfl⟩
section
variable {w : World} {A A₀ : Around} {base h₀ : Heap} {outer : List Env} {L fa ca c0 c1 c2 c3 : Addr} {m mg mb : Str → Option Value} {mean : ExcName → Option Value} {loose : List Str} {s : Shared}
  {o0 o1 o2 o3 : Obj} {Q : Flow → Shared → Prop} {E : Value → Shared → Prop} {rest : List Stmt}
/-- what stands under the name `empty` behind the turns -/
noncomputable def emAfter (ins : Int → Bool) : Nat → Nat → Bool → Bool
  | 0, _, em => em
  | r + 1, i, em => emAfter ins r (i + 1) (if ins (1 + (i : Int)) then false else em)
noncomputable def cyAfter (sz : Int) (cyf : Int → Bool) : Nat → Nat → Bool → Bool
  | 0, _, cy => cy
  | r + 1, i, cy => cyAfter sz cyf r (i + 1) (if 2 * (1 + (i : Int)) = sz then cyf (1 + (i : Int)) else cy)
noncomputable def KEx (k sz p q n0 n1 n2 n3 : Int) (sh va : UInt64) (ins cyf : Bool) : Prop := ∃ x0 y0 z0 x1 y1 z1 x2 y2 z2 x3 y3 z3 : UInt64, KOk k sz p q n0 n1 n2 n3 sh va ins cyf x0 y0 z0 x1 y1 z1 x2 y2 z2 x3 y3 z3
set_option maxHeartbeats 4000000 in
theorem loop_rest {sz p q n0 n1 n2 n3 : Int} {sh va : UInt64} {tf tp tq ts ta tb1 tc td : Tok} {tv : Nat} {Dt : Addr} {nT : Nat} {keep G : List (Addr × Obj)} {ins cyf : Int → Bool} {I : Addr} {nn c : Nat} (B : Below A₀ base outer h₀) (X₀ : (K w.params).In h₀) (Y₀ : TopFacts w h₀) (T : Top qv loose mean mg mb h₀)
    (hG : (Dt, listOf #[.int n0 ta, .int n1 tb1, .int n2 tc, .int n3 td] nT) ∈ G) (hoffG : ∀ p ∈ G, p.1 ≠ I) (hc : 0 < c) (hK : ∀ k : Int, 1 ≤ k → k < sz → KEx k sz p q n0 n1 n2 n3 sh va (ins k) (cyf k))
    (hz0 : 0 < sz) (hz1 : sz ≤ 32) (hp : 0 ≤ p ∧ p < sz) (hq : 0 ≤ q ∧ q < sz) (hA : A.frames = some (lawEnv L fa ca :: outer)) (hroom : A.depth + 5 < recursionLimit) (hh : A.handled = none) (hu : A.units + 64 < cLine) :
    ∀ (rem i : Nat) (em cy : Bool) (T0 : Nat) (r : Str → Option Value), 1 ≤ i → (i : Int) + rem = sz - 1 → c ≤ T0 →
      (∀ h' tk' r, c ≤ tk' → Fr h₀ L h' (putM (Str.ofString "cyan") (.bool (cyAfter sz cyf rem i cy)) (putM (Str.ofString "empty") (.bool (emAfter ins rem i em)) (putM (Str.ofString "told") (.ref Dt) (putM (Str.ofString "value") (.float va tv) (putM (Str.ofString "share") (.float sh tf) (putM (Str.ofString "p") (.int p tp) (putM (Str.ofString "q") (.int q tq) (putM (Str.ofString "size") (.int sz ts) r)))))))) → News h₀ L h' G → Q .next { s with heap := h', toks := tk' }) →
      RRest pw w A h₀ (lawEnv L fa ca) (Str.ofString "k") kBody Q s I 1 nn rem i (putM (Str.ofString "cyan") (.bool cy) (putM (Str.ofString "empty") (.bool em) (putM (Str.ofString "told") (.ref Dt) (putM (Str.ofString "value") (.float va tv) (putM (Str.ofString "share") (.float sh tf) (putM (Str.ofString "p") (.int p tp) (putM (Str.ofString "q") (.int q tq) (putM (Str.ofString "size") (.int sz ts) r)))))))) G T0 := by
  obtain ⟨hdl, dep, frm, gds, uni⟩ := A
  obtain rfl : hdl = none := hh
  obtain rfl : frm = some (lawEnv L fa ca :: outer) := hA
  intro rem
  induction rem with
  | zero =>
    intro i em cy T0 r hi hir hT next
    refine RRest.zero fun h tk ht F N => ?_
    exact next h tk r (Nat.le_trans hT ht) F N
  | succ rem ih =>
    intro i em cy T0 r hi hir hT next
    refine RRest.succ fun t h tk ht F N => ?_
    obtain ⟨x0, y0, z0, x1, y1, z1, x2, y2, z2, x3, y3, z3, hk⟩ := hK (1 + (i : Int)) (by omega) (by omega)
    refine outer_n (s := { s with heap := h, toks := tk }) B F X₀ Y₀ T (news_cons N (.tail _ hG) N) (by show 0 < tk; omega) hk hz0 hz1 (by omega) (by omega) hp hq rfl hroom rfl hu ?_
    intro h' tk' r' ht' F' N'
    refine UEnd.intro F' (news_drop N') hoffG ?_
    exact ih (i + 1) _ _ tk' r' (by omega) (by omega) (Nat.le_trans (Nat.le_trans hT ht) ht') next
noncomputable def RgP (c : Nat) (h₀ : Heap) (L : Addr) (m : Str → Option Value) (news : List (Addr × Obj)) (sz : Int) (s : Shared) (xv : Value) (s₁ : Shared) : Prop :=
  ∃ r0 t u v h' tk, xv = .ref r0 ∧ s₁ = { s with heap := h', toks := tk } ∧ c ≤ tk ∧ IsRange h' r0 1 sz 1 t u v ∧ Fr h₀ L h' m ∧ News h₀ L h' news
theorem news_in3b {h₀ h : Heap} {L : Addr} {a b c d : Addr × Obj} {r : List (Addr × Obj)} (N : News h₀ L h (a :: b :: c :: d :: r)) : News h₀ L h (b :: c :: d :: a :: r) := news_in3 N
theorem news_up7 {h₀ h : Heap} {L : Addr} {a b c d e f g i : Addr × Obj} {r : List (Addr × Obj)} (N : News h₀ L h (b :: c :: d :: e :: f :: g :: i :: a :: r)) : News h₀ L h (a :: b :: c :: d :: e :: f :: g :: i :: r) := news_cons N (.tail _ (.tail _ (.tail _ (.tail _ (.tail _ (.tail _ (.tail _ (.head _)))))))) (news_sub N fun p hp => by
  rcases List.mem_cons.mp hp with rfl | hp
  · exact .head _
  rcases List.mem_cons.mp hp with rfl | hp
  · exact .tail _ (.head _)
  rcases List.mem_cons.mp hp with rfl | hp
  · exact .tail _ (.tail _ (.head _))
  rcases List.mem_cons.mp hp with rfl | hp
  · exact .tail _ (.tail _ (.tail _ (.head _)))
  rcases List.mem_cons.mp hp with rfl | hp
  · exact .tail _ (.tail _ (.tail _ (.tail _ (.head _))))
  rcases List.mem_cons.mp hp with rfl | hp
  · exact .tail _ (.tail _ (.tail _ (.tail _ (.tail _ (.head _)))))
  rcases List.mem_cons.mp hp with rfl | hp
  · exact .tail _ (.tail _ (.tail _ (.tail _ (.tail _ (.tail _ (.head _))))))
  exact .tail _ (.tail _ (.tail _ (.tail _ (.tail _ (.tail _ (.tail _ (.tail _ hp))))))))
local macro_rules | `(tactic| walk_at "pyIter ref") => `(tactic| ((with_reducible show wpAny _ _ (pyIter (Value.ref _)) _ _ _); refine Stop.out ?_))
theorem tup_rit {a b c : Value} {x l : Int} : (tupO a b c).cls ≠ (itR x l).cls := by
  show Value.type "tuple" ≠ Value.type "range_iterator"
  intro h; injection h with h; exact absurd h (by decide)
set_option maxHeartbeats 4000000 in
theorem st_loop {sz p q n0 n1 n2 n3 : Int} {sh va x0 y0 z0 x1 y1 z1 x2 y2 z2 x3 y3 z3 : UInt64} {tf tp tq ts ta tb1 tc td : Tok} {tv c : Nat} {Dt Dl : Addr} {nT nL : Nat} {keep : List (Addr × Obj)} {r : Str → Option Value} {ins cyf : Int → Bool} (B : Below A₀ base outer h₀) (F : Fr h₀ L s.heap (putM (Str.ofString "cyan") (.bool false) (putM (Str.ofString "empty") (.bool true) (putM (Str.ofString "told") (.ref Dt) (putM (Str.ofString "value") (.float va tv) (putM (Str.ofString "share") (.float sh tf) (putM (Str.ofString "p") (.int p tp) (putM (Str.ofString "q") (.int q tq) (putM (Str.ofString "size") (.int sz ts) r))))))))) (X₀ : (K w.params).In h₀) (Y₀ : TopFacts w h₀) (T : Top qv loose mean mg mb h₀)
    (N : News h₀ L s.heap ((Dl, listOf #[] nL) :: (L + 1 + 1 + 1, o2) :: (Dt, listOf #[.int n0 ta, .int n1 tb1, .int n2 tc, .int n3 td] nT) :: keep)) (ho2 : o2.data = .cell (some (.ref Dl))) (hoff2 : ∀ p ∈ (Dt, listOf #[.int n0 ta, .int n1 tb1, .int n2 tc, .int n3 td] nT) :: keep, p.1 ≠ Dl) (hcl : L + 1 + 1 + 1 ≠ Dl) (hc : 0 < c) (hT : c ≤ s.toks)
    (hsz : sz = 8 ∨ sz = 16 ∨ sz = 32) (hp : 0 ≤ p ∧ p < sz) (hq : 0 ≤ q ∧ q < sz)
    (hK1 : KOk 1 sz p q n0 n1 n2 n3 sh va (ins 1) (cyf 1) x0 y0 z0 x1 y1 z1 x2 y2 z2 x3 y3 z3) (hK : ∀ k : Int, 1 ≤ k → k < sz → KEx k sz p q n0 n1 n2 n3 sh va (ins k) (cyf k)) (hA : A.frames = some (lawEnv L fa ca :: outer)) (hroom : A.depth + 5 < recursionLimit) (hh : A.handled = none) (hu : A.units + 64 < cLine)
    (next : ∀ h' tk' r nL' T0 T1 T2 T3 a0 b0 c0 a1 b1 c1 a2 b2 c2 a3 b3 c3 (e0 e1 e2 e3 e4 : Nat), c ≤ tk' → c ≤ e0 → e0 ≤ e1 → e1 ≤ e2 → e2 ≤ e3 → e3 ≤ e4 → (TokOk e0 e1 tv va x0 a0 ∧ TokOk e0 e1 tv va y0 b0 ∧ TokOk e0 e1 tv va z0 c0) ∧ (TokOk e1 e2 tv va x1 a1 ∧ TokOk e1 e2 tv va y1 b1 ∧ TokOk e1 e2 tv va z1 c1) ∧ (TokOk e2 e3 tv va x2 a2 ∧ TokOk e2 e3 tv va y2 b2 ∧ TokOk e2 e3 tv va z2 c2) ∧ (TokOk e3 e4 tv va x3 a3 ∧ TokOk e3 e4 tv va y3 b3 ∧ TokOk e3 e4 tv va z3 c3) → Fr h₀ L h' (putM (Str.ofString "cyan") (.bool (cyAfter sz cyf (sz - 1).toNat 0 false)) (putM (Str.ofString "empty") (.bool (emAfter ins (sz - 1).toNat 0 true)) (putM (Str.ofString "told") (.ref Dt) (putM (Str.ofString "value") (.float va tv) (putM (Str.ofString "share") (.float sh tf) (putM (Str.ofString "p") (.int p tp) (putM (Str.ofString "q") (.int q tq) (putM (Str.ofString "size") (.int sz ts) r)))))))) → News h₀ L h' ((Dl, listOf [Value.ref T0, Value.ref T1, Value.ref T2, Value.ref T3].toArray nL') :: (L + 1 + 1 + 1, o2) :: (T3, tupO (.float x3 a3) (.float y3 b3) (.float z3 c3)) :: (T2, tupO (.float x2 a2) (.float y2 b2) (.float z2 c2)) :: (T1, tupO (.float x1 a1) (.float y1 b1) (.float z1 c1)) :: (T0, tupO (.float x0 a0) (.float y0 b0) (.float z0 c0)) :: (Dt, listOf #[.int n0 ta, .int n1 tb1, .int n2 tc, .int n3 td] nT) :: keep) → wpAny (model pw w) A (execs rest (lawEnv L fa ca)) Q E { s with heap := h', toks := tk' }) :
    wpAny (model pw w) A (execs (stAt 14 rfl :: rest) (lawEnv L fa ca)) Q E s := by
  obtain ⟨hdl, dep, frm, gds, uni⟩ := A
  obtain rfl : hdl = none := hh
  obtain rfl : frm = some (lawEnv L fa ca :: outer) := hA
  have hroom1 : ({ handled := none, depth := dep, frames := some (lawEnv L fa ca :: outer), guards := gds, units := uni } : Around).depth + 1 < recursionLimit := by simp only at hroom ⊢; omega
  w_on
  try dsimp only
  with_reducible refine wpAny_execs_cons ?_
  refine For_T (h₀ := h₀) (env := lawEnv L fa ca) rfl rfl ?_
  refine wpAny_mono (Q := RgP c h₀ L (putM (Str.ofString "cyan") (.bool false) (putM (Str.ofString "empty") (.bool true) (putM (Str.ofString "told") (.ref Dt) (putM (Str.ofString "value") (.float va tv) (putM (Str.ofString "share") (.float sh tf) (putM (Str.ofString "p") (.int p tp) (putM (Str.ofString "q") (.int q tq) (putM (Str.ofString "size") (.int sz ts) r)))))))) ((Dl, listOf #[] nL) :: (L + 1 + 1 + 1, o2) :: (Dt, listOf #[.int n0 ta, .int n1 tb1, .int n2 tc, .int n3 td] nT) :: keep) sz s) (E := fun _ _ => False) ?_ ?_ fun _ _ e => e
  · refine wpAny_with_toks hT ?_
    k_steps
    exact ⟨_, _, _, _, _, _, rfl, rfl, by assumption, by assumption, by assumption, by assumption⟩
  · rintro _ _ ⟨r0, t0, u0, w0, h1, tk1, rfl, rfl, ht1, hr, F1, N1⟩
    have hn : Builtin.Range.rangeSize 1 sz 1 = (((sz - 1).toNat : Nat) : Int) := by rcases hsz with rfl | rfl | rfl <;> rfl
    have hsm : Builtin.Range.small 1 sz 1 = true := by rcases hsz with rfl | rfl | rfl <;> decide
    refine iter_rangeT (s := { s with heap := h1, toks := tk1 }) (env := lawEnv L fa ca) (n := (sz - 1).toNat) rfl hr hsm hn F1 N1 ?_
    intro I l1
    have iDl : Dl < I := l1 _ (.head _)
    obtain ⟨nn, hnn⟩ : ∃ nn, (sz - 1).toNat = nn + 1 := ⟨(sz - 1).toNat - 1, by omega⟩
    rw [hnn]
    refine RRest.succ fun t h2 tk2 ht2 F2 N2 => ?_
    have F2 : Fr h₀ L h2 (putM (Str.ofString "k") (.int 1 t) (putM (Str.ofString "cyan") (.bool false) (putM (Str.ofString "empty") (.bool true) (putM (Str.ofString "told") (.ref Dt) (putM (Str.ofString "value") (.float va tv) (putM (Str.ofString "share") (.float sh tf) (putM (Str.ofString "p") (.int p tp) (putM (Str.ofString "q") (.int q tq) (putM (Str.ofString "size") (.int sz ts) r))))))))) := F2
    refine outer_1 (s := { s with heap := h2, toks := tk2 }) (keep := (I, itR (1 + ((0 + 1 : Nat) : Int)) (((nn + 1 : Nat) : Int) - ((0 + 1 : Nat) : Int))) :: keep) B F2 X₀ Y₀ T (news_in3b N2) ho2 ?_ hcl ?_ hK1 (by omega) (by omega) (by omega) hp hq rfl hroom rfl hu ?_
    · refine all_cons (hoff2 _ (.head _)) (all_cons (Nat.ne_of_gt (l1 _ (.head _))) fun p hp => hoff2 p (.tail _ hp))
    · show 0 < tk2
      dsimp only at ht2
      omega
    intro h3 tk3 r3 nL3 T0 T1 T2 T3 a0 b0 c0 a1 b1 c1 a2 b2 c2 a3 b3 c3 e0 e1 e2 e3 e4 ht3 he0 he1 he2 he3 he4 hTK F3 N3
    have d0 : T0 ≠ I := news_cls N3 (.tail _ (.tail _ (.tail _ (.tail _ (.tail _ (.head _)))))) (.tail _ (.tail _ (.tail _ (.tail _ (.tail _ (.tail _ (.tail _ (.head _)))))))) tup_rit
    have d1 : T1 ≠ I := news_cls N3 (.tail _ (.tail _ (.tail _ (.tail _ (.head _))))) (.tail _ (.tail _ (.tail _ (.tail _ (.tail _ (.tail _ (.tail _ (.head _)))))))) tup_rit
    have d2 : T2 ≠ I := news_cls N3 (.tail _ (.tail _ (.tail _ (.head _)))) (.tail _ (.tail _ (.tail _ (.tail _ (.tail _ (.tail _ (.tail _ (.head _)))))))) tup_rit
    have d3 : T3 ≠ I := news_cls N3 (.tail _ (.tail _ (.head _))) (.tail _ (.tail _ (.tail _ (.tail _ (.tail _ (.tail _ (.tail _ (.head _)))))))) tup_rit
    have offI : ∀ p ∈ (Dl, listOf [Value.ref T0, Value.ref T1, Value.ref T2, Value.ref T3].toArray nL3) :: (L + 1 + 1 + 1, o2) :: (T3, tupO (.float x3 a3) (.float y3 b3) (.float z3 c3)) :: (T2, tupO (.float x2 a2) (.float y2 b2) (.float z2 c2)) :: (T1, tupO (.float x1 a1) (.float y1 b1) (.float z1 c1)) :: (T0, tupO (.float x0 a0) (.float y0 b0) (.float z0 c0)) :: (Dt, listOf #[.int n0 ta, .int n1 tb1, .int n2 tc, .int n3 td] nT) :: keep, p.1 ≠ I := all_cons (Nat.ne_of_lt iDl) (all_cons (Nat.ne_of_lt (l1 _ (.tail _ (.head _)))) (all_cons d3 (all_cons d2 (all_cons d1 (all_cons d0 fun p hp => Nat.ne_of_lt (l1 p (.tail _ (.tail _ hp))))))))
    refine UEnd.intro F3 (news_up7 N3) offI ?_
    (try dsimp only at ht3 he0 ht2)
    refine loop_rest (keep := []) (s := { s with heap := h1, toks := tk1 }) (c := c) B X₀ Y₀ T (.tail _ (.tail _ (.tail _ (.tail _ (.tail _ (.tail _ (.head _))))))) offI hc hK (by omega) (by omega) hp hq rfl hroom rfl hu nn 1 _ _ tk3 r3 (Nat.le_refl _) (by omega) (by omega) ?_
    intro h4 tk4 r4 ht4 F4 N4
    refine next _ _ r4 _ _ _ _ _ _ _ _ _ _ _ _ _ _ _ _ _ e0 e1 e2 e3 e4 ht4 (by omega) he1 he2 he3 he4 hTK ?_ N4
    rw [hnn]
    exact F4
end
end
end
section
open PySem PySem.W PySem.Calls PyProof.Rows PySem.Spec LCg
set_option maxRecDepth 100000
set_option linter.unusedVariables false
set_option pp.deepTerms false
set_option pp.deepTerms.threshold 9
section
theorem filledL : PySem.Challenge.rw_tp0034_01 = PySem.Challenge.rw_tp0034_01 ∧ K = K := by k_fill; exact ⟨rfl, rfl⟩
section
variable {w : World} {A A₀ : Around} {base h₀ : Heap} {outer : List Env} {L fa ca c0 c1 c2 c3 : Addr} {m mg mb : Str → Option Value} {mean : ExcName → Option Value} {loose : List Str} {s : Shared}
  {o0 o1 o2 o3 : Obj} {Q : Flow → Shared → Prop} {E : Value → Shared → Prop} {rest : List Stmt}
theorem cell_off {h₀ h : Heap} {L : Addr} {l : List (Addr × Obj)} {c : Addr} {o : Obj} {v : Option Value} (N : News h₀ L h ((c, o) :: l)) (ho : o.data = .cell v) (hl : ∀ p ∈ l, p.2.data ≠ .cell v) : ∀ p ∈ l, p.1 ≠ c := fun p hp => news_ne (a := p.1) (o := p.2) N (.tail _ hp) (.head _) (by rw [ho]; exact hl p hp)
theorem seq_cell {a b c : Value} {v : Option Value} : (tupO a b c).data ≠ .cell v := fun h => nomatch h
theorem list_cell {x : Array Value} {n : Nat} {v : Option Value} : (listOf x n).data ≠ .cell v := fun h => nomatch h
local macro_rules | `(tactic| walk_at "pyIter ref") => `(tactic| ((with_reducible show wpAny _ _ (pyIter (Value.ref _)) _ _ _); refine Stop.out ?_))
local macro_rules | `(tactic| walk_at "eval ListComp") => `(tactic| ((with_reducible show wpAny _ _ (eval (PySem.Expr.ListComp _ _ _ _) _) _ _ _); refine Stop.out ?_))
set_option maxHeartbeats 4000000 in
theorem st_mates {x0 y0 z0 x1 y1 z1 x2 y2 z2 x3 y3 z3 : UInt64} {a0 b0 c0' a1 b1 c1' a2 b2 c2' a3 b3 c3' : Tok} {c : Nat} {Dl T0 T1 T2 T3 : Addr} {nL : Nat} (B : Below A₀ base outer h₀) (F : Fr h₀ L s.heap m) (X₀ : (K w.params).In h₀) (Y₀ : TopFacts w h₀) (T : Top qv loose mean mg mb h₀)
    (N : News h₀ L s.heap ((Dl, listOf [Value.ref T0, Value.ref T1, Value.ref T2, Value.ref T3].toArray nL) :: (L + 1 + 1 + 1, o2) :: (T3, tupO (.float x3 a3) (.float y3 b3) (.float z3 c3')) :: (T2, tupO (.float x2 a2) (.float y2 b2) (.float z2 c2')) :: (T1, tupO (.float x1 a1) (.float y1 b1) (.float z1 c1')) :: (T0, tupO (.float x0 a0) (.float y0 b0) (.float z0 c0')) :: (L + 1 + 1 + 1 + 1, o3) :: [])) (ho2 : o2.data = .cell (some (.ref Dl))) (ho3 : o3.data = .cell none) (hT : c ≤ s.toks) (hA : A.frames = some (lawEnv L fa ca :: outer)) (hroom : A.depth + 5 < recursionLimit) (hh : A.handled = none) (hu : A.units + 64 < cLine)
    (next : ∀ h' tk' Dm nM M0 M1 M2 M3 o3', c ≤ tk' → o3'.data = .cell (some (.ref Dm)) → Fr h₀ L h' m → News h₀ L h' ((L + 1 + 1 + 1 + 1, o3') :: (Dm, listOf #[.ref M0, .ref M1, .ref M2, .ref M3] nM) :: (M0, tupO (.float x0 a0) (.float z0 c0') (.float y0 b0)) :: (M1, tupO (.float x1 a1) (.float z1 c1') (.float y1 b1)) :: (M2, tupO (.float x2 a2) (.float z2 c2') (.float y2 b2)) :: (M3, tupO (.float x3 a3) (.float z3 c3') (.float y3 b3)) :: (Dl, listOf [Value.ref T0, Value.ref T1, Value.ref T2, Value.ref T3].toArray nL) :: (L + 1 + 1 + 1, o2) :: (T3, tupO (.float x3 a3) (.float y3 b3) (.float z3 c3')) :: (T2, tupO (.float x2 a2) (.float y2 b2) (.float z2 c2')) :: (T1, tupO (.float x1 a1) (.float y1 b1) (.float z1 c1')) :: (T0, tupO (.float x0 a0) (.float y0 b0) (.float z0 c0')) :: []) → wpAny (model pw w) A (execs rest (lawEnv L fa ca)) Q E { s with heap := h', toks := tk' }) :
    wpAny (model pw w) A (execs (stAt 15 rfl :: rest) (lawEnv L fa ca)) Q E s := by
  obtain ⟨hdl, dep, frm, gds, uni⟩ := A
  obtain rfl : hdl = none := hh
  obtain rfl : frm = some (lawEnv L fa ca :: outer) := hA
  have hroom1 : ({ handled := none, depth := dep, frames := some (lawEnv L fa ca :: outer), guards := gds, units := uni } : Around).depth + 1 < recursionLimit := by simp only at hroom ⊢; omega
  w_on
  try dsimp only
  with_reducible refine wpAny_execs_cons (wpAny_with_toks hT ?_)
  refine wpAny_Assign_Name ?_ (by with_unfolding_all rfl)
  refine comp_G (h₀ := h₀) (L := L) (m := m) (by with_unfolding_all rfl) (by decide) (by rfl) (by decide) ?_
  refine nameX_C N (c := L + 1 + 1 + 1) rfl (.tail _ (.head _)) ho2 ?_ rfl rfl
  refine mates_src (x := fun i => match i with | 0 => Value.float x0 a0 | 1 => Value.float x1 a1 | 2 => Value.float x2 a2 | _ => Value.float x3 a3) (y := fun i => match i with | 0 => Value.float y0 b0 | 1 => Value.float y1 b1 | 2 => Value.float y2 b2 | _ => Value.float y3 b3) (z := fun i => match i with | 0 => Value.float z0 c0' | 1 => Value.float z1 c1' | 2 => Value.float z2 c2' | _ => Value.float z3 c3') rfl F N (.head _) (.tail _ (.tail _ (.tail _ (.tail _ (.tail _ (.head _)))))) (.tail _ (.tail _ (.tail _ (.tail _ (.head _))))) (.tail _ (.tail _ (.tail _ (.head _)))) (.tail _ (.tail _ (.head _))) rfl rfl rfl rfl (by decide) (by decide) (by decide) (by decide) (by decide) (by decide) ?_
  intro Dm h1 tk1 M0 M1 M2 M3 nM F1 N1
  have N1 : News h₀ L h1 ((Dm, listOf #[.ref M0, .ref M1, .ref M2, .ref M3] nM) :: (M0, tupO (.float x0 a0) (.float z0 c0') (.float y0 b0)) :: (M1, tupO (.float x1 a1) (.float z1 c1') (.float y1 b1)) :: (M2, tupO (.float x2 a2) (.float z2 c2') (.float y2 b2)) :: (M3, tupO (.float x3 a3) (.float z3 c3') (.float y3 b3)) :: (Dl, listOf [Value.ref T0, Value.ref T1, Value.ref T2, Value.ref T3].toArray nL) :: (L + 1 + 1 + 1, o2) :: (T3, tupO (.float x3 a3) (.float y3 b3) (.float z3 c3')) :: (T2, tupO (.float x2 a2) (.float y2 b2) (.float z2 c2')) :: (T1, tupO (.float x1 a1) (.float y1 b1) (.float z1 c1')) :: (T0, tupO (.float x0 a0) (.float y0 b0) (.float z0 c0')) :: (L + 1 + 1 + 1 + 1, o3) :: []) := N1
  have N2 : News h₀ L h1 ((L + 1 + 1 + 1 + 1, o3) :: (Dm, listOf #[.ref M0, .ref M1, .ref M2, .ref M3] nM) :: (M0, tupO (.float x0 a0) (.float z0 c0') (.float y0 b0)) :: (M1, tupO (.float x1 a1) (.float z1 c1') (.float y1 b1)) :: (M2, tupO (.float x2 a2) (.float z2 c2') (.float y2 b2)) :: (M3, tupO (.float x3 a3) (.float z3 c3') (.float y3 b3)) :: (Dl, listOf [Value.ref T0, Value.ref T1, Value.ref T2, Value.ref T3].toArray nL) :: (L + 1 + 1 + 1, o2) :: (T3, tupO (.float x3 a3) (.float y3 b3) (.float z3 c3')) :: (T2, tupO (.float x2 a2) (.float y2 b2) (.float z2 c2')) :: (T1, tupO (.float x1 a1) (.float y1 b1) (.float z1 c1')) :: (T0, tupO (.float x0 a0) (.float y0 b0) (.float z0 c0')) :: []) := by
    (repeat (refine news_cons N1 (by repeat (first | with_reducible exact List.mem_cons_self | with_reducible refine List.mem_cons_of_mem _ ?_)) ?_)); exact news_nil
  refine storeX_C F1 N2 rfl (UpdF.head (cell_off N2 ho3 ?_)) ho3 ?_ rfl rfl
  · exact all_cons list_cell (all_cons seq_cell (all_cons seq_cell (all_cons seq_cell (all_cons seq_cell (all_cons list_cell (all_cons (by rw [ho2]; exact fun h => nomatch h) (all_cons seq_cell (all_cons seq_cell (all_cons seq_cell (all_cons seq_cell fun p hp => nomatch hp))))))))))
  intro h2 o3' F2 N3 hd ht2
  exact next _ _ _ _ _ _ _ _ _ ht2 hd F2 N3
end
end
end
section
open PySem PySem.W PySem.Calls PyProof.Rows PySem.Spec LCg
set_option maxRecDepth 100000
set_option linter.unusedVariables false
set_option pp.deepTerms false
set_option pp.deepTerms.threshold 9
section
theorem filledM : PySem.Challenge.rw_tp0034_01 = PySem.Challenge.rw_tp0034_01 ∧ K = K := by k_fill; exact ⟨rfl, rfl⟩
section
variable {w : World} {A A₀ : Around} {base h₀ : Heap} {outer : List Env} {L fa ca c0 c1 c2 c3 : Addr} {m mg mb : Str → Option Value} {mean : ExcName → Option Value} {loose : List Str} {s : Shared}
  {o0 o1 o2 o3 : Obj} {Q : Flow → Shared → Prop} {E : Value → Shared → Prop} {rest : List Stmt}
noncomputable def TPost (c : Nat) (h₀ : Heap) (L : Addr) (m : Str → Option Value) (news : List (Addr × Obj)) (s : Shared) (xv : Value) (s₁ : Shared) : Prop :=
  ∃ (Wt W0 W1 W2 : Addr) (i00 i01 i02 i03 i10 i11 i12 i13 i20 i21 i22 i23 : Tok) (h' : Heap) (tk : Nat), xv = .ref Wt ∧ s₁ = { s with heap := h', toks := tk } ∧ c ≤ tk ∧ Fr h₀ L h' m ∧ News h₀ L h' ((Wt, (⟨.type "tuple", none, .seq #[.ref W0, .ref W1, .ref W2] 0, #[]⟩ : Obj)) :: (W2, (⟨.type "tuple", none, .seq #[.int 0 i20, .int 3 i21, .int 1 i22, .int 2 i23] 0, #[]⟩ : Obj)) :: (W1, (⟨.type "tuple", none, .seq #[.int 0 i10, .int 2 i11, .int 1 i12, .int 3 i13] 0, #[]⟩ : Obj)) :: (W0, (⟨.type "tuple", none, .seq #[.int 0 i00, .int 1 i01, .int 2 i02, .int 3 i03] 0, #[]⟩ : Obj)) :: news)
/-- two lights that are each the other, green and blue exchanged -/
noncomputable def mateB (x y z x' y' z' : UInt64) : Bool := eqF x x' && eqF y z' && eqF z y'
theorem sep_of {lo hi lo' hi' : Nat} {v : Nat} {c x x' : UInt64} {t t' : Nat} (h : TokOk lo hi v c x t) (h' : TokOk lo' hi' v c x' t') (h1 : hi ≤ lo') (h0 : 0 < lo) (hlh : lo ≤ hi) (hv0 : 0 < v) (hv : v < lo) : TokSep x x' t t' := by
  rcases h with ⟨e, ex⟩ | ⟨p, q⟩ <;> rcases h' with ⟨e', ex'⟩ | ⟨p', q'⟩
  · refine ⟨by omega, by omega, fun _ => by rw [ex, ex']⟩
  · refine ⟨by omega, by omega, fun e2 => ?_⟩
    exfalso; omega
  · refine ⟨by omega, by omega, fun e2 => ?_⟩
    exfalso; omega
  · refine ⟨by omega, by omega, fun e2 => ?_⟩
    exfalso; omega
theorem mate_eq {A : Around} {s : Shared} {x y z x' y' z' va : UInt64} {a b c a' b' c' : Nat} {v : Nat} {lo hi lo' hi' : Nat} {T M : Addr} (hT : s.heap.IsTuple T #[.float x a, .float y b, .float z c]) (hM : s.heap.IsTuple M #[.float x' a', .float z' c', .float y' b'])
    (k1 : TokOk lo hi v va x a) (k2 : TokOk lo hi v va y b) (k3 : TokOk lo hi v va z c) (k1' : TokOk lo' hi' v va x' a') (k2' : TokOk lo' hi' v va y' b') (k3' : TokOk lo' hi' v va z' c')
    (h1 : hi ≤ lo') (h0 : 0 < lo) (hlh : lo ≤ hi) (hv0 : 0 < v) (hv : v < lo) (s1 : eqF x x = true) (s2 : eqF y y = true) (s3 : eqF z z = true) (nb : NoneBooked s.heap) (hu : A.units < cLine)
    {prog : Program} {w : World} {E : Value → Shared → Prop} {Q : Value → Shared → Prop} (h : Q (.bool (mateB x y z x' y' z')) s) : wpAny (model prog w) A (compareOp .Eq (.ref T) (.ref M)) Q E s := by
  refine SeqAt.eq_tupleAt (e := fun j => [eqF x x', eqF y z', eqF z y'].getD j false) hT hM hu ?_ ?_
  · intro j h1 h2
    match j, h1 with
    | 0, _ => exact EqAt_float (sep_of k1 k1' (by assumption) h0 hlh hv0 hv) (fun e => e ▸ s1) nb
    | 1, _ => exact EqAt_float (sep_of k2 k3' (by assumption) h0 hlh hv0 hv) (fun e => e ▸ s2) nb
    | 2, _ => exact EqAt_float (sep_of k3 k2' (by assumption) h0 hlh hv0 hv) (fun e => e ▸ s3) nb
  · have e : ((List.range (min (#[Value.float x a, Value.float y b, Value.float z c] : Array Value).size (#[Value.float x' a', Value.float z' c', Value.float y' b'] : Array Value).size)).all (fun j => [eqF x x', eqF y z', eqF z y'].getD j false) && (#[Value.float x a, Value.float y b, Value.float z c] : Array Value).size == (#[Value.float x' a', Value.float z' c', Value.float y' b'] : Array Value).size) = mateB x y z x' y' z' := by
      show ((List.range 3).all _ && _) = _
      unfold mateB
      simp [List.range, List.range.loop, Bool.and_assoc]
    rw [e]; exact h
theorem star_tuple {elts : List PySem.Expr} {k : Nat} {pos : Pos} {rest : List PySem.Expr} {env : Env} : starEach (.Tuple elts k pos :: rest) env = (false, eval (.Tuple elts k pos) env) :: starEach rest env := by rfl
theorem star_const {c : Const} {k : Nat} {pos : Pos} {rest : List PySem.Expr} {env : Env} : starEach (.Constant c k pos :: rest) env = (false, eval (.Constant c k pos) env) :: starEach rest env := by rfl
theorem spl_nil {prog : Program} {w : World} {A : Around} {E : Value → Shared → Prop} {s : Shared} {env : Env} {pos : Pos} {Q : List Value → Shared → Prop} (h : Q [] s) : wpAny (model prog w) A (spliced (backTo pos (starEach [] env))) Q E s := spliced_none h
theorem tup_new {s : Shared} {h₀ : Heap} {L : Addr} {m : Str → Option Value} {news : List (Addr × Obj)} {vs : List Value} {Q : Value → Shared → Prop} {tk : Nat} (F : Fr h₀ L s.heap m) (N : News h₀ L s.heap news)
    (h : ∀ h' W, Fr h₀ L h' m → News h₀ L h' ((W, (⟨.type "tuple", none, .seq vs.toArray 0, #[]⟩ : Obj)) :: news) → Q (.ref W) { s with heap := h', toks := tk }) :
    Q (.ref s.heap.objs.size) { s with heap := s.heap.push { cls := .type "tuple", data := .seq vs.toArray }, toks := tk } :=
  h _ _ (F.push _) fun p hp => by
    rcases List.mem_cons.mp hp with rfl | hp
    · exact ⟨Heap.get?_push_size _ rfl, fun e => Nat.ne_of_gt F.ns.lt e, next_is_new F⟩
    · exact ⟨Heap.get?_push_of_some _ (N p hp).1, (N p hp).2⟩
theorem way_eval {prog : Program} {w : World} {A : Around} {E : Value → Shared → Prop} {s : Shared} {h₀ : Heap} {L : Addr} {m : Str → Option Value} {news : List (Addr × Obj)} {env : Env} {a b c d : Int} {k k1 k2 k3 k4 : _} {pos p1 p2 p3 p4 : Pos} {Q : Value → Shared → Prop} (F : Fr h₀ L s.heap m) (N : News h₀ L s.heap news)
    (h : ∀ h' W t1 t2 t3 t4 (tk : Nat), s.toks ≤ tk → Fr h₀ L h' m → News h₀ L h' ((W, (⟨.type "tuple", none, .seq #[.int a t1, .int b t2, .int c t3, .int d t4] 0, #[]⟩ : Obj)) :: news) → Q (.ref W) { s with heap := h', toks := tk }) :
    wpAny (model prog w) A (eval (.Tuple [.Constant (.int a) k1 p1, .Constant (.int b) k2 p2, .Constant (.int c) k3 p3, .Constant (.int d) k4 p4] k pos) env) Q E s := by
  refine wpAny_Tuple (spliced_more (wpAny_Constant_int (spliced_more (wpAny_Constant_int (spliced_more (wpAny_Constant_int (spliced_more (wpAny_Constant_int (spl_nil ?_)) star_const)) star_const)) star_const)) star_const)
  refine ⟨(by show (4 : Nat) ≤ sizeLine; decide), ?_⟩
  exact tup_new (s := { s with toks := s.toks + 1 + 1 + 1 + 1 }) (tk := s.toks + 1 + 1 + 1 + 1) F N fun h' W F' N' => h h' W s.toks (s.toks + 1) (s.toks + 1 + 1) (s.toks + 1 + 1 + 1) (s.toks + 1 + 1 + 1 + 1) (Nat.le_add_right s.toks 4) F' N'
theorem ways_eval {prog : Program} {w : World} {A : Around} {E : Value → Shared → Prop} {s : Shared} {h₀ : Heap} {L : Addr} {m : Str → Option Value} {news : List (Addr × Obj)} {env : Env} {c : Nat} {ka0 ka1 ka2 ka3 kb0 kb1 kb2 kb3 kd0 kd1 kd2 kd3 k1 k2 k3 k4 : Nat} {pa0 pa1 pa2 pa3 pb0 pb1 pb2 pb3 pd0 pd1 pd2 pd3 q1 q2 q3 q4 : Pos} (F : Fr h₀ L s.heap m) (N : News h₀ L s.heap news) (hT : c ≤ s.toks) :
    wpAny (model prog w) A (eval (.Tuple [.Tuple [.Constant (.int 0) ka0 pa0, .Constant (.int 1) ka1 pa1, .Constant (.int 2) ka2 pa2, .Constant (.int 3) ka3 pa3] k1 q1, .Tuple [.Constant (.int 0) kb0 pb0, .Constant (.int 2) kb1 pb1, .Constant (.int 1) kb2 pb2, .Constant (.int 3) kb3 pb3] k2 q2, .Tuple [.Constant (.int 0) kd0 pd0, .Constant (.int 3) kd1 pd1, .Constant (.int 1) kd2 pd2, .Constant (.int 2) kd3 pd3] k3 q3] k4 q4) env) (TPost c h₀ L m news s) E s := by
  refine wpAny_Tuple ?_
  with_reducible refine spliced_more ?_ star_tuple
  with_reducible refine way_eval F N ?_
  intro h1 W0 i00 i01 i02 i03 tk1 ht1 F1 N1
  with_reducible refine spliced_more ?_ star_tuple
  with_reducible refine way_eval F1 N1 ?_
  intro h2 W1 i10 i11 i12 i13 tk2 ht2 F2 N2
  with_reducible refine spliced_more ?_ star_tuple
  with_reducible refine way_eval F2 N2 ?_
  intro h3 W2 i20 i21 i22 i23 tk3 ht3 F3 N3
  refine spl_nil ?_
  refine ⟨(by show (3 : Nat) ≤ sizeLine; decide), ?_⟩
  dsimp only at ht1 ht2 ht3
  exact tup_new (s := { s with heap := h3, toks := tk3 }) (tk := tk3) (Q := TPost c h₀ L m news s) F3 N3 fun h' Wt F' N' => ⟨Wt, W0, W1, W2, i00, i01, i02, i03, i10, i11, i12, i13, i20, i21, i22, i23, h', tk3, rfl, rfl, by omega, F', N'⟩
theorem rest_chain {R : Nat → Nat → List Value → Prop} {v0 v1 v2 : Value} {p0 p1 p2 : Bool} (h0 : ∀ ys, (p0 = false → R 2 1 ys) → (p0 = true → R 2 1 (ys ++ [v0])) → R 3 0 ys) (h1 : ∀ ys, (p1 = false → R 1 2 ys) → (p1 = true → R 1 2 (ys ++ [v1])) → R 2 1 ys)
    (h2 : ∀ ys, (p2 = false → R 0 3 ys) → (p2 = true → R 0 3 (ys ++ [v2])) → R 1 2 ys) (hF : ∀ ys, ys.length ≤ 3 → ys.isEmpty = !(p0 || p1 || p2) → R 0 3 ys) : R 3 0 [] := by
  refine h0 _ (fun e0 => h1 _ (fun e1 => h2 _ (fun e2 => hF _ ?_ ?_) (fun e2 => hF _ ?_ ?_)) (fun e1 => h2 _ (fun e2 => hF _ ?_ ?_) (fun e2 => hF _ ?_ ?_))) (fun e0 => h1 _ (fun e1 => h2 _ (fun e2 => hF _ ?_ ?_) (fun e2 => hF _ ?_ ?_)) (fun e1 => h2 _ (fun e2 => hF _ ?_ ?_) (fun e2 => hF _ ?_ ?_)))
  all_goals simp [e0, e1, e2]
local macro_rules | `(tactic| walk_at "CompEnd") => `(tactic| (refine Stop.out ?_))
local macro_rules | `(tactic| walk_at "compareOp Eq ref ref") => `(tactic| ((with_reducible show wpAny _ _ (compareOp _ (Value.ref _) (Value.ref _)) _ _ _); refine Stop.out ?_))
set_option maxHeartbeats 4000000 in
theorem st_pairs {x0 y0 z0 x1 y1 z1 x2 y2 z2 x3 y3 z3 va : UInt64} {a0 b0 c0' a1 b1 c1' a2 b2 c2' a3 b3 c3' tv e0 e1 e2 e3 e4 c : Nat} {Dl Dm T0 T1 T2 T3 M0 M1 M2 M3 : Addr} {nL nM : Nat} (B : Below A₀ base outer h₀) (F : Fr h₀ L s.heap m) (X₀ : (K w.params).In h₀) (Y₀ : TopFacts w h₀) (T : Top qv loose mean mg mb h₀)
    (N : News h₀ L s.heap ((L + 1 + 1 + 1 + 1, o3) :: (Dm, listOf #[.ref M0, .ref M1, .ref M2, .ref M3] nM) :: (M0, tupO (.float x0 a0) (.float z0 c0') (.float y0 b0)) :: (M1, tupO (.float x1 a1) (.float z1 c1') (.float y1 b1)) :: (M2, tupO (.float x2 a2) (.float z2 c2') (.float y2 b2)) :: (M3, tupO (.float x3 a3) (.float z3 c3') (.float y3 b3)) :: (Dl, listOf [Value.ref T0, Value.ref T1, Value.ref T2, Value.ref T3].toArray nL) :: (L + 1 + 1 + 1, o2) :: (T3, tupO (.float x3 a3) (.float y3 b3) (.float z3 c3')) :: (T2, tupO (.float x2 a2) (.float y2 b2) (.float z2 c2')) :: (T1, tupO (.float x1 a1) (.float y1 b1) (.float z1 c1')) :: (T0, tupO (.float x0 a0) (.float y0 b0) (.float z0 c0')) :: [])) (ho2 : o2.data = .cell (some (.ref Dl))) (ho3 : o3.data = .cell (some (.ref Dm))) (hT : c ≤ s.toks)
    (hTK : (TokOk e0 e1 tv va x0 a0 ∧ TokOk e0 e1 tv va y0 b0 ∧ TokOk e0 e1 tv va z0 c0') ∧ (TokOk e1 e2 tv va x1 a1 ∧ TokOk e1 e2 tv va y1 b1 ∧ TokOk e1 e2 tv va z1 c1') ∧ (TokOk e2 e3 tv va x2 a2 ∧ TokOk e2 e3 tv va y2 b2 ∧ TokOk e2 e3 tv va z2 c2') ∧ (TokOk e3 e4 tv va x3 a3 ∧ TokOk e3 e4 tv va y3 b3 ∧ TokOk e3 e4 tv va z3 c3')) (he1 : e0 ≤ e1) (he2 : e1 ≤ e2) (he3 : e2 ≤ e3) (he4 : e3 ≤ e4) (hv0 : 0 < tv) (hv : tv < e0) (hself : (eqF x0 x0 = true ∧ eqF y0 y0 = true ∧ eqF z0 z0 = true) ∧ (eqF x1 x1 = true ∧ eqF y1 y1 = true ∧ eqF z1 z1 = true) ∧ (eqF x2 x2 = true ∧ eqF y2 y2 = true ∧ eqF z2 z2 = true) ∧ (eqF x3 x3 = true ∧ eqF y3 y3 = true ∧ eqF z3 z3 = true)) (hA : A.frames = some (lawEnv L fa ca :: outer)) (hroom : A.depth + 5 < recursionLimit) (hh : A.handled = none) (hu : A.units + 64 < cLine)
    (next : ∀ h' tk' Dp ys, c ≤ tk' → ys.length ≤ 3 → ys.isEmpty = !((mateB x0 y0 z0 x1 y1 z1 && mateB x2 y2 z2 x3 y3 z3) || (mateB x0 y0 z0 x2 y2 z2 && mateB x1 y1 z1 x3 y3 z3) || (mateB x0 y0 z0 x3 y3 z3 && mateB x1 y1 z1 x2 y2 z2)) →
      Fr h₀ L h' (putM (Str.ofString "pairs") (.ref Dp) m) → News h₀ L h' [(Dp, lst ys)] → wpAny (model pw w) A (execs rest (lawEnv L fa ca)) Q E { s with heap := h', toks := tk' }) :
    wpAny (model pw w) A (execs (stAt 16 rfl :: rest) (lawEnv L fa ca)) Q E s := by
  obtain ⟨hdl, dep, frm, gds, uni⟩ := A
  obtain rfl : hdl = none := hh
  obtain rfl : frm = some (lawEnv L fa ca :: outer) := hA
  have hroom1 : ({ handled := none, depth := dep, frames := some (lawEnv L fa ca :: outer), guards := gds, units := uni } : Around).depth + 1 < recursionLimit := by simp only at hroom ⊢; omega
  w_on
  try dsimp only
  with_reducible refine wpAny_execs_cons ?_
  with_reducible refine wpAny_with_toks hT ?_
  with_reducible refine assign_tupT (h₀ := h₀) (L := L) (m := m) ?_ ?_ (cl := [(Str.ofString "mates", L + 1 + 1 + 1 + 1), (Str.ofString "lights", L + 1 + 1 + 1)]) ?_ ?_ ?_ ?_ ?_ ?_ ?_ ?_ ?_
  · rfl
  · with_unfolding_all rfl
  · with_unfolding_all rfl
  · decide
  · rfl
  · decide
  · rfl
  · rfl
  · rfl
  rotate_left
  · intro _; rfl
  with_reducible refine wpAny_mono (Q := TPost c h₀ L m ((L + 1 + 1 + 1 + 1, o3) :: (Dm, listOf #[.ref M0, .ref M1, .ref M2, .ref M3] nM) :: (M0, tupO (.float x0 a0) (.float z0 c0') (.float y0 b0)) :: (M1, tupO (.float x1 a1) (.float z1 c1') (.float y1 b1)) :: (M2, tupO (.float x2 a2) (.float z2 c2') (.float y2 b2)) :: (M3, tupO (.float x3 a3) (.float z3 c3') (.float y3 b3)) :: (Dl, listOf [Value.ref T0, Value.ref T1, Value.ref T2, Value.ref T3].toArray nL) :: (L + 1 + 1 + 1, o2) :: (T3, tupO (.float x3 a3) (.float y3 b3) (.float z3 c3')) :: (T2, tupO (.float x2 a2) (.float y2 b2) (.float z2 c2')) :: (T1, tupO (.float x1 a1) (.float y1 b1) (.float z1 c1')) :: (T0, tupO (.float x0 a0) (.float y0 b0) (.float z0 c0')) :: []) s) (E := fun _ _ => False) ?_ ?_ (fun _ _ e => e.elim)
  · with_reducible exact ways_eval F N hT
  rintro _ _ ⟨Wt, W0, W1, W2, i00, i01, i02, i03, i10, i11, i12, i13, i20, i21, i22, i23, h1, tk1, rfl, rfl, ht1, F1, N1⟩
  refine ⟨Wt, _, #[.ref W0, .ref W1, .ref W2], 0, _, rfl, rfl, F1, N1, .head _, rfl, rfl, (by show 3 ≤ sizeLine; decide), fun g => ?_⟩
  show LCt.CompRestT _ _ _ _ _ _ _ _ _ _ _ _ _ _ _ _ 3 0 [] _
  obtain ⟨⟨q0x, q0y, q0z⟩, ⟨q1x, q1y, q1z⟩, ⟨q2x, q2y, q2z⟩, q3x, q3y, q3z⟩ := hTK
  obtain ⟨⟨g0x, g0y, g0z⟩, ⟨g1x, g1y, g1z⟩, ⟨g2x, g2y, g2z⟩, g3x, g3y, g3z⟩ := hself
  refine rest_chain (R := fun k i ys => LCt.CompRestT _ _ _ _ _ _ _ _ _ _ _ _ _ _ _ _ k i ys _) (v0 := .ref W0) (v1 := .ref W1) (v2 := .ref W2) (p0 := mateB x0 y0 z0 x1 y1 z1 && mateB x2 y2 z2 x3 y3 z3) (p1 := mateB x0 y0 z0 x2 y2 z2 && mateB x1 y1 z1 x3 y3 z3) (p2 := mateB x0 y0 z0 x3 y3 z3 && mateB x1 y1 z1 x2 y2 z2) ?_ ?_ ?_ ?_
  · intro ys hn hy
    with_reducible refine LCt.CompRestT.succ ?_
    rintro v I oI C oC D m₂ h2 tk2 E' hv hC hx F2 N2 off ne
    obtain rfl : Value.ref W0 = v := Option.some.inj hv
    have nb := NoneBooked.keeps (none_booked X₀ T) F2.keep
    k_steps
    refine Stop.intro ?_
    refine mate_eq (T := T0) (M := M1) (a := a0) (b := b0) (c := c0') (a' := a1) (b' := b1) (c' := c1') ⟨_, (N2 (T0, tupO (.float x0 a0) (.float y0 b0) (.float z0 c0')) (by repeat (first | with_reducible exact List.mem_cons_self | with_reducible refine List.mem_cons_of_mem _ ?_))).1, rfl, _, rfl⟩ ⟨_, (N2 (M1, tupO (.float x1 a1) (.float z1 c1') (.float y1 b1)) (by repeat (first | with_reducible exact List.mem_cons_self | with_reducible refine List.mem_cons_of_mem _ ?_))).1, rfl, _, rfl⟩ q0x q0y q0z q1x q1y q1z (by omega) (by omega) (by omega) hv0 (by omega) g0x g0y g0z nb (by simp only at hu ⊢; omega) ?_
    cases hB1 : mateB x0 y0 z0 x1 y1 z1
    · k_steps
      refine Stop.intro ?_
      refine CompEnd.intro F2 N2 _ (fun p hp => hp) off (.head _) ?_
      exact hn (by rw [hB1]; rfl)
    · k_steps
      refine Stop.intro ?_
      refine mate_eq (T := T2) (M := M3) (a := a2) (b := b2) (c := c2') (a' := a3) (b' := b3) (c' := c3') ⟨_, (N2 (T2, tupO (.float x2 a2) (.float y2 b2) (.float z2 c2')) (by repeat (first | with_reducible exact List.mem_cons_self | with_reducible refine List.mem_cons_of_mem _ ?_))).1, rfl, _, rfl⟩ ⟨_, (N2 (M3, tupO (.float x3 a3) (.float z3 c3') (.float y3 b3)) (by repeat (first | with_reducible exact List.mem_cons_self | with_reducible refine List.mem_cons_of_mem _ ?_))).1, rfl, _, rfl⟩ q2x q2y q2z q3x q3y q3z (by omega) (by omega) (by omega) hv0 (by omega) g2x g2y g2z nb (by simp only at hu ⊢; omega) ?_
      cases hB2 : mateB x2 y2 z2 x3 y3 z3
      · k_steps
        refine Stop.intro ?_
        refine CompEnd.intro F2 N2 _ (fun p hp => hp) off (.head _) ?_
        exact hn (by rw [hB1, hB2]; rfl)
      · k_steps
        refine Stop.intro ?_
        refine CompEnd.intro F2 N2 _ (fun p hp => hp) off (.head _) ?_
        exact hy (by rw [hB1, hB2]; rfl)
  · intro ys hn hy
    with_reducible refine LCt.CompRestT.succ ?_
    rintro v I oI C oC D m₂ h2 tk2 E' hv hC hx F2 N2 off ne
    obtain rfl : Value.ref W1 = v := Option.some.inj hv
    have nb := NoneBooked.keeps (none_booked X₀ T) F2.keep
    k_steps
    refine Stop.intro ?_
    refine mate_eq (T := T0) (M := M2) (a := a0) (b := b0) (c := c0') (a' := a2) (b' := b2) (c' := c2') ⟨_, (N2 (T0, tupO (.float x0 a0) (.float y0 b0) (.float z0 c0')) (by repeat (first | with_reducible exact List.mem_cons_self | with_reducible refine List.mem_cons_of_mem _ ?_))).1, rfl, _, rfl⟩ ⟨_, (N2 (M2, tupO (.float x2 a2) (.float z2 c2') (.float y2 b2)) (by repeat (first | with_reducible exact List.mem_cons_self | with_reducible refine List.mem_cons_of_mem _ ?_))).1, rfl, _, rfl⟩ q0x q0y q0z q2x q2y q2z (by omega) (by omega) (by omega) hv0 (by omega) g0x g0y g0z nb (by simp only at hu ⊢; omega) ?_
    cases hB1 : mateB x0 y0 z0 x2 y2 z2
    · k_steps
      refine Stop.intro ?_
      refine CompEnd.intro F2 N2 _ (fun p hp => hp) off (.head _) ?_
      exact hn (by rw [hB1]; rfl)
    · k_steps
      refine Stop.intro ?_
      refine mate_eq (T := T1) (M := M3) (a := a1) (b := b1) (c := c1') (a' := a3) (b' := b3) (c' := c3') ⟨_, (N2 (T1, tupO (.float x1 a1) (.float y1 b1) (.float z1 c1')) (by repeat (first | with_reducible exact List.mem_cons_self | with_reducible refine List.mem_cons_of_mem _ ?_))).1, rfl, _, rfl⟩ ⟨_, (N2 (M3, tupO (.float x3 a3) (.float z3 c3') (.float y3 b3)) (by repeat (first | with_reducible exact List.mem_cons_self | with_reducible refine List.mem_cons_of_mem _ ?_))).1, rfl, _, rfl⟩ q1x q1y q1z q3x q3y q3z (by omega) (by omega) (by omega) hv0 (by omega) g1x g1y g1z nb (by simp only at hu ⊢; omega) ?_
      cases hB2 : mateB x1 y1 z1 x3 y3 z3
      · k_steps
        refine Stop.intro ?_
        refine CompEnd.intro F2 N2 _ (fun p hp => hp) off (.head _) ?_
        exact hn (by rw [hB1, hB2]; rfl)
      · k_steps
        refine Stop.intro ?_
        refine CompEnd.intro F2 N2 _ (fun p hp => hp) off (.head _) ?_
        exact hy (by rw [hB1, hB2]; rfl)
  · intro ys hn hy
    with_reducible refine LCt.CompRestT.succ ?_
    rintro v I oI C oC D m₂ h2 tk2 E' hv hC hx F2 N2 off ne
    obtain rfl : Value.ref W2 = v := Option.some.inj hv
    have nb := NoneBooked.keeps (none_booked X₀ T) F2.keep
    k_steps
    refine Stop.intro ?_
    refine mate_eq (T := T0) (M := M3) (a := a0) (b := b0) (c := c0') (a' := a3) (b' := b3) (c' := c3') ⟨_, (N2 (T0, tupO (.float x0 a0) (.float y0 b0) (.float z0 c0')) (by repeat (first | with_reducible exact List.mem_cons_self | with_reducible refine List.mem_cons_of_mem _ ?_))).1, rfl, _, rfl⟩ ⟨_, (N2 (M3, tupO (.float x3 a3) (.float z3 c3') (.float y3 b3)) (by repeat (first | with_reducible exact List.mem_cons_self | with_reducible refine List.mem_cons_of_mem _ ?_))).1, rfl, _, rfl⟩ q0x q0y q0z q3x q3y q3z (by omega) (by omega) (by omega) hv0 (by omega) g0x g0y g0z nb (by simp only at hu ⊢; omega) ?_
    cases hB1 : mateB x0 y0 z0 x3 y3 z3
    · k_steps
      refine Stop.intro ?_
      refine CompEnd.intro F2 N2 _ (fun p hp => hp) off (.head _) ?_
      exact hn (by rw [hB1]; rfl)
    · k_steps
      refine Stop.intro ?_
      refine mate_eq (T := T1) (M := M2) (a := a1) (b := b1) (c := c1') (a' := a2) (b' := b2) (c' := c2') ⟨_, (N2 (T1, tupO (.float x1 a1) (.float y1 b1) (.float z1 c1')) (by repeat (first | with_reducible exact List.mem_cons_self | with_reducible refine List.mem_cons_of_mem _ ?_))).1, rfl, _, rfl⟩ ⟨_, (N2 (M2, tupO (.float x2 a2) (.float z2 c2') (.float y2 b2)) (by repeat (first | with_reducible exact List.mem_cons_self | with_reducible refine List.mem_cons_of_mem _ ?_))).1, rfl, _, rfl⟩ q1x q1y q1z q2x q2y q2z (by omega) (by omega) (by omega) hv0 (by omega) g1x g1y g1z nb (by simp only at hu ⊢; omega) ?_
      cases hB2 : mateB x1 y1 z1 x2 y2 z2
      · k_steps
        refine Stop.intro ?_
        refine CompEnd.intro F2 N2 _ (fun p hp => hp) off (.head _) ?_
        exact hn (by rw [hB1, hB2]; rfl)
      · k_steps
        refine Stop.intro ?_
        refine CompEnd.intro F2 N2 _ (fun p hp => hp) off (.head _) ?_
        exact hy (by rw [hB1, hB2]; rfl)
  · intro ys hl he
    refine LCt.CompRestT.zero ?_
    intro D h3 tk3 F3 N3 o1 ht3
    exact next _ _ _ _ ht3 hl he F3 (news_cons N3 (.head _) news_nil)
end
end
end
section
open PySem PySem.W PySem.Calls PyProof.Rows PySem.Spec LCg
set_option maxRecDepth 100000
set_option linter.unusedVariables false
set_option pp.deepTerms false
set_option pp.deepTerms.threshold 9
section
theorem filledN : PySem.Challenge.rw_tp0034_01 = PySem.Challenge.rw_tp0034_01 ∧ K = K := by k_fill; exact ⟨rfl, rfl⟩
section
variable {w : World} {A A₀ : Around} {base h₀ : Heap} {outer : List Env} {L fa ca c0 c1 c2 c3 : Addr} {m mg mb : Str → Option Value} {mean : ExcName → Option Value} {loose : List Str} {s : Shared}
  {o0 o1 o2 o3 : Obj} {Q : Flow → Shared → Prop} {E : Value → Shared → Prop} {rest : List Stmt}
noncomputable def mx4 (a b c d : Int) : Int := max (max a b) (max c d)
noncomputable def mn4 (a b c d : Int) : Int := min (min a b) (min c d)
/-- the four corners' numbers are two neighbours -/
noncomputable def flatB (p q sz a b g : Int) : Bool := decide (mx4 0 a b (a * p + b * q + g * sz) - mn4 0 a b (a * p + b * q + g * sz) = 1)
theorem mx4_of {M a b c d : Int} (h : M ∈ [a, b, c, d]) (h2 : ∀ x, x ∈ [a, b, c, d] → x ≤ M) : mx4 a b c d = M := by
  refine Int.le_antisymm (Int.max_le.mpr ⟨Int.max_le.mpr ⟨h2 _ (.head _), h2 _ (.tail _ (.head _))⟩, Int.max_le.mpr ⟨h2 _ (.tail _ (.tail _ (.head _))), h2 _ (.tail _ (.tail _ (.tail _ (.head _))))⟩⟩) ?_
  rcases List.mem_cons.mp h with rfl | h
  · exact Int.le_trans (Int.le_max_left _ _) (Int.le_max_left _ _)
  rcases List.mem_cons.mp h with rfl | h
  · exact Int.le_trans (Int.le_max_right _ _) (Int.le_max_left _ _)
  rcases List.mem_cons.mp h with rfl | h
  · exact Int.le_trans (Int.le_max_left _ _) (Int.le_max_right _ _)
  · rw [List.mem_singleton.mp h]; exact Int.le_trans (Int.le_max_right _ _) (Int.le_max_right _ _)
theorem mn4_of {M a b c d : Int} (h : M ∈ [a, b, c, d]) (h2 : ∀ x, x ∈ [a, b, c, d] → M ≤ x) : mn4 a b c d = M := by
  refine Int.le_antisymm ?_ (Int.le_min.mpr ⟨Int.le_min.mpr ⟨h2 _ (.head _), h2 _ (.tail _ (.head _))⟩, Int.le_min.mpr ⟨h2 _ (.tail _ (.tail _ (.head _))), h2 _ (.tail _ (.tail _ (.tail _ (.head _))))⟩⟩)
  rcases List.mem_cons.mp h with rfl | h
  · exact Int.le_trans (Int.min_le_left _ _) (Int.min_le_left _ _)
  rcases List.mem_cons.mp h with rfl | h
  · exact Int.le_trans (Int.min_le_left _ _) (Int.min_le_right _ _)
  rcases List.mem_cons.mp h with rfl | h
  · exact Int.le_trans (Int.min_le_right _ _) (Int.min_le_left _ _)
  · rw [List.mem_singleton.mp h]; exact Int.le_trans (Int.min_le_right _ _) (Int.min_le_right _ _)
local macro_rules | `(tactic| walk_at "call builtin:max") => `(tactic| (refine Stop.out ?_))
local macro_rules | `(tactic| walk_at "call builtin:min") => `(tactic| (refine Stop.out ?_))
noncomputable abbrev forBodyT {st : Stmt} {t : PySem.Expr} {i : PySem.Expr} {b : List Stmt} {o : List Stmt} {p : _} (_ : st = Stmt.For t i b o p) : List Stmt := b
noncomputable abbrev fBody : List Stmt := forBodyT (st := stAt 19 rfl) rfl
set_option maxHeartbeats 4000000 in
theorem flat_turn {p q sz a b g : Int} {tp tq ts ta tb tg : Tok} {em cy fl : Bool} {c : Nat} {r : Str → Option Value} {keep : List (Addr × Obj)} (B : Below A₀ base outer h₀) (F : Fr h₀ L s.heap (putM (Str.ofString "c") (.int g tg) (putM (Str.ofString "b") (.int b tb) (putM (Str.ofString "a") (.int a ta) (putM (Str.ofString "flat") (.bool fl) (putM (Str.ofString "cyan") (.bool cy) (putM (Str.ofString "empty") (.bool em) (putM (Str.ofString "p") (.int p tp) (putM (Str.ofString "q") (.int q tq) (putM (Str.ofString "size") (.int sz ts) r)))))))))) (X₀ : (K w.params).In h₀) (Y₀ : TopFacts w h₀) (T : Top qv loose mean mg mb h₀)
    (N : News h₀ L s.heap keep) (ha : -1 ≤ a ∧ a ≤ 1) (hb : -1 ≤ b ∧ b ≤ 1) (hg : -1 ≤ g ∧ g ≤ 1) (hz0 : 0 < sz) (hz1 : sz ≤ 32) (hp : 0 ≤ p ∧ p < sz) (hq : 0 ≤ q ∧ q < sz) (hA : A.frames = some (lawEnv L fa ca :: outer)) (hroom : A.depth + 5 < recursionLimit) (hh : A.handled = none) (hu : A.units + 64 < cLine)
    (next : ∀ h' tk' r, Fr h₀ L h' (putM (Str.ofString "flat") (.bool (if flatB p q sz a b g then true else fl)) (putM (Str.ofString "cyan") (.bool cy) (putM (Str.ofString "empty") (.bool em) (putM (Str.ofString "p") (.int p tp) (putM (Str.ofString "q") (.int q tq) (putM (Str.ofString "size") (.int sz ts) r)))))) → News h₀ L h' keep → Q .next { s with heap := h', toks := tk' }) :
    wpAny (model pw w) A (execs fBody (lawEnv L fa ca)) Q E s := by
  obtain ⟨hdl, dep, frm, gds, uni⟩ := A
  obtain rfl : hdl = none := hh
  obtain rfl : frm = some (lawEnv L fa ca :: outer) := hA
  have hroom1 : ({ handled := none, depth := dep, frames := some (lawEnv L fa ca :: outer), guards := gds, units := uni } : Around).depth + 1 < recursionLimit := by simp only at hroom ⊢; omega
  w_on
  try dsimp only
  unfold fBody
  k_steps
  refine Stop.intro ?_
  (with_reducible rename Fr _ _ _ _ => kF)
  (with_reducible rename News _ _ _ _ => kN)
  refine max_list_N (ns := [0, a, b, a * p + b * q + g * sz]) rfl kF kN ⟨_, (kN _ (.head _)).1, rfl, _, rfl⟩ (.cons _ _ (.cons _ _ (.cons _ _ (.cons _ _ .nil)))) (by simp) ?_
  clear kF kN
  intro h1 M t1 tk1 F1 N1 hM hM2
  obtain rfl := mx4_of hM hM2
  k_steps
  refine Stop.intro ?_
  (with_reducible rename Fr _ _ _ _ => kF)
  (with_reducible rename News _ _ _ _ => kN)
  refine min_list_N (ns := [0, a, b, a * p + b * q + g * sz]) rfl kF kN ⟨_, (kN _ (.head _)).1, rfl, _, rfl⟩ (.cons _ _ (.cons _ _ (.cons _ _ (.cons _ _ .nil)))) (by simp) ?_
  clear kF kN
  intro h2 M2 t2 tk2 F2 N2 hm hm2
  obtain rfl := mn4_of hm hm2
  k_steps
  all_goals (
    (with_reducible rename Fr _ _ _ _ => kF)
    (with_reducible rename News _ _ _ _ => kN)
    first
      | simp only [show flatB p q sz a b g = true from decide_eq_true (by assumption), if_true] at next
      | simp only [show flatB p q sz a b g = false from decide_eq_false (by assumption), Bool.false_eq_true, if_false] at next
    refine next _ _ _ (fr_put (fr_put (fr_put (fr_put (fr_put (fr_put (kF) rfl) rfl) rfl) rfl) rfl) rfl) (news_drop kN))
end
end
end
section
open PySem PySem.W PySem.Calls PyProof.Rows PySem.Spec LCg
set_option maxRecDepth 100000
set_option linter.unusedVariables false
set_option pp.deepTerms false
set_option pp.deepTerms.threshold 9
section
theorem filledO : PySem.Challenge.rw_tp0034_01 = PySem.Challenge.rw_tp0034_01 ∧ K = K := by k_fill; exact ⟨rfl, rfl⟩
section
variable {w : World} {A A₀ : Around} {base h₀ : Heap} {outer : List Env} {L fa ca c0 c1 c2 c3 : Addr} {m mg mb : Str → Option Value} {mean : ExcName → Option Value} {loose : List Str} {s : Shared}
  {o0 o1 o2 o3 : Obj} {Q : Flow → Shared → Prop} {E : Value → Shared → Prop} {rest : List Stmt}
noncomputable def FPost (h₀ : Heap) (L : Addr) (m : Str → Option Value) (s : Shared) (xv : Value) (s₁ : Shared) : Prop :=
  ∃ (Wt W0 W1 W2 : Addr) (i00 i01 i02 i10 i11 i12 i20 i21 i22 : Tok) (h' : Heap) (tk : Nat), xv = .ref Wt ∧ s₁ = { s with heap := h', toks := tk } ∧ Fr h₀ L h' m ∧ News h₀ L h' [(Wt, (⟨.type "tuple", none, .seq #[.ref W0, .ref W1, .ref W2] 0, #[]⟩ : Obj)), (W2, (⟨.type "tuple", none, .seq #[.int 1 i20, .int 1 i21, .int (-1) i22] 0, #[]⟩ : Obj)), (W1, (⟨.type "tuple", none, .seq #[.int 0 i10, .int 1 i11, .int 0 i12] 0, #[]⟩ : Obj)), (W0, (⟨.type "tuple", none, .seq #[.int 1 i00, .int 0 i01, .int 0 i02] 0, #[]⟩ : Obj))]
theorem way3_eval {prog : Program} {w : World} {A : Around} {E : Value → Shared → Prop} {s : Shared} {h₀ : Heap} {L : Addr} {m : Str → Option Value} {news : List (Addr × Obj)} {env : Env} {a b c : Int} {k k1 k2 k3 : Nat} {pos p1 p2 p3 : Pos} {Q : Value → Shared → Prop} (F : Fr h₀ L s.heap m) (N : News h₀ L s.heap news)
    (h : ∀ h' W t1 t2 t3 (tk : Nat), Fr h₀ L h' m → News h₀ L h' ((W, (⟨.type "tuple", none, .seq #[.int a t1, .int b t2, .int c t3] 0, #[]⟩ : Obj)) :: news) → Q (.ref W) { s with heap := h', toks := tk }) :
    wpAny (model prog w) A (eval (.Tuple [.Constant (.int a) k1 p1, .Constant (.int b) k2 p2, .Constant (.int c) k3 p3] k pos) env) Q E s := by
  refine wpAny_Tuple (spliced_more (wpAny_Constant_int (spliced_more (wpAny_Constant_int (spliced_more (wpAny_Constant_int (spl_nil ?_)) star_const)) star_const)) star_const)
  refine ⟨(by show (3 : Nat) ≤ sizeLine; decide), ?_⟩
  exact tup_new (s := { s with toks := s.toks + 1 + 1 + 1 }) (tk := s.toks + 1 + 1 + 1) F N fun h' W F' N' => h h' W s.toks (s.toks + 1) (s.toks + 1 + 1) (s.toks + 1 + 1 + 1) F' N'
theorem star_unary {op : UnaryOp} {e : PySem.Expr} {pos : Pos} {rest : List PySem.Expr} {env : Env} : starEach (.UnaryOp op e pos :: rest) env = (false, eval (.UnaryOp op e pos) env) :: starEach rest env := by rfl
theorem way3n_eval {prog : Program} {w : World} {A : Around} {E : Value → Shared → Prop} {s : Shared} {h₀ : Heap} {L : Addr} {m : Str → Option Value} {news : List (Addr × Obj)} {env : Env} {a b c : Int} {k k1 k2 k3 : Nat} {pos p1 p2 p3 p4 : Pos} {Q : Value → Shared → Prop} (F : Fr h₀ L s.heap m) (N : News h₀ L s.heap news)
    (h : ∀ h' W t1 t2 t3 (tk : Nat), Fr h₀ L h' m → News h₀ L h' ((W, (⟨.type "tuple", none, .seq #[.int a t1, .int b t2, .int (-c) t3] 0, #[]⟩ : Obj)) :: news) → Q (.ref W) { s with heap := h', toks := tk }) :
    wpAny (model prog w) A (eval (.Tuple [.Constant (.int a) k1 p1, .Constant (.int b) k2 p2, .UnaryOp .USub (.Constant (.int c) k3 p3) p4] k pos) env) Q E s := by
  refine wpAny_Tuple (spliced_more (wpAny_Constant_int (spliced_more (wpAny_Constant_int (spliced_more (wpAny_UnaryOp (wpAny_Constant_int (PyProof.Rows.neg_int (spl_nil ?_)))) star_unary)) star_const)) star_const)
  refine ⟨(by show (3 : Nat) ≤ sizeLine; decide), ?_⟩
  exact tup_new (s := { s with toks := s.toks + 1 + 1 + 1 + 1 }) (tk := s.toks + 1 + 1 + 1 + 1) F N fun h' W F' N' => h h' W s.toks (s.toks + 1) (s.toks + 1 + 1 + 1) (s.toks + 1 + 1 + 1 + 1) F' N'
theorem ways3_eval {prog : Program} {w : World} {A : Around} {E : Value → Shared → Prop} {s : Shared} {h₀ : Heap} {L : Addr} {m : Str → Option Value} {env : Env} {ka0 ka1 ka2 kb0 kb1 kb2 kd0 kd1 kd2 k1 k2 k3 k4 : Nat} {pa0 pa1 pa2 pb0 pb1 pb2 pd0 pd1 pd2 pd3 q1 q2 q3 q4 : Pos} (F : Fr h₀ L s.heap m) (N : News h₀ L s.heap []) :
    wpAny (model prog w) A (eval (.Tuple [.Tuple [.Constant (.int 1) ka0 pa0, .Constant (.int 0) ka1 pa1, .Constant (.int 0) ka2 pa2] k1 q1, .Tuple [.Constant (.int 0) kb0 pb0, .Constant (.int 1) kb1 pb1, .Constant (.int 0) kb2 pb2] k2 q2, .Tuple [.Constant (.int 1) kd0 pd0, .Constant (.int 1) kd1 pd1, .UnaryOp .USub (.Constant (.int 1) kd2 pd2) pd3] k3 q3] k4 q4) env) (FPost h₀ L m s) E s := by
  refine wpAny_Tuple ?_
  with_reducible refine spliced_more ?_ star_tuple
  with_reducible refine way3_eval F N ?_
  intro h1 W0 i00 i01 i02 tk1 F1 N1
  with_reducible refine spliced_more ?_ star_tuple
  with_reducible refine way3_eval F1 N1 ?_
  intro h2 W1 i10 i11 i12 tk2 F2 N2
  with_reducible refine spliced_more ?_ star_tuple
  with_reducible refine way3n_eval F2 N2 ?_
  intro h3 W2 i20 i21 i22 tk3 F3 N3
  refine spl_nil ?_
  refine ⟨(by show (3 : Nat) ≤ sizeLine; decide), ?_⟩
  exact tup_new (s := { s with heap := h3, toks := tk3 }) (tk := tk3) (Q := FPost h₀ L m s) F3 N3 fun h' Wt F' N' => ⟨Wt, W0, W1, W2, i00, i01, i02, i10, i11, i12, i20, i21, i22, h', tk3, rfl, rfl, F', N'⟩
/-- what stands under the name `flat` behind the turns -/
noncomputable def flatAt (p q sz : Int) (i : Nat) : Bool := match i with
  | 0 => false
  | 1 => if flatB p q sz 1 0 0 then true else false
  | 2 => if flatB p q sz 0 1 0 then true else (if flatB p q sz 1 0 0 then true else false)
  | _ => if flatB p q sz 1 1 (-1) then true else (if flatB p q sz 0 1 0 then true else (if flatB p q sz 1 0 0 then true else false))
/-- three numbers unpacked into a, b and c -/
theorem unpack3 {x y z : Value} {px py pz tp : Pos} {kk : Nat} {W : Addr} {m' : Str → Option Value} {news : List (Addr × Obj)} {a b c : Str} {o : Obj} {Q : Unit → Shared → Prop} {env : Env} {A : Around} (hh : A.handled = none) (F : Fr h₀ env.locals s.heap m') (N : News h₀ env.locals s.heap news) (hm : (W, o) ∈ news) (hc : o.cls = .type "tuple") (hd : o.data = .seq #[x, y, z] 0)
    (ka : env.kindOf a = some .local) (kb : env.kindOf b = some .local) (kc : env.kindOf c = some .local) (hp : (env.scope.kind == .class || (env.scope.kind == .module && env.locals != env.globals)) = false)
    (h : ∀ h' tk, Fr h₀ env.locals h' (putM c z (putM b y (putM a x m'))) → News h₀ env.locals h' news → Q () { s with heap := h', toks := tk }) :
    wpAny (model pw w) A (assign (.Tuple [.Name a px, .Name b py, .Name c pz] kk tp) env (.ref W)) Q E s := by
  refine wpAny_assign_Tuple hh ⟨o, (N _ hm).1, hc, 0, hd⟩ rfl rfl fun h₁ he₁ => ?_
  have F₁ : Fr h₀ env.locals h₁ m' := F.keeps fun c o e => he₁ c o (Nat.ne_of_lt (Heap.lt_size e)) e
  have N₁ : News h₀ env.locals h₁ news := N.grown fun c o e => he₁ c o (Nat.ne_of_lt (Heap.lt_size e)) e
  show wpAny _ _ (assignInOrder [assign (.Name a px) env, assign (.Name b py) env, assign (.Name c pz) env] [x, y, z]) _ _ _
  refine assignInOrder_cons ?_
  refine wpAny_assign_Name (wpAny_storeName_local ka F₁.ns (fun h₂ hn₂ hs₂ => ?_) hp)
  have F₂ := F₁.set hn₂ hs₂
  refine assignInOrder_cons ?_
  refine wpAny_assign_Name (wpAny_storeName_local kb F₂.ns (fun h₃ hn₃ hs₃ => ?_) hp)
  have F₃ := F₂.set hn₃ hs₃
  refine assignInOrder_cons ?_
  refine wpAny_assign_Name (wpAny_storeName_local kc F₃.ns (fun h₄ hn₄ hs₄ => ?_) hp)
  refine assignInOrder_nil ?_
  exact h h₄ _ (F₃.set hn₄ hs₄) (((N₁.set hs₂).set hs₃).set hs₄)
set_option maxHeartbeats 4000000 in
theorem st_flat {p q sz : Int} {tp tq ts : Tok} {em cy : Bool} {r : Str → Option Value} (B : Below A₀ base outer h₀) (F : Fr h₀ L s.heap (putM (Str.ofString "flat") (.bool false) (putM (Str.ofString "cyan") (.bool cy) (putM (Str.ofString "empty") (.bool em) (putM (Str.ofString "p") (.int p tp) (putM (Str.ofString "q") (.int q tq) (putM (Str.ofString "size") (.int sz ts) r))))))) (X₀ : (K w.params).In h₀) (Y₀ : TopFacts w h₀) (T : Top qv loose mean mg mb h₀)
    (N : News h₀ L s.heap []) (hz0 : 0 < sz) (hz1 : sz ≤ 32) (hp : 0 ≤ p ∧ p < sz) (hq : 0 ≤ q ∧ q < sz) (hA : A.frames = some (lawEnv L fa ca :: outer)) (hroom : A.depth + 5 < recursionLimit) (hh : A.handled = none) (hu : A.units + 64 < cLine)
    (next : ∀ h' tk' r, Fr h₀ L h' (putM (Str.ofString "flat") (.bool (flatAt p q sz 3)) (putM (Str.ofString "cyan") (.bool cy) (putM (Str.ofString "empty") (.bool em) (putM (Str.ofString "p") (.int p tp) (putM (Str.ofString "q") (.int q tq) (putM (Str.ofString "size") (.int sz ts) r)))))) → News h₀ L h' [] → wpAny (model pw w) A (execs rest (lawEnv L fa ca)) Q E { s with heap := h', toks := tk' }) :
    wpAny (model pw w) A (execs (stAt 19 rfl :: rest) (lawEnv L fa ca)) Q E s := by
  obtain ⟨hdl, dep, frm, gds, uni⟩ := A
  obtain rfl : hdl = none := hh
  obtain rfl : frm = some (lawEnv L fa ca :: outer) := hA
  have hroom1 : ({ handled := none, depth := dep, frames := some (lawEnv L fa ca :: outer), guards := gds, units := uni } : Around).depth + 1 < recursionLimit := by simp only at hroom ⊢; omega
  w_on
  try dsimp only
  with_reducible refine wpAny_execs_cons ?_
  with_reducible refine wpAny_noRaise ?_
  with_reducible refine For_turns F ?_ ?_ ?_
  rotate_left
  · intro _; rfl
  · exact PassesOwn.never
  with_reducible refine wpAny_mono (Q := FPost h₀ L (putM (Str.ofString "flat") (.bool false) (putM (Str.ofString "cyan") (.bool cy) (putM (Str.ofString "empty") (.bool em) (putM (Str.ofString "p") (.int p tp) (putM (Str.ofString "q") (.int q tq) (putM (Str.ofString "size") (.int sz ts) r)))))) s) (E := fun _ _ => False) ?_ ?_ (fun _ _ e => e)
  · with_reducible exact ways3_eval F N
  rintro _ _ ⟨Wt, W0, W1, W2, i00, i01, i02, i10, i11, i12, i20, i21, i22, h1, tk1, rfl, rfl, F1, N1⟩
  have hT : h1.IsTuple Wt #[.ref W0, .ref W1, .ref W2] := ⟨_, (N1 _ (.head _)).1, rfl, _, rfl⟩
  have hlt : Wt < h1.objs.size := Heap.lt_size (N1 _ (.head _)).1
  refine wpAny_pyIter_tuple hT ?_
  have up : ∀ b o, h1.get? b = some o → (h1.push { cls := .type "tuple_iterator", data := .fields #[.ref Wt, .int 0 0] }).get? b = some o := fun b o e => Heap.get?_push_of_some _ e
  refine ⟨h1.objs.size, _, [h1.objs.size], _, _, _, _, _, [(Wt, (⟨.type "tuple", none, .seq #[.ref W0, .ref W1, .ref W2] 0, #[]⟩ : Obj)), (W2, (⟨.type "tuple", none, .seq #[.int 1 i20, .int 1 i21, .int (-1) i22] 0, #[]⟩ : Obj)), (W1, (⟨.type "tuple", none, .seq #[.int 0 i10, .int 1 i11, .int 0 i12] 0, #[]⟩ : Obj)), (W0, (⟨.type "tuple", none, .seq #[.int 1 i00, .int 0 i01, .int 0 i02] 0, #[]⟩ : Obj))], fun i m' n' => n' = [(Wt, (⟨.type "tuple", none, .seq #[.ref W0, .ref W1, .ref W2] 0, #[]⟩ : Obj)), (W2, (⟨.type "tuple", none, .seq #[.int 1 i20, .int 1 i21, .int (-1) i22] 0, #[]⟩ : Obj)), (W1, (⟨.type "tuple", none, .seq #[.int 0 i10, .int 1 i11, .int 0 i12] 0, #[]⟩ : Obj)), (W0, (⟨.type "tuple", none, .seq #[.int 1 i00, .int 0 i01, .int 0 i02] 0, #[]⟩ : Obj))] ∧ ∃ r', m' = (putM (Str.ofString "flat") (.bool (flatAt p q sz i)) (putM (Str.ofString "cyan") (.bool cy) (putM (Str.ofString "empty") (.bool em) (putM (Str.ofString "p") (.int p tp) (putM (Str.ofString "q") (.int q tq) (putM (Str.ofString "size") (.int sz ts) (r' : Str → Option Value))))))), rfl,
    KTurns.ofWalks (Walks.tuple rfl h1.objs.size Wt (Nat.ne_of_lt hlt) #[.ref W0, .ref W1, .ref W2]) (fun i v s Q E st q => letGo_tupleiter st.1 q), ?_, ?_, ?_, ⟨⟨_, Heap.get?_push_size _ rfl, rfl, rfl⟩, hT.push _⟩, F1.push _, N1.grown up, ⟨rfl, r, rfl⟩, ?_, ?_⟩
  · intro hm
    rcases List.mem_cons.mp hm with e | hm
    · exact absurd F1.ns.lt (e ▸ Nat.lt_irrefl _)
    · exact (N1 _ (.head _)).2.1 (List.mem_singleton.mp hm).symm
  · intro b hb
    rw [List.mem_singleton.mp hb]
    exact next_is_new F1
  · intro p hp hI
    exact absurd (Heap.lt_size (N1 p hp).1) ((List.mem_singleton.mp hI) ▸ Nat.lt_irrefl _)
  · rintro i v m₁ news₁ h2 tk2 own hi hv ⟨rfl, r2, rfl⟩ hoff hown hget hall hst F2 N2
    match i, hi, hv with
    | 0, _, hv =>
      obtain rfl : Value.ref W0 = v := Option.some.inj hv
      refine unpack3 rfl F2 N2 (W := W0) (o := (⟨.type "tuple", none, .seq #[.int 1 i00, .int 0 i01, .int 0 i02] 0, #[]⟩ : Obj)) (List.mem_append_right _ (by repeat (first | with_reducible exact List.mem_cons_self | with_reducible refine List.mem_cons_of_mem _ ?_))) rfl rfl rfl rfl rfl rfl ?_
      intro h3 tk3 F3 N3
      refine flat_turn (c := 0) (a := 1) (b := 0) (g := 0) (r := r2) (fl := flatAt p q sz 0) B F3 X₀ Y₀ T N3 (by decide) (by decide) (by decide) hz0 hz1 hp hq rfl hroom rfl hu ?_
      intro h4 tk4 r4 F4 N4
      exact ⟨rfl, h4, tk4, _, _, rfl, F4, N4, hoff, rfl, r4, rfl⟩
    | 1, _, hv =>
      obtain rfl : Value.ref W1 = v := Option.some.inj hv
      refine unpack3 rfl F2 N2 (W := W1) (o := (⟨.type "tuple", none, .seq #[.int 0 i10, .int 1 i11, .int 0 i12] 0, #[]⟩ : Obj)) (List.mem_append_right _ (by repeat (first | with_reducible exact List.mem_cons_self | with_reducible refine List.mem_cons_of_mem _ ?_))) rfl rfl rfl rfl rfl rfl ?_
      intro h3 tk3 F3 N3
      refine flat_turn (c := 0) (a := 0) (b := 1) (g := 0) (r := r2) (fl := flatAt p q sz 1) B F3 X₀ Y₀ T N3 (by decide) (by decide) (by decide) hz0 hz1 hp hq rfl hroom rfl hu ?_
      intro h4 tk4 r4 F4 N4
      exact ⟨rfl, h4, tk4, _, _, rfl, F4, N4, hoff, rfl, r4, rfl⟩
    | 2, _, hv =>
      obtain rfl : Value.ref W2 = v := Option.some.inj hv
      refine unpack3 rfl F2 N2 (W := W2) (o := (⟨.type "tuple", none, .seq #[.int 1 i20, .int 1 i21, .int (-1) i22] 0, #[]⟩ : Obj)) (List.mem_append_right _ (by repeat (first | with_reducible exact List.mem_cons_self | with_reducible refine List.mem_cons_of_mem _ ?_))) rfl rfl rfl rfl rfl rfl ?_
      intro h3 tk3 F3 N3
      refine flat_turn (c := 0) (a := 1) (b := 1) (g := -1) (r := r2) (fl := flatAt p q sz 2) B F3 X₀ Y₀ T N3 (by decide) (by decide) (by decide) hz0 hz1 hp hq rfl hroom rfl hu ?_
      intro h4 tk4 r4 F4 N4
      exact ⟨rfl, h4, tk4, _, _, rfl, F4, N4, hoff, rfl, r4, rfl⟩
  · rintro h2 tk2 m' news' F2 N2 hoff ⟨rfl, r2, rfl⟩
    exact next h2 tk2 r2 F2 (fun p hp => nomatch hp)
end
end
end
section
open PySem PySem.W PySem.Calls PyProof.Rows PySem.Spec LCg
set_option maxRecDepth 100000
set_option linter.unusedVariables false
set_option pp.deepTerms false
set_option pp.deepTerms.threshold 9
section
theorem filledP : PySem.Challenge.rw_tp0034_01 = PySem.Challenge.rw_tp0034_01 ∧ K = K := by k_fill; exact ⟨rfl, rfl⟩
section
variable {w : World} {A A₀ : Around} {base h₀ : Heap} {outer : List Env} {L fa ca c0 c1 c2 c3 : Addr} {m mg mb : Str → Option Value} {mean : ExcName → Option Value} {loose : List Str} {s : Shared}
  {o0 o1 o2 o3 : Obj} {Q : Flow → Shared → Prop} {E : Value → Shared → Prop} {rest : List Stmt}
theorem ne_empty {prog : Program} {w : World} {A : Around} {E : Value → Shared → Prop} {s : Shared} {l b : Addr} {Q : Value → Shared → Prop} (hl : s.heap.IsList l #[]) (hb : s.heap.IsList b #[]) (hu : A.units < cLine) (h : Q (.bool false) s) : wpAny (model prog w) A (compareOp .NotEq (.ref l) (.ref b)) Q E s :=
  SeqAt.RcNeAt.lists (e := fun _ => true) hl hb rfl hu (fun j h1 _ => absurd h1 (Nat.not_lt_zero _)) prog w E Q h
theorem ne_longer {prog : Program} {w : World} {A : Around} {E : Value → Shared → Prop} {s : Shared} {l b : Addr} {items : Array Value} {Q : Value → Shared → Prop} (hl : s.heap.IsList l items) (hb : s.heap.IsList b #[]) (hz : (items.size != (#[] : Array Value).size) = true) (hu : A.units < cLine) (h : Q (.bool true) s) : wpAny (model prog w) A (compareOp .NotEq (.ref l) (.ref b)) Q E s :=
  SeqAt.RcNeAt.lists_lengths hl hb hz hu prog w E Q h
local macro_rules | `(tactic| walk_at "compareOp NotEq ref ref") => `(tactic| ((with_reducible show wpAny _ _ (compareOp _ (Value.ref _) (Value.ref _)) _ _ _); refine Stop.out ?_))
set_option maxHeartbeats 4000000 in
theorem st_check {em cy pr fl : Bool} {Dp : Addr} {ys : List Value} {r : Str → Option Value} (B : Below A₀ base outer h₀) (F : Fr h₀ L s.heap (putM (Str.ofString "pairs") (.ref Dp) (putM (Str.ofString "cyan") (.bool cy) (putM (Str.ofString "empty") (.bool em) r)))) (X₀ : (K w.params).In h₀) (Y₀ : TopFacts w h₀) (T : Top qv loose mean mg mb h₀)
    (N : News h₀ L s.heap [(Dp, LCg.lst ys)]) (hy : ys.isEmpty = !pr) (hl : ys.length ≤ 3) (hem : em = (cy && pr)) (hA : A.frames = some (lawEnv L fa ca :: outer)) (hroom : A.depth + 5 < recursionLimit) (hh : A.handled = none) (hu : A.units + 64 < cLine)
    (next : ∀ h' tk', Fr h₀ L h' (putM (Str.ofString "flat") (.bool false) (putM (Str.ofString "pairs") (.ref Dp) (putM (Str.ofString "cyan") (.bool cy) (putM (Str.ofString "empty") (.bool em) r)))) → wpAny (model pw w) A (execs rest (lawEnv L fa ca)) Q E { s with heap := h', toks := tk' }) :
    wpAny (model pw w) A (execs (stAt 17 rfl :: stAt 18 rfl :: rest) (lawEnv L fa ca)) Q E s := by
  obtain ⟨hdl, dep, frm, gds, uni⟩ := A
  obtain rfl : hdl = none := hh
  obtain rfl : frm = some (lawEnv L fa ca :: outer) := hA
  have hroom1 : ({ handled := none, depth := dep, frames := some (lawEnv L fa ca :: outer), guards := gds, units := uni } : Around).depth + 1 < recursionLimit := by simp only at hroom ⊢; omega
  w_on
  try dsimp only
  subst hem
  cases cy
  · simp only [Bool.false_and] at F next
    k_steps
    (with_reducible rename Fr _ _ _ _ => kF)
    exact next _ _ kF
  · simp only [Bool.true_and] at F next
    k_steps
    refine Stop.intro ?_
    (with_reducible rename Fr _ _ _ _ => kF)
    (with_reducible rename News _ _ _ _ => kN)
    cases pr
    · obtain rfl : ys = [] := by simpa using hy
      refine ne_empty ⟨_, (kN (Dp, _) (.tail _ (.head _))).1, rfl, _, rfl⟩ ⟨_, (kN _ (.head _)).1, rfl, _, rfl⟩ (by simp only at hu ⊢; omega) ?_
      k_steps
      (with_reducible rename Fr _ _ _ _ => kF)
      exact next _ _ kF
    · refine ne_longer (items := ys.toArray) ⟨_, (kN (Dp, _) (.tail _ (.head _))).1, rfl, _, rfl⟩ ⟨_, (kN _ (.head _)).1, rfl, _, rfl⟩ (by cases ys <;> simp_all) (by simp only at hu ⊢; omega) ?_
      k_steps
      (with_reducible rename Fr _ _ _ _ => kF)
      exact next _ _ kF
set_option maxHeartbeats 4000000 in
theorem st_ret {em cy pr fl : Bool} {Dp : Addr} {ys : List Value} {r : Str → Option Value} (B : Below A₀ base outer h₀) (F : Fr h₀ L s.heap (putM (Str.ofString "flat") (.bool fl) (putM (Str.ofString "cyan") (.bool cy) (putM (Str.ofString "empty") (.bool em) r)))) (X₀ : (K w.params).In h₀) (Y₀ : TopFacts w h₀) (T : Top qv loose mean mg mb h₀)
    (N : News h₀ L s.heap []) (hem : em = (cy && fl)) (hA : A.frames = some (lawEnv L fa ca :: outer)) (hroom : A.depth + 5 < recursionLimit) (hh : A.handled = none) (hu : A.units + 64 < cLine)
    (next : ∀ h' tk', Fr h₀ L h' (putM (Str.ofString "flat") (.bool fl) (putM (Str.ofString "cyan") (.bool cy) (putM (Str.ofString "empty") (.bool em) r))) → News h₀ L h' [] → Q (.ret (.bool true)) { s with heap := h', toks := tk' }) :
    wpAny (model pw w) A (execs [stAt 20 rfl] (lawEnv L fa ca)) Q E s := by
  obtain ⟨hdl, dep, frm, gds, uni⟩ := A
  obtain rfl : hdl = none := hh
  obtain rfl : frm = some (lawEnv L fa ca :: outer) := hA
  have hroom1 : ({ handled := none, depth := dep, frames := some (lawEnv L fa ca :: outer), guards := gds, units := uni } : Around).depth + 1 < recursionLimit := by simp only at hroom ⊢; omega
  w_on
  try dsimp only
  subst hem
  cases cy
  · k_steps
    (with_reducible rename Fr _ _ _ _ => kF)
    (with_reducible rename News _ _ _ _ => kN)
    exact next _ _ kF kN
  · cases fl
    · k_steps
      (with_reducible rename Fr _ _ _ _ => kF)
      (with_reducible rename News _ _ _ _ => kN)
      exact next _ _ kF kN
    · k_steps
      (with_reducible rename Fr _ _ _ _ => kF)
      (with_reducible rename News _ _ _ _ => kN)
      exact next _ _ kF kN
end
end
end
section
open PySem PySem.W PySem.Calls PyProof.Rows PySem.Spec LCg
set_option maxRecDepth 100000
set_option linter.unusedVariables false
set_option pp.deepTerms false
set_option pp.deepTerms.threshold 9
section
theorem filledQ : PySem.Challenge.rw_tp0034_01 = PySem.Challenge.rw_tp0034_01 ∧ K = K := by k_fill; exact ⟨rfl, rfl⟩
section
variable {w : World} {A A₀ : Around} {base h₀ : Heap} {outer : List Env} {L fa ca c0 c1 c2 c3 : Addr} {m mg mb : Str → Option Value} {mean : ExcName → Option Value} {loose : List Str} {s : Shared}
  {o0 o1 o2 o3 : Obj} {Q : Flow → Shared → Prop} {E : Value → Shared → Prop} {rest : List Stmt}
theorem ne_n4 (L : Addr) : L + 1 + 1 + 1 + 1 ≠ L + 1 := Nat.ne_of_gt (Nat.lt_succ_of_lt (Nat.lt_succ_of_lt (Nat.lt_succ_self _)))
theorem ne_n3 (L : Addr) : L + 1 + 1 + 1 ≠ L + 1 := Nat.ne_of_gt (Nat.lt_succ_of_lt (Nat.lt_succ_self _))
theorem ne_n2 (L : Addr) : L + 1 + 1 ≠ L + 1 := Nat.ne_of_gt (Nat.lt_succ_self _)
theorem news_rot4 {h₀ h : Heap} {L : Addr} {a b c d e : Addr × Obj} (N : News h₀ L h [d, e, a, b, c]) : News h₀ L h [a, b, c, d, e] := by
  (repeat (refine news_cons N (by repeat (first | with_reducible exact List.mem_cons_self | with_reducible refine List.mem_cons_of_mem _ ?_)) ?_)); exact news_nil
local macro_rules | `(tactic| walk_at "CompSrc") => `(tactic| (refine Stop.out ?_))
set_option maxHeartbeats 4000000 in
theorem st_draw {vs : List Value} {ns : List Int} {Sa : Addr} (B : Below A₀ base outer h₀) (F : Fr h₀ L s.heap (putM (Str.ofString "script") (.ref Sa) m)) (X₀ : (K w.params).In h₀) (Y₀ : TopFacts w h₀) (T : Top qv loose mean mg mb h₀)
    (N : News h₀ L s.heap [(L + 1 + 1 + 1 + 1, o3), (L + 1 + 1 + 1, o2), (L + 1 + 1, o1), (L + 1, o0)]) (ho0 : o0.data = .cell none) (hS : h₀.IsList Sa vs.toArray) (hi : IntsAre vs ns) (hl : ns.length ≤ 63) (hA : A.frames = some (lawEnv L fa ca :: outer)) (hroom : A.depth + 5 < recursionLimit) (hh : A.handled = none) (hu : A.units + 64 < cLine)
    (next : ∀ h' tk' D ys ks o0', ks.length ≤ 5 → (∀ k ∈ ks, 0 ≤ k ∧ k < 1000000) → IntsAre ys ks → o0'.data = .cell (some (.ref D)) → Fr h₀ L h' (putM (Str.ofString "script") (.ref Sa) m) → News h₀ L h' [(L + 1 + 1 + 1 + 1, o3), (L + 1 + 1 + 1, o2), (L + 1 + 1, o1), (L + 1, o0'), (D, LCg.lst ys)] → wpAny (model pw w) A (execs rest (lawEnv L fa ca)) Q E { s with heap := h', toks := tk' }) :
    wpAny (model pw w) A (execs (stAt 0 rfl :: rest) (lawEnv L fa ca)) Q E s := by
  obtain ⟨hdl, dep, frm, gds, uni⟩ := A
  obtain rfl : hdl = none := hh
  obtain rfl : frm = some (lawEnv L fa ca :: outer) := hA
  have hroom1 : ({ handled := none, depth := dep, frames := some (lawEnv L fa ca :: outer), guards := gds, units := uni } : Around).depth + 1 < recursionLimit := by simp only at hroom ⊢; omega
  w_on
  try dsimp only
  with_reducible refine wpAny_execs_cons ?_
  refine wpAny_Assign_Name ?_ (by with_unfolding_all rfl)
  refine LCg.ListComp_U (h₀ := h₀) (L := L) F (by with_unfolding_all rfl) (by decide) (by rfl) (by decide) (by rfl) ?_
  k_steps
  refine Stop.intro ?_
  (with_reducible rename Fr _ _ _ _ => kF)
  (with_reducible rename News _ _ _ _ => kN)
  rename_i Dx ws hx hI hC hL l1
  refine CompSrc.ledger rfl kF kN (.head _) (by rw [List.size_toArray]; have := hI.length; have : (1000 : Nat) ≤ sizeLine := by decide
                                                omega) ?_
  clear kF
  intro g
  refine kcf_list (fun k => k.fmod (10 ^ 6)) hI ?_ ?_
  · intro k t I oI C oC D m₂ ys h tk E' hk hC2 hx2 F2 N2 off ne hMark
    k_steps
    exact ⟨rfl, _, rfl⟩
  · intro ys hy D h tk F2 N2 o1x
    have N3 : News h₀ L h ((L + 1, o0) :: (D, LCg.lst ys) :: (L + 1 + 1 + 1 + 1, o3) :: (L + 1 + 1 + 1, o2) :: (L + 1 + 1, o1) :: []) := by
      (repeat (refine news_cons N2 (by repeat (first | with_reducible exact List.mem_cons_self | with_reducible refine List.mem_cons_of_mem _ ?_)) ?_)); exact news_nil
    refine storeX_C F2 N3 rfl (UpdF.head ?_) ho0 ?_ rfl rfl
    · refine all_cons ?_ (all_cons ?_ (all_cons ?_ (all_cons ?_ fun p hp => nomatch hp)))
      · exact news_ne (o := LCg.lst ys) N3 (.tail _ (.head _)) (.head _) (by rw [ho0]; exact fun h => nomatch h)
      · exact ne_n4 L
      · exact ne_n3 L
      · exact ne_n2 L
    intro h2 o0' F3 N4 hd
    refine next h2 tk D ys _ o0' ?_ ?_ hy hd F3 (news_rot4 N4)
    · rw [List.length_map]; omega
    · intro k hk
      obtain ⟨x, _, rfl⟩ := List.mem_map.mp hk
      exact ⟨Int.fmod_nonneg_of_pos _ (by decide), Int.fmod_lt_of_pos _ (by decide)⟩
theorem ints_zero {ys : List Value} (h : IntsAre ys []) : ys = [] := by cases h; rfl
theorem ints_more {ys : List Value} {k : Int} {ks : List Int} (h : IntsAre ys (k :: ks)) : ∃ t zs, ys = .int k t :: zs ∧ IntsAre zs ks := by cases h with | cons _ t q => exact ⟨t, _, rfl, q⟩
theorem ints_five {P : Prop} {ys : List Value} {ks : List Int} (hi : IntsAre ys ks) (hl : ks.length ≤ 5) (c0 : ks = [] → ys = [] → P) (c1 : ∀ k0 t0, ks = [k0] → ys = [.int k0 t0] → P)
    (c2 : ∀ k0 k1 t0 t1, ks = [k0, k1] → ys = [.int k0 t0, .int k1 t1] → P) (c3 : ∀ k0 k1 k2 t0 t1 t2, ks = [k0, k1, k2] → ys = [.int k0 t0, .int k1 t1, .int k2 t2] → P)
    (c4 : ∀ k0 k1 k2 k3 t0 t1 t2 t3, ks = [k0, k1, k2, k3] → ys = [.int k0 t0, .int k1 t1, .int k2 t2, .int k3 t3] → P)
    (c5 : ∀ k0 k1 k2 k3 k4 t0 t1 t2 t3 t4, ks = [k0, k1, k2, k3, k4] → ys = [.int k0 t0, .int k1 t1, .int k2 t2, .int k3 t3, .int k4 t4] → P) : P := by
  rcases ks with _ | ⟨k0, ks⟩
  · exact c0 rfl (ints_zero hi)
  obtain ⟨t0, y0, q0, hi0⟩ := ints_more hi
  rcases ks with _ | ⟨k1, ks⟩
  · exact c1 _ t0 rfl (by rw [q0, ints_zero hi0])
  obtain ⟨t1, y1, q1, hi1⟩ := ints_more hi0
  rcases ks with _ | ⟨k2, ks⟩
  · exact c2 _ _ t0 t1 rfl (by rw [q0, q1, ints_zero hi1])
  obtain ⟨t2, y2, q2, hi2⟩ := ints_more hi1
  rcases ks with _ | ⟨k3, ks⟩
  · exact c3 _ _ _ t0 t1 t2 rfl (by rw [q0, q1, q2, ints_zero hi2])
  obtain ⟨t3, y3, q3, hi3⟩ := ints_more hi2
  rcases ks with _ | ⟨k4, ks⟩
  · exact c4 _ _ _ _ t0 t1 t2 t3 rfl (by rw [q0, q1, q2, q3, ints_zero hi3])
  obtain ⟨t4, y4, q4, hi4⟩ := ints_more hi3
  rcases ks with _ | ⟨k5, ks⟩
  · exact c5 _ _ _ _ _ t0 t1 t2 t3 t4 rfl (by rw [q0, q1, q2, q3, q4, ints_zero hi4])
  · simp only [List.length_cons] at hl; omega
set_option maxHeartbeats 4000000 in
theorem st_draw2 {ys : List Value} {ks : List Int} {D : Addr} (B : Below A₀ base outer h₀) (F : Fr h₀ L s.heap m) (X₀ : (K w.params).In h₀) (Y₀ : TopFacts w h₀) (T : Top qv loose mean mg mb h₀)
    (N : News h₀ L s.heap [(L + 1 + 1 + 1 + 1, o3), (L + 1 + 1 + 1, o2), (L + 1 + 1, o1), (L + 1, o0), (D, LCg.lst ys)]) (ho0 : o0.data = .cell (some (.ref D))) (hi : IntsAre ys ks) (hl : ks.length ≤ 5) (hk : ∀ k ∈ ks, 0 ≤ k ∧ k < 1000000) (hA : A.frames = some (lawEnv L fa ca :: outer)) (hroom : A.depth + 5 < recursionLimit) (hh : A.handled = none) (hu : A.units + 64 < cLine)
    (next : ∀ h' tk' D d0 d1 d2 d3 d4 t0 t1 t2 t3 t4 nD o0', (0 ≤ d0 ∧ 0 ≤ d1 ∧ 0 ≤ d2 ∧ 0 ≤ d3 ∧ 0 ≤ d4 ∧ d4 < 1000000 ∧ d1 < 1000000 ∧ d2 < 1000000 ∧ d3 < 1000000) → o0'.data = .cell (some (.ref D)) → Fr h₀ L h' m → News h₀ L h' [(L + 1 + 1 + 1 + 1, o3), (L + 1 + 1 + 1, o2), (L + 1 + 1, o1), (L + 1, o0'), (D, listOf #[.int d0 t0, .int d1 t1, .int d2 t2, .int d3 t3, .int d4 t4] nD)] → wpAny (model pw w) A (execs rest (lawEnv L fa ca)) Q E { s with heap := h', toks := tk' }) :
    wpAny (model pw w) A (execs (stAt 1 rfl :: rest) (lawEnv L fa ca)) Q E s := by
  obtain ⟨hdl, dep, frm, gds, uni⟩ := A
  obtain rfl : hdl = none := hh
  obtain rfl : frm = some (lawEnv L fa ca :: outer) := hA
  have hroom1 : ({ handled := none, depth := dep, frames := some (lawEnv L fa ca :: outer), guards := gds, units := uni } : Around).depth + 1 < recursionLimit := by simp only at hroom ⊢; omega
  w_on
  try dsimp only
  have hD : @Ne Nat D (L + 1) := news_ne (o := LCg.lst ys) (o' := o0) N (by repeat (first | with_reducible exact List.mem_cons_self | with_reducible refine List.mem_cons_of_mem _ ?_)) (by repeat (first | with_reducible exact List.mem_cons_self | with_reducible refine List.mem_cons_of_mem _ ?_)) (by rw [ho0]; exact fun h => nomatch h)
  refine ints_five hi hl (fun e1 e2 => ?_) (fun k0 t0 e1 e2 => ?_) (fun k0 k1 t0 t1 e1 e2 => ?_) (fun k0 k1 k2 t0 t1 t2 e1 e2 => ?_) (fun k0 k1 k2 k3 t0 t1 t2 t3 e1 e2 => ?_) (fun k0 k1 k2 k3 k4 t0 t1 t2 t3 t4 e1 e2 => ?_)
  · subst e1 e2
    clear hi hl
    k_steps
    (with_reducible rename Fr _ _ _ _ => kF)
    (with_reducible rename News _ _ _ _ => kN)
    (try simp only [List.cons_append, List.nil_append] at kN)
    refine next _ _ _ _ _ _ _ _ _ _ _ _ _ _ _ ?_ (by assumption) kF (by (repeat (refine news_cons kN (by repeat (first | with_reducible exact List.mem_cons_self | with_reducible refine List.mem_cons_of_mem _ ?_)) ?_)); exact news_nil)
    refine ⟨?_, ?_, ?_, ?_, ?_, ?_, ?_, ?_, ?_⟩ <;> first | exact b0.1 | exact b1.1 | exact b2.1 | exact b3.1 | exact b4.1 | exact b4.2 | exact b1.2 | exact b2.2 | exact b3.2 | decide
  · subst e1 e2
    clear hi hl
    have b0 := hk k0 (by simp)
    k_steps
    (with_reducible rename Fr _ _ _ _ => kF)
    (with_reducible rename News _ _ _ _ => kN)
    (try simp only [List.cons_append, List.nil_append] at kN)
    refine next _ _ _ _ _ _ _ _ _ _ _ _ _ _ _ ?_ (by assumption) kF (by (repeat (refine news_cons kN (by repeat (first | with_reducible exact List.mem_cons_self | with_reducible refine List.mem_cons_of_mem _ ?_)) ?_)); exact news_nil)
    refine ⟨?_, ?_, ?_, ?_, ?_, ?_, ?_, ?_, ?_⟩ <;> first | exact b0.1 | exact b1.1 | exact b2.1 | exact b3.1 | exact b4.1 | exact b4.2 | exact b1.2 | exact b2.2 | exact b3.2 | decide
  · subst e1 e2
    clear hi hl
    have b0 := hk k0 (by simp)
    have b1 := hk k1 (by simp)
    k_steps
    (with_reducible rename Fr _ _ _ _ => kF)
    (with_reducible rename News _ _ _ _ => kN)
    (try simp only [List.cons_append, List.nil_append] at kN)
    refine next _ _ _ _ _ _ _ _ _ _ _ _ _ _ _ ?_ (by assumption) kF (by (repeat (refine news_cons kN (by repeat (first | with_reducible exact List.mem_cons_self | with_reducible refine List.mem_cons_of_mem _ ?_)) ?_)); exact news_nil)
    refine ⟨?_, ?_, ?_, ?_, ?_, ?_, ?_, ?_, ?_⟩ <;> first | exact b0.1 | exact b1.1 | exact b2.1 | exact b3.1 | exact b4.1 | exact b4.2 | exact b1.2 | exact b2.2 | exact b3.2 | decide
  · subst e1 e2
    clear hi hl
    have b0 := hk k0 (by simp)
    have b1 := hk k1 (by simp)
    have b2 := hk k2 (by simp)
    k_steps
    (with_reducible rename Fr _ _ _ _ => kF)
    (with_reducible rename News _ _ _ _ => kN)
    (try simp only [List.cons_append, List.nil_append] at kN)
    refine next _ _ _ _ _ _ _ _ _ _ _ _ _ _ _ ?_ (by assumption) kF (by (repeat (refine news_cons kN (by repeat (first | with_reducible exact List.mem_cons_self | with_reducible refine List.mem_cons_of_mem _ ?_)) ?_)); exact news_nil)
    refine ⟨?_, ?_, ?_, ?_, ?_, ?_, ?_, ?_, ?_⟩ <;> first | exact b0.1 | exact b1.1 | exact b2.1 | exact b3.1 | exact b4.1 | exact b4.2 | exact b1.2 | exact b2.2 | exact b3.2 | decide
  · subst e1 e2
    clear hi hl
    have b0 := hk k0 (by simp)
    have b1 := hk k1 (by simp)
    have b2 := hk k2 (by simp)
    have b3 := hk k3 (by simp)
    k_steps
    (with_reducible rename Fr _ _ _ _ => kF)
    (with_reducible rename News _ _ _ _ => kN)
    (try simp only [List.cons_append, List.nil_append] at kN)
    refine next _ _ _ _ _ _ _ _ _ _ _ _ _ _ _ ?_ (by assumption) kF (by (repeat (refine news_cons kN (by repeat (first | with_reducible exact List.mem_cons_self | with_reducible refine List.mem_cons_of_mem _ ?_)) ?_)); exact news_nil)
    refine ⟨?_, ?_, ?_, ?_, ?_, ?_, ?_, ?_, ?_⟩ <;> first | exact b0.1 | exact b1.1 | exact b2.1 | exact b3.1 | exact b4.1 | exact b4.2 | exact b1.2 | exact b2.2 | exact b3.2 | decide
  · subst e1 e2
    clear hi hl
    have b0 := hk k0 (by simp)
    have b1 := hk k1 (by simp)
    have b2 := hk k2 (by simp)
    have b3 := hk k3 (by simp)
    have b4 := hk k4 (by simp)
    k_steps
    (with_reducible rename Fr _ _ _ _ => kF)
    (with_reducible rename News _ _ _ _ => kN)
    (try simp only [List.cons_append, List.nil_append] at kN)
    refine next _ _ _ _ _ _ _ _ _ _ _ _ _ _ _ ?_ (by assumption) kF (by (repeat (refine news_cons kN (by repeat (first | with_reducible exact List.mem_cons_self | with_reducible refine List.mem_cons_of_mem _ ?_)) ?_)); exact news_nil)
    refine ⟨?_, ?_, ?_, ?_, ?_, ?_, ?_, ?_, ?_⟩ <;> first | exact b0.1 | exact b1.1 | exact b2.1 | exact b3.1 | exact b4.1 | exact b4.2 | exact b1.2 | exact b2.2 | exact b3.2 | decide
end
end
end
end Mine
end
section
open PySem PySem.W PySem.Calls PyProof.Rows PySem.Spec LCg
set_option maxRecDepth 100000
set_option linter.unusedVariables false
set_option pp.deepTerms false
set_option pp.deepTerms.threshold 9
namespace Mine
theorem filledR : PySem.Challenge.rw_tp0034_01 = PySem.Challenge.rw_tp0034_01 ∧ K = K := by k_fill; exact ⟨rfl, rfl⟩
section
variable {w : World} {A A₀ : Around} {base h₀ : Heap} {outer : List Env} {L fa ca c0 c1 c2 c3 : Addr} {m mg mb : Str → Option Value} {mean : ExcName → Option Value} {loose : List Str} {s : Shared}
  {o0 o1 o2 o3 : Obj} {Q : Flow → Shared → Prop} {E : Value → Shared → Prop} {rest : List Stmt}
/-- what the walk leaves to be shown, in plain words -/
noncomputable def PlainLaw : Prop := ∀ (sz p q n0 n1 n2 n3 f0 f1 f2 f3 : Int) (sh va : UInt64), (sz = 8 ∨ sz = 16 ∨ sz = 32) → (0 ≤ p ∧ p < sz) → (0 ≤ q ∧ q < sz) → Corn sz p q n0 n1 n2 n3 → IsPart sh → IsPart va →
  (0 ≤ f0 ∧ f0 < 16) → (0 ≤ f1 ∧ f1 < 16) → (0 ≤ f2 ∧ f2 < 16) → (0 ≤ f3 ∧ f3 < 16) →
  (∃ ps : List (Nat × Sgn), Txt.join (Str.ofString " ") [typedS n0 f0, typedS n1 f1, typedS n2 f2, typedS n3 f3] = ⟨(ps.map (·.1)).toArray⟩ ∧ (∀ p ∈ ps, IsSgn p.1 p.2) ∧ ps.length ≤ 60 ∧ readOut (ps.map (·.2)) = [n0, n1, n2, n3]) ∧
  ∃ (ins cyf : Int → Bool) (x0 y0 z0 x1 y1 z1 x2 y2 z2 x3 y3 z3 : UInt64), KOk 1 sz p q n0 n1 n2 n3 sh va (ins 1) (cyf 1) x0 y0 z0 x1 y1 z1 x2 y2 z2 x3 y3 z3 ∧ (∀ k : Int, 1 ≤ k → k < sz → KEx k sz p q n0 n1 n2 n3 sh va (ins k) (cyf k)) ∧
    ((eqF x0 x0 = true ∧ eqF y0 y0 = true ∧ eqF z0 z0 = true) ∧ (eqF x1 x1 = true ∧ eqF y1 y1 = true ∧ eqF z1 z1 = true) ∧ (eqF x2 x2 = true ∧ eqF y2 y2 = true ∧ eqF z2 z2 = true) ∧ (eqF x3 x3 = true ∧ eqF y3 y3 = true ∧ eqF z3 z3 = true)) ∧
    emAfter ins (sz - 1).toNat 0 true = (cyAfter sz cyf (sz - 1).toNat 0 false && ((mateB x0 y0 z0 x1 y1 z1 && mateB x2 y2 z2 x3 y3 z3) || (mateB x0 y0 z0 x2 y2 z2 && mateB x1 y1 z1 x3 y3 z3) || (mateB x0 y0 z0 x3 y3 z3 && mateB x1 y1 z1 x2 y2 z2))) ∧
    emAfter ins (sz - 1).toNat 0 true = (cyAfter sz cyf (sz - 1).toNat 0 false && flatAt p q sz 3)
theorem small_sub {sz b a : Int} (hb : Bit b) (h0 : 0 < sz) (h1 : sz ≤ 32) (h2 : -64 < a) (h3 : a < 64) : (a - sz * b).natAbs < 256 := by
  rcases hb with rfl | rfl
  · rw [Int.mul_zero]; omega
  · rw [Int.mul_one]; omega
theorem corn_small {sz p q n0 n1 n2 n3 : Int} (hs : sz = 8 ∨ sz = 16 ∨ sz = 32) (hp : 0 ≤ p ∧ p < sz) (hq : 0 ≤ q ∧ q < sz) (h : Corn sz p q n0 n1 n2 n3) : n0.natAbs < 256 ∧ n1.natAbs < 256 ∧ n2.natAbs < 256 ∧ n3.natAbs < 256 := by
  obtain ⟨b0, b1, b2, b3, h0, h1, h2, h3, rfl, rfl, rfl, rfl⟩ := h
  have z0 : 0 < sz := by omega
  have z1 : sz ≤ 32 := by omega
  have neg : ∀ x y : Int, (x - y).natAbs = (y - x).natAbs := fun x y => by omega
  refine ⟨small_sub h0 z0 z1 (by omega) (by omega), ?_, ?_, small_sub h3 z0 z1 (by omega) (by omega)⟩
  · rw [neg]; exact small_sub h1 z0 z1 (by omega) (by omega)
  · rw [neg]; exact small_sub h2 z0 z1 (by omega) (by omega)
set_option maxHeartbeats 8000000 in
theorem law_body (hP : PlainLaw) {vs : List Value} {ns : List Int} {Sa : Addr} (B : Below A₀ base outer h₀) (F : Fr h₀ L s.heap (putM (Str.ofString "script") (.ref Sa) m)) (X₀ : (K w.params).In h₀) (Y₀ : TopFacts w h₀) (T : Top qv loose mean mg mb h₀)
    (N : News h₀ L s.heap [(L + 1 + 1 + 1 + 1, o3), (L + 1 + 1 + 1, o2), (L + 1 + 1, o1), (L + 1, o0)]) (ho0 : o0.data = .cell none) (ho1 : o1.data = .cell none) (ho2 : o2.data = .cell none) (ho3 : o3.data = .cell none) (hS : h₀.IsList Sa vs.toArray) (hi : IntsAre vs ns) (hl : ns.length ≤ 63) (hA : A.frames = some (lawEnv L fa ca :: outer)) (hroom : A.depth + 5 < recursionLimit) (hh : A.handled = none) (hu : A.units + 64 < cLine)
    (hQ : ∀ h' tk' m', Fr h₀ L h' m' → Q (.ret (.bool true)) { s with heap := h', toks := tk' }) :
    wpAny (model pw w) A (execs [stAt 0 rfl, stAt 1 rfl, stAt 2 rfl, stAt 3 rfl, stAt 4 rfl, stAt 5 rfl, stAt 6 rfl, stAt 7 rfl, stAt 8 rfl, stAt 9 rfl, stAt 10 rfl, stAt 11 rfl, stAt 12 rfl, stAt 13 rfl, stAt 14 rfl, stAt 15 rfl, stAt 16 rfl, stAt 17 rfl, stAt 18 rfl, stAt 19 rfl, stAt 20 rfl] (lawEnv L fa ca)) Q E s := by
  with_reducible refine st_draw B F X₀ Y₀ T N ho0 hS hi hl hA hroom hh hu ?_
  clear F N
  intro h1 tk1 D1 ys ks o0a hk1 hk2 hk3 hd0 F N
  with_reducible refine st_draw2 B F X₀ Y₀ T N hd0 hk3 hk1 hk2 hA hroom hh hu ?_
  clear F N hd0
  intro h2 tk2 D d0 d1 d2 d3 d4 t0 t1 t2 t3 t4 nD o0b hds hd0 F N
  obtain ⟨g0, g1, g2, g3, g4, g5, g6, g7, g8⟩ := hds
  with_reducible refine st_size B F X₀ Y₀ T N hd0 g0 g1 g2 g3 g4 g5 g6 g7 g8 hA hroom hh (Nat.zero_le _) ?_
  clear F N
  intro h3 tk3 _ ht3 sz ts hsz F N
  have hz0 : 0 < sz := by omega
  have hz1 : sz ≤ 32 := by omega
  with_reducible refine st_pq B F X₀ Y₀ T N hd0 g0 g1 g2 g3 g4 g5 g6 g7 g8 hz0 hz1 hA hroom hh ht3 ?_
  clear F N
  intro h4 tk4 ht4 p q tp tq hp hq F N
  with_reducible refine st_bits B F X₀ Y₀ T N hd0 g0 g1 g2 g3 g4 g5 g6 g7 g8 hA hroom hh ht4 ?_
  clear F N
  intro h5 tk5 ht5 bi tb hb0 hb1 F N
  with_reducible refine st_share B F X₀ Y₀ T N hd0 g0 g1 g2 g3 g4 g5 g6 g7 g8 hb0 hA hroom hh ht5 ?_
  clear F N
  intro h6 tk6 ht6 sh tf hsh F N
  with_reducible refine st_value B F X₀ Y₀ T N hd0 g0 g1 g2 g3 g4 g5 g6 g7 g8 hb0 hA hroom hh ht6 ?_
  clear F N
  intro h7 tk7 ht7 va tv hva htv F N
  have htv2 : tv + 1 ≤ tk7 := htv.2
  with_reducible refine st_corners (n := tv + 1) B F X₀ Y₀ T N hd0 g0 g1 g2 g3 g4 g5 g6 g7 g8 hb0 hb1 hp hq hz0 hz1 ho1 hA hroom hh htv2 ?_
  clear F N
  intro h8 tk8 ht8 n0 n1 n2 n3 tn0 tn1 tn2 tn3 nC Dc o1a hcorn hd1 F N
  obtain ⟨c0, c1, c2, c3⟩ := corn_small hsz hp hq hcorn
  with_reducible refine st_text B F X₀ Y₀ T N hd0 g0 g1 g2 g3 g4 g5 g6 g7 g8 hd1 c0 c1 c2 c3 hA hroom hh ht8 ?_
  clear F N
  intro h9 tk9 ht9 f0 f1 f2 f3 t u0 u1 u2 u3 k0 k1 k2 k3 F N
  obtain ⟨⟨ps, hX, hks, hlen, hout⟩, ins, cyf, x0, y0, z0, x1, y1, z1, x2, y2, z2, x3, y3, z3, hK1, hK, hself, hem1, hem2⟩ := hP sz p q n0 n1 n2 n3 f0 f1 f2 f3 sh va hsz hp hq hcorn hsh hva k0 k1 k2 k3
  with_reducible refine st_told (ps := ps) B F X₀ Y₀ T N hd0 g0 g1 g2 g3 g4 g5 g6 g7 g8 hd1 hX hks hlen hout hu hA hroom hh ht9 ?_
  clear F N
  intro h10 tk10 ht10 ta tb1 tc td nT Dt F N
  with_reducible refine st_inits B F X₀ Y₀ T N ho2 hA hroom hh ht10 ?_
  clear F N
  intro h11 tk11 ht11 Dl nL o2a hd2 F N
  have N2 : News h₀ L h11 ((Dl, listOf #[] nL) :: (L + 1 + 1 + 1, o2a) :: (Dt, listOf #[.int n0 ta, .int n1 tb1, .int n2 tc, .int n3 td] nT) :: (L + 1 + 1 + 1 + 1, o3) :: (L + 1 + 1, o1a) :: (L + 1, o0b) :: []) := (by (repeat (refine news_cons N (by repeat (first | with_reducible exact List.mem_cons_self | with_reducible refine List.mem_cons_of_mem _ ?_)) ?_)); exact news_nil)
  have r1 : Dt ≠ Dl := news_ne N2 (.tail _ (.tail _ (.head _))) (.head _) (fun e => by injection e with e; injection e with e; injection e)
  have r2 : L + 1 + 1 + 1 + 1 ≠ Dl := news_ne N2 (.tail _ (.tail _ (.tail _ (.head _)))) (.head _) (by rw [ho3]; exact fun e => nomatch e)
  have r3 : L + 1 + 1 ≠ Dl := news_ne N2 (.tail _ (.tail _ (.tail _ (.tail _ (.head _))))) (.head _) (by rw [hd1]; exact fun e => nomatch e)
  have r4 : L + 1 ≠ Dl := news_ne N2 (.tail _ (.tail _ (.tail _ (.tail _ (.tail _ (.head _)))))) (.head _) (by rw [hd0]; exact fun e => nomatch e)
  have r5 : L + 1 + 1 + 1 ≠ Dl := news_ne N2 (.tail _ (.head _)) (.head _) (by rw [hd2]; exact fun e => nomatch e)
  have hoff : ∀ p ∈ (Dt, listOf #[.int n0 ta, .int n1 tb1, .int n2 tc, .int n3 td] nT) :: (L + 1 + 1 + 1 + 1, o3) :: (L + 1 + 1, o1a) :: (L + 1, o0b) :: [], p.1 ≠ Dl := all_cons r1 (all_cons r2 (all_cons r3 (all_cons r4 fun p hp => nomatch hp)))
  with_reducible refine st_loop (c := tv + 1) B (fr_put (fr_put (fr_put (fr_put (fr_put (fr_put (fr_put (fr_put (F) rfl) rfl) rfl) rfl) rfl) rfl) rfl) rfl) X₀ Y₀ T N2 hd2 hoff r5 (Nat.succ_pos _) ht11 hsz hp hq hK1 hK hA hroom hh hu ?_
  clear F N N2
  intro h12 tk12 r12 nL2 T0 T1 T2 T3 a0 b0 c0' a1 b1 c1' a2 b2 c2' a3 b3 c3' e0 e1 e2 e3 e4 ht12 he0 he1 he2 he3 he4 hTK F N
  have NM : News h₀ L h12 ((Dl, listOf [Value.ref T0, Value.ref T1, Value.ref T2, Value.ref T3].toArray nL2) :: (L + 1 + 1 + 1, o2a) :: (T3, tupO (.float x3 a3) (.float y3 b3) (.float z3 c3')) :: (T2, tupO (.float x2 a2) (.float y2 b2) (.float z2 c2')) :: (T1, tupO (.float x1 a1) (.float y1 b1) (.float z1 c1')) :: (T0, tupO (.float x0 a0) (.float y0 b0) (.float z0 c0')) :: (L + 1 + 1 + 1 + 1, o3) :: []) := news_cons N (.head _) (news_cons N (.tail _ (.head _)) (news_cons N (.tail _ (.tail _ (.head _))) (news_cons N (.tail _ (.tail _ (.tail _ (.head _)))) (news_cons N (.tail _ (.tail _ (.tail _ (.tail _ (.head _))))) (news_cons N (.tail _ (.tail _ (.tail _ (.tail _ (.tail _ (.head _)))))) (news_cons N (.tail _ (.tail _ (.tail _ (.tail _ (.tail _ (.tail _ (.tail _ (.head _)))))))) news_nil))))))
  with_reducible refine st_mates B F X₀ Y₀ T NM hd2 ho3 ht12 hA hroom hh hu ?_
  intro h13 tk13 Dm nM M0 M1 M2 M3 o3a ht13 hd3 F2 N2
  with_reducible refine st_pairs B F2 X₀ Y₀ T N2 hd2 hd3 ht13 hTK he1 he2 he3 he4 (by omega) (by omega) hself hA hroom hh hu ?_
  clear F N
  intro h14 tk14 Dp ys2 ht14 hyl hye F N
  with_reducible refine st_check (fl := false) B (fr_put (fr_put (fr_put (F) rfl) rfl) rfl) X₀ Y₀ T N hye hyl hem1 hA hroom hh hu ?_
  clear F2 N2
  intro h15 tk15 F2
  with_reducible refine st_flat B (fr_put (fr_put (fr_put (fr_put (fr_put (fr_put (F2) rfl) rfl) rfl) rfl) rfl) rfl) X₀ Y₀ T news_nil hz0 hz1 hp hq hA hroom hh hu ?_
  intro h16 tk16 r16 F3 N3
  with_reducible refine st_ret (pr := false) (Dp := 0) (ys := []) B (fr_put (fr_put (fr_put (F3) rfl) rfl) rfl) X₀ Y₀ T news_nil hem2 hA hroom hh hu ?_
  intro h17 tk17 F4 N4
  with_reducible exact hQ h17 tk17 _ F4
end
end Mine
end
section
open PySem PySem.W PySem.Calls PyProof.Rows PySem.Spec
set_option maxRecDepth 100000
set_option linter.unusedVariables false
set_option pp.deepTerms false
set_option pp.deepTerms.threshold 7
namespace Mine
local macro_rules | `(tactic| k_qdec) => `(tactic| kernel_rfl)
set_option maxHeartbeats 8000000 in
theorem join (hP : PlainLaw) (k1 : rL.wellSaid = true) (hw : rL.toRowW.promised) : rL.Holds := by
  w_on
  refine my_end (d := ⟨_,_,_,_,_⟩) (kwd := _) (by rfl) (by rfl) (by rfl) k1 hw ?_
  intro w s₀ s₁ mg mb G Y fa o pm cd doc dV kV ho hd hcd hD hmg hg args vals as hpre hlay hrd hwl hlo
  have KX : (K w.params).In s₁.heap := k_of Y
  k_fill
  k_behind G ho hd hcd hD hmg hpre hlay hrd hwl hlo cd
  rename_i l3 l2 l1 l0 N0 X0
  refine law_body hP (by assumption) (by assumption) KX Y (by assumption) N0 l0 l1 l2 l3 (by assumption) (by assumption) (by omega) rfl ?_ rfl ?_ ?_
  · exact (by decide : callerA.depth + 1 + 5 < recursionLimit)
  · exact (by decide : callerA.units + 3 + 64 < cLine)
  · intro h' tk' m' F'
    dsimp only
    k_steps
end Mine
end
section
open PySem
set_option maxRecDepth 100000
set_option linter.unusedVariables false
namespace Mine
/-- n 32nds of a turn -/
noncomputable def T32 (n : Nat) : UInt64 := Float64.ofFrac false n 32
theorem log2_scale {n : Nat} (h : n ≠ 0) : ∀ t, (n * 2 ^ t).log2 = n.log2 + t
  | 0 => by simp
  | t + 1 => by
    have e : n * 2 ^ (t + 1) = 2 * (n * 2 ^ t) := by rw [Nat.pow_succ]; ac_rfl
    have h2 : n * 2 ^ t ≠ 0 := Nat.mul_ne_zero h (Nat.pos_iff_ne_zero.mp (Nat.two_pow_pos t))
    rw [e, Nat.log2_two_mul h2, log2_scale h t]
    omega
theorem shift_scale (n d t : Nat) (k : Int) : Float64.shift (n * 2 ^ t) (d * 2 ^ t) k = ((Float64.shift n d k).1 * 2 ^ t, (Float64.shift n d k).2 * 2 ^ t) := by
  unfold Float64.shift
  split
  · simp only; rw [Nat.mul_right_comm]
  · simp only; rw [Nat.mul_right_comm d]
theorem half_scale (n d t : Nat) : Float64.halfEven (n * 2 ^ t) (d * 2 ^ t) = Float64.halfEven n d := by
  have hp : 0 < 2 ^ t := Nat.two_pow_pos t
  unfold Float64.halfEven
  rw [Nat.mul_div_mul_right _ _ hp, Nat.mul_mod_mul_right]
  have e : 2 * (n % d * 2 ^ t) = (2 * (n % d)) * 2 ^ t := by ac_rfl
  have h1 : decide (2 * (n % d * 2 ^ t) > d * 2 ^ t) = decide (2 * (n % d) > d) := by
    rw [e]; exact decide_eq_decide.mpr (Nat.mul_lt_mul_right hp)
  have h2 : (2 * (n % d * 2 ^ t) == d * 2 ^ t) = (2 * (n % d) == d) := by
    rw [e, Bool.eq_iff_iff, beq_iff_eq, beq_iff_eq]; exact Nat.mul_left_inj (by omega)
  simp only [h1, h2]
theorem round_scale {n d : Nat} (hd : d ≠ 0) (t : Nat) : Float64.roundMag (n * 2 ^ t) (d * 2 ^ t) = Float64.roundMag n d := by
  have hp : 0 < 2 ^ t := Nat.two_pow_pos t
  by_cases h : n = 0
  · subst h; rw [Nat.zero_mul]; unfold Float64.roundMag; rw [if_pos (by rfl), if_pos (by rfl)]
  · have h2 : n * 2 ^ t ≠ 0 := Nat.mul_ne_zero h (by omega)
    unfold Float64.roundMag
    rw [if_neg (show ¬((n * 2 ^ t == 0) = true) by simpa using h2), if_neg (show ¬((n == 0) = true) by simpa using h), log2_scale h, log2_scale hd]
    have el : (((n.log2 + t : Nat) : Int) - ((d.log2 + t : Nat) : Int)) = (n.log2 : Int) - (d.log2 : Int) := by omega
    rw [el]
    simp only [shift_scale, half_scale, ge_iff_le, Nat.mul_le_mul_right_iff hp]
theorem frac_scale {neg : Bool} {n d : Nat} (hd : d ≠ 0) (t : Nat) : Float64.ofFrac neg (n * 2 ^ t) (d * 2 ^ t) = Float64.ofFrac neg n d := by
  unfold Float64.ofFrac; rw [round_scale hd]
/-- x tells n 32nds -/
noncomputable def Tells (x : UInt64) (a : Bool) (n : Int) : Prop := ∃ (m : Nat) (e : Int) (t : Nat), Float64.decode x = .fin a m e ∧ e = -5 - (t : Int) ∧ Float64.sgn a m = n * 2 ^ t
theorem sgn_mul (a : Bool) (m k : Nat) : Float64.sgn a (m * k) = Float64.sgn a m * (k : Int) := by
  unfold Float64.sgn; cases a <;> simp [Int.neg_mul]
theorem sgn_tells {a : Bool} {m t : Nat} {n : Int} (h : Float64.sgn a m = n * 2 ^ t) (u : Nat) : Float64.sgn a (m * 2 ^ u) = n * 2 ^ (t + u) := by
  rw [sgn_mul, h, Int.pow_add, Int.mul_assoc]; simp
theorem joint_power (t t' : Nat) : ∃ w u u' : Nat, w = t + u ∧ w = t' + u' ∧ ((-5 - (t : Int)) - min (-5 - (t : Int)) (-5 - (t' : Int))).toNat = u ∧ ((-5 - (t' : Int)) - min (-5 - (t : Int)) (-5 - (t' : Int))).toNat = u' ∧ min (-5 - (t : Int)) (-5 - (t' : Int)) = -5 - (w : Int) := by
  rcases Nat.le_total t t' with h | h
  · rw [Int.min_eq_right (by omega)]
    exact ⟨t', t' - t, 0, by omega, rfl, by omega, by rw [Int.sub_self]; rfl, rfl⟩
  · rw [Int.min_eq_left (by omega)]
    exact ⟨t, 0, t - t', rfl, by omega, by rw [Int.sub_self]; rfl, by omega, rfl⟩
theorem add_tells {x y : UInt64} {a b : Bool} {n k : Int} (hx : Tells x a n) (hy : Tells y b k) : Float64.add x y = if n + k = 0 then Float64.zero (a && b) else Float64.ofFrac (decide (n + k < 0)) (n + k).natAbs 32 := by
  obtain ⟨m, e, t, h1, h2, h3⟩ := hx
  obtain ⟨m', e', t', h1', h2', h3'⟩ := hy
  unfold Float64.add
  rw [h1, h1']
  show (match Float64.align a m e b m' e' with | (p, q, g) => if (p + q == 0) = true then Float64.zero (a && b) else Float64.ofBin (decide (p + q < 0)) (p + q).natAbs g) = _
  obtain ⟨w, u, u', hw1, hw2, hu, hu', hg⟩ := joint_power t t'
  rw [← h2, ← h2'] at hu hu' hg
  have hp : (2 : Int) ^ w ≠ 0 := Int.ne_of_gt (Int.pow_pos (by decide))
  have ha : Float64.align a m e b m' e' = (n * 2 ^ w, k * 2 ^ w, -5 - (w : Int)) := by
    unfold Float64.align
    show (Float64.sgn a (m * 2 ^ (e - min e e').toNat), Float64.sgn b (m' * 2 ^ (e' - min e e').toNat), min e e') = _
    rw [hu, hu', sgn_tells h3, sgn_tells h3', ← hw1, ← hw2, hg]
  rw [ha]
  show (if (n * 2 ^ w + k * 2 ^ w == 0) = true then Float64.zero (a && b) else Float64.ofBin (decide (n * 2 ^ w + k * 2 ^ w < 0)) (n * 2 ^ w + k * 2 ^ w).natAbs (-5 - (w : Int))) = _
  rw [← Int.add_mul]
  by_cases h0 : n + k = 0
  · rw [if_pos h0, if_pos (by rw [h0, Int.zero_mul]; rfl)]
  · have hne : (n + k) * 2 ^ w ≠ 0 := Int.mul_ne_zero h0 hp
    rw [if_neg h0, if_neg (by simpa using hne)]
    have hd : decide ((n + k) * 2 ^ w < 0) = decide (n + k < 0) := by
      have hpos : (0 : Int) < 2 ^ w := Int.pow_pos (by decide)
      refine decide_eq_decide.mpr ⟨fun h => ?_, fun h => Int.mul_neg_of_neg_of_pos h hpos⟩
      by_cases hc : 0 ≤ n + k
      · have := Int.mul_nonneg hc (Int.le_of_lt hpos); omega
      · omega
    rw [hd, Int.natAbs_mul, show ((2 : Int) ^ w).natAbs = 2 ^ w by rw [Int.natAbs_pow]; rfl]
    unfold Float64.ofBin Float64.shift
    rw [if_neg (by omega)]
    show Float64.ofFrac _ _ (1 * 2 ^ (-(-5 - (w : Int))).toNat) = _
    rw [show (-(-5 - (w : Int))).toNat = 5 + w by omega, Nat.pow_add, ← Nat.mul_assoc, show 1 * 2 ^ 5 = 32 from rfl]
    exact frac_scale (by decide) w
/-- the bits of n 32nds of a turn are read back -/
noncomputable def tellsB (a : Bool) (n : Nat) (x : UInt64) : Bool := match Float64.decode x with
  | .fin b m e => (a == b) && decide (e ≤ -5) && decide (m = n * 2 ^ (-5 - e).toNat)
  | _ => false
theorem tellsB_is {a : Bool} {n : Nat} {x : UInt64} (h : tellsB a n x = true) : Tells x a (if a then -(n : Int) else (n : Int)) := by
  unfold tellsB at h
  cases hd : Float64.decode x with
  | nan => rw [hd] at h; cases h
  | inf b => rw [hd] at h; cases h
  | fin b m e =>
    rw [hd] at h
    simp only [Bool.and_eq_true, beq_iff_eq, decide_eq_true_eq] at h
    obtain ⟨⟨rfl, h1⟩, h2⟩ := h
    refine ⟨m, e, (-5 - e).toNat, hd, by omega, ?_⟩
    rw [h2]
    unfold Float64.sgn
    cases a <;> simp [Int.neg_mul]
set_option maxHeartbeats 0 in
theorem tabT : (List.range 128).all (fun n => tellsB false n (T32 n) && tellsB true n (Float64.neg (T32 n)) && (n == 0 || Float64.ofFrac true n 32 == Float64.neg (T32 n))) = true := by decide +kernel
theorem T32_tells {n : Nat} (h : n < 128) : Tells (T32 n) false n ∧ Tells (Float64.neg (T32 n)) true (-(n : Int)) ∧ (n ≠ 0 → Float64.ofFrac true n 32 = Float64.neg (T32 n)) := by
  have := List.all_eq_true.mp tabT n (List.mem_range.mpr h)
  simp only [Bool.and_eq_true, Bool.or_eq_true, beq_iff_eq] at this
  obtain ⟨⟨h1, h2⟩, h3⟩ := this
  exact ⟨tellsB_is h1, tellsB_is h2, fun h => h3.resolve_left h⟩
theorem T32_zero : T32 0 = 0 := by decide +kernel
theorem zero_is : Float64.zero false = 0 := by decide +kernel
theorem T32_add {n k : Nat} (h : n < 128) (h' : k < 128) : Float64.add (T32 n) (T32 k) = T32 (n + k) := by
  rw [add_tells (T32_tells h).1 (T32_tells h').1]
  by_cases h0 : (n : Int) + (k : Int) = 0
  · rw [if_pos h0, show n + k = 0 by omega, T32_zero]; rfl
  · rw [if_neg h0, show decide ((n : Int) + (k : Int) < 0) = false from decide_eq_false (by omega)]
    show Float64.ofFrac false _ 32 = Float64.ofFrac false _ 32
    congr 1
/-- k - n 32nds, if k is at most n -/
theorem T32_sub {n k : Nat} (h : n < 128) (hk : k ≤ n) : Float64.sub (T32 k) (T32 n) = if n = k then 0 else Float64.neg (T32 (n - k)) := by
  unfold Float64.sub
  rw [add_tells (T32_tells (show k < 128 by omega)).1 (T32_tells h).2.1]
  by_cases h0 : n = k
  · rw [if_pos h0, if_pos (by omega)]; exact zero_is
  · rw [if_neg h0, if_neg (by omega), show decide ((k : Int) + -(n : Int) < 0) = true from decide_eq_true (by omega), show ((k : Int) + -(n : Int)).natAbs = n - k by omega]
    exact (T32_tells (show n - k < 128 by omega)).2.2 (by omega)
theorem T32_back {n : Nat} (h : n < 128) : Float64.add (Float64.neg (T32 n)) (T32 n) = 0 := by
  rw [add_tells (T32_tells h).2.1 (T32_tells h).1, if_pos (by omega)]; exact zero_is
theorem lost_zero {n k : Nat} (h : n + k < 128) : Float64.add (Float64.sub (T32 k) (T32 (n + k))) (T32 n) = 0 := by
  rw [T32_sub h (by omega)]
  by_cases h0 : n + k = k
  · rw [if_pos h0, show n = 0 by omega, T32_zero]; decide +kernel
  · rw [if_neg h0, show n + k - k = n by omega]; exact T32_back (by omega)
theorem add_zero_zero : Float64.add 0 0 = 0 := by decide +kernel
theorem int_zero : Float64.ofInt 0 = T32 0 := by decide +kernel
end Mine
end
section
open PySem PySem.W PySem.Calls PyProof.Rows PySem.Spec
set_option maxRecDepth 100000
set_option linter.unusedVariables false
namespace Mine
noncomputable def partOf (i : Nat) : UInt64 := if i = 0 then 4607182418800017408 else if i = 1 then 4602678819172646912 else 4598175219545276416
noncomputable def hsvChk (j : Nat) : Bool :=
  let a := Float64.mul (T32 j) six
  let b := Float64.mul (T32 (j % 32)) six
  let i := Flt.toInt Float64.truncOf a
  let i' := Flt.toInt Float64.truncOf b
  Float64.sub a (Float64.ofInt i) == Float64.sub b (Float64.ofInt i') && i.fmod 6 == i'.fmod 6 && Float64.isFinite a && decide (i.natAbs < 2 ^ 1024 - 2 ^ 970) && !Float64.isInf (T32 j)
noncomputable def okJ (j i l : Nat) : Bool :=
  let sh := partOf i
  let va := partOf l
  let c := hsvF (T32 j) sh va
  let d := hlsF c.1 c.2.1 c.2.2
  !(Float64.cmp sh 0 == some .eq) && hlsOk c.1 c.2.1 c.2.2 && !(Float64.cmp (Float64.mul (Float64.ofInt 2) d.2.1) (Float64.mul va (Float64.sub (Float64.ofInt 2) sh)) != some .eq) && d.1 == T32 j && eqF c.1 c.1 && eqF c.2.1 c.2.1 && eqF c.2.2 c.2.2
set_option maxHeartbeats 0 in
theorem tab8 : (List.range 50).all (fun m => Float64.ofFrac false m 8 == T32 (m * 4)) = true := by decide +kernel
set_option maxHeartbeats 0 in
theorem tab16 : (List.range 226).all (fun m => Float64.ofFrac false m 16 == T32 (m * 2)) = true := by decide +kernel
noncomputable def crow0 : List (UInt64 × UInt64 × UInt64) := [(4607182418800017408, 0, 0), (4607182418800017408, 4595923419731591168, 0), (4607182418800017408, 4600427019358961664, 0), (4607182418800017408, 4603241769126068224, 0), (4607182418800017408, 4604930618986332160, 0), (4607182418800017408, 4606619468846596096, 0), (4606056518893174784, 4607182418800017408, 0), (4604367669032910848, 4607182418800017408, 0), (4602678819172646912, 4607182418800017408, 0), (4599301119452119040, 4607182418800017408, 0), (4593671619917905920, 4607182418800017408, 0), (0, 4607182418800017408, 4589168020290535424), (0, 4607182418800017408, 4598175219545276416), (0, 4607182418800017408, 4601552919265804288), (0, 4607182418800017408, 4603804719079489536), (0, 4607182418800017408, 4605493568939753472), (0, 4607182418800017408, 4607182418800017408), (0, 4605493568939753472, 4607182418800017408), (0, 4603804719079489536, 4607182418800017408), (0, 4601552919265804288, 4607182418800017408), (0, 4598175219545276416, 4607182418800017408), (0, 4589168020290535424, 4607182418800017408), (4593671619917905920, 0, 4607182418800017408), (4599301119452119040, 0, 4607182418800017408), (4602678819172646912, 0, 4607182418800017408), (4604367669032910848, 0, 4607182418800017408), (4606056518893174784, 0, 4607182418800017408), (4607182418800017408, 0, 4606619468846596096), (4607182418800017408, 0, 4604930618986332160), (4607182418800017408, 0, 4603241769126068224), (4607182418800017408, 0, 4600427019358961664), (4607182418800017408, 0, 4595923419731591168)]
noncomputable def crow1 : List (UInt64 × UInt64 × UInt64) := [(4602678819172646912, 0, 0), (4602678819172646912, 4591419820104220672, 0), (4602678819172646912, 4595923419731591168, 0), (4602678819172646912, 4598738169498697728, 0), (4602678819172646912, 4600427019358961664, 0), (4602678819172646912, 4602115869219225600, 0), (4601552919265804288, 4602678819172646912, 0), (4599864069405540352, 4602678819172646912, 0), (4598175219545276416, 4602678819172646912, 0), (4594797519824748544, 4602678819172646912, 0), (4589168020290535424, 4602678819172646912, 0), (0, 4602678819172646912, 4584664420663164928), (0, 4602678819172646912, 4593671619917905920), (0, 4602678819172646912, 4597049319638433792), (0, 4602678819172646912, 4599301119452119040), (0, 4602678819172646912, 4600989969312382976), (0, 4602678819172646912, 4602678819172646912), (0, 4600989969312382976, 4602678819172646912), (0, 4599301119452119040, 4602678819172646912), (0, 4597049319638433792, 4602678819172646912), (0, 4593671619917905920, 4602678819172646912), (0, 4584664420663164928, 4602678819172646912), (4589168020290535424, 0, 4602678819172646912), (4594797519824748544, 0, 4602678819172646912), (4598175219545276416, 0, 4602678819172646912), (4599864069405540352, 0, 4602678819172646912), (4601552919265804288, 0, 4602678819172646912), (4602678819172646912, 0, 4602115869219225600), (4602678819172646912, 0, 4600427019358961664), (4602678819172646912, 0, 4598738169498697728), (4602678819172646912, 0, 4595923419731591168), (4602678819172646912, 0, 4591419820104220672)]
noncomputable def crow2 : List (UInt64 × UInt64 × UInt64) := [(4598175219545276416, 0, 0), (4598175219545276416, 4586916220476850176, 0), (4598175219545276416, 4591419820104220672, 0), (4598175219545276416, 4594234569871327232, 0), (4598175219545276416, 4595923419731591168, 0), (4598175219545276416, 4597612269591855104, 0), (4597049319638433792, 4598175219545276416, 0), (4595360469778169856, 4598175219545276416, 0), (4593671619917905920, 4598175219545276416, 0), (4590293920197378048, 4598175219545276416, 0), (4584664420663164928, 4598175219545276416, 0), (0, 4598175219545276416, 4580160821035794432), (0, 4598175219545276416, 4589168020290535424), (0, 4598175219545276416, 4592545720011063296), (0, 4598175219545276416, 4594797519824748544), (0, 4598175219545276416, 4596486369685012480), (0, 4598175219545276416, 4598175219545276416), (0, 4596486369685012480, 4598175219545276416), (0, 4594797519824748544, 4598175219545276416), (0, 4592545720011063296, 4598175219545276416), (0, 4589168020290535424, 4598175219545276416), (0, 4580160821035794432, 4598175219545276416), (4584664420663164928, 0, 4598175219545276416), (4590293920197378048, 0, 4598175219545276416), (4593671619917905920, 0, 4598175219545276416), (4595360469778169856, 0, 4598175219545276416), (4597049319638433792, 0, 4598175219545276416), (4598175219545276416, 0, 4597612269591855104), (4598175219545276416, 0, 4595923419731591168), (4598175219545276416, 0, 4594234569871327232), (4598175219545276416, 0, 4591419820104220672), (4598175219545276416, 0, 4586916220476850176)]
noncomputable def crow3 : List (UInt64 × UInt64 × UInt64) := [(4607182418800017408, 4602678819172646912, 4602678819172646912), (4607182418800017408, 4603523244102778880, 4602678819172646912), (4607182418800017408, 4604367669032910848, 4602678819172646912), (4607182418800017408, 4605212093963042816, 4602678819172646912), (4607182418800017408, 4606056518893174784, 4602678819172646912), (4607182418800017408, 4606900943823306752, 4602678819172646912), (4606619468846596096, 4607182418800017408, 4602678819172646912), (4605775043916464128, 4607182418800017408, 4602678819172646912), (4604930618986332160, 4607182418800017408, 4602678819172646912), (4604086194056200192, 4607182418800017408, 4602678819172646912), (4603241769126068224, 4607182418800017408, 4602678819172646912), (4602678819172646912, 4607182418800017408, 4602960294149357568), (4602678819172646912, 4607182418800017408, 4603804719079489536), (4602678819172646912, 4607182418800017408, 4604649144009621504), (4602678819172646912, 4607182418800017408, 4605493568939753472), (4602678819172646912, 4607182418800017408, 4606337993869885440), (4602678819172646912, 4607182418800017408, 4607182418800017408), (4602678819172646912, 4606337993869885440, 4607182418800017408), (4602678819172646912, 4605493568939753472, 4607182418800017408), (4602678819172646912, 4604649144009621504, 4607182418800017408), (4602678819172646912, 4603804719079489536, 4607182418800017408), (4602678819172646912, 4602960294149357568, 4607182418800017408), (4603241769126068224, 4602678819172646912, 4607182418800017408), (4604086194056200192, 4602678819172646912, 4607182418800017408), (4604930618986332160, 4602678819172646912, 4607182418800017408), (4605775043916464128, 4602678819172646912, 4607182418800017408), (4606619468846596096, 4602678819172646912, 4607182418800017408), (4607182418800017408, 4602678819172646912, 4606900943823306752), (4607182418800017408, 4602678819172646912, 4606056518893174784), (4607182418800017408, 4602678819172646912, 4605212093963042816), (4607182418800017408, 4602678819172646912, 4604367669032910848), (4607182418800017408, 4602678819172646912, 4603523244102778880)]
noncomputable def crow4 : List (UInt64 × UInt64 × UInt64) := [(4602678819172646912, 4598175219545276416, 4598175219545276416), (4602678819172646912, 4599019644475408384, 4598175219545276416), (4602678819172646912, 4599864069405540352, 4598175219545276416), (4602678819172646912, 4600708494335672320, 4598175219545276416), (4602678819172646912, 4601552919265804288, 4598175219545276416), (4602678819172646912, 4602397344195936256, 4598175219545276416), (4602115869219225600, 4602678819172646912, 4598175219545276416), (4601271444289093632, 4602678819172646912, 4598175219545276416), (4600427019358961664, 4602678819172646912, 4598175219545276416), (4599582594428829696, 4602678819172646912, 4598175219545276416), (4598738169498697728, 4602678819172646912, 4598175219545276416), (4598175219545276416, 4602678819172646912, 4598456694521987072), (4598175219545276416, 4602678819172646912, 4599301119452119040), (4598175219545276416, 4602678819172646912, 4600145544382251008), (4598175219545276416, 4602678819172646912, 4600989969312382976), (4598175219545276416, 4602678819172646912, 4601834394242514944), (4598175219545276416, 4602678819172646912, 4602678819172646912), (4598175219545276416, 4601834394242514944, 4602678819172646912), (4598175219545276416, 4600989969312382976, 4602678819172646912), (4598175219545276416, 4600145544382251008, 4602678819172646912), (4598175219545276416, 4599301119452119040, 4602678819172646912), (4598175219545276416, 4598456694521987072, 4602678819172646912), (4598738169498697728, 4598175219545276416, 4602678819172646912), (4599582594428829696, 4598175219545276416, 4602678819172646912), (4600427019358961664, 4598175219545276416, 4602678819172646912), (4601271444289093632, 4598175219545276416, 4602678819172646912), (4602115869219225600, 4598175219545276416, 4602678819172646912), (4602678819172646912, 4598175219545276416, 4602397344195936256), (4602678819172646912, 4598175219545276416, 4601552919265804288), (4602678819172646912, 4598175219545276416, 4600708494335672320), (4602678819172646912, 4598175219545276416, 4599864069405540352), (4602678819172646912, 4598175219545276416, 4599019644475408384)]
noncomputable def crow5 : List (UInt64 × UInt64 × UInt64) := [(4598175219545276416, 4593671619917905920, 4593671619917905920), (4598175219545276416, 4594516044848037888, 4593671619917905920), (4598175219545276416, 4595360469778169856, 4593671619917905920), (4598175219545276416, 4596204894708301824, 4593671619917905920), (4598175219545276416, 4597049319638433792, 4593671619917905920), (4598175219545276416, 4597893744568565760, 4593671619917905920), (4597612269591855104, 4598175219545276416, 4593671619917905920), (4596767844661723136, 4598175219545276416, 4593671619917905920), (4595923419731591168, 4598175219545276416, 4593671619917905920), (4595078994801459200, 4598175219545276416, 4593671619917905920), (4594234569871327232, 4598175219545276416, 4593671619917905920), (4593671619917905920, 4598175219545276416, 4593953094894616576), (4593671619917905920, 4598175219545276416, 4594797519824748544), (4593671619917905920, 4598175219545276416, 4595641944754880512), (4593671619917905920, 4598175219545276416, 4596486369685012480), (4593671619917905920, 4598175219545276416, 4597330794615144448), (4593671619917905920, 4598175219545276416, 4598175219545276416), (4593671619917905920, 4597330794615144448, 4598175219545276416), (4593671619917905920, 4596486369685012480, 4598175219545276416), (4593671619917905920, 4595641944754880512, 4598175219545276416), (4593671619917905920, 4594797519824748544, 4598175219545276416), (4593671619917905920, 4593953094894616576, 4598175219545276416), (4594234569871327232, 4593671619917905920, 4598175219545276416), (4595078994801459200, 4593671619917905920, 4598175219545276416), (4595923419731591168, 4593671619917905920, 4598175219545276416), (4596767844661723136, 4593671619917905920, 4598175219545276416), (4597612269591855104, 4593671619917905920, 4598175219545276416), (4598175219545276416, 4593671619917905920, 4597893744568565760), (4598175219545276416, 4593671619917905920, 4597049319638433792), (4598175219545276416, 4593671619917905920, 4596204894708301824), (4598175219545276416, 4593671619917905920, 4595360469778169856), (4598175219545276416, 4593671619917905920, 4594516044848037888)]
noncomputable def crow6 : List (UInt64 × UInt64 × UInt64) := [(4607182418800017408, 4604930618986332160, 4604930618986332160), (4607182418800017408, 4605352831451398144, 4604930618986332160), (4607182418800017408, 4605775043916464128, 4604930618986332160), (4607182418800017408, 4606197256381530112, 4604930618986332160), (4607182418800017408, 4606619468846596096, 4604930618986332160), (4607182418800017408, 4607041681311662080, 4604930618986332160), (4606900943823306752, 4607182418800017408, 4604930618986332160), (4606478731358240768, 4607182418800017408, 4604930618986332160), (4606056518893174784, 4607182418800017408, 4604930618986332160), (4605634306428108800, 4607182418800017408, 4604930618986332160), (4605212093963042816, 4607182418800017408, 4604930618986332160), (4604930618986332160, 4607182418800017408, 4605071356474687488), (4604930618986332160, 4607182418800017408, 4605493568939753472), (4604930618986332160, 4607182418800017408, 4605915781404819456), (4604930618986332160, 4607182418800017408, 4606337993869885440), (4604930618986332160, 4607182418800017408, 4606760206334951424), (4604930618986332160, 4607182418800017408, 4607182418800017408), (4604930618986332160, 4606760206334951424, 4607182418800017408), (4604930618986332160, 4606337993869885440, 4607182418800017408), (4604930618986332160, 4605915781404819456, 4607182418800017408), (4604930618986332160, 4605493568939753472, 4607182418800017408), (4604930618986332160, 4605071356474687488, 4607182418800017408), (4605212093963042816, 4604930618986332160, 4607182418800017408), (4605634306428108800, 4604930618986332160, 4607182418800017408), (4606056518893174784, 4604930618986332160, 4607182418800017408), (4606478731358240768, 4604930618986332160, 4607182418800017408), (4606900943823306752, 4604930618986332160, 4607182418800017408), (4607182418800017408, 4604930618986332160, 4607041681311662080), (4607182418800017408, 4604930618986332160, 4606619468846596096), (4607182418800017408, 4604930618986332160, 4606197256381530112), (4607182418800017408, 4604930618986332160, 4605775043916464128), (4607182418800017408, 4604930618986332160, 4605352831451398144)]
noncomputable def crow7 : List (UInt64 × UInt64 × UInt64) := [(4602678819172646912, 4600427019358961664, 4600427019358961664), (4602678819172646912, 4600849231824027648, 4600427019358961664), (4602678819172646912, 4601271444289093632, 4600427019358961664), (4602678819172646912, 4601693656754159616, 4600427019358961664), (4602678819172646912, 4602115869219225600, 4600427019358961664), (4602678819172646912, 4602538081684291584, 4600427019358961664), (4602397344195936256, 4602678819172646912, 4600427019358961664), (4601975131730870272, 4602678819172646912, 4600427019358961664), (4601552919265804288, 4602678819172646912, 4600427019358961664), (4601130706800738304, 4602678819172646912, 4600427019358961664), (4600708494335672320, 4602678819172646912, 4600427019358961664), (4600427019358961664, 4602678819172646912, 4600567756847316992), (4600427019358961664, 4602678819172646912, 4600989969312382976), (4600427019358961664, 4602678819172646912, 4601412181777448960), (4600427019358961664, 4602678819172646912, 4601834394242514944), (4600427019358961664, 4602678819172646912, 4602256606707580928), (4600427019358961664, 4602678819172646912, 4602678819172646912), (4600427019358961664, 4602256606707580928, 4602678819172646912), (4600427019358961664, 4601834394242514944, 4602678819172646912), (4600427019358961664, 4601412181777448960, 4602678819172646912), (4600427019358961664, 4600989969312382976, 4602678819172646912), (4600427019358961664, 4600567756847316992, 4602678819172646912), (4600708494335672320, 4600427019358961664, 4602678819172646912), (4601130706800738304, 4600427019358961664, 4602678819172646912), (4601552919265804288, 4600427019358961664, 4602678819172646912), (4601975131730870272, 4600427019358961664, 4602678819172646912), (4602397344195936256, 4600427019358961664, 4602678819172646912), (4602678819172646912, 4600427019358961664, 4602538081684291584), (4602678819172646912, 4600427019358961664, 4602115869219225600), (4602678819172646912, 4600427019358961664, 4601693656754159616), (4602678819172646912, 4600427019358961664, 4601271444289093632), (4602678819172646912, 4600427019358961664, 4600849231824027648)]
noncomputable def crow8 : List (UInt64 × UInt64 × UInt64) := [(4598175219545276416, 4595923419731591168, 4595923419731591168), (4598175219545276416, 4596345632196657152, 4595923419731591168), (4598175219545276416, 4596767844661723136, 4595923419731591168), (4598175219545276416, 4597190057126789120, 4595923419731591168), (4598175219545276416, 4597612269591855104, 4595923419731591168), (4598175219545276416, 4598034482056921088, 4595923419731591168), (4597893744568565760, 4598175219545276416, 4595923419731591168), (4597471532103499776, 4598175219545276416, 4595923419731591168), (4597049319638433792, 4598175219545276416, 4595923419731591168), (4596627107173367808, 4598175219545276416, 4595923419731591168), (4596204894708301824, 4598175219545276416, 4595923419731591168), (4595923419731591168, 4598175219545276416, 4596064157219946496), (4595923419731591168, 4598175219545276416, 4596486369685012480), (4595923419731591168, 4598175219545276416, 4596908582150078464), (4595923419731591168, 4598175219545276416, 4597330794615144448), (4595923419731591168, 4598175219545276416, 4597753007080210432), (4595923419731591168, 4598175219545276416, 4598175219545276416), (4595923419731591168, 4597753007080210432, 4598175219545276416), (4595923419731591168, 4597330794615144448, 4598175219545276416), (4595923419731591168, 4596908582150078464, 4598175219545276416), (4595923419731591168, 4596486369685012480, 4598175219545276416), (4595923419731591168, 4596064157219946496, 4598175219545276416), (4596204894708301824, 4595923419731591168, 4598175219545276416), (4596627107173367808, 4595923419731591168, 4598175219545276416), (4597049319638433792, 4595923419731591168, 4598175219545276416), (4597471532103499776, 4595923419731591168, 4598175219545276416), (4597893744568565760, 4595923419731591168, 4598175219545276416), (4598175219545276416, 4595923419731591168, 4598034482056921088), (4598175219545276416, 4595923419731591168, 4597612269591855104), (4598175219545276416, 4595923419731591168, 4597190057126789120), (4598175219545276416, 4595923419731591168, 4596767844661723136), (4598175219545276416, 4595923419731591168, 4596345632196657152)]
noncomputable def ctab : List (List (UInt64 × UInt64 × UInt64)) := [crow0, crow1, crow2, crow3, crow4, crow5, crow6, crow7, crow8]
noncomputable def cAt (j i l : Nat) : UInt64 × UInt64 × UInt64 := (ctab.getD (i * 3 + l) []).getD j (0, 0, 0)
noncomputable def forceU (x : UInt64) (f : UInt64 → Bool) : Bool := Nat.rec (motive := fun _ => Bool) (f (UInt64.ofNat 0)) (fun k _ => f (UInt64.ofNat (k + 1))) x.toNat
theorem forceU_eq (x : UInt64) (f : UInt64 → Bool) : forceU x f = f x := by
  have h : ∀ n : Nat, Nat.rec (motive := fun _ => Bool) (f (UInt64.ofNat 0)) (fun k _ => f (UInt64.ofNat (k + 1))) n = f (UInt64.ofNat n) := by
    intro n; cases n <;> rfl
  unfold forceU
  rw [h, UInt64.ofNat_toNat]
noncomputable def forceI (x : Int) (f : Int → Bool) : Bool := match x with
  | .ofNat n => Nat.rec (motive := fun _ => Bool) (f (Int.ofNat 0)) (fun k _ => f (Int.ofNat (k + 1))) n
  | .negSucc n => f (.negSucc n)
theorem forceI_eq (x : Int) (f : Int → Bool) : forceI x f = f x := by
  have h : ∀ n : Nat, Nat.rec (motive := fun _ => Bool) (f (Int.ofNat 0)) (fun k _ => f (Int.ofNat (k + 1))) n = f (Int.ofNat n) := by
    intro n; cases n <;> rfl
  unfold forceI
  cases x with
  | ofNat n => exact h n
  | negSucc n => rfl
/-- hsvChk, each number told once -/
noncomputable def hsvQ (j : Nat) : Bool := forceU (T32 j) fun t => forceU (T32 (j % 32)) fun t' => forceU (Float64.mul t six) fun a => forceU (Float64.mul t' six) fun b =>
  forceI (Flt.toInt Float64.truncOf a) fun i => forceI (Flt.toInt Float64.truncOf b) fun i' =>
  Float64.sub a (Float64.ofInt i) == Float64.sub b (Float64.ofInt i') && i.fmod 6 == i'.fmod 6 && Float64.isFinite a && decide (i.natAbs < 2 ^ 1024 - 2 ^ 970) && !Float64.isInf t
theorem hsvQ_is (j : Nat) : hsvQ j = hsvChk j := by
  unfold hsvQ
  simp only [forceU_eq, forceI_eq]
  rfl
/-- hlsF's hue, its greatest and least number, their difference told -/
noncomputable def hueG (x y z M d : UInt64) : UInt64 :=
  (Float64.divmod (Float64.div (if (Float64.cmp x M == some Ordering.eq) = true then Float64.sub (Float64.div (Float64.sub M z) d) (Float64.div (Float64.sub M y) d)
      else if (Float64.cmp y M == some Ordering.eq) = true then Float64.sub (Float64.add 4611686018427387904 (Float64.div (Float64.sub M x) d)) (Float64.div (Float64.sub M z) d)
      else Float64.sub (Float64.add 4616189618054758400 (Float64.div (Float64.sub M y) d)) (Float64.div (Float64.sub M x) d)) 4618441417868443648) 4607182418800017408).2
noncomputable def okX (j i l : Nat) (x y z : UInt64) : Bool := forceU (max3 x y z) fun M => forceU (min3 x y z) fun m => forceU (Float64.sub M m) fun d => forceU (Float64.add M m) fun s => forceU (Float64.div s 4611686018427387904) fun L =>
  !(Float64.cmp (partOf i) 0 == some .eq) && !(Float64.cmp m M == some Ordering.eq) && (!Float64.isZero d && !Float64.isZero (if (Float64.cmp L 4602678819172646912 == some .lt || Float64.cmp L 4602678819172646912 == some .eq) = true then s else Float64.sub (Float64.sub 4611686018427387904 M) m)) &&
  !(Float64.cmp (Float64.mul (Float64.ofInt 2) L) (Float64.mul (partOf l) (Float64.sub (Float64.ofInt 2) (partOf i))) != some .eq) && hueG x y z M d == T32 j && eqF x x && eqF y y && eqF z z
noncomputable def okC (j i l : Nat) : Bool := forceU (cAt j i l).1 fun x => forceU (cAt j i l).2.1 fun y => forceU (cAt j i l).2.2 fun z => okX j i l x y z
theorem okC_is {j i l : Nat} (h : okC j i l = true) (hc : hsvF (T32 j) (partOf i) (partOf l) = cAt j i l) : okJ j i l = true := by
  unfold okC okX at h
  simp only [forceU_eq] at h
  unfold okJ
  simp only
  rw [hc]
  generalize (cAt j i l).1 = x at h ⊢
  generalize (cAt j i l).2.1 = y at h ⊢
  generalize (cAt j i l).2.2 = z at h ⊢
  simp only [Bool.and_eq_true, Bool.not_eq_true'] at h
  obtain ⟨⟨⟨⟨⟨⟨⟨a1, a2⟩, a3, a4⟩, a5⟩, a6⟩, a7⟩, a8⟩, a9⟩ := h
  have e : hlsF x y z = (hueG x y z (max3 x y z) (Float64.sub (max3 x y z) (min3 x y z)), Float64.div (Float64.add (max3 x y z) (min3 x y z)) 4611686018427387904, (hlsF x y z).2.2) := by
    unfold hlsF hueG
    rw [if_neg (by rw [a2]; decide)]
  unfold hlsOk
  rw [e, a1, a2, a3, a4]
  simp only [Bool.not_false, Bool.false_or, Bool.true_and, Bool.and_eq_true, Bool.not_eq_true']
  exact ⟨⟨⟨⟨a5, a6⟩, a7⟩, a8⟩, a9⟩
set_option maxHeartbeats 0 in
theorem tabC : (List.range 3).all (fun i => (List.range 3).all fun l => (List.range 32).all fun j => hsvF (T32 j) (partOf i) (partOf l) == cAt j i l) = true := by decide +kernel
set_option maxHeartbeats 0 in
theorem tabH : (List.range 32).all (fun r => (List.range (r + 1)).all fun k => hsvQ (k * r)) = true := by decide +kernel
set_option maxHeartbeats 0 in
theorem tabO : (List.range 32).all (fun j => (List.range 3).all fun i => (List.range 3).all fun l => okC j i l) = true := by decide +kernel
theorem all_range {n : Nat} {f : Nat → Bool} (h : (List.range n).all f = true) {i : Nat} (hi : i < n) : f i = true := List.all_eq_true.mp h i (List.mem_range.mpr hi)
theorem hsvChk_of {k r : Nat} (hk : k < 32) (hr : r < 32) : hsvChk (k * r) = true := by
  rw [← hsvQ_is]
  by_cases h : k ≤ r
  · exact all_range (all_range tabH hr) (Nat.lt_succ_of_le h)
  · have e := all_range (all_range tabH hk) (show r < k + 1 by omega)
    rwa [Nat.mul_comm] at e
theorem ofFrac_s {s m : Nat} (hs : s = 8 ∨ s = 16 ∨ s = 32) (hm : m ≤ (s - 1) * (s - 1)) : Float64.ofFrac false m s = T32 (m * (32 / s)) := by
  rcases hs with rfl | rfl | rfl
  · exact eq_of_beq (all_range tab8 (by omega))
  · exact eq_of_beq (all_range tab16 (by omega))
  · show _ = T32 (m * 1); rw [Nat.mul_one]; rfl
theorem hsvF_mod {j : Nat} (h : hsvChk j = true) (b c : UInt64) : hsvF (T32 j) b c = hsvF (T32 (j % 32)) b c := by
  unfold hsvChk at h
  simp only [Bool.and_eq_true, beq_iff_eq] at h
  obtain ⟨⟨⟨⟨h1, h2⟩, _⟩, _⟩, _⟩ := h
  unfold hsvF
  simp only [h1, h2]
theorem isPart_of {x : UInt64} (h : IsPart x) : ∃ i, i < 3 ∧ x = partOf i := by
  rcases h with rfl | rfl | rfl
  · exact ⟨0, by decide, rfl⟩
  · exact ⟨1, by decide, rfl⟩
  · exact ⟨2, by decide, rfl⟩
/-- the colour of j 32nds of a turn -/
noncomputable def col (j : Nat) (sh va : UInt64) : UInt64 × UInt64 × UInt64 := hsvF (T32 (j % 32)) sh va
theorem okJ_of {j : Nat} (hj : j < 32) {sh va : UInt64} (h1 : IsPart sh) (h2 : IsPart va) : ∃ i l, sh = partOf i ∧ va = partOf l ∧ okJ j i l = true := by
  obtain ⟨i, hi, e1⟩ := isPart_of h1
  obtain ⟨l, hl, e2⟩ := isPart_of h2
  exact ⟨i, l, e1, e2, okC_is (all_range (all_range (all_range tabO hj) hi) hl) (eq_of_beq (all_range (all_range (all_range tabC hi) hl) hj))⟩
theorem hue_ok {s k r : Nat} {n : Int} {sh va : UInt64} (hs : s = 8 ∨ s = 16 ∨ s = 32) (hk : k < s) (hr : r < s) (hn : n.fmod (s : Int) = (r : Int)) (h1 : IsPart sh) (h2 : IsPart va) :
    HueOk (k : Int) n (s : Int) sh va (col (k * r * (32 / s)) sh va).1 (col (k * r * (32 / s)) sh va).2.1 (col (k * r * (32 / s)) sh va).2.2 (T32 (k * r * (32 / s) % 32)) := by
  have hm : k * r ≤ (s - 1) * (s - 1) := Nat.mul_le_mul (by omega) (by omega)
  have hchk : hsvChk (k * r * (32 / s)) = true := by
    rcases hs with rfl | rfl | rfl
    · have := hsvChk_of (k := k * 4) (r := r) (by omega) (by omega)
      rwa [Nat.mul_right_comm] at this
    · have := hsvChk_of (k := k * 2) (r := r) (by omega) (by omega)
      rwa [Nat.mul_right_comm] at this
    · have := hsvChk_of (k := k) (r := r) hk hr
      rwa [show k * r * (32 / 32) = k * r by simp]
  obtain ⟨i, l, e1, e2, ho⟩ := okJ_of (j := k * r * (32 / s) % 32) (Nat.mod_lt _ (by decide)) h1 h2
  have ha : Float64.ofFrac (decide ((k : Int) * n.fmod (s : Int) < 0) != decide ((s : Int) < 0)) ((k : Int) * n.fmod (s : Int)).natAbs (s : Int).natAbs = T32 (k * r * (32 / s)) := by
    rw [hn]
    have e3 : ((k : Int) * (r : Int)) = ((k * r : Nat) : Int) := by simp
    rw [e3]
    have d1 : decide (((k * r : Nat) : Int) < 0) = false := decide_eq_false (by omega)
    have d2 : decide ((s : Int) < 0) = false := decide_eq_false (by omega)
    rw [d1, d2, Int.natAbs_natCast, Int.natAbs_natCast]
    exact ofFrac_s hs hm
  have hmod := hsvF_mod hchk sh va
  unfold hsvChk at hchk
  simp only [Bool.and_eq_true, Bool.not_eq_true', decide_eq_true_eq] at hchk
  obtain ⟨⟨⟨⟨_, _⟩, c1⟩, c2⟩, c3⟩ := hchk
  subst e1 e2
  unfold okJ at ho
  simp only [Bool.and_eq_true, Bool.not_eq_true', beq_iff_eq] at ho
  obtain ⟨⟨⟨⟨⟨⟨o1, o2⟩, o3⟩, o4⟩, o5⟩, o6⟩, o7⟩ := ho
  refine ⟨T32 (k * r * (32 / s)), (hlsF (col (k * r * (32 / s)) (partOf i) (partOf l)).1 (col (k * r * (32 / s)) (partOf i) (partOf l)).2.1 (col (k * r * (32 / s)) (partOf i) (partOf l)).2.2).2.1, (hlsF (col (k * r * (32 / s)) (partOf i) (partOf l)).1 (col (k * r * (32 / s)) (partOf i) (partOf l)).2.1 (col (k * r * (32 / s)) (partOf i) (partOf l)).2.2).2.2, ha, c3, c1, c2, o1, hmod, ?_, o2, o3⟩
  rw [← o4]; rfl
theorem col_self {j : Nat} {sh va : UInt64} (h1 : IsPart sh) (h2 : IsPart va) : eqF (col j sh va).1 (col j sh va).1 = true ∧ eqF (col j sh va).2.1 (col j sh va).2.1 = true ∧ eqF (col j sh va).2.2 (col j sh va).2.2 = true := by
  obtain ⟨i, l, e1, e2, ho⟩ := okJ_of (j := j % 32) (Nat.mod_lt _ (by decide)) h1 h2
  subst e1 e2
  unfold okJ at ho
  simp only [Bool.and_eq_true, Bool.not_eq_true', beq_iff_eq] at ho
  obtain ⟨⟨⟨_, o5⟩, o6⟩, o7⟩ := ho
  exact ⟨o5, o6, o7⟩
end Mine
end
section
open PySem PySem.W PySem.Calls PyProof.Rows PySem.Spec
set_option maxRecDepth 100000
set_option linter.unusedVariables false
namespace Mine
/-- no key of the dict lies by -/
noncomputable def farB (k : Int) : Bool := match k with
  | .ofNat n => Nat.blt n 65 || Nat.blt 112 n
  | .negSucc _ => true
theorem tabF : D4.all (fun p => farB p.1) = true := by decide +kernel
theorem far_look {c : Nat} (h : farB (c : Int) = false) : lookup (.int (c : Int)) b3p = none := by
  have hD := tabF
  unfold b3p
  generalize D4 = D at hD
  induction D with
  | nil => rfl
  | cons p r ih =>
    rw [List.all_cons, Bool.and_eq_true] at hD
    rw [List.map_cons]
    unfold PySem.Spec.lookup
    rw [if_neg, ih hD.2]
    intro hs
    have he : p.1 = (c : Int) := by unfold PySem.Spec.same at hs; exact eq_of_beq hs
    rw [← he, hD.1] at h
    cases h
theorem hit_of : ∀ (D : List (Int × Str)), (D.map (·.1)).Nodup → ∀ p ∈ D, PySem.Spec.lookup (.int p.1) (D.map fun p => (PyData.int p.1, PyData.str p.2)) = some (.str p.2)
  | [], _, p, hp => by cases hp
  | a :: D, hD, p, hp => by
    rw [List.map_cons] at hD ⊢
    have hn := List.nodup_cons.mp hD
    unfold PySem.Spec.lookup
    rcases List.mem_cons.mp hp with rfl | hp
    · rw [if_pos (by unfold PySem.Spec.same; exact beq_self_eq_true _)]
    · rw [if_neg, hit_of D hn.2 p hp]
      intro hs
      have he : a.1 = p.1 := by unfold PySem.Spec.same at hs; exact eq_of_beq hs
      exact hn.1 (he ▸ List.mem_map.mpr ⟨p, hp, rfl⟩)
theorem tabB : (List.range 6).all (fun x => decide ((D4.drop (364 + 26 * x)).take 16 = (List.range 16).map fun i => (((120172 + 52 * x + i : Nat) : Int), (⟨#[i + 97]⟩ : Str)))) = true := by decide +kernel
theorem range_any (a c : Int) (n : Nat) : ((List.range n).map (fun i => a + (i : Nat))).any (· == c) = (decide (a ≤ c) && decide (c < a + n)) := by
  rw [Bool.eq_iff_iff, List.any_map, List.any_eq_true, Bool.and_eq_true, decide_eq_true_eq, decide_eq_true_eq]
  constructor
  · rintro ⟨i, hi, h⟩
    have h1 := List.mem_range.mp hi
    have h2 : a + (i : Int) = c := eq_of_beq h
    omega
  · rintro ⟨h1, h2⟩
    refine ⟨(c - a).toNat, List.mem_range.mpr (by omega), ?_⟩
    refine beq_iff_eq.mpr ?_
    show a + ((c - a).toNat : Int) = c
    omega
noncomputable def c9Q (c : Nat) : Bool := (917505 : Int) == (c : Int) || (decide ((917536 : Int) ≤ (c : Int)) && decide ((c : Int) < (917536 : Int) + (96 : Nat)))
theorem inC9_is (c : Nat) : inC9 c = c9Q c := by
  unfold inC9 c9Q
  rw [firstMet_any, show (List.range c9ints.length).map (fun i => c9ints.getD i 0) = c9ints by decide +kernel]
  unfold c9ints
  rw [List.any_cons, range_any]
theorem inB1_is (c : Nat) : inB1 c = b1ints.any (· == (c : Int)) := by
  unfold inB1
  rw [firstMet_any, show (List.range b1ints.length).map (fun i => b1ints.getD i 0) = b1ints by decide +kernel]
noncomputable def b3B (c e : Nat) : Bool := !farB (c : Int) && (!Builtin.Str.tooLong (Txt.lower ⟨#[c]⟩).length && decide (Txt.lower ⟨#[c]⟩ = ⟨#[e]⟩))
theorem b3B_is {c e : Nat} (h : b3B c e = true) : B3 c e := by
  unfold b3B at h
  simp only [Bool.and_eq_true, Bool.not_eq_true', decide_eq_true_eq] at h
  refine ⟨h.2.1, ?_⟩
  rw [far_look h.1]
  exact h.2.2
noncomputable def b1Q (c : Nat) : Bool := b1ints.any (· == (c : Int))
noncomputable def sgnB (c : Nat) : Sgn → Bool
  | .gap => decide (c = 32)
  | .neg e => decide (c ≠ 32) && c9Q c && decide (917504 ≤ c) && decide (c ≤ 1114111) && b3B (c - 917504) (e + 97)
  | .pos e => decide (c ≠ 32) && !c9Q c && !b1Q c && b3B c (e + 97)
  | .mute => decide (c ≠ 32) && !c9Q c && b1Q c
theorem sgnB_is {c : Nat} : {k : Sgn} → sgnB c k = true → IsSgn c k
  | .gap, h => by
    unfold sgnB at h
    rw [decide_eq_true_iff] at h
    exact h
  | .neg e, h => by
    unfold sgnB at h
    rw [← inC9_is] at h
    simp only [Bool.and_eq_true, decide_eq_true_eq] at h
    obtain ⟨⟨⟨⟨a, b⟩, c⟩, d⟩, e⟩ := h
    exact ⟨a, b, c, d, b3B_is e⟩
  | .pos e, h => by
    unfold sgnB b1Q at h
    rw [← inC9_is, ← inB1_is] at h
    simp only [Bool.and_eq_true, Bool.not_eq_true', decide_eq_true_eq] at h
    obtain ⟨⟨⟨a, b⟩, c⟩, d⟩ := h
    exact ⟨a, b, c, b3B_is d⟩
  | .mute, h => by
    unfold sgnB b1Q at h
    rw [← inC9_is, ← inB1_is] at h
    simp only [Bool.and_eq_true, Bool.not_eq_true', decide_eq_true_eq] at h
    obtain ⟨⟨a, b⟩, c⟩ := h
    exact ⟨a, b, c⟩
noncomputable def negAt (i : Nat) : Bool := sgnB (917504 + (65 + i)) (.neg i)
noncomputable def posAt (x i : Nat) : Bool := sgnB (signCode (i : Int) (x : Int)) (.pos i)
noncomputable def muteAt (x : Nat) : Bool := sgnB (65024 + (x : Int)).toNat .mute
set_option maxHeartbeats 0 in
theorem tabN : (List.range 16).all negAt = true := by decide +kernel
set_option maxHeartbeats 0 in
theorem tabM : (List.range 16).all muteAt = true := by decide +kernel
set_option maxHeartbeats 0 in
theorem tabP : (List.range 2).all (fun x => (List.range 16).all (posAt x)) = true := by decide +kernel
noncomputable def hitAt (x i : Nat) : Bool := let c := 120172 + 52 * x + i
  Nat.beq (signCode (i : Int) ((x + 2 : Nat) : Int)) c && decide (c ≠ 32) && !c9Q c && !b1Q c && !Builtin.Str.tooLong (Txt.lower ⟨#[c]⟩).length
set_option maxHeartbeats 0 in
theorem tabQ : (List.range 6).all (fun x => (List.range 16).all (hitAt x)) = true := by decide +kernel
theorem tabS : sgnB 32 .gap = true := by decide +kernel
theorem allR {n : Nat} {f : Nat → Bool} (h : (List.range n).all f = true) {i : Nat} (hi : i < n) : f i = true := List.all_eq_true.mp h i (List.mem_range.mpr hi)
theorem hit_look {x i : Nat} (hx : x < 6) (hi : i < 16) : lookup (.int ((120172 + 52 * x + i : Nat) : Int)) b3p = some (.str ⟨#[i + 97]⟩) := by
  have h := of_decide_eq_true (allR tabB hx)
  have hm : (((120172 + 52 * x + i : Nat) : Int), (⟨#[i + 97]⟩ : Str)) ∈ D4 :=
    List.mem_of_mem_drop (List.mem_of_mem_take (h ▸ List.mem_map.mpr ⟨i, List.mem_range.mpr hi, rfl⟩))
  exact hit_of D4 (rising_nodup _ D4_rising) _ hm
theorem pos_ok {x i : Nat} (hx : x < 8) (hi : i < 16) : IsSgn (signCode (i : Int) (x : Int)) (.pos i) := by
  by_cases h2 : x < 2
  · exact sgnB_is (allR (allR tabP h2) hi)
  · obtain ⟨y, rfl⟩ : ∃ y, x = y + 2 := ⟨x - 2, by omega⟩
    have hy : y < 6 := by omega
    have h := allR (allR tabQ hy) hi
    unfold hitAt b1Q at h
    simp only at h
    rw [← inC9_is, ← inB1_is] at h
    simp only [Bool.and_eq_true, Bool.not_eq_true', decide_eq_true_eq] at h
    obtain ⟨⟨⟨⟨a, b⟩, c⟩, d⟩, e⟩ := h
    rw [Nat.eq_of_beq_eq_true a]
    exact ⟨b, c, d, e, by rw [hit_look hy hi]⟩
noncomputable def octE (o : UInt8) : Nat := o.toNat - 65
noncomputable def headP (neg : Bool) (o : UInt8) (f : Int) : Nat × Sgn := if neg then (917504 + o.toNat, .neg (octE o)) else (signCode ((o.toNat : Int) - 65) f, .pos (octE o))
noncomputable def muteP (f : Int) : List (Nat × Sgn) := if (f.fdiv 8).fmod 2 = 1 then [((65024 + f.fmod 16).toNat, .mute)] else []
/-- the text of a number's octets, with what each sign is -/
noncomputable def typedP (neg : Bool) : List UInt8 → Int → List (Nat × Sgn)
  | [], _ => []
  | o :: r, f => headP neg o f :: (muteP f ++ typedP neg r (f + 3))
theorem typedP_fst (neg : Bool) : ∀ (l : List UInt8) (f : Int), (typedP neg l f).map (·.1) = typedL neg l f
  | [], _ => rfl
  | o :: r, f => by
    unfold typedP typedL
    rw [List.map_cons, List.map_append, typedP_fst neg r (f + 3)]
    have h1 : (headP neg o f).1 = (if neg then 917504 + o.toNat else signCode ((o.toNat : Int) - 65) f) := by
      unfold headP; cases neg <;> rfl
    have h2 : (muteP f).map (·.1) = (if (f.fdiv 8).fmod 2 = 1 then [(65024 + f.fmod 16).toNat] else []) := by
      unfold muteP; split <;> rfl
    rw [h1, h2]
theorem signCode_mod (n f : Int) : signCode n f = signCode n (f.fmod 8) := by
  have e : (f.fmod 8).fmod 8 = f.fmod 8 := by
    rw [Int.fmod_eq_emod_of_nonneg _ (by decide), Int.fmod_eq_emod_of_nonneg _ (by decide)]; omega
  unfold signCode
  rw [e]
theorem fmod_nat {f : Int} {m : Nat} (hm : 0 < m) : ∃ x : Nat, x < m ∧ f.fmod (m : Int) = (x : Int) := by
  refine ⟨(f.fmod (m : Int)).toNat, ?_, ?_⟩
  · have h1 := Int.fmod_lt_of_pos f (b := (m : Int)) (by omega)
    have h2 := Int.fmod_nonneg_of_pos f (b := (m : Int)) (by omega)
    omega
  · have h2 := Int.fmod_nonneg_of_pos f (b := (m : Int)) (by omega)
    omega
theorem headP_ok (neg : Bool) {o : UInt8} (h1 : 65 ≤ o.toNat) (h2 : o.toNat ≤ 80) (f : Int) : IsSgn (headP neg o f).1 (headP neg o f).2 := by
  obtain ⟨i, hi, e⟩ : ∃ i, i < 16 ∧ o.toNat = 65 + i := ⟨o.toNat - 65, by omega, by omega⟩
  have e2 : octE o = i := by unfold octE; omega
  cases neg with
  | true =>
    have h := sgnB_is (allR tabN hi)
    unfold headP
    rw [if_pos rfl, e2, e]
    exact h
  | false =>
    obtain ⟨x, hx, ex⟩ := fmod_nat (f := f) (m := 8) (by decide)
    have h := pos_ok hx hi
    unfold headP
    have e3 : (((65 + i : Nat) : Int) - 65) = (i : Int) := by omega
    rw [if_neg (by decide), e2, e, e3, signCode_mod, show (8 : Int) = ((8 : Nat) : Int) from rfl, ex]
    exact h
theorem muteP_ok (f : Int) : ∀ p ∈ muteP f, IsSgn p.1 p.2 := by
  intro p hp
  obtain ⟨x, hx, ex⟩ := fmod_nat (f := f) (m := 16) (by decide)
  have h := sgnB_is (allR tabM hx)
  unfold muteP at hp
  split at hp
  · rw [show (16 : Int) = ((16 : Nat) : Int) from rfl, ex] at hp
    rw [List.mem_singleton.mp hp]
    exact h
  · cases hp
theorem typedP_ok (neg : Bool) : ∀ (l : List UInt8) (f : Int), (∀ o ∈ l, 65 ≤ o.toNat ∧ o.toNat ≤ 80) → ∀ p ∈ typedP neg l f, IsSgn p.1 p.2
  | [], _, _, p, hp => by cases hp
  | o :: r, f, h, p, hp => by
    unfold typedP at hp
    rcases List.mem_cons.mp hp with e | hp
    · rw [e]
      exact headP_ok neg (h o (.head _)).1 (h o (.head _)).2 f
    · rcases List.mem_append.mp hp with hp | hp
      · exact muteP_ok f p hp
      · exact typedP_ok neg r (f + 3) (fun q hq => h q (.tail _ hq)) p hp
noncomputable def digs (d : Int) : List UInt8 → Int
  | [] => d
  | o :: r => digs (16 * d + (octE o : Int)) r
theorem typedP_run (neg : Bool) : ∀ (l : List UInt8) (f : Int) (r : Rd), ((typedP neg l f).map (·.2)).foldl Rd.step r = ⟨r.ts, digs r.d l, r.bs, r.b || (neg && !l.isEmpty)⟩
  | [], _, r => by
    cases r; simp [typedP, digs]
  | o :: t, f, r => by
    unfold typedP
    rw [List.map_cons, List.foldl_cons, List.map_append, List.foldl_append]
    have hm : ∀ r : Rd, ((muteP f).map (·.2)).foldl Rd.step r = r := by
      intro r; unfold muteP; split <;> rfl
    rw [hm, typedP_run neg t (f + 3)]
    cases neg <;> cases r <;> simp [headP, Rd.step, digs]
theorem digs_append (d : Int) (l : List UInt8) (o : UInt8) : digs d (l ++ [o]) = 16 * digs d l + (octE o : Int) := by
  induction l generalizing d with
  | nil => rfl
  | cons a l ih => exact ih _
theorem octE_of (k : Nat) : octE (UInt8.ofNat (65 + k % 16)) = k % 16 := by
  have h : k % 16 < 16 := Nat.mod_lt _ (by decide)
  have e : (UInt8.ofNat (65 + k % 16)).toNat = 65 + k % 16 := by
    rw [UInt8.toNat_ofNat']; omega
  unfold octE
  omega
theorem apB_digs (n : Nat) : digs 0 (apB n) = (n : Int) := by
  induction n using Nat.strongRecOn with
  | ind n ih =>
    rw [apB_eq n]
    by_cases h : n = 0
    · rw [if_pos h, h]; rfl
    · rw [if_neg h, digs_append, ih (n / 16) (by omega), octE_of]
      omega
theorem apB_empty {n : Nat} : (apB n).isEmpty = decide (n = 0) := by
  rw [apB_eq n]
  by_cases h : n = 0
  · rw [if_pos h, h]; rfl
  · rw [if_neg h]; simp [h]
theorem apB_octs {n : Nat} (h : n < 256) : ∀ o ∈ apB n, 65 ≤ o.toNat ∧ o.toNat ≤ 80 := by
  rcases apB_cases h with e | ⟨a, e, h1, h2⟩ | ⟨a, b, e, ⟨h1, h2⟩, h3, h4⟩ <;> rw [e] <;> intro o ho
  · cases ho
  · rw [List.mem_singleton.mp ho]; exact ⟨h1, h2⟩
  · rcases List.mem_cons.mp ho with rfl | ho
    · exact ⟨h1, h2⟩
    · rw [List.mem_singleton.mp ho]; exact ⟨h3, h4⟩
/-- a number's text, sign by sign -/
noncomputable def seg (n f : Int) : List (Nat × Sgn) := typedP (decide (n < 0)) (apB n.natAbs) f
theorem seg_fst (n f : Int) : (⟨((seg n f).map (·.1)).toArray⟩ : Str) = typedS n f := by unfold seg typedS; rw [typedP_fst]
theorem seg_ok {n f : Int} (h : n.natAbs < 256) : ∀ p ∈ seg n f, IsSgn p.1 p.2 := typedP_ok _ _ _ (apB_octs h)
theorem seg_len {n f : Int} (h : n.natAbs < 256) : (seg n f).length ≤ 4 := by
  have h1 := congrArg List.length (typedP_fst (decide (n < 0)) (apB n.natAbs) f)
  have h2 := typed_len (decide (n < 0)) (apB n.natAbs) f
  have h3 := apB_short h
  rw [List.length_map] at h1
  unfold seg
  omega
theorem seg_run (n f : Int) (ts : List Int) (bs : List Bool) : ((seg n f).map (·.2)).foldl Rd.step ⟨ts, 0, bs, false⟩ = ⟨ts, (n.natAbs : Int), bs, decide (n < 0)⟩ := by
  unfold seg
  rw [typedP_run, apB_digs, apB_empty]
  have e : (false || (decide (n < 0) && !decide (n.natAbs = 0))) = decide (n < 0) := by
    by_cases h : n < 0
    · have h' : n.natAbs ≠ 0 := by omega
      simp [h, h']
    · simp [h]
  rw [e]
theorem back_n (n : Int) : (if decide (n < 0) then -(n.natAbs : Int) else (n.natAbs : Int)) = n := by
  by_cases h : n < 0
  · rw [if_pos (decide_eq_true h)]; omega
  · rw [if_neg (by simp [h])]; omega
theorem text_ok {n0 n1 n2 n3 : Int} (f0 f1 f2 f3 : Int) (h0 : n0.natAbs < 256) (h1 : n1.natAbs < 256) (h2 : n2.natAbs < 256) (h3 : n3.natAbs < 256) :
    ∃ ps : List (Nat × Sgn), Txt.join (Str.ofString " ") [typedS n0 f0, typedS n1 f1, typedS n2 f2, typedS n3 f3] = ⟨(ps.map (·.1)).toArray⟩ ∧ (∀ p ∈ ps, IsSgn p.1 p.2) ∧ ps.length ≤ 60 ∧ readOut (ps.map (·.2)) = [n0, n1, n2, n3] := by
  refine ⟨seg n0 f0 ++ (32, .gap) :: (seg n1 f1 ++ (32, .gap) :: (seg n2 f2 ++ (32, .gap) :: seg n3 f3)), ?_, ?_, ?_, ?_⟩
  · have e : Str.ofString " " = ⟨[32].toArray⟩ := rfl
    rw [e, ← seg_fst n0 f0, ← seg_fst n1 f1, ← seg_fst n2 f2, ← seg_fst n3 f3]
    show Str.mk (((seg n0 f0).map (·.1)).toArray ++ [32].toArray ++ ((seg n1 f1).map (·.1)).toArray ++ [32].toArray ++ ((seg n2 f2).map (·.1)).toArray ++ [32].toArray ++ ((seg n3 f3).map (·.1)).toArray) = _
    congr 1
    simp
  · have hg : IsSgn 32 .gap := sgnB_is tabS
    intro p hp
    simp only [List.mem_append, List.mem_cons] at hp
    rcases hp with hp | rfl | hp | rfl | hp | rfl | hp
    · exact seg_ok h0 p hp
    · exact hg
    · exact seg_ok h1 p hp
    · exact hg
    · exact seg_ok h2 p hp
    · exact hg
    · exact seg_ok h3 p hp
  · have a0 := seg_len (f := f0) h0
    have a1 := seg_len (f := f1) h1
    have a2 := seg_len (f := f2) h2
    have a3 := seg_len (f := f3) h3
    simp only [List.length_append, List.length_cons]
    omega
  · unfold readOut readAll
    simp only [List.map_append, List.map_cons, List.foldl_append, List.foldl_cons, seg_run, Rd.step]
    simp only [List.nil_append, List.cons_append, List.zipWith_cons_cons, List.zipWith_nil_left, back_n]
end Mine
end
section
open PySem
set_option maxRecDepth 100000
set_option linter.unusedVariables false
namespace Mine
noncomputable def IsSize (s : Nat) : Prop := s = 8 ∨ s = 16 ∨ s = 32
theorem IsSize.pos {s : Nat} (h : IsSize s) : 0 < s := by unfold IsSize at h; omega
theorem kr_mod {s K r : Nat} {n : Int} (hs : 0 < s) (h : n.fmod (s : Int) = (r : Int)) : ((K * r % s : Nat) : Int) = ((K : Int) * n) % (s : Int) := by
  rw [Int.fmod_eq_emod_of_nonneg _ (by omega)] at h
  rw [Int.natCast_emod, Int.natCast_mul, ← h, Int.mul_emod, Int.emod_emod, ← Int.mul_emod]
theorem fmod_corn {s b n : Int} (hs : 0 < s) : (s * b + n).fmod s = n.fmod s := by
  rw [Int.fmod_eq_emod_of_nonneg _ (by omega), Int.fmod_eq_emod_of_nonneg _ (by omega), Int.mul_add_emod_self_left]
/-- the corners' residues -/
noncomputable def rs0 (s p q : Nat) : Nat := (p + q + s - 1) % s
noncomputable def rs1 (s p : Nat) : Nat := (s - p) % s
theorem rs0_lt {s p q : Nat} (hs : 0 < s) : rs0 s p q < s := Nat.mod_lt _ hs
theorem rs1_lt {s p : Nat} (hs : 0 < s) : rs1 s p < s := Nat.mod_lt _ hs
theorem rs0_is {s p q : Nat} (hs : 0 < s) : ((p : Int) + q - 1).fmod (s : Int) = (rs0 s p q : Int) := by
  unfold rs0
  rw [Int.fmod_eq_emod_of_nonneg _ (by omega), Int.natCast_emod, show ((p + q + s - 1 : Nat) : Int) = ((p : Int) + q - 1) + s by omega, Int.add_emod_right]
theorem rs1_is {s p : Nat} (hs : 0 < s) (hp : p < s) : (-(p : Int)).fmod (s : Int) = (rs1 s p : Int) := by
  unfold rs1
  rw [Int.fmod_eq_emod_of_nonneg _ (by omega), Int.natCast_emod, show ((s - p : Nat) : Int) = -(p : Int) + s by omega, Int.add_emod_right]
theorem one_is {s : Nat} (hs : 1 < s) : (1 : Int).fmod (s : Int) = ((1 : Nat) : Int) := by
  rw [Int.fmod_eq_emod_of_nonneg _ (by omega)]
  exact Int.emod_eq_of_lt (by omega) (by omega)
/-- the four hues' sum, in turns -/
theorem turns {s K p q : Nat} (hs : IsSize s) (h1 : 1 ≤ K) (h2 : K < s) (hp : p < s) (hq : q < s) :
    let S := K * rs0 s p q % s + K * rs1 s p % s + K * rs1 s q % s + K * 1 % s
    S = s ∨ S = 2 * s ∨ S = 3 * s := by
  have e0 := kr_mod (K := K) hs.pos (rs0_is (p := p) (q := q) hs.pos)
  have e1 := kr_mod (K := K) hs.pos (rs1_is hs.pos hp)
  have e2 := kr_mod (K := K) hs.pos (rs1_is hs.pos hq)
  have a0 := Nat.mod_lt (K * rs0 s p q) hs.pos
  have a1 := Nat.mod_lt (K * rs1 s p) hs.pos
  have a2 := Nat.mod_lt (K * rs1 s q) hs.pos
  have e3 : K * 1 % s = K := by rw [Nat.mul_one]; exact Nat.mod_eq_of_lt h2
  rw [show (K : Int) * ((p : Int) + q - 1) = (K : Int) * p + (K : Int) * q - K by rw [Int.mul_sub, Int.mul_add, Int.mul_one]] at e0
  rw [Int.mul_neg] at e1 e2
  intro S
  show S = _ ∨ _
  have hS : S = K * rs0 s p q % s + K * rs1 s p % s + K * rs1 s q % s + K := by show _ + _ + _ + _ = _; rw [e3]
  generalize K * rs0 s p q % s = A0 at *
  generalize K * rs1 s p % s = A1 at *
  generalize K * rs1 s q % s = A2 at *
  generalize (K : Int) * p = X at *
  generalize (K : Int) * q = Y at *
  have hd : ∃ d : Int, (S : Int) = (s : Int) * d := by
    rw [Int.emod_def] at e0 e1 e2
    refine ⟨-((X + Y - K) / s) + -((-X) / s) + -((-Y) / s), ?_⟩
    rw [Int.mul_add, Int.mul_add, Int.mul_neg, Int.mul_neg, Int.mul_neg, hS, Int.natCast_add, Int.natCast_add, Int.natCast_add, e0, e1, e2]
    clear e0 e1 e2 hS a0 a1 a2
    omega
  clear_value S
  obtain ⟨d, hd⟩ := hd
  have hs0 : (0 : Int) < s := Int.natCast_pos.mpr hs.pos
  have d0 : 0 < d := Int.pos_of_mul_pos_right (by rw [← hd]; omega) hs0
  have d4 : d < 4 := Int.lt_of_mul_lt_mul_left (by rw [← hd]; omega) (Int.le_of_lt hs0)
  have d3 : d = 1 ∨ d = 2 ∨ d = 3 := by clear hd e0 e1 e2 hS a0 a1 a2; omega
  rcases d3 with rfl | rfl | rfl
  · left; omega
  · right; left; omega
  · right; right; omega
/-- the claim's own count, ceilings and all -/
theorem ins_is {s K p q : Nat} (hs : IsSize s) (hp : p < s) (hq : q < s) :
    ((s : Int) * (-((-(p : Int) * (K : Int)).fdiv (s : Int)) + -((-(q : Int) * (K : Int)).fdiv (s : Int))) + (K : Int) - ((p : Int) + (q : Int)) * (K : Int) ≤ (s : Int)) ↔ K * rs1 s p % s + K * rs1 s q % s + K ≤ s := by
  have e1 := kr_mod (K := K) hs.pos (rs1_is hs.pos hp)
  have e2 := kr_mod (K := K) hs.pos (rs1_is hs.pos hq)
  rw [Int.fdiv_eq_ediv_of_nonneg _ (by omega), Int.fdiv_eq_ediv_of_nonneg _ (by omega)]
  rw [Int.mul_neg] at e1 e2
  rw [Int.neg_mul, Int.neg_mul, Int.add_mul, Int.mul_comm (p : Int), Int.mul_comm (q : Int)]
  generalize K * rs1 s p % s = A1 at *
  generalize K * rs1 s q % s = A2 at *
  generalize (K : Int) * p = X at *
  generalize (K : Int) * q = Y at *
  rcases hs with rfl | rfl | rfl <;> omega
/-- one turn in all is the claim's own count -/
theorem one_turn {s K p q : Nat} (hs : IsSize s) (h1 : 1 ≤ K) (h2 : K < s) (hp : p < s) (hq : q < s) :
    K * rs0 s p q % s + K * rs1 s p % s + K * rs1 s q % s + K * 1 % s = s ↔ K * rs1 s p % s + K * rs1 s q % s + K ≤ s := by
  have h := turns hs h1 h2 hp hq
  have a0 := Nat.mod_lt (K * rs0 s p q) hs.pos
  have e3 : K * 1 % s = K := by rw [Nat.mul_one]; exact Nat.mod_eq_of_lt h2
  have := hs.pos
  simp only [e3] at h
  rw [e3]
  generalize K * rs0 s p q % s = A0 at *
  generalize K * rs1 s p % s = A1 at *
  generalize K * rs1 s q % s = A2 at *
  omega
noncomputable def oddAt (s r : Nat) : Bool := Nat.beq (2 * (s / 2 * r % s)) s
noncomputable def emptyAt (s p q : Nat) : Bool := (List.range (s - 1)).all fun i => !Nat.ble ((i + 1) * rs1 s p % s + (i + 1) * rs1 s q % s + (i + 1)) s
/-- what the law asks of a size, p and q: White's criterion, and how the residues lie -/
noncomputable def whiteB (s p q : Nat) : Bool :=
  (emptyAt s p q == (oddAt s (rs0 s p q) && oddAt s (rs1 s p) && oddAt s (rs1 s q) && (Nat.beq p 1 || Nat.beq q 1 || Nat.beq (p + q) s))) &&
  (Nat.beq (rs1 s p + 1) s == Nat.beq p 1) && (!Nat.beq (p % 2) 1 || Nat.beq (rs0 s p q + 1) s == Nat.beq (p + q) s) && (!oddAt s (rs1 s p) || Nat.beq (p % 2) 1) &&
  (!Nat.beq (rs1 s q + 1) s || Nat.beq ((rs0 s p q + rs1 s p) % s) 0) && (!Nat.beq (rs1 s p + 1) s || Nat.beq ((rs0 s p q + rs1 s q) % s) 0) && (!Nat.beq (rs0 s p q + 1) s || Nat.beq ((rs1 s p + rs1 s q) % s) 0)
set_option maxHeartbeats 0 in
theorem tabW8 : (List.range 8).all (fun p => (List.range 8).all fun q => whiteB 8 p q) = true := by decide +kernel
set_option maxHeartbeats 0 in
theorem tabW16 : (List.range 16).all (fun p => (List.range 16).all fun q => whiteB 16 p q) = true := by decide +kernel
set_option maxHeartbeats 0 in
theorem tabW32 : (List.range 32).all (fun p => (List.range 32).all fun q => whiteB 32 p q) = true := by decide +kernel
theorem allRange {n : Nat} {f : Nat → Bool} (h : (List.range n).all f = true) {i : Nat} (hi : i < n) : f i = true := List.all_eq_true.mp h i (List.mem_range.mpr hi)
theorem by_size {P : Nat → Nat → Nat → Bool} (h8 : (List.range 8).all (fun p => (List.range 8).all fun q => P 8 p q) = true) (h16 : (List.range 16).all (fun p => (List.range 16).all fun q => P 16 p q) = true) (h32 : (List.range 32).all (fun p => (List.range 32).all fun q => P 32 p q) = true)
    {s p q : Nat} (hs : IsSize s) (hp : p < s) (hq : q < s) : P s p q = true := by
  rcases hs with rfl | rfl | rfl
  · exact allRange (allRange h8 hp) hq
  · exact allRange (allRange h16 hp) hq
  · exact allRange (allRange h32 hp) hq
theorem or_of {a b : Bool} (h : (!a || b) = true) (ha : a = true) : b = true := by rw [ha] at h; exact h
theorem white {s p q : Nat} (hs : IsSize s) (hp : p < s) (hq : q < s) :
    emptyAt s p q = (oddAt s (rs0 s p q) && oddAt s (rs1 s p) && oddAt s (rs1 s q) && (Nat.beq p 1 || Nat.beq q 1 || Nat.beq (p + q) s)) ∧
    Nat.beq (rs1 s p + 1) s = Nat.beq p 1 ∧ (p % 2 = 1 → Nat.beq (rs0 s p q + 1) s = Nat.beq (p + q) s) ∧ (oddAt s (rs1 s p) = true → p % 2 = 1) ∧
    (Nat.beq (rs1 s q + 1) s = true → (rs0 s p q + rs1 s p) % s = 0) ∧ (Nat.beq (rs1 s p + 1) s = true → (rs0 s p q + rs1 s q) % s = 0) ∧ (Nat.beq (rs0 s p q + 1) s = true → (rs1 s p + rs1 s q) % s = 0) := by
  have h := by_size tabW8 tabW16 tabW32 hs hp hq
  unfold whiteB at h
  simp only [Bool.and_eq_true, beq_iff_eq] at h
  obtain ⟨⟨⟨⟨⟨⟨h1, h2⟩, h3⟩, h4⟩, h5⟩, h6⟩, h7⟩ := h
  exact ⟨h1, h2, fun e => eq_of_beq (or_of h3 (by rw [e]; rfl)), fun e => Nat.eq_of_beq_eq_true (or_of h4 e), fun e => Nat.eq_of_beq_eq_true (or_of h5 e), fun e => Nat.eq_of_beq_eq_true (or_of h6 e), fun e => Nat.eq_of_beq_eq_true (or_of h7 e)⟩
/-- where two corners' colours lie on the circle -/
noncomputable def cornB (s r r' : Nat) : Bool := Nat.blt (1 * r * (32 / s)) 32 && (!Nat.beq ((r + r') % s) 0 || Nat.beq ((1 * r * (32 / s) + 1 * r' * (32 / s)) % 32) 0) && Nat.beq (1 * r * (32 / s) % (1 * 1 * (32 / s))) 0 && (Nat.beq (r + 1) s || !Nat.beq (1 * r * (32 / s) + 1 * 1 * (32 / s)) 32)
set_option maxHeartbeats 0 in
theorem tabX8 : (List.range 8).all (fun p => (List.range 8).all fun q => cornB 8 p q) = true := by decide +kernel
set_option maxHeartbeats 0 in
theorem tabX16 : (List.range 16).all (fun p => (List.range 16).all fun q => cornB 16 p q) = true := by decide +kernel
set_option maxHeartbeats 0 in
theorem tabX32 : (List.range 32).all (fun p => (List.range 32).all fun q => cornB 32 p q) = true := by decide +kernel
theorem corn_at {s r r' : Nat} (hs : IsSize s) (hr : r < s) (hr' : r' < s) :
    1 * r * (32 / s) < 32 ∧ ((r + r') % s = 0 → (1 * r * (32 / s) + 1 * r' * (32 / s)) % 32 = 0) ∧ 1 * r * (32 / s) % (1 * 1 * (32 / s)) = 0 ∧ (Nat.beq (r + 1) s = false → 1 * r * (32 / s) + 1 * 1 * (32 / s) ≠ 32) := by
  have h := by_size tabX8 tabX16 tabX32 hs hr hr'
  unfold cornB at h
  simp only [Bool.and_eq_true] at h
  obtain ⟨⟨⟨h1, h2⟩, h3⟩, h4⟩ := h
  refine ⟨Nat.blt_eq.mp h1, fun e => Nat.eq_of_beq_eq_true (or_of h2 (by rw [e]; rfl)), Nat.eq_of_beq_eq_true h3, fun e g => ?_⟩
  rw [e, g] at h4
  cases h4
end Mine
end
section
open PySem PySem.W PySem.Calls PyProof.Rows PySem.Spec
set_option maxRecDepth 100000
set_option linter.unusedVariables false
namespace Mine
theorem lostF_zero {n k : Nat} (h : n + k < 128) : lostF (T32 n) (T32 k) = 0 := by
  unfold lostF
  rw [T32_add (by omega) (by omega)]
  split
  · exact lost_zero h
  · have := lost_zero (n := k) (k := n) (by omega)
    rwa [Nat.add_comm k n] at this
theorem settled_zero (t : UInt64) : settledF t 0 = t := by
  unfold settledF
  rw [if_neg (by decide +kernel)]
theorem sum_T {a b c d : Nat} (h : a + b + c + d < 128) : sum4 (T32 a) (T32 b) (T32 c) (T32 d) = T32 (a + b + c + d) := by
  unfold sum4
  show settledF (Float64.add (Float64.add (Float64.add (Float64.add (Float64.ofInt 0) (T32 a)) (T32 b)) (T32 c)) (T32 d)) (Float64.add (Float64.add (Float64.add 0 (lostF (Float64.add (Float64.ofInt 0) (T32 a)) (T32 b))) (lostF (Float64.add (Float64.add (Float64.ofInt 0) (T32 a)) (T32 b)) (T32 c))) (lostF (Float64.add (Float64.add (Float64.add (Float64.ofInt 0) (T32 a)) (T32 b)) (T32 c)) (T32 d))) = _
  rw [int_zero, T32_add (by omega) (by omega), Nat.zero_add, T32_add (by omega) (by omega), T32_add (by omega) (by omega), T32_add (by omega) (by omega), lostF_zero (by omega), lostF_zero (by omega), lostF_zero (by omega), add_zero_zero, add_zero_zero, add_zero_zero, settled_zero]
theorem tabHalf : (List.range 32).all (fun n => eqF (T32 n) 4602678819172646912 == Nat.beq n 16) = true := by decide +kernel
theorem eq_half {n : Nat} (h : n < 32) : eqF (T32 n) 4602678819172646912 = Nat.beq n 16 := eq_of_beq (allRange tabHalf h)
theorem turn1 : eqF 4607182418800017408 (T32 32) = true := by decide +kernel
theorem turn2 : eqF 4611686018427387904 (T32 64) = true := by decide +kernel
theorem turn3 : eqF 4613937818241073152 (T32 96) = true := by decide +kernel
theorem once1 : (Float64.cmp (T32 32) 4607182418800017408 == some .eq) = true := by decide +kernel
theorem once2 : (Float64.cmp (T32 64) 4607182418800017408 == some .eq) = false := by decide +kernel
theorem once3 : (Float64.cmp (T32 96) 4607182418800017408 == some .eq) = false := by decide +kernel
/-- the hues of a height, in 32nds -/
noncomputable def hueN (s K r : Nat) : Nat := K * r % s * (32 / s)
theorem hueN_mod {s : Nat} (hs : IsSize s) (K r : Nat) : K * r * (32 / s) % 32 = hueN s K r := by
  unfold hueN
  rcases hs with rfl | rfl | rfl
  · show K * r * 4 % (8 * 4) = _; rw [Nat.mul_mod_mul_right]
  · show K * r * 2 % (16 * 2) = _; rw [Nat.mul_mod_mul_right]
  · show K * r * 1 % 32 = K * r % 32 * 1; rw [Nat.mul_one, Nat.mul_one]
theorem hueN_lt {s : Nat} (hs : IsSize s) (K r : Nat) : hueN s K r < 32 := by rw [← hueN_mod hs]; exact Nat.mod_lt _ (by decide)
noncomputable def half4 (s K r0 r1 r2 r3 : Nat) : Bool := Nat.beq (2 * (K * r0 % s)) s && Nat.beq (2 * (K * r1 % s)) s && Nat.beq (2 * (K * r2 % s)) s && Nat.beq (2 * (K * r3 % s)) s
theorem half_hue {s : Nat} (hs : IsSize s) (K r : Nat) : eqF (T32 (hueN s K r)) 4602678819172646912 = Nat.beq (2 * (K * r % s)) s := by
  rw [eq_half (hueN_lt hs K r)]
  have h := hueN_lt hs K r
  unfold hueN at *
  generalize K * r % s = A at *
  rw [Bool.eq_iff_iff, Nat.beq_eq, Nat.beq_eq]
  rcases hs with rfl | rfl | rfl <;> simp only [Nat.reduceDiv] at * <;> omega
theorem hues_sum {s K p q : Nat} (hs : IsSize s) (h1 : 1 ≤ K) (h2 : K < s) (hp : p < s) (hq : q < s) :
    (eqF 4607182418800017408 (sum4 (T32 (hueN s K (rs0 s p q))) (T32 (hueN s K (rs1 s p))) (T32 (hueN s K (rs1 s q))) (T32 (hueN s K 1))) || eqF 4611686018427387904 (sum4 (T32 (hueN s K (rs0 s p q))) (T32 (hueN s K (rs1 s p))) (T32 (hueN s K (rs1 s q))) (T32 (hueN s K 1))) || eqF 4613937818241073152 (sum4 (T32 (hueN s K (rs0 s p q))) (T32 (hueN s K (rs1 s p))) (T32 (hueN s K (rs1 s q))) (T32 (hueN s K 1)))) = true ∧
    (Float64.cmp (sum4 (T32 (hueN s K (rs0 s p q))) (T32 (hueN s K (rs1 s p))) (T32 (hueN s K (rs1 s q))) (T32 (hueN s K 1))) 4607182418800017408 == some .eq) = decide (K * rs1 s p % s + K * rs1 s q % s + K ≤ s) := by
  have b0 := hueN_lt hs K (rs0 s p q)
  have b1 := hueN_lt hs K (rs1 s p)
  have b2 := hueN_lt hs K (rs1 s q)
  have b3 := hueN_lt hs K 1
  rw [sum_T (by omega)]
  have ht := turns hs h1 h2 hp hq
  have ho := one_turn hs h1 h2 hp hq
  simp only at ht
  have e : hueN s K (rs0 s p q) + hueN s K (rs1 s p) + hueN s K (rs1 s q) + hueN s K 1 = (K * rs0 s p q % s + K * rs1 s p % s + K * rs1 s q % s + K * 1 % s) * (32 / s) := by
    unfold hueN; simp only [Nat.add_mul]
  rw [e]
  have hm : ∀ j, j * s * (32 / s) = j * 32 := by intro j; rcases hs with rfl | rfl | rfl <;> simp only [Nat.reduceDiv] <;> omega
  have hpos := hs.pos
  rcases ht with ht | ht | ht
  · have hd : decide (K * rs1 s p % s + K * rs1 s q % s + K ≤ s) = true := decide_eq_true (ho.mp ht)
    have h1 := hm 1
    rw [Nat.one_mul] at h1
    rw [ht, hd, h1, Nat.one_mul]
    exact ⟨by rw [turn1]; rfl, once1⟩
  · have hd : decide (K * rs1 s p % s + K * rs1 s q % s + K ≤ s) = false := decide_eq_false fun h => by have := ho.mpr h; omega
    rw [ht, hd, hm]
    exact ⟨by rw [turn2, Bool.or_true, Bool.true_or], once2⟩
  · have hd : decide (K * rs1 s p % s + K * rs1 s q % s + K ≤ s) = false := decide_eq_false fun h => by have := ho.mpr h; omega
    rw [ht, hd, hm]
    exact ⟨by rw [turn3, Bool.or_true], once3⟩
end Mine
end
section
open PySem PySem.W PySem.Calls PyProof.Rows PySem.Spec
set_option maxRecDepth 100000
set_option linter.unusedVariables false
namespace Mine
noncomputable def mateT (c d : UInt64 × UInt64 × UInt64) : Bool := eqF c.1 d.1 && eqF c.2.1 d.2.2 && eqF c.2.2 d.2.1
set_option maxHeartbeats 0 in
theorem tabM1 : (List.range 3).all (fun i => (List.range 3).all fun l => (List.range 32).all fun j => mateT (cAt j i l) (cAt ((32 - j) % 32) i l)) = true := by decide +kernel
noncomputable def oddOut (g j i l : Nat) : Bool := Nat.beq (j + g) 32 || !Nat.beq (j % g) 0 || !mateT (cAt j i l) (cAt g i l)
set_option maxHeartbeats 0 in
theorem tabM2 : (List.range 3).all (fun i => (List.range 3).all fun l => (List.range 32).all fun j => oddOut 1 j i l && oddOut 2 j i l && oddOut 4 j i l) = true := by decide +kernel
theorem col_at {j i l : Nat} (hj : j < 32) (hi : i < 3) (hl : l < 3) : col j (partOf i) (partOf l) = cAt j i l := by
  unfold col
  rw [Nat.mod_eq_of_lt hj]
  exact eq_of_beq (all_range (all_range (all_range tabC hi) hl) hj)
/-- two colours across the circle mate -/
theorem mate_yes {j j' : Nat} (hj : j < 32) (hj' : j' < 32) (h : (j + j') % 32 = 0) {sh va : UInt64} (h1 : IsPart sh) (h2 : IsPart va) : mateT (col j sh va) (col j' sh va) = true := by
  obtain ⟨i, hi, rfl⟩ := isPart_of h1
  obtain ⟨l, hl, rfl⟩ := isPart_of h2
  rw [col_at hj hi hl, col_at hj' hi hl, show j' = (32 - j) % 32 by omega]
  exact all_range (all_range (all_range tabM1 hi) hl) hj
theorem mate_no {g j : Nat} (hg : g = 1 ∨ g = 2 ∨ g = 4) (hj : j < 32) (hd : j % g = 0) (h : j + g ≠ 32) {sh va : UInt64} (h1 : IsPart sh) (h2 : IsPart va) : mateT (col j sh va) (col g sh va) = false := by
  obtain ⟨i, hi, rfl⟩ := isPart_of h1
  obtain ⟨l, hl, rfl⟩ := isPart_of h2
  have hb := all_range (all_range (all_range tabM2 hi) hl) hj
  simp only [Bool.and_eq_true] at hb
  obtain ⟨⟨hb1, hb2⟩, hb4⟩ := hb
  have key : oddOut g j i l = true := by rcases hg with rfl | rfl | rfl <;> assumption
  rw [col_at hj hi hl, col_at (show g < 32 by omega) hi hl]
  unfold oddOut at key
  simp only [Bool.or_eq_true, Bool.not_eq_true', Nat.beq_eq] at key
  rcases key with (key | key) | key
  · exact absurd key h
  · rw [hd] at key; cases key
  · exact key
end Mine
end
section
open PySem PySem.W PySem.Calls PyProof.Rows PySem.Spec
set_option maxRecDepth 100000
set_option linter.unusedVariables false
namespace Mine
theorem em_is (ins : Int → Bool) : ∀ (r i : Nat) (em : Bool), emAfter ins r i em = (em && (List.range r).all fun j => !ins (1 + ((i + j : Nat) : Int)))
  | 0, i, em => by simp [emAfter]
  | r + 1, i, em => by
    show emAfter ins r (i + 1) (if ins (1 + (i : Int)) then false else em) = _
    rw [em_is ins r (i + 1), List.range_succ_eq_map, List.all_cons, List.all_map]
    have e : ((fun j => !ins (1 + ((i + j : Nat) : Int))) ∘ Nat.succ) = fun j => !ins (1 + ((i + 1 + j : Nat) : Int)) := by
      funext j
      show (!ins (1 + ((i + (j + 1) : Nat) : Int))) = _
      rw [show i + (j + 1) = i + 1 + j by omega]
    rw [e]
    cases h : ins (1 + (i : Int)) <;> cases em <;> simp [h]
theorem cy_8 (cyf : Int → Bool) : cyAfter 8 cyf 7 0 false = cyf 4 := by kernel_rfl
theorem cy_16 (cyf : Int → Bool) : cyAfter 16 cyf 15 0 false = cyf 8 := by kernel_rfl
theorem cy_32 (cyf : Int → Bool) : cyAfter 32 cyf 31 0 false = cyf 16 := by kernel_rfl
theorem cy_is {s : Nat} (hs : IsSize s) (cyf : Int → Bool) : cyAfter (s : Int) cyf ((s : Int) - 1).toNat 0 false = cyf ((s / 2 : Nat) : Int) := by
  rcases hs with rfl | rfl | rfl
  · exact cy_8 cyf
  · exact cy_16 cyf
  · exact cy_32 cyf
noncomputable def flatT (s p q : Nat) : Bool := !(Nat.beq (p % 2) 1 && Nat.beq (q % 2) 1) || flatAt (p : Int) (q : Int) (s : Int) 3 == (Nat.beq p 1 || Nat.beq q 1 || Nat.beq (p + q) s)
set_option maxHeartbeats 0 in
theorem tabF8 : (List.range 8).all (fun p => (List.range 8).all fun q => flatT 8 p q) = true := by decide +kernel
set_option maxHeartbeats 0 in
theorem tabF16 : (List.range 16).all (fun p => (List.range 16).all fun q => flatT 16 p q) = true := by decide +kernel
set_option maxHeartbeats 0 in
theorem tabF32 : (List.range 32).all (fun p => (List.range 32).all fun q => flatT 32 p q) = true := by decide +kernel
theorem flat_is {s p q : Nat} (hs : IsSize s) (hp : p < s) (hq : q < s) (op : p % 2 = 1) (oq : q % 2 = 1) : flatAt (p : Int) (q : Int) (s : Int) 3 = (Nat.beq p 1 || Nat.beq q 1 || Nat.beq (p + q) s) := by
  have h := by_size tabF8 tabF16 tabF32 hs hp hq
  exact eq_of_beq (or_of h (by rw [op, oq]; rfl))
theorem mate_sum {s r r' : Nat} (hs : IsSize s) (hr : r < s) (hr' : r' < s) (h : (r + r') % s = 0) {sh va : UInt64} (h1 : IsPart sh) (h2 : IsPart va) : mateT (col (1 * r * (32 / s)) sh va) (col (1 * r' * (32 / s)) sh va) = true :=
  mate_yes (corn_at hs hr hr').1 (corn_at hs hr' hr).1 ((corn_at hs hr hr').2.1 h) h1 h2
theorem mate_one {s r : Nat} (hs : IsSize s) (hr : r < s) {sh va : UInt64} (h1 : IsPart sh) (h2 : IsPart va) : mateT (col (1 * r * (32 / s)) sh va) (col (1 * 1 * (32 / s)) sh va) = Nat.beq (r + 1) s := by
  have hp : 1 < s := by rcases hs with rfl | rfl | rfl <;> decide
  cases hb : Nat.beq (r + 1) s with
  | true => exact mate_sum hs hr hp (by rw [Nat.eq_of_beq_eq_true hb, Nat.mod_self]) h1 h2
  | false =>
    have hc := corn_at hs hr hp
    refine mate_no ?_ hc.1 hc.2.2.1 (hc.2.2.2 hb) h1 h2
    rcases hs with rfl | rfl | rfl
    · exact .inr (.inr rfl)
    · exact .inr (.inl rfl)
    · exact .inl rfl
theorem three_pairs (A B C D F G : Bool) (k2 : G = true → A = true) (k1 : F = true → B = true) (k0 : D = true → C = true) : ((A && G) || (B && F) || (D && C)) = (F || G || D) := by
  revert A B C D F G
  decide
theorem mates_are {s p q : Nat} (hs : IsSize s) (hp : p < s) (hq : q < s) {sh va : UInt64} (i1 : IsPart sh) (i2 : IsPart va) :
    ((mateT (col (1 * rs0 s p q * (32 / s)) sh va) (col (1 * rs1 s p * (32 / s)) sh va) && mateT (col (1 * rs1 s q * (32 / s)) sh va) (col (1 * 1 * (32 / s)) sh va)) ||
     (mateT (col (1 * rs0 s p q * (32 / s)) sh va) (col (1 * rs1 s q * (32 / s)) sh va) && mateT (col (1 * rs1 s p * (32 / s)) sh va) (col (1 * 1 * (32 / s)) sh va)) ||
     (mateT (col (1 * rs0 s p q * (32 / s)) sh va) (col (1 * 1 * (32 / s)) sh va) && mateT (col (1 * rs1 s p * (32 / s)) sh va) (col (1 * rs1 s q * (32 / s)) sh va))) =
    (Nat.beq (rs1 s p + 1) s || Nat.beq (rs1 s q + 1) s || Nat.beq (rs0 s p q + 1) s) := by
  have h0 : rs0 s p q < s := rs0_lt hs.pos
  have h1 : rs1 s p < s := rs1_lt hs.pos
  have h2 : rs1 s q < s := rs1_lt hs.pos
  obtain ⟨_, _, _, _, k2, k1, k0⟩ := white hs hp hq
  rw [mate_one hs h0 i1 i2, mate_one hs h1 i1 i2, mate_one hs h2 i1 i2]
  exact three_pairs _ _ _ _ _ _ (fun e => mate_sum hs h0 h1 (k2 e) i1 i2) (fun e => mate_sum hs h0 h2 (k1 e) i1 i2) (fun e => mate_sum hs h1 h2 (k0 e) i1 i2)
/-- the two counts of the law agree -/
theorem counts {s p q : Nat} (hs : IsSize s) (hp : p < s) (hq : q < s) (X : Bool) (h : p % 2 = 1 → q % 2 = 1 → X = (Nat.beq p 1 || Nat.beq q 1 || Nat.beq (p + q) s)) :
    emptyAt s p q = (half4 s (s / 2) (rs0 s p q) (rs1 s p) (rs1 s q) 1 && X) := by
  obtain ⟨hw, _, _, o1, _⟩ := white hs hp hq
  have o2 := (white hs hq hp).2.2.2.1
  have h1 : Nat.beq (2 * (s / 2 * 1 % s)) s = true := by rcases hs with rfl | rfl | rfl <;> decide
  have hh : half4 s (s / 2) (rs0 s p q) (rs1 s p) (rs1 s q) 1 = (oddAt s (rs0 s p q) && oddAt s (rs1 s p) && oddAt s (rs1 s q)) := by
    unfold half4
    rw [h1, Bool.and_true]; rfl
  rw [hw, hh]
  cases e0 : oddAt s (rs0 s p q)
  · rfl
  · cases e1 : oddAt s (rs1 s p)
    · rfl
    · cases e2 : oddAt s (rs1 s q)
      · rfl
      · rw [h (o1 e1) (o2 e2)]
set_option maxHeartbeats 1000000 in
theorem plain_law : PlainLaw := by
  intro sz p q n0 n1 n2 n3 f0 f1 f2 f3 sh va hs hp hq hc i1 i2 k0 k1 k2 k3
  obtain ⟨c0, c1, c2, c3⟩ := corn_small hs hp hq hc
  refine ⟨text_ok f0 f1 f2 f3 c0 c1 c2 c3, ?_⟩
  clear c0 c1 c2 c3 k0 k1 k2 k3
  obtain ⟨s, rfl⟩ : ∃ s : Nat, sz = (s : Int) := ⟨sz.toNat, by omega⟩
  obtain ⟨P, rfl⟩ : ∃ s : Nat, p = (s : Int) := ⟨p.toNat, by omega⟩
  obtain ⟨R, rfl⟩ : ∃ s : Nat, q = (s : Int) := ⟨q.toNat, by omega⟩
  have hS : IsSize s := by unfold IsSize; omega
  have hP : P < s := by omega
  have hR : R < s := by omega
  have hp0 : 0 < s := hS.pos
  have hp1 : 1 < s := by unfold IsSize at hS; omega
  obtain ⟨b0, b1, b2, b3, _, _, _, _, e0, e1, e2, e3⟩ := hc
  have r0 : n0.fmod (s : Int) = (rs0 s P R : Int) := by
    rw [e0, show (P : Int) + R - 1 - s * b0 = s * (-b0) + ((P : Int) + R - 1) by rw [Int.mul_neg]; omega, fmod_corn (by omega)]; exact rs0_is hp0
  have r1 : n1.fmod (s : Int) = (rs1 s P : Int) := by
    rw [e1, show (s : Int) * b1 - P = s * b1 + (-(P : Int)) by omega, fmod_corn (by omega)]; exact rs1_is hp0 hP
  have r2 : n2.fmod (s : Int) = (rs1 s R : Int) := by
    rw [e2, show (s : Int) * b2 - R = s * b2 + (-(R : Int)) by omega, fmod_corn (by omega)]; exact rs1_is hp0 hR
  have r3 : n3.fmod (s : Int) = ((1 : Nat) : Int) := by
    rw [e3, show (1 : Int) - s * b3 = s * (-b3) + 1 by rw [Int.mul_neg]; omega, fmod_corn (by omega)]; exact one_is hp1
  clear e0 e1 e2 e3 hp hq hs
  have key : ∀ K : Nat, 1 ≤ K → K < s → KOk (K : Int) (s : Int) (P : Int) (R : Int) n0 n1 n2 n3 sh va (decide ((s : Int) * (-((-(P : Int) * (K : Int)).fdiv (s : Int)) + -((-(R : Int) * (K : Int)).fdiv (s : Int))) + (K : Int) - ((P : Int) + (R : Int)) * (K : Int) ≤ (s : Int))) (half4 s (K : Int).toNat (rs0 s P R) (rs1 s P) (rs1 s R) 1)
      (col (K * rs0 s P R * (32 / s)) sh va).1 (col (K * rs0 s P R * (32 / s)) sh va).2.1 (col (K * rs0 s P R * (32 / s)) sh va).2.2 (col (K * rs1 s P * (32 / s)) sh va).1 (col (K * rs1 s P * (32 / s)) sh va).2.1 (col (K * rs1 s P * (32 / s)) sh va).2.2
      (col (K * rs1 s R * (32 / s)) sh va).1 (col (K * rs1 s R * (32 / s)) sh va).2.1 (col (K * rs1 s R * (32 / s)) sh va).2.2 (col (K * 1 * (32 / s)) sh va).1 (col (K * 1 * (32 / s)) sh va).2.1 (col (K * 1 * (32 / s)) sh va).2.2 := by
    intro K hK hK2
    have h0 := hue_ok (k := K) hS hK2 (rs0_lt hp0) r0 i1 i2
    have h1 := hue_ok (k := K) hS hK2 (rs1_lt hp0) r1 i1 i2
    have h2 := hue_ok (k := K) hS hK2 (rs1_lt hp0) r2 i1 i2
    have h3 := hue_ok (k := K) hS hK2 hp1 r3 i1 i2
    rw [hueN_mod hS] at h0 h1 h2 h3
    obtain ⟨t1, t2⟩ := hues_sum hS hK hK2 hP hR
    refine ⟨_, _, _, _, h0, h1, h2, h3, t1, rfl, ?_, ?_⟩
    · rw [t2]; exact decide_eq_decide.mpr (ins_is hS hP hR).symm
    · rw [half_hue hS, half_hue hS, half_hue hS, half_hue hS]; rfl
  refine ⟨fun k => decide ((s : Int) * (-((-(P : Int) * k).fdiv (s : Int)) + -((-(R : Int) * k).fdiv (s : Int))) + k - ((P : Int) + (R : Int)) * k ≤ (s : Int)), fun k => half4 s k.toNat (rs0 s P R) (rs1 s P) (rs1 s R) 1,
    _, _, _, _, _, _, _, _, _, _, _, _, key 1 (Nat.le_refl _) hp1, ?_, ⟨col_self i1 i2, col_self i1 i2, col_self i1 i2, col_self i1 i2⟩, ?_⟩
  · intro k hk1 hk2
    obtain ⟨K, rfl⟩ : ∃ s : Nat, k = (s : Int) := ⟨k.toNat, by omega⟩
    exact ⟨_, _, _, _, _, _, _, _, _, _, _, _, key K (by omega) (by omega)⟩
  · have hem : emAfter (fun k => decide ((s : Int) * (-((-(P : Int) * k).fdiv (s : Int)) + -((-(R : Int) * k).fdiv (s : Int))) + k - ((P : Int) + (R : Int)) * k ≤ (s : Int))) ((s : Int) - 1).toNat 0 true = emptyAt s P R := by
      rw [em_is, Bool.true_and, show ((s : Int) - 1).toNat = s - 1 by omega]
      unfold emptyAt
      refine List.all_congr rfl fun j => ?_
      congr 1
      have hi := ins_is (K := j + 1) hS hP hR
      rw [show (1 + ((0 + j : Nat) : Int)) = ((j + 1 : Nat) : Int) by omega]
      rw [Bool.eq_iff_iff, decide_eq_true_iff, hi, Nat.ble_eq]
    have hcy : cyAfter (s : Int) (fun k => half4 s k.toNat (rs0 s P R) (rs1 s P) (rs1 s R) 1) ((s : Int) - 1).toNat 0 false = half4 s (s / 2) (rs0 s P R) (rs1 s P) (rs1 s R) 1 := by
      exact cy_is hS _
    rw [hem, hcy]
    refine ⟨counts hS hP hR _ fun o1 o2 => ?_, counts hS hP hR _ fun o1 o2 => flat_is hS hP hR o1 o2⟩
    refine (mates_are hS hP hR i1 i2).trans ?_
    rw [(white hS hP hR).2.1, (white hS hR hP).2.1, (white hS hP hR).2.2.1 o1]
end Mine
end
section
open PySem PySem.W PySem.Calls PyProof.Rows PySem.Spec
set_option maxRecDepth 100000
set_option maxHeartbeats 8000000
namespace Mine
noncomputable abbrev pz : Program := PySem.Challenge.rw_tp0034_01.row.prog
theorem look_a : sreFenced pz.main = true := by kernel_rfl
theorem look_b : ((moduleNames pz.main.body).isEmpty || lookedIntoSs (moduleNames pz.main.body) pz.main.body) = true := by kernel_rfl
theorem look_c : namesResolve pz = true := by kernel_rfl
theorem look_d : (pz.boundNames.all (fun n => !worldNames.contains n)) = true := by kernel_rfl
theorem look_e : noRoadLSs { strict := !(importedModules pz.main.body).all cThrough.contains, foot := none, bare := (["vars", "dir", "locals"] : List Str).filter (readsOut pz pz.main.body) } pz.main.body = true := by kernel_rfl
theorem look_f : (namesMeet pz pz.main.body fun _ n => attrL n) = true := by kernel_rfl
theorem looks0 : looksOpen pz = true := look_both (look_both (look_both (look_both (look_both look_a look_b) look_c) look_d) look_e) look_f
theorem said0 : PySem.Challenge.rw_tp0034_01.wellSaid = true := by
  unfold OpenLaw.wellSaid OpenRow.wellSaid OpenRow.partSaid
  repeat' with_reducible refine look_both ?_ ?_
  all_goals first | with_reducible exact looks0 | kernel_rfl
end Mine
end
set_option maxRecDepth 100000 in
set_option maxHeartbeats 8000000 in
theorem PySem.Challenge.cw_tp0034_01_holds : PySem.Challenge.rw_tp0034_01.Holds := by
  refine PySem.W.holds_law Mine.said0 fun said => ?_
  refine Mine.join Mine.plain_law said ?_
  exact ⟨[.list [.int 3, .int 1]], by decide +kernel, by decide +kernel⟩
