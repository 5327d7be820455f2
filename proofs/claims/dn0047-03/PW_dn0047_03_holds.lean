import PyProof.Rows.All
import Wide.All
import OpenK.AllK
import Wide.FinOn
import PySem.Challenge.RW_dn0047_03
open PySem PySem.W PyProof.Rows
set_option Elab.async false

/- HD -/
namespace Mine
set_option maxRecDepth 100000 in
set_option maxHeartbeats 8000000 in
open_top hd for PySem.Challenge.rw_dn0047_03
end Mine

/- R1 -/
set_option maxRecDepth 100000
namespace Mine
abbrev tupO (vs : List Value) (n : Nat) : Obj := { cls := .type "tuple", data := .seq vs.toArray n }

/-- the order of two pairs -/
def ltP (a b c d : Int) : Bool := if a = c then decide (b < d) else decide (a < c)

section
variable {prog : Program} {w : World} {A : Around} {E : Value → Shared → Prop} {s : Shared}
theorem lt_pair {x y : Addr} {a b c d : Int} {t1 t2 t3 t4 : Tok} {n k : Nat} {Q : Value → Shared → Prop}
    (hx : s.heap.get? x = some (tupO [.int a t1, .int b t2] n)) (hy : s.heap.get? y = some (tupO [.int c t3, .int d t4] k)) (hu : A.units < cLine)
    (h : Q (.bool (ltP a b c d)) s) : wpAny (model prog w) A (compareOp .Lt (.ref x) (.ref y)) Q E s := by
  have Tx : s.TypeIs (.ref x) "tuple" := ⟨_, hx, rfl⟩
  have Ty : s.TypeIs (.ref y) "tuple" := ⟨_, hy, rfl⟩
  refine cmp_ofLt (wpAny_richCompare_same_room (op := .Lt) Tx Ty PySem.F.slot_tuple_lt (wpAny_call_entry PySem.F.slot_tuple_lt Tx PySem.F.entry_tuple_lt ?_ (PySem.F.args_tuple_lt_2 _ _)) hu)
  show wpAny _ _ (isInstance (.ref y) (.type "tuple") >>= _) _ _ s
  refine wpAny_bind (wpAny_isInstance Ty isSubtype_tuple_tuple ?_)
  simp only [Bool.not_true, Bool.false_eq_true, if_false]
  refine wpAny_bind (wpAny_tupleItemsOf hx rfl ?_)
  refine wpAny_bind (wpAny_tupleItemsOf hy rfl ?_)
  simp only [List.zip_cons_cons, List.zip_nil_left, List.forIn_cons, List.forIn_nil]
  refine wpAny_bind (wpAny_bind (wpAny_bind (wpAny_eqBool_int ?_)))
  by_cases hac : a = c
  · subst hac
    simp only [beq_self_eq_true, Bool.not_true, Bool.false_eq_true, if_false]
    refine wpAny_pure (wpAny_bind (wpAny_bind (wpAny_eqBool_int ?_)))
    by_cases hbd : b = d
    · subst hbd
      simp only [beq_self_eq_true, Bool.not_true, Bool.false_eq_true, if_false]
      refine wpAny_pure (wpAny_pure ?_)
      refine wpAny_pure ⟨_, rfl, (fun e => nomatch e), ?_⟩
      have e : ltP a b a b = false := by simp [ltP]
      rw [e] at h
      exact h
    · have e : (b == d) = false := by simp [hbd]
      rw [e]
      simp only [Bool.not_false, if_true]
      refine wpAny_bind (wpAny_rule (wpAny_bind (lt_int ?_)))
      refine wpAny_bind (wpAny_pure (wpAny_pure (wpAny_pure (wpAny_pure ⟨_, rfl, (fun e => nomatch e), ?_⟩))))
      simpa [ltP] using h
  · have e : (a == c) = false := by simp [hac]
    rw [e]
    simp only [Bool.not_false, if_true]
    refine wpAny_bind (wpAny_rule (wpAny_bind (lt_int ?_)))
    refine wpAny_bind (wpAny_pure (wpAny_pure (wpAny_pure (wpAny_pure ⟨_, rfl, (fun e => nomatch e), ?_⟩))))
    simpa [ltP, hac] using h

theorem gt_pair {x y : Addr} {a b c d : Int} {t1 t2 t3 t4 : Tok} {n k : Nat} {Q : Value → Shared → Prop}
    (hx : s.heap.get? x = some (tupO [.int a t1, .int b t2] n)) (hy : s.heap.get? y = some (tupO [.int c t3, .int d t4] k)) (hu : A.units < cLine)
    (h : Q (.bool (ltP c d a b)) s) : wpAny (model prog w) A (compareOp .Gt (.ref x) (.ref y)) Q E s := by
  have Tx : s.TypeIs (.ref x) "tuple" := ⟨_, hx, rfl⟩
  have Ty : s.TypeIs (.ref y) "tuple" := ⟨_, hy, rfl⟩
  refine cmp_ofGt (wpAny_richCompare_same_room (op := .Gt) Tx Ty PySem.F.slot_tuple_gt (wpAny_call_entry PySem.F.slot_tuple_gt Tx PySem.F.entry_tuple_gt ?_ (PySem.F.args_tuple_gt_2 _ _)) hu)
  show wpAny _ _ (isInstance (.ref y) (.type "tuple") >>= _) _ _ s
  refine wpAny_bind (wpAny_isInstance Ty isSubtype_tuple_tuple ?_)
  simp only [Bool.not_true, Bool.false_eq_true, if_false]
  refine wpAny_bind (wpAny_tupleItemsOf hx rfl ?_)
  refine wpAny_bind (wpAny_tupleItemsOf hy rfl ?_)
  simp only [List.zip_cons_cons, List.zip_nil_left, List.forIn_cons, List.forIn_nil]
  refine wpAny_bind (wpAny_bind (wpAny_bind (wpAny_eqBool_int ?_)))
  by_cases hac : a = c
  · subst hac
    simp only [beq_self_eq_true, Bool.not_true, Bool.false_eq_true, if_false]
    refine wpAny_pure (wpAny_bind (wpAny_bind (wpAny_eqBool_int ?_)))
    by_cases hbd : b = d
    · subst hbd
      simp only [beq_self_eq_true, Bool.not_true, Bool.false_eq_true, if_false]
      refine wpAny_pure (wpAny_pure ?_)
      refine wpAny_pure ⟨_, rfl, (fun e => nomatch e), ?_⟩
      have e : ltP a b a b = false := by simp [ltP]
      rw [e] at h
      exact h
    · have e : (b == d) = false := by simp [hbd]
      rw [e]
      simp only [Bool.not_false, if_true]
      refine wpAny_bind (wpAny_rule (wpAny_bind (gt_int ?_)))
      refine wpAny_bind (wpAny_pure (wpAny_pure (wpAny_pure (wpAny_pure ⟨_, rfl, (fun e => nomatch e), ?_⟩))))
      simpa [ltP] using h
  · have e : (a == c) = false := by simp [hac]
    rw [e]
    simp only [Bool.not_false, if_true]
    refine wpAny_bind (wpAny_rule (wpAny_bind (gt_int ?_)))
    refine wpAny_bind (wpAny_pure (wpAny_pure (wpAny_pure (wpAny_pure ⟨_, rfl, (fun e => nomatch e), ?_⟩))))
    simpa [ltP, hac, Ne.symm hac, eq_comm] using h

theorem max_loop2 {I T S : Addr} {a b : Value} {bt : Bool} {R : Result → Shared → Prop} {c : Nat} (g : Heap) (St : Nat → Heap → Prop)
    (W : Walks prog w A.in1 I [I, T] [I] 2 (fun i v => #[a, b][i]? = some v) St) (hSf : S ∉ [I, T]) (hst : St 0 s.heap)
    (hS : s.heap.get? S = some { cls := .type "list", dict := none, data := .seq #[] c, slots := #[] })
    (hg : ∀ x o, g.get? x = some o → s.heap.get? x = some o ∧ x ≠ S ∧ x ∉ [I])
    (hcmp : ∀ (s' : Shared), (∀ x o, g.get? x = some o → s'.heap.get? x = some o) → ∀ (Q' E' : Value → Shared → Prop), Q' (.bool bt) s' → wpAny (model prog w) A.in1 (richCompare .Gt b a) Q' E' s')
    (hR : ∀ h' tk, (∀ x o, g.get? x = some o → h'.get? x = some o) → R (.ok (.ret (if bt = true then b else a))) { s with heap := h', toks := tk }) :
    codeAny (model prog w) A (.builtin "max.loop" ⟨[.ref I, .none, .ref S], []⟩) R s := by
  have hSI : S ∉ [I] := fun e => hSf (by simp at e; simp [e])
  have hname : (toString "max" ++ toString ".loop" : String) = "max.loop" := by decide
  -- the end
  have fin : ∀ (s₂ : Shared) (v : Value) (c : Nat), St 2 s₂.heap → s₂.heap.get? S = some { cls := .type "list", dict := none, data := .seq #[v, v] c, slots := #[] } → (∀ x o, g.get? x = some o → s₂.heap.get? x = some o) →
      (∀ h' tk, (∀ x o, g.get? x = some o → h'.get? x = some o) → R (.ok (.ret v)) { s₂ with heap := h', toks := tk }) →
      codeAny (model prog w) A (.builtin "max.loop" ⟨[.ref I, .none, .ref S], []⟩) R s₂ := by
    intro s₂ v c hst hS hg₂ hR
    refine codeAny_builtin PySem.F.entry_max_loop ?_
    rw [Around.under_plainId PySem.F.plain_max_loop _]
    show wpAny _ A.in1 (seqItems? (.ref S) >>= _) _ _ s₂
    refine wpAny_bind (wpAny_seqItems hS rfl ?_)
    show wpAny _ A.in1 (tryCatch (pyNext (.ref I)) _ >>= _) _ _ s₂
    refine wpAny_bind (wpAny_tryCatch (W.done s₂ _ _ hst fun h' tk hk' => ?_))
    have hS' := hk' S _ hSI hS
    show wpAny _ A.in1 (updateSeq S (fun _ => #[]) >>= _) _ _ _
    refine wpAny_bind ?_
    refine wpAny_updateSeq hS' rfl (wpAny_bind (wpAny_letGo (wpAny_pure ?_)))
    refine hR _ tk fun x o e => (Heap.get?_update_other _ _ (Ne.symm (hg x o e).2.1)).trans (hk' x o (hg x o e).2.2 (hg₂ x o e))
  -- the first item
  refine codeAny_builtin PySem.F.entry_max_loop ?_
  rw [Around.under_plainId PySem.F.plain_max_loop _]
  show wpAny _ A.in1 (seqItems? (.ref S) >>= _) _ _ _
  refine wpAny_bind (wpAny_seqItems hS rfl ?_)
  show wpAny _ A.in1 (tryCatch (pyNext (.ref I)) _ >>= _) _ _ _
  refine wpAny_bind (wpAny_tryCatch (W.item 0 _ _ _ (by decide) hst fun v1 h1 tk1 hP1 hst1 hk1 => ?_))
  have e1 : a = v1 := by simpa using hP1
  subst e1
  have hS1 := hk1 S _ hSI hS
  show wpAny _ A.in1 (updateSeq S (fun _ => #[a, a]) >>= _) _ _ _
  refine wpAny_bind ?_
  refine wpAny_updateSeq hS1 rfl ?_
  rw [hname]
  refine wpAny_pure ⟨plainId_quiet PySem.F.plain_max_loop _, ?_⟩
  have hS1' := Heap.get?_update_self (Obj.mapSeq fun _ => #[a, a]) hS1 rfl
  have hst1' : St 1 (h1.update S (Obj.mapSeq fun _ => #[a, a])) := W.frame _ _ _ hst1 fun x hx o e => (Heap.get?_update_other _ _ (fun h : S = x => hSf (by rw [h]; exact hx))).trans e
  have hg1 : ∀ x o, g.get? x = some o → (h1.update S (Obj.mapSeq fun _ => #[a, a])).get? x = some o := fun x o e => (Heap.get?_update_other _ _ (Ne.symm (hg x o e).2.1)).trans (hk1 x o (hg x o e).2.2 (hg x o e).1)
  -- the second item
  refine codeAny_builtin PySem.F.entry_max_loop ?_
  rw [Around.under_plainId PySem.F.plain_max_loop _]
  show wpAny _ A.in1 (seqItems? (.ref S) >>= _) _ _ _
  refine wpAny_bind (wpAny_seqItems hS1' rfl ?_)
  show wpAny _ A.in1 (tryCatch (pyNext (.ref I)) _ >>= _) _ _ _
  refine wpAny_bind (wpAny_tryCatch (W.item 1 _ _ _ (by decide) hst1' fun v2 h2 tk2 hP2 hst2 hk2 => ?_))
  have e2 : b = v2 := by simpa using hP2
  subst e2
  have hS2 := hk2 S _ hSI hS1'
  have hg2 : ∀ x o, g.get? x = some o → h2.get? x = some o := fun x o e => hk2 x o (hg x o e).2.2 (hg1 x o e)
  show wpAny _ A.in1 (tryCatch (holding [b, b] (richCompare .Gt b a >>= _)) _ >>= _) _ _ _
  refine wpAny_bind (wpAny_tryCatch (wpAny_holding (wpAny_bind (hcmp _ hg2 _ _ ?_))))
  refine wpAny_bind (wpAny_holding (wpAny_truthy_bool ?_))
  refine wpAny_bind (wpAny_letGo (wpAny_pure ?_))
  cases bt with
  | true =>
    simp only [if_true] at hR ⊢
    refine wpAny_bind ?_
    refine wpAny_updateSeq hS2 rfl (wpAny_bind (wpAny_letGo ?_))
    rw [hname]
    refine wpAny_pure ⟨plainId_quiet PySem.F.plain_max_loop _, fin _ b _ ?_ (Heap.get?_update_self _ hS2 rfl) ?_ fun h' tk hk => hR h' tk hk⟩
    · exact W.frame _ _ _ hst2 fun x hx o e => (Heap.get?_update_other _ _ (fun h : S = x => hSf (by rw [h]; exact hx))).trans e
    · exact fun x o e => (Heap.get?_update_other _ _ (Ne.symm (hg x o e).2.1)).trans (hg2 x o e)
  | false =>
    simp only [Bool.false_eq_true, if_false] at hR ⊢
    refine wpAny_bind (wpAny_letGo ?_)
    rw [hname]
    exact wpAny_pure ⟨plainId_quiet PySem.F.plain_max_loop _, fin _ a _ hst2 hS2 hg2 fun h' tk hk => hR h' tk hk⟩

theorem max_two_by {a b : Value} {bt : Bool} {Q : Value → Shared → Prop} (hh : A.handled = none)
    (hcmp : ∀ (s' : Shared), (∀ c o, s.heap.get? c = some o → s'.heap.get? c = some o) → ∀ (Q' E' : Value → Shared → Prop), Q' (.bool bt) s' → wpAny (model prog w) A.in1 (richCompare .Gt b a) Q' E' s')
    (h : ∀ h' tk, (∀ c o, s.heap.get? c = some o → h'.get? c = some o) → Q (if bt = true then b else a) { s with heap := h', toks := tk }) :
    wpAny (model prog w) A (call (.builtin "max") [a, b]) Q E s := by
  have hname : (toString "max" ++ toString ".loop" : String) = "max.loop" := by decide
  refine call_function_tree PySem.F.kind_max PySem.F.plain_max PySem.F.entry_max (PySem.F.args_max2 _ _) ?_
  show wpAny _ A.in1 (Builtin.Builtins.bindParams "max" ["key", "default"] 0 ⟨[], []⟩ >>= _) _ _ s
  refine wpAny_bind (wpAny_of_eq (show Builtin.Builtins.bindParams "max" ["key", "default"] 0 ⟨[], []⟩ = pure [none, none] from rfl) ?_)
  show wpAny _ A.in1 (newTuple [a, b] >>= _) _ _ s
  refine wpAny_bind (wpAny_newObj_type ?_)
  have hT : (s.heap.push { cls := .type "tuple", data := .seq #[a, b] }).IsTuple s.heap.objs.size #[a, b] := ⟨_, Heap.get?_push_size _ rfl, rfl, 0, rfl⟩
  have hsz : (s.heap.push { cls := .type "tuple", data := .seq #[a, b] }).objs.size = s.heap.objs.size + 1 := Heap.size_push ..
  refine wpAny_bind (wpAny_pyIter_tuple hT ?_)
  refine wpAny_bind (wpAny_newObj_type ?_)
  rw [hname]
  have hIT : s.heap.objs.size ≠ (s.heap.push { cls := .type "tuple", data := .seq #[a, b] }).objs.size := by rw [hsz]; exact Nat.ne_of_lt (Nat.lt_succ_self _)
  have W := Walks.tuple (prog := prog) (w := w) (A := A.in1) hh _ s.heap.objs.size hIT #[a, b]
  refine wpAny_pure ⟨plainId_quiet PySem.F.plain_max_loop _, max_loop2 s.heap _ W ?_ (W.frame _ _ _ ⟨⟨_, Heap.get?_push_size _ rfl, rfl, rfl⟩, hT.push _⟩ fun x _ o e => Heap.get?_push_of_some _ e) (Heap.get?_push_size _ rfl) ?_ hcmp fun h' tk hk => h h' tk hk⟩
  · rw [hsz]
    show ((s.heap.push { cls := .type "tuple", data := .seq #[a, b] }).push _).objs.size ∉ _
    rw [Heap.size_push _ _, hsz]
    intro e
    rcases List.mem_cons.mp e with e | e
    · exact absurd e (by omega)
    · exact absurd (List.mem_singleton.mp e) (by show ¬ (s.heap.objs.size + 1 + 1 = s.heap.objs.size); omega)
  · intro x o e
    have hl := ltN (Heap.lt_size e)
    refine ⟨Heap.get?_push_of_some _ (Heap.get?_push_of_some _ (Heap.get?_push_of_some _ e)), ?_, ?_⟩
    · show x ≠ ((s.heap.push _).push _).objs.size
      rw [Heap.size_push _ _, hsz]; exact Nat.ne_of_lt (ltN (by omega))
    · rw [hsz]
      intro e
      exact absurd (List.mem_singleton.mp e) (Nat.ne_of_lt (ltN (by omega)))

theorem min_loop2 {I T S : Addr} {a b : Value} {bt : Bool} {R : Result → Shared → Prop} {c : Nat} (g : Heap) (St : Nat → Heap → Prop)
    (W : Walks prog w A.in1 I [I, T] [I] 2 (fun i v => #[a, b][i]? = some v) St) (hSf : S ∉ [I, T]) (hst : St 0 s.heap)
    (hS : s.heap.get? S = some { cls := .type "list", dict := none, data := .seq #[] c, slots := #[] })
    (hg : ∀ x o, g.get? x = some o → s.heap.get? x = some o ∧ x ≠ S ∧ x ∉ [I])
    (hcmp : ∀ (s' : Shared), (∀ x o, g.get? x = some o → s'.heap.get? x = some o) → ∀ (Q' E' : Value → Shared → Prop), Q' (.bool bt) s' → wpAny (model prog w) A.in1 (richCompare .Lt b a) Q' E' s')
    (hR : ∀ h' tk, (∀ x o, g.get? x = some o → h'.get? x = some o) → R (.ok (.ret (if bt = true then b else a))) { s with heap := h', toks := tk }) :
    codeAny (model prog w) A (.builtin "min.loop" ⟨[.ref I, .none, .ref S], []⟩) R s := by
  have hSI : S ∉ [I] := fun e => hSf (by simp at e; simp [e])
  have hname : (toString "min" ++ toString ".loop" : String) = "min.loop" := by decide
  -- the end
  have fin : ∀ (s₂ : Shared) (v : Value) (c : Nat), St 2 s₂.heap → s₂.heap.get? S = some { cls := .type "list", dict := none, data := .seq #[v, v] c, slots := #[] } → (∀ x o, g.get? x = some o → s₂.heap.get? x = some o) →
      (∀ h' tk, (∀ x o, g.get? x = some o → h'.get? x = some o) → R (.ok (.ret v)) { s₂ with heap := h', toks := tk }) →
      codeAny (model prog w) A (.builtin "min.loop" ⟨[.ref I, .none, .ref S], []⟩) R s₂ := by
    intro s₂ v c hst hS hg₂ hR
    refine codeAny_builtin PySem.F.entry_min_loop ?_
    rw [Around.under_plainId PySem.F.plain_min_loop _]
    show wpAny _ A.in1 (seqItems? (.ref S) >>= _) _ _ s₂
    refine wpAny_bind (wpAny_seqItems hS rfl ?_)
    show wpAny _ A.in1 (tryCatch (pyNext (.ref I)) _ >>= _) _ _ s₂
    refine wpAny_bind (wpAny_tryCatch (W.done s₂ _ _ hst fun h' tk hk' => ?_))
    have hS' := hk' S _ hSI hS
    show wpAny _ A.in1 (updateSeq S (fun _ => #[]) >>= _) _ _ _
    refine wpAny_bind ?_
    refine wpAny_updateSeq hS' rfl (wpAny_bind (wpAny_letGo (wpAny_pure ?_)))
    refine hR _ tk fun x o e => (Heap.get?_update_other _ _ (Ne.symm (hg x o e).2.1)).trans (hk' x o (hg x o e).2.2 (hg₂ x o e))
  -- the first item
  refine codeAny_builtin PySem.F.entry_min_loop ?_
  rw [Around.under_plainId PySem.F.plain_min_loop _]
  show wpAny _ A.in1 (seqItems? (.ref S) >>= _) _ _ _
  refine wpAny_bind (wpAny_seqItems hS rfl ?_)
  show wpAny _ A.in1 (tryCatch (pyNext (.ref I)) _ >>= _) _ _ _
  refine wpAny_bind (wpAny_tryCatch (W.item 0 _ _ _ (by decide) hst fun v1 h1 tk1 hP1 hst1 hk1 => ?_))
  have e1 : a = v1 := by simpa using hP1
  subst e1
  have hS1 := hk1 S _ hSI hS
  show wpAny _ A.in1 (updateSeq S (fun _ => #[a, a]) >>= _) _ _ _
  refine wpAny_bind ?_
  refine wpAny_updateSeq hS1 rfl ?_
  rw [hname]
  refine wpAny_pure ⟨plainId_quiet PySem.F.plain_min_loop _, ?_⟩
  have hS1' := Heap.get?_update_self (Obj.mapSeq fun _ => #[a, a]) hS1 rfl
  have hst1' : St 1 (h1.update S (Obj.mapSeq fun _ => #[a, a])) := W.frame _ _ _ hst1 fun x hx o e => (Heap.get?_update_other _ _ (fun h : S = x => hSf (by rw [h]; exact hx))).trans e
  have hg1 : ∀ x o, g.get? x = some o → (h1.update S (Obj.mapSeq fun _ => #[a, a])).get? x = some o := fun x o e => (Heap.get?_update_other _ _ (Ne.symm (hg x o e).2.1)).trans (hk1 x o (hg x o e).2.2 (hg x o e).1)
  -- the second item
  refine codeAny_builtin PySem.F.entry_min_loop ?_
  rw [Around.under_plainId PySem.F.plain_min_loop _]
  show wpAny _ A.in1 (seqItems? (.ref S) >>= _) _ _ _
  refine wpAny_bind (wpAny_seqItems hS1' rfl ?_)
  show wpAny _ A.in1 (tryCatch (pyNext (.ref I)) _ >>= _) _ _ _
  refine wpAny_bind (wpAny_tryCatch (W.item 1 _ _ _ (by decide) hst1' fun v2 h2 tk2 hP2 hst2 hk2 => ?_))
  have e2 : b = v2 := by simpa using hP2
  subst e2
  have hS2 := hk2 S _ hSI hS1'
  have hg2 : ∀ x o, g.get? x = some o → h2.get? x = some o := fun x o e => hk2 x o (hg x o e).2.2 (hg1 x o e)
  show wpAny _ A.in1 (tryCatch (holding [b, b] (richCompare .Lt b a >>= _)) _ >>= _) _ _ _
  refine wpAny_bind (wpAny_tryCatch (wpAny_holding (wpAny_bind (hcmp _ hg2 _ _ ?_))))
  refine wpAny_bind (wpAny_holding (wpAny_truthy_bool ?_))
  refine wpAny_bind (wpAny_letGo (wpAny_pure ?_))
  cases bt with
  | true =>
    simp only [if_true] at hR ⊢
    refine wpAny_bind ?_
    refine wpAny_updateSeq hS2 rfl (wpAny_bind (wpAny_letGo ?_))
    rw [hname]
    refine wpAny_pure ⟨plainId_quiet PySem.F.plain_min_loop _, fin _ b _ ?_ (Heap.get?_update_self _ hS2 rfl) ?_ fun h' tk hk => hR h' tk hk⟩
    · exact W.frame _ _ _ hst2 fun x hx o e => (Heap.get?_update_other _ _ (fun h : S = x => hSf (by rw [h]; exact hx))).trans e
    · exact fun x o e => (Heap.get?_update_other _ _ (Ne.symm (hg x o e).2.1)).trans (hg2 x o e)
  | false =>
    simp only [Bool.false_eq_true, if_false] at hR ⊢
    refine wpAny_bind (wpAny_letGo ?_)
    rw [hname]
    exact wpAny_pure ⟨plainId_quiet PySem.F.plain_min_loop _, fin _ a _ hst2 hS2 hg2 fun h' tk hk => hR h' tk hk⟩

theorem min_two_by {a b : Value} {bt : Bool} {Q : Value → Shared → Prop} (hh : A.handled = none)
    (hcmp : ∀ (s' : Shared), (∀ c o, s.heap.get? c = some o → s'.heap.get? c = some o) → ∀ (Q' E' : Value → Shared → Prop), Q' (.bool bt) s' → wpAny (model prog w) A.in1 (richCompare .Lt b a) Q' E' s')
    (h : ∀ h' tk, (∀ c o, s.heap.get? c = some o → h'.get? c = some o) → Q (if bt = true then b else a) { s with heap := h', toks := tk }) :
    wpAny (model prog w) A (call (.builtin "min") [a, b]) Q E s := by
  have hname : (toString "min" ++ toString ".loop" : String) = "min.loop" := by decide
  refine call_function_tree PySem.F.kind_min PySem.F.plain_min PySem.F.entry_min (PySem.F.args_min2 _ _) ?_
  show wpAny _ A.in1 (Builtin.Builtins.bindParams "min" ["key", "default"] 0 ⟨[], []⟩ >>= _) _ _ s
  refine wpAny_bind (wpAny_of_eq (show Builtin.Builtins.bindParams "min" ["key", "default"] 0 ⟨[], []⟩ = pure [none, none] from rfl) ?_)
  show wpAny _ A.in1 (newTuple [a, b] >>= _) _ _ s
  refine wpAny_bind (wpAny_newObj_type ?_)
  have hT : (s.heap.push { cls := .type "tuple", data := .seq #[a, b] }).IsTuple s.heap.objs.size #[a, b] := ⟨_, Heap.get?_push_size _ rfl, rfl, 0, rfl⟩
  have hsz : (s.heap.push { cls := .type "tuple", data := .seq #[a, b] }).objs.size = s.heap.objs.size + 1 := Heap.size_push ..
  refine wpAny_bind (wpAny_pyIter_tuple hT ?_)
  refine wpAny_bind (wpAny_newObj_type ?_)
  rw [hname]
  have hIT : s.heap.objs.size ≠ (s.heap.push { cls := .type "tuple", data := .seq #[a, b] }).objs.size := by rw [hsz]; exact Nat.ne_of_lt (Nat.lt_succ_self _)
  have W := Walks.tuple (prog := prog) (w := w) (A := A.in1) hh _ s.heap.objs.size hIT #[a, b]
  refine wpAny_pure ⟨plainId_quiet PySem.F.plain_min_loop _, min_loop2 s.heap _ W ?_ (W.frame _ _ _ ⟨⟨_, Heap.get?_push_size _ rfl, rfl, rfl⟩, hT.push _⟩ fun x _ o e => Heap.get?_push_of_some _ e) (Heap.get?_push_size _ rfl) ?_ hcmp fun h' tk hk => h h' tk hk⟩
  · rw [hsz]
    show ((s.heap.push { cls := .type "tuple", data := .seq #[a, b] }).push _).objs.size ∉ _
    rw [Heap.size_push _ _, hsz]
    intro e
    rcases List.mem_cons.mp e with e | e
    · exact absurd e (by omega)
    · exact absurd (List.mem_singleton.mp e) (by show ¬ (s.heap.objs.size + 1 + 1 = s.heap.objs.size); omega)
  · intro x o e
    have hl := ltN (Heap.lt_size e)
    refine ⟨Heap.get?_push_of_some _ (Heap.get?_push_of_some _ (Heap.get?_push_of_some _ e)), ?_, ?_⟩
    · show x ≠ ((s.heap.push _).push _).objs.size
      rw [Heap.size_push _ _, hsz]; exact Nat.ne_of_lt (ltN (by omega))
    · rw [hsz]
      intro e
      exact absurd (List.mem_singleton.mp e) (Nat.ne_of_lt (ltN (by omega)))

theorem max_pair {x y : Addr} {a b c d : Int} {t1 t2 t3 t4 : Tok} {n k : Nat} {Q : Value → Shared → Prop} (hh : A.handled = none)
    (hx : s.heap.get? x = some (tupO [.int a t1, .int b t2] n)) (hy : s.heap.get? y = some (tupO [.int c t3, .int d t4] k)) (hu : A.units + 1 < cLine)
    (h : ∀ h' tk, (∀ c o, s.heap.get? c = some o → h'.get? c = some o) → Q (.ref (if ltP a b c d = true then y else x)) { s with heap := h', toks := tk }) :
    wpAny (model prog w) A (call (.builtin "max") [.ref x, .ref y]) Q E s := by
  refine max_two_by (bt := ltP a b c d) hh (fun s' hk Q' E' hq => gt_pair (hk _ _ hy) (hk _ _ hx) hu hq) fun h' tk hk => ?_
  have := h h' tk hk
  cases hb : ltP a b c d <;> simpa [hb] using this
theorem min_pair {x y : Addr} {a b c d : Int} {t1 t2 t3 t4 : Tok} {n k : Nat} {Q : Value → Shared → Prop} (hh : A.handled = none)
    (hx : s.heap.get? x = some (tupO [.int a t1, .int b t2] n)) (hy : s.heap.get? y = some (tupO [.int c t3, .int d t4] k)) (hu : A.units + 1 < cLine)
    (h : ∀ h' tk, (∀ c o, s.heap.get? c = some o → h'.get? c = some o) → Q (.ref (if ltP c d a b = true then y else x)) { s with heap := h', toks := tk }) :
    wpAny (model prog w) A (call (.builtin "min") [.ref x, .ref y]) Q E s := by
  refine min_two_by (bt := ltP c d a b) hh (fun s' hk Q' E' hq => lt_pair (hk _ _ hy) (hk _ _ hx) hu hq) fun h' tk hk => ?_
  have := h h' tk hk
  cases hb : ltP c d a b <;> simpa [hb] using this
end
end Mine

/- V1 -/
set_option maxRecDepth 100000
namespace Mine
theorem ltP_mon (y i j : Int) : ltP (y + i / 12) (i % 12 + 1) (y + j / 12) (j % 12 + 1) = decide (i < j) := by
  unfold ltP
  split
  · exact decide_eq_decide.mpr (by omega)
  · exact decide_eq_decide.mpr (by omega)
/-- the month j from January of y on, in the ledger -/
def MonIn (news : List (Addr × Obj)) (y : Int) (v : Value) (j : Int) : Prop := ∃ b t u n, v = .ref b ∧ (b, tupO [.int (y + j / 12) t, .int (j % 12 + 1) u] n) ∈ news
inductive MonsIn (news : List (Addr × Obj)) (y : Int) : List Value → List Int → Prop
  | nil : MonsIn news y [] []
  | cons {v : Value} {j : Int} {vs : List Value} {js : List Int} : MonIn news y v j → MonsIn news y vs js → MonsIn news y (v :: vs) (j :: js)
section
variable {news news' : List (Addr × Obj)} {y : Int} {v : Value} {j : Int} {vs ws : List Value} {js ks : List Int}
theorem MonIn.mono (h : MonIn news y v j) (hs : ∀ p ∈ news, p ∈ news') : MonIn news' y v j := by
  obtain ⟨b, t, u, n, e, hm⟩ := h
  exact ⟨b, t, u, n, e, hs _ hm⟩
theorem MonsIn.mono (h : MonsIn news y vs js) (hs : ∀ p ∈ news, p ∈ news') : MonsIn news' y vs js := by
  induction h with
  | nil => exact .nil
  | cons a _ ih => exact .cons (a.mono hs) ih
theorem MonsIn.length (h : MonsIn news y vs js) : vs.length = js.length := by
  induction h with
  | nil => rfl
  | cons _ _ ih => rw [List.length_cons, List.length_cons, ih]
theorem MonsIn.append (h : MonsIn news y vs js) (k : MonsIn news y ws ks) : MonsIn news y (vs ++ ws) (js ++ ks) := by
  induction h with
  | nil => exact k
  | cons a _ ih => exact .cons a ih
theorem MonsIn.take (h : MonsIn news y vs js) (n : Nat) : MonsIn news y (vs.take n) (js.take n) := by
  induction h generalizing n with
  | nil => simp; exact .nil
  | cons a _ ih =>
    cases n with
    | zero => exact .nil
    | succ n => exact .cons a (ih n)
theorem MonsIn.drop (h : MonsIn news y vs js) (n : Nat) : MonsIn news y (vs.drop n) (js.drop n) := by
  induction h generalizing n with
  | nil => simp; exact .nil
  | cons a r ih =>
    cases n with
    | zero => exact .cons a r
    | succ n => exact ih n
theorem MonsIn.get (h : MonsIn news y vs js) {n : Nat} (hn : n < js.length) : ∃ v, vs[n]? = some v ∧ MonIn news y v (js[n]'hn) := by
  induction h generalizing n with
  | nil => exact absurd hn (Nat.not_lt_zero _)
  | cons a r ih =>
    cases n with
    | zero => exact ⟨_, rfl, a⟩
    | succ n => exact ih (Nat.lt_of_succ_lt_succ hn)
/-- a list of the ledger turned: the months stay -/
theorem MonIn.upd {l : Addr} {o o' : Obj} {pre post : List (Addr × Obj)} (h : MonIn (pre ++ (l, o) :: post) y v j) (hc : o.cls ≠ .type "tuple") : MonIn (pre ++ (l, o') :: post) y v j := by
  obtain ⟨b, t, u, n, e, hm⟩ := h
  refine ⟨b, t, u, n, e, ?_⟩
  rcases List.mem_append.mp hm with hm | hm
  · exact List.mem_append.mpr (.inl hm)
  · rcases List.mem_cons.mp hm with hm | hm
    · have := (Prod.mk.inj hm).2
      exact absurd (by rw [← this]) hc
    · exact List.mem_append.mpr (.inr (.tail _ hm))
theorem MonsIn.upd {l : Addr} {o o' : Obj} {pre post : List (Addr × Obj)} (h : MonsIn (pre ++ (l, o) :: post) y vs js) (hc : o.cls ≠ .type "tuple") : MonsIn (pre ++ (l, o') :: post) y vs js := by
  induction h with
  | nil => exact .nil
  | cons a _ ih => exact .cons (a.upd hc) ih
/-- as the library's data -/
def monD (y j : Int) : Dat := .tuple [.int (y + j / 12), .int (j % 12 + 1)]
theorem MonIn.dat (h : MonIn news y v j) : DatIn news v (monD y j) := by
  obtain ⟨b, t, u, n, rfl, hm⟩ := h
  exact .tuple hm (.cons (.int _ _) (.cons (.int _ _) .nil))
theorem MonsIn.dat (h : MonsIn news y vs js) : DatAll news vs (js.map (monD y)) := by
  induction h with
  | nil => exact .nil
  | cons a _ ih => exact .cons a.dat ih
theorem MonIn.lt {h₀ h : Heap} {L : Addr} {w' : Value} {i : Int} {prog : Program} {w : World} {A : Around} {E : Value → Shared → Prop} {s : Shared} {Q : Value → Shared → Prop} (N : News h₀ L s.heap news) (a : MonIn news y v i) (b : MonIn news y w' j) (hu : A.units < cLine)
    (h : Q (.bool (decide (i < j))) s) : wpAny (model prog w) A (compareOp .Lt v w') Q E s := by
  obtain ⟨b1, t1, u1, n1, rfl, m1⟩ := a
  obtain ⟨b2, t2, u2, n2, rfl, m2⟩ := b
  exact lt_pair (N.get m1) (N.get m2) hu (by rw [ltP_mon]; exact h)
end
theorem monD_ok (y j : Int) : kqdOk 8 (monD y j) = true := by simp [monD, kqdOk]
theorem monD_inj {y i j : Int} (h : monD y i = monD y j) : i = j := by
  simp only [monD, Dat.tuple.injEq, List.cons.injEq, Dat.int.injEq, and_true] at h
  omega
theorem monD_map_inj {y : Int} : ∀ {is js : List Int}, is.map (monD y) = js.map (monD y) → is = js
  | [], [], _ => rfl
  | [], _ :: _, h => by simp at h
  | _ :: _, [], h => by simp at h
  | i :: is, j :: js, h => by
    simp only [List.map_cons, List.cons.injEq] at h
    rw [monD_inj h.1, monD_map_inj h.2]
end Mine

/- V2 -/
set_option maxRecDepth 100000
namespace Mine
/-- a goal at which the walk is to stop -/
def Hold (P : Prop) : Prop := P
theorem Hold.mk {P : Prop} (h : Hold P) : P := h
theorem Hold.intro {P : Prop} (h : P) : Hold P := h
section
variable {prog : Program} {w : World} {A : Around} {E : Value → Shared → Prop} {s : Shared} {h₀ : Heap} {L l : Addr} {news : List (Addr × Obj)} {us : List Value} {n : Nat} {Q : Value → Shared → Prop}
theorem len_led (N : News h₀ L s.heap news) (hm : (l, listOf us.toArray n) ∈ news) (hfit : us.length < 2 ^ 62)
    (h : ∀ t tk, Q (.int (us.length : Int) t) { s with toks := tk }) : wpAny (model prog w) A (call (.builtin "len") [.ref l]) Q E s := by
  have hl : s.heap.IsList l us.toArray := ⟨_, (N _ hm).1, rfl, n, rfl⟩
  refine len_list hl ?_ ?_
  · rw [List.size_toArray]; have : (2 : Int) ^ 63 = 2 * 2 ^ 62 := by decide
    have h2 : ((2 : Nat) ^ 62 : Nat) = 4611686018427387904 := by decide
    rw [h2] at hfit
    omega
  · rw [List.size_toArray]; exact h _ _
theorem item_led {value slice : PySem.Expr} {k : Int} {u : Tok} {v : Value} (N : News h₀ L s.heap news) (hm : (l, listOf us.toArray n) ∈ news) (h0 : 0 ≤ k) (hfit : k < 2 ^ 63) (hx : us[k.toNat]? = some v) (h : Q v s)
    (hs : subscripted slice false (.ref l) (.int k u) = operate [.ref l, .int k u] (getItem (.ref l) (.int k u)) := by with_unfolding_all rfl) :
    wpAny (model prog w) A (subscriptTail value slice (.ref l) (.int k u)) Q E s := by
  have hl : s.heap.IsList l us.toArray := ⟨_, (N _ hm).1, rfl, n, rfl⟩
  exact tail_any hl.typeIs slot_list_getitem.lookup (wpAny_getItem_list hl h0 hfit (by simpa using hx) h) hs
theorem slice_to (vs : List Value) (k : Nat) : (slicePick vs.toArray none (some (k : Int)) none).toList = vs.take k := by
  have e : sliceBounds none (some (k : Int)) none vs.toArray.size = (((0 : Nat) : Int), ((min k vs.toArray.size : Nat) : Int), 1) := by
    simp only [sliceBounds, Option.getD_none, show (1 : Int) > 0 by decide, if_true, if_neg (show ¬ ((k : Int) < 0) by omega)]
    congr 1
    congr 1
    omega
  rw [kmk_pick_nat _ e]
  simp only [List.drop_zero, Nat.sub_zero, List.size_toArray, kmk_take_min]
theorem slice_from (vs : List Value) (k : Nat) : (slicePick vs.toArray (some (k : Int)) none none).toList = vs.drop k := by
  have e : sliceBounds (some (k : Int)) none none vs.toArray.size = (((min k vs.toArray.size : Nat) : Int), ((vs.toArray.size : Nat) : Int), 1) := by
    simp only [sliceBounds, Option.getD_none, show (1 : Int) > 0 by decide, if_true, if_neg (show ¬ ((k : Int) < 0) by omega)]
    congr 1
    omega
  rw [kmk_pick_nat _ e]
  show (vs.drop (min k vs.toArray.size)).take (vs.toArray.size - min k vs.toArray.size) = _
  rw [List.size_toArray, kmk_drop_min, List.take_of_length_le (by rw [List.length_drop]; omega)]
theorem to_led {m : Str → Option Value} {value slice : PySem.Expr} {k : Nat} {t : Tok} (F : Fr h₀ L s.heap m) (N : News h₀ L s.heap news) (hm : (l, listOf us.toArray n) ∈ news) (hz : us.length ≤ 1000)
    (h : ∀ D h', Fr h₀ L h' m → News h₀ L h' ((D, listOf (us.take k).toArray 0) :: news) → (∀ p ∈ news, p.1 < D) → Q (.ref D) { s with heap := h' })
    (hs : subscripted slice false (.ref l) (.ref s.heap.objs.size) = operate [.ref s.heap.objs.size, .ref l] (getItem (.ref l) (.ref s.heap.objs.size)) := by with_unfolding_all rfl) (ht : ∀ r, letTemporaryGo value (.ref l) r = pure () := by intro _; with_unfolding_all rfl) :
    wpAny (model prog w) A (subscriptTail value slice (.ref l) (.ref s.heap.objs.size)) Q E { s with heap := s.heap.push { cls := .type "slice", data := .fields #[.none, .int (k : Int) t, .none] } } :=
  kmk_slice_lit F N (its := us.toArray) ⟨_, (N _ hm).1, rfl, n, rfl⟩ .none (.int _ _) (slice_to us k) h hs ht (by rw [List.size_toArray]; exact Nat.le_trans hz (by decide))
theorem from_led {m : Str → Option Value} {value slice : PySem.Expr} {k : Nat} {t : Tok} (F : Fr h₀ L s.heap m) (N : News h₀ L s.heap news) (hm : (l, listOf us.toArray n) ∈ news) (hz : us.length ≤ 1000)
    (h : ∀ D h', Fr h₀ L h' m → News h₀ L h' ((D, listOf (us.drop k).toArray 0) :: news) → (∀ p ∈ news, p.1 < D) → Q (.ref D) { s with heap := h' })
    (hs : subscripted slice false (.ref l) (.ref s.heap.objs.size) = operate [.ref s.heap.objs.size, .ref l] (getItem (.ref l) (.ref s.heap.objs.size)) := by with_unfolding_all rfl) (ht : ∀ r, letTemporaryGo value (.ref l) r = pure () := by intro _; with_unfolding_all rfl) :
    wpAny (model prog w) A (subscriptTail value slice (.ref l) (.ref s.heap.objs.size)) Q E { s with heap := s.heap.push { cls := .type "slice", data := .fields #[.int (k : Int) t, .none, .none] } } :=
  kmk_slice_lit F N (its := us.toArray) ⟨_, (N _ hm).1, rfl, n, rfl⟩ (.int _ _) .none (slice_from us k) h hs ht (by rw [List.size_toArray]; exact Nat.le_trans hz (by decide))
theorem add_led {m : Str → Option Value} {b : Addr} {ws : List Value} {k : Nat} (F : Fr h₀ L s.heap m) (N : News h₀ L s.heap news) (hm : (l, listOf us.toArray n) ∈ news) (hb : (b, listOf ws.toArray k) ∈ news) (hz : us.length + ws.length ≤ 10000)
    (h : ∀ D h', Fr h₀ L h' m → News h₀ L h' ((D, listOf (us ++ ws).toArray 0) :: news) → (∀ p ∈ news, p.1 < D) → Q (.ref D) { s with heap := h' }) :
    wpAny (model prog w) A (binaryOp .Add (.ref l) (.ref b)) Q E s :=
  add_lists (hsz := Nat.le_trans hz (by decide)) F N ⟨_, (N _ hm).1, rfl, n, rfl⟩ ⟨_, (N _ hb).1, rfl, k, rfl⟩ fun h' F' N' => h _ h' F' N' fun p hp => Heap.lt_size (N p hp).1
theorem min_mon {nb : List (Addr × Obj)} {m : Str → Option Value} {y i j : Int} {a b : Addr} {t1 t2 t3 t4 : Tok} {n1 n2 : Nat} (hh : A.handled = none) (F : Fr h₀ L s.heap m) (N : News h₀ L s.heap news) (ha : (a, tupO [.int (y + i / 12) t1, .int (i % 12 + 1) t2] n1) ∈ nb) (hb : (b, tupO [.int (y + j / 12) t3, .int (j % 12 + 1) t4] n2) ∈ nb) (hs : ∀ p ∈ nb, p ∈ news) (hu : A.units + 1 < cLine)
    (h : ∀ D f h' tk, Fr h₀ L h' m → News h₀ L h' news → MonIn nb y (.ref D) f → f = (if j < i then j else i) → Q (.ref D) { s with heap := h', toks := tk }) : wpAny (model prog w) A (call (.builtin "min") [.ref a, .ref b]) Q E s := by
  refine min_pair hh (N.get (hs _ ha)) (N.get (hs _ hb)) hu fun h' tk hk => ?_
  rw [ltP_mon]
  refine h _ (if j < i then j else i) h' tk (F.grownK hk) (N.grown hk) ?_ rfl
  by_cases e : j < i
  · simp only [e, decide_true, if_true]; exact ⟨b, t3, t4, n2, rfl, hb⟩
  · simp only [e, decide_false, Bool.false_eq_true, if_false]; exact ⟨a, t1, t2, n1, rfl, ha⟩
theorem max_mon {nb : List (Addr × Obj)} {m : Str → Option Value} {y i j : Int} {a b : Addr} {t1 t2 t3 t4 : Tok} {n1 n2 : Nat} (hh : A.handled = none) (F : Fr h₀ L s.heap m) (N : News h₀ L s.heap news) (ha : (a, tupO [.int (y + i / 12) t1, .int (i % 12 + 1) t2] n1) ∈ nb) (hb : (b, tupO [.int (y + j / 12) t3, .int (j % 12 + 1) t4] n2) ∈ nb) (hs : ∀ p ∈ nb, p ∈ news) (hu : A.units + 1 < cLine)
    (h : ∀ D f h' tk, Fr h₀ L h' m → News h₀ L h' news → MonIn nb y (.ref D) f → f = (if i < j then j else i) → Q (.ref D) { s with heap := h', toks := tk }) : wpAny (model prog w) A (call (.builtin "max") [.ref a, .ref b]) Q E s := by
  refine max_pair hh (N.get (hs _ ha)) (N.get (hs _ hb)) hu fun h' tk hk => ?_
  rw [ltP_mon]
  refine h _ (if i < j then j else i) h' tk (F.grownK hk) (N.grown hk) ?_ rfl
  by_cases e : i < j
  · simp only [e, decide_true, if_true]; exact ⟨b, t3, t4, n2, rfl, hb⟩
  · simp only [e, decide_false, Bool.false_eq_true, if_false]; exact ⟨a, t1, t2, n1, rfl, ha⟩
theorem tuple_led {m : Str → Option Value} (F : Fr h₀ L s.heap m) (N : News h₀ L s.heap news) (hz : us.length ≤ 1000)
    (h : ∀ D h', Fr h₀ L h' m → News h₀ L h' ((D, tupO us 0) :: news) → (∀ p ∈ news, p.1 < D) → Q (.ref D) { s with heap := h' }) : wpAny (model prog w) A (newTuple us) Q E s :=
  newTuple_N F N (fun h' F' N' => h _ h' F' N' fun p hp => Heap.lt_size (N p hp).1) (Nat.le_trans hz (by decide))
/-- an expression that gives an int and changes nothing that counts -/
theorem keep_int {m : Str → Option Value} {M : Model} {e : Sem Value} (_F : Fr h₀ L s.heap m) (_N : News h₀ L s.heap news) (h : wpAny M A e (fun v s' => ∃ (y : Int) (t : Tok) (h' : Heap) (tk : Nat), v = .int y t ∧ s' = { s with heap := h', toks := tk } ∧ Fr h₀ L h' m ∧ News h₀ L h' news) E s)
    (k : ∀ y t h' tk, Fr h₀ L h' m → News h₀ L h' news → Q (.int y t) { s with heap := h', toks := tk }) : wpAny M A e Q E s :=
  wpAny_mono h (fun _ _ ⟨y, t, h', tk, e1, e2, F, N⟩ => by subst e1; subst e2; exact k y t h' tk F N) fun _ _ x => x
theorem drop_led {h : Heap} {news' : List (Addr × Obj)} (N : News h₀ L h news') (hs : ∀ p ∈ news, p ∈ news') : News h₀ L h news := fun p hp => N p (hs p hp)
end
end Mine

/- P1 -/
namespace Mine
abbrev Iv := Int × Int
/-- stretches in order, a month free between two -/
def Norm (ivs : List Iv) : Prop := ivs.Pairwise (fun p q => p.2 + 1 < q.1) ∧ ∀ p ∈ ivs, p.1 ≤ p.2
def Held (ivs : List Iv) (k : Int) : Prop := ∃ p ∈ ivs, p.1 ≤ k ∧ k ≤ p.2
/-- where a month is laid in: the place k, all ahead of it below, all behind it not -/
def Cut (js : List Int) (lo hi : Int → Prop) (k : Nat) : Prop := k ≤ js.length ∧ (∀ j ∈ js.take k, lo j) ∧ ∀ j ∈ js.drop k, hi j

theorem Norm.firsts {ivs : List Iv} (h : Norm ivs) : (ivs.map (·.1)).Pairwise (· < ·) := by
  refine List.pairwise_map.mpr (List.Pairwise.imp_of_mem (fun {a b} ha hb r => ?_) h.1)
  have := h.2 a ha
  omega
theorem Norm.lasts {ivs : List Iv} (h : Norm ivs) : (ivs.map (·.2)).Pairwise (· < ·) := by
  refine List.pairwise_map.mpr (List.Pairwise.imp_of_mem (fun {a b} ha hb r => ?_) h.1)
  have := h.2 b hb
  omega
theorem Norm.nil : Norm [] := ⟨List.Pairwise.nil, fun _ h => nomatch h⟩
theorem Held.nil {k : Int} : ¬ Held [] k := fun ⟨_, h, _⟩ => nomatch h
theorem Held.append {a b : List Iv} {k : Int} : Held (a ++ b) k ↔ Held a k ∨ Held b k := by
  constructor
  · rintro ⟨p, hp, r⟩
    rcases List.mem_append.mp hp with hp | hp
    · exact .inl ⟨p, hp, r⟩
    · exact .inr ⟨p, hp, r⟩
  · rintro (⟨p, hp, r⟩ | ⟨p, hp, r⟩)
    · exact ⟨p, List.mem_append.mpr (.inl hp), r⟩
    · exact ⟨p, List.mem_append.mpr (.inr hp), r⟩
theorem Held.cons {p : Iv} {b : List Iv} {k : Int} : Held (p :: b) k ↔ (p.1 ≤ k ∧ k ≤ p.2) ∨ Held b k := by
  constructor
  · rintro ⟨q, hq, r⟩
    rcases List.mem_cons.mp hq with rfl | hq
    · exact .inl r
    · exact .inr ⟨q, hq, r⟩
  · rintro (r | ⟨q, hq, r⟩)
    · exact ⟨p, .head _, r⟩
    · exact ⟨q, .tail _ hq, r⟩
/-- the place in a row cut in two -/
theorem Cut.at {xs ys : List Int} {lo hi : Int → Prop} {k : Nat} (h : Cut (xs ++ ys) lo hi k) (ex : ∀ j, lo j → ¬ hi j) (hx : ∀ j ∈ xs, lo j) (hy : ∀ j ∈ ys, hi j) : k = xs.length := by
  obtain ⟨h0, h1, h2⟩ := h
  rcases Nat.lt_trichotomy k xs.length with e | e | e
  · exfalso
    have hm : xs[k] ∈ (xs ++ ys).drop k := by
      rw [List.drop_append_of_le_length (Nat.le_of_lt e)]
      refine List.mem_append.mpr (.inl ?_)
      rw [List.drop_eq_getElem_cons e]
      exact .head _
    exact ex _ (hx _ (List.getElem_mem e)) (h2 _ hm)
  · exact e
  · exfalso
    rw [List.length_append] at h0
    have hl : 0 < ys.length := by omega
    have hm : ys[0] ∈ (xs ++ ys).take k := by
      rw [List.take_append]
      refine List.mem_append.mpr (.inr ?_)
      obtain ⟨m, hm⟩ : ∃ m, k - xs.length = m + 1 := ⟨k - xs.length - 1, by omega⟩
      rw [hm]
      cases ys with
      | nil => simp at hl
      | cons a r => exact .head _
    exact ex _ (h1 _ hm) (hy _ (List.getElem_mem hl))
theorem Cut.map {ivs : List Iv} {f : Iv → Int} {lo hi : Int → Prop} {k : Nat} (h : Cut (ivs.map f) lo hi k) : k ≤ ivs.length ∧ (∀ p ∈ ivs.take k, lo (f p)) ∧ ∀ p ∈ ivs.drop k, hi (f p) := by
  obtain ⟨h0, h1, h2⟩ := h
  rw [List.length_map] at h0
  refine ⟨h0, fun p hp => h1 _ ?_, fun p hp => h2 _ ?_⟩
  · rw [← List.map_take]; exact List.mem_map_of_mem hp
  · rw [← List.map_drop]; exact List.mem_map_of_mem hp
/-- the row: what lies ahead of low, what lies between, what lies from high on -/
theorem row_split {α : Type} (l : List α) {lo hi : Nat} (h : lo ≤ hi) : l = l.take lo ++ ((l.take hi).drop lo ++ l.drop hi) := by
  rw [← List.append_assoc]
  have : l.take lo = (l.take hi).take lo := by rw [List.take_take, Nat.min_eq_left h]
  rw [this, List.take_append_drop, List.take_append_drop]
/-- two rows joined -/
theorem Norm.append {a b : List Iv} (ha : Norm a) (hb : Norm b) (h : ∀ p ∈ a, ∀ q ∈ b, p.2 + 1 < q.1) : Norm (a ++ b) :=
  ⟨List.pairwise_append.mpr ⟨ha.1, hb.1, h⟩, fun p hp => (List.mem_append.mp hp).elim (ha.2 p) (hb.2 p)⟩
theorem Norm.cons {p : Iv} {b : List Iv} (hp : p.1 ≤ p.2) (hb : Norm b) (h : ∀ q ∈ b, p.2 + 1 < q.1) : Norm (p :: b) :=
  ⟨List.pairwise_cons.mpr ⟨h, hb.1⟩, fun q hq => (List.mem_cons.mp hq).elim (fun e => e ▸ hp) (hb.2 q)⟩
theorem Norm.take {a : List Iv} (h : Norm a) (n : Nat) : Norm (a.take n) := ⟨h.1.sublist (List.take_sublist _ _), fun p hp => h.2 p (List.mem_of_mem_take hp)⟩
theorem Norm.drop {a : List Iv} (h : Norm a) (n : Nat) : Norm (a.drop n) := ⟨h.1.sublist (List.drop_sublist _ _), fun p hp => h.2 p (List.mem_of_mem_drop hp)⟩
/-- places of the row -/
theorem Norm.lt {a : List Iv} (h : Norm a) {i j : Nat} (hj : j < a.length) (hij : i < j) : (a[i]'(Nat.lt_trans hij hj)).2 + 1 < a[j].1 := List.pairwise_iff_getElem.mp h.1 i j _ hj hij
theorem mem_take_get {α : Type} {l : List α} {n : Nat} {x : α} (h : x ∈ l.take n) : ∃ i, ∃ hi : i < l.length, i < n ∧ l[i] = x := by
  obtain ⟨i, hi, e⟩ := List.getElem_of_mem h
  rw [List.length_take] at hi
  rw [List.getElem_take] at e
  exact ⟨i, by omega, by omega, e⟩
theorem mem_drop_get {α : Type} {l : List α} {n : Nat} {x : α} (h : x ∈ l.drop n) : ∃ i, ∃ hi : i < l.length, n ≤ i ∧ l[i] = x := by
  obtain ⟨i, hi, e⟩ := List.getElem_of_mem h
  rw [List.length_drop] at hi
  rw [List.getElem_drop] at e
  exact ⟨n + i, by omega, by omega, e⟩
theorem get_mem_take {α : Type} {l : List α} {n i : Nat} (hi : i < l.length) (h : i < n) : l[i] ∈ l.take n :=
  List.mem_iff_getElem.mpr ⟨i, by rw [List.length_take]; omega, by rw [List.getElem_take]⟩
theorem get_mem_drop {α : Type} {l : List α} {n i : Nat} (hi : i < l.length) (h : n ≤ i) : l[i] ∈ l.drop n :=
  List.mem_iff_getElem.mpr ⟨i - n, by rw [List.length_drop]; omega, by rw [List.getElem_drop]; congr 1; omega⟩
theorem held_get {ivs : List Iv} {k : Int} : Held ivs k ↔ ∃ i, ∃ h : i < ivs.length, ivs[i].1 ≤ k ∧ k ≤ ivs[i].2 := by
  constructor
  · rintro ⟨p, hp, r⟩
    obtain ⟨i, hi, rfl⟩ := List.getElem_of_mem hp
    exact ⟨i, hi, r⟩
  · rintro ⟨i, hi, r⟩
    exact ⟨_, List.getElem_mem hi, r⟩

section put
variable {ivs : List Iv} {b e : Int} {low high : Nat}
/-- put in: the places -/
structure PutAt (ivs : List Iv) (b e : Int) (low high : Nat) : Prop where
  norm : Norm ivs
  le : b ≤ e
  l0 : low ≤ ivs.length
  l1 : ∀ i, ∀ h : i < ivs.length, i < low → ivs[i].2 < b - 1
  l2 : ∀ i, ∀ h : i < ivs.length, low ≤ i → b - 1 ≤ ivs[i].2
  h0 : high ≤ ivs.length
  h1 : ∀ i, ∀ h : i < ivs.length, i < high → ivs[i].1 ≤ e + 1
  h2 : ∀ i, ∀ h : i < ivs.length, high ≤ i → e + 1 < ivs[i].1
theorem PutAt.of (hn : Norm ivs) (hbe : b ≤ e) (hl : Cut (ivs.map (·.2)) (fun j => j < b - 1) (fun j => b - 1 ≤ j) low) (hh : Cut (ivs.map (·.1)) (fun j => j ≤ e + 1) (fun j => e + 1 < j) high) : PutAt ivs b e low high := by
  obtain ⟨a0, a1, a2⟩ := hl.map
  obtain ⟨c0, c1, c2⟩ := hh.map
  exact ⟨hn, hbe, a0, fun i h k => a1 _ (get_mem_take h k), fun i h k => a2 _ (get_mem_drop h k), c0, fun i h k => c1 _ (get_mem_take h k), fun i h k => c2 _ (get_mem_drop h k)⟩
/-- the row with a stretch laid in between -/
def mid (ivs : List Iv) (low high : Nat) (ms : List Iv) : List Iv := ivs.take low ++ (ms ++ ivs.drop high)
theorem held_mid {ivs : List Iv} {low high : Nat} {ms : List Iv} {k : Int} : Held (mid ivs low high ms) k ↔ (∃ i, ∃ h : i < ivs.length, i < low ∧ ivs[i].1 ≤ k ∧ k ≤ ivs[i].2) ∨ Held ms k ∨ ∃ i, ∃ h : i < ivs.length, high ≤ i ∧ ivs[i].1 ≤ k ∧ k ≤ ivs[i].2 := by
  unfold mid
  rw [Held.append, Held.append]
  constructor
  · rintro (⟨p, hp, r⟩ | h | ⟨p, hp, r⟩)
    · obtain ⟨i, hi, hl, rfl⟩ := mem_take_get hp; exact .inl ⟨i, hi, hl, r⟩
    · exact .inr (.inl h)
    · obtain ⟨i, hi, hl, rfl⟩ := mem_drop_get hp; exact .inr (.inr ⟨i, hi, hl, r⟩)
  · rintro (⟨i, hi, hl, r⟩ | h | ⟨i, hi, hl, r⟩)
    · exact .inl ⟨_, get_mem_take hi hl, r⟩
    · exact .inr (.inl h)
    · exact .inr (.inr ⟨_, get_mem_drop hi hl, r⟩)
theorem norm_mid {ivs : List Iv} {low high : Nat} {ms : List Iv} (hn : Norm ivs) (hlh : low ≤ high) (hm : Norm ms) (h1 : ∀ i, ∀ h : i < ivs.length, i < low → ∀ q ∈ ms, ivs[i].2 + 1 < q.1) (h2 : ∀ i, ∀ h : i < ivs.length, high ≤ i → ∀ q ∈ ms, q.2 + 1 < ivs[i].1) : Norm (mid ivs low high ms) := by
  refine (hn.take low).append (hm.append (hn.drop high) fun p hp q hq => ?_) fun p hp q hq => ?_
  · obtain ⟨i, hi, hl, rfl⟩ := mem_drop_get hq; exact h2 i hi hl p hp
  · obtain ⟨i, hi, hl, rfl⟩ := mem_take_get hp
    rcases List.mem_append.mp hq with hq | hq
    · exact h1 i hi hl q hq
    · obtain ⟨j, hj, hm', rfl⟩ := mem_drop_get hq
      exact hn.lt hj (by omega)
theorem PutAt.not_lt (h : PutAt ivs b e low high) (hlt : ¬ low < high) : low = high := by
  rcases Nat.lt_or_ge high low with q | q
  · exfalso
    have hl := h.l0
    have hi : high < ivs.length := by omega
    have a := h.l1 high hi q
    have c := h.h2 high hi (Nat.le_refl _)
    have d := h.norm.2 _ (List.getElem_mem hi)
    have := h.le
    omega
  · omega
/-- what is put in, no stretch touched -/
theorem PutAt.new (h : PutAt ivs b e low high) (hlt : ¬ low < high) : Norm (mid ivs low high [(b, e)]) ∧ ∀ k, Held (mid ivs low high [(b, e)]) k ↔ Held ivs k ∨ (b ≤ k ∧ k ≤ e) := by
  have heq := h.not_lt hlt
  have hbe := h.le
  refine ⟨norm_mid h.norm (by omega) (Norm.cons hbe .nil fun _ hq => nomatch hq) (fun i hi hl q hq => ?_) (fun i hi hl q hq => ?_), fun k => ?_⟩
  · obtain rfl := List.mem_singleton.mp hq
    have := h.l1 i hi hl
    dsimp only; omega
  · obtain rfl := List.mem_singleton.mp hq
    have := h.h2 i hi hl
    dsimp only; omega
  · rw [held_mid, Held.cons, held_get (ivs := ivs)]
    constructor
    · rintro (⟨i, hi, hl, r⟩ | (r | r) | ⟨i, hi, hl, r⟩)
      · exact .inl ⟨i, hi, r⟩
      · exact .inr r
      · exact absurd r Held.nil
      · exact .inl ⟨i, hi, r⟩
    · rintro (⟨i, hi, r⟩ | r)
      · rcases Nat.lt_or_ge i low with q | q
        · exact .inl ⟨i, hi, q, r⟩
        · exact .inr (.inr ⟨i, hi, by omega, r⟩)
      · exact .inr (.inl (.inl r))
/-- what is put in, joined with what it touches -/
theorem PutAt.join (h : PutAt ivs b e low high) (hlt : low < high) (f l : Int) (hl' : low < ivs.length) (hh' : high - 1 < ivs.length) (hf : f = if ivs[low].1 < b then ivs[low].1 else b) (hl : l = if e < ivs[high - 1].2 then ivs[high - 1].2 else e) :
    Norm (mid ivs low high [(f, l)]) ∧ ∀ k, Held (mid ivs low high [(f, l)]) k ↔ Held ivs k ∨ (b ≤ k ∧ k ≤ e) := by
  have hbe := h.le
  have hfb : f ≤ b ∧ f ≤ ivs[low].1 ∧ (f = b ∨ f = ivs[low].1) := by rw [hf]; split <;> omega
  have hle : e ≤ l ∧ ivs[high - 1].2 ≤ l ∧ (l = e ∨ l = ivs[high - 1].2) := by rw [hl]; split <;> omega
  refine ⟨norm_mid h.norm (by omega) (Norm.cons (by dsimp only; omega) .nil fun _ hq => nomatch hq) (fun i hi hi2 q hq => ?_) (fun i hi hi2 q hq => ?_), fun k => ?_⟩
  · obtain rfl := List.mem_singleton.mp hq
    have a := h.l1 i hi hi2
    have c := h.norm.lt hl' hi2
    dsimp only; omega
  · obtain rfl := List.mem_singleton.mp hq
    have a := h.h2 i hi hi2
    have c := h.norm.lt (i := high - 1) hi (by omega)
    dsimp only; omega
  · rw [held_mid, Held.cons, held_get (ivs := ivs)]
    constructor
    · rintro (⟨i, hi, hl, r⟩ | (r | r) | ⟨i, hi, hl, r⟩)
      · exact .inl ⟨i, hi, r⟩
      · dsimp only at r
        by_cases h1 : k < b
        · left
          refine ⟨low, hl', by omega, ?_⟩
          have := h.l2 low hl' (Nat.le_refl _)
          omega
        · by_cases h2 : e < k
          · left
            refine ⟨high - 1, hh', ?_, by omega⟩
            have := h.h1 (high - 1) hh' (by omega)
            omega
          · right; omega
      · exact absurd r Held.nil
      · exact .inl ⟨i, hi, r⟩
    · rintro (⟨i, hi, r⟩ | r)
      · rcases Nat.lt_or_ge i low with q | q
        · exact .inl ⟨i, hi, q, r⟩
        · rcases Nat.lt_or_ge i high with q2 | q2
          · refine .inr (.inl (.inl ?_))
            dsimp only
            have c1 : ivs[low].1 ≤ ivs[i].1 := by
              rcases Nat.lt_or_ge low i with z | z
              · have := h.norm.lt hi z; have := h.norm.2 _ (List.getElem_mem hl'); omega
              · have : low = i := by omega
                subst this; exact Int.le_refl _
            have c2 : ivs[i].2 ≤ ivs[high - 1].2 := by
              rcases Nat.lt_or_ge i (high - 1) with z | z
              · have := h.norm.lt hh' z; have := h.norm.2 _ (List.getElem_mem hh'); omega
              · have : i = high - 1 := by omega
                subst this; exact Int.le_refl _
            omega
          · exact .inr (.inr ⟨i, hi, q2, r⟩)
      · refine .inr (.inl (.inl ?_))
        dsimp only; omega
end put

section take
variable {ivs : List Iv} {b e : Int} {low high : Nat}
/-- taken out: the places -/
structure TakeAt (ivs : List Iv) (b e : Int) (low high : Nat) : Prop where
  norm : Norm ivs
  le : b ≤ e
  l0 : low ≤ ivs.length
  l1 : ∀ i, ∀ h : i < ivs.length, i < low → ivs[i].2 < b
  l2 : ∀ i, ∀ h : i < ivs.length, low ≤ i → b ≤ ivs[i].2
  h0 : high ≤ ivs.length
  h1 : ∀ i, ∀ h : i < ivs.length, i < high → ivs[i].1 ≤ e
  h2 : ∀ i, ∀ h : i < ivs.length, high ≤ i → e < ivs[i].1
theorem TakeAt.of (hn : Norm ivs) (hbe : b ≤ e) (hl : Cut (ivs.map (·.2)) (fun j => j < b) (fun j => b ≤ j) low) (hh : Cut (ivs.map (·.1)) (fun j => j ≤ e) (fun j => e < j) high) : TakeAt ivs b e low high := by
  obtain ⟨a0, a1, a2⟩ := hl.map
  obtain ⟨c0, c1, c2⟩ := hh.map
  exact ⟨hn, hbe, a0, fun i h k => a1 _ (get_mem_take h k), fun i h k => a2 _ (get_mem_drop h k), c0, fun i h k => c1 _ (get_mem_take h k), fun i h k => c2 _ (get_mem_drop h k)⟩
theorem TakeAt.none (h : TakeAt ivs b e low high) (hlt : ¬ low < high) : ∀ k, Held ivs k ↔ Held ivs k ∧ ¬ (b ≤ k ∧ k ≤ e) := by
  intro k
  refine ⟨fun hk => ⟨hk, ?_⟩, fun hk => hk.1⟩
  obtain ⟨i, hi, r⟩ := held_get.mp hk
  rcases Nat.lt_or_ge i low with q | q
  · have := h.l1 i hi q; omega
  · have := h.h2 i hi (by omega); omega
/-- what is left of the stretches that are met -/
def rest (B E b e : Int) : List Iv := (if B < b then [(B, b - 1)] else []) ++ (if e < E then [(e + 1, E)] else [])
theorem mem_rest {B E b e : Int} {q : Iv} (h : q ∈ rest B E b e) : (B < b ∧ q = (B, b - 1)) ∨ (e < E ∧ q = (e + 1, E)) := by
  unfold rest at h
  rcases List.mem_append.mp h with h | h
  · split at h
    · exact .inl ⟨by assumption, List.mem_singleton.mp h⟩
    · exact nomatch h
  · split at h
    · exact .inr ⟨by assumption, List.mem_singleton.mp h⟩
    · exact nomatch h
theorem held_rest {B E b e k : Int} : Held (rest B E b e) k ↔ (B ≤ k ∧ k ≤ b - 1) ∨ (e + 1 ≤ k ∧ k ≤ E) := by
  unfold rest
  rw [Held.append]
  constructor
  · rintro (h | h)
    · split at h
      · obtain h | h := Held.cons.mp h
        · exact .inl h
        · exact absurd h Held.nil
      · exact absurd h Held.nil
    · split at h
      · obtain h | h := Held.cons.mp h
        · exact .inr h
        · exact absurd h Held.nil
      · exact absurd h Held.nil
  · rintro (h | h)
    · left
      rw [if_pos (by omega)]
      exact Held.cons.mpr (.inl h)
    · right
      rw [if_pos (by omega)]
      exact Held.cons.mpr (.inl h)
theorem norm_rest {B E b e : Int} (hbe : b ≤ e) : Norm (rest B E b e) := by
  unfold rest
  refine Norm.append ?_ ?_ ?_
  · split
    · exact Norm.cons (by dsimp only; omega) .nil fun _ hq => nomatch hq
    · exact .nil
  · split
    · exact Norm.cons (by dsimp only; omega) .nil fun _ hq => nomatch hq
    · exact .nil
  · intro p hp q hq
    split at hp
    · split at hq
      · obtain rfl := List.mem_singleton.mp hp
        obtain rfl := List.mem_singleton.mp hq
        dsimp only; omega
      · exact nomatch hq
    · exact nomatch hp
theorem TakeAt.cut (h : TakeAt ivs b e low high) (hlt : low < high) (hl' : low < ivs.length) (hh' : high - 1 < ivs.length) :
    Norm (mid ivs low high (rest ivs[low].1 ivs[high - 1].2 b e)) ∧ ∀ k, Held (mid ivs low high (rest ivs[low].1 ivs[high - 1].2 b e)) k ↔ Held ivs k ∧ ¬ (b ≤ k ∧ k ≤ e) := by
  have hbe := h.le
  have hl2 := h.l2 low hl' (Nat.le_refl _)
  have hh1 := h.h1 (high - 1) hh' (by omega)
  have nl := h.norm.2 _ (List.getElem_mem hl')
  have nh := h.norm.2 _ (List.getElem_mem hh')
  refine ⟨norm_mid h.norm (by omega) (norm_rest hbe) (fun i hi hi2 q hq => ?_) (fun i hi hi2 q hq => ?_), fun k => ?_⟩
  · have a := h.l1 i hi hi2
    have c := h.norm.lt hl' hi2
    rcases mem_rest hq with ⟨_, rfl⟩ | ⟨_, rfl⟩
    · dsimp only; omega
    · dsimp only; omega
  · have a := h.h2 i hi hi2
    have c := h.norm.lt (i := high - 1) hi (by omega)
    rcases mem_rest hq with ⟨_, rfl⟩ | ⟨_, rfl⟩
    · dsimp only; omega
    · dsimp only; omega
  · rw [held_mid, held_rest, held_get (ivs := ivs)]
    constructor
    · rintro (⟨i, hi, hl, r⟩ | (r | r) | ⟨i, hi, hl, r⟩)
      · have := h.l1 i hi hl
        exact ⟨⟨i, hi, r⟩, by omega⟩
      · exact ⟨⟨low, hl', by omega, by omega⟩, by omega⟩
      · exact ⟨⟨high - 1, hh', by omega, by omega⟩, by omega⟩
      · have := h.h2 i hi hl
        exact ⟨⟨i, hi, r⟩, by omega⟩
    · rintro ⟨⟨i, hi, r⟩, hn⟩
      rcases Nat.lt_or_ge i low with q | q
      · exact .inl ⟨i, hi, q, r⟩
      · rcases Nat.lt_or_ge i high with q2 | q2
        · refine .inr (.inl ?_)
          have c1 : ivs[low].1 ≤ ivs[i].1 := by
            rcases Nat.lt_or_ge low i with z | z
            · have := h.norm.lt hi z; omega
            · have : low = i := by omega
              subst this; exact Int.le_refl _
          have c2 : ivs[i].2 ≤ ivs[high - 1].2 := by
            rcases Nat.lt_or_ge i (high - 1) with z | z
            · have := h.norm.lt hh' z; omega
            · have : i = high - 1 := by omega
              subst this; exact Int.le_refl _
          omega
        · exact .inr (.inr ⟨i, hi, q2, r⟩)
end take
end Mine

/- P2 -/
namespace Mine
theorem sorted_ext : ∀ {a b : List Int}, a.Pairwise (· < ·) → b.Pairwise (· < ·) → (∀ x, x ∈ a ↔ x ∈ b) → a = b
  | [], [], _, _, _ => rfl
  | [], y :: _, _, _, h => absurd ((h y).mpr (.head _)) (fun h => nomatch h)
  | x :: _, [], _, _, h => absurd ((h x).mp (.head _)) (fun h => nomatch h)
  | x :: a, y :: b, ha, hb, h => by
    obtain ⟨ha1, ha2⟩ := List.pairwise_cons.mp ha
    obtain ⟨hb1, hb2⟩ := List.pairwise_cons.mp hb
    have e : x = y := by
      rcases List.mem_cons.mp ((h x).mp (.head _)) with e | e
      · exact e
      · rcases List.mem_cons.mp ((h y).mpr (.head _)) with e' | e'
        · exact e'.symm
        · have := ha1 y e'; have := hb1 x e; omega
    subst e
    congr 1
    refine sorted_ext ha2 hb2 fun z => ?_
    constructor
    · intro hz
      rcases List.mem_cons.mp ((h z).mp (.tail _ hz)) with e | e
      · have := ha1 z hz; omega
      · exact e
    · intro hz
      rcases List.mem_cons.mp ((h z).mpr (.tail _ hz)) with e | e
      · have := hb1 z hz; omega
      · exact e
theorem mem_firsts {ivs : List Iv} (h : Norm ivs) (x : Int) : x ∈ ivs.map (·.1) ↔ Held ivs x ∧ ¬ Held ivs (x - 1) := by
  constructor
  · intro hx
    obtain ⟨p, hp, rfl⟩ := List.mem_map.mp hx
    have := h.2 p hp
    refine ⟨⟨p, hp, by omega, this⟩, fun hq => ?_⟩
    obtain ⟨j, hj, r⟩ := held_get.mp hq
    obtain ⟨i, hi, rfl⟩ := List.getElem_of_mem hp
    rcases Nat.lt_trichotomy i j with q | q | q
    · have := h.lt hj q; omega
    · subst q; omega
    · have := h.lt hi q; omega
  · rintro ⟨⟨p, hp, r⟩, hn⟩
    refine List.mem_map.mpr ⟨p, hp, ?_⟩
    rcases (by omega : p.1 < x ∨ x ≤ p.1) with q | q
    · exact absurd ⟨p, hp, by omega, by omega⟩ hn
    · show p.1 = x; omega
theorem mem_lasts {ivs : List Iv} (h : Norm ivs) (x : Int) : x ∈ ivs.map (·.2) ↔ Held ivs x ∧ ¬ Held ivs (x + 1) := by
  constructor
  · intro hx
    obtain ⟨p, hp, rfl⟩ := List.mem_map.mp hx
    have := h.2 p hp
    refine ⟨⟨p, hp, this, by omega⟩, fun hq => ?_⟩
    obtain ⟨j, hj, r⟩ := held_get.mp hq
    obtain ⟨i, hi, rfl⟩ := List.getElem_of_mem hp
    rcases Nat.lt_trichotomy i j with q | q | q
    · have := h.lt hj q; omega
    · subst q; omega
    · have := h.lt hi q; omega
  · rintro ⟨⟨p, hp, r⟩, hn⟩
    refine List.mem_map.mpr ⟨p, hp, ?_⟩
    rcases (by omega : x < p.2 ∨ p.2 ≤ x) with q | q
    · exact absurd ⟨p, hp, by omega, by omega⟩ hn
    · show p.2 = x; omega
/-- what is held, as a row of bools, tells the stretches -/
structure Tells38 (H : List Bool) (ivs : List Iv) : Prop where
  norm : Norm ivs
  len : H.length = 38
  box : ∀ k, Held ivs k → 0 ≤ k ∧ k ≤ 37
  same : ∀ k : Nat, k < 38 → (H.getD k false = true ↔ Held ivs (k : Int))
theorem Tells38.is {H : List Bool} {ivs : List Iv} (h : Tells38 H ivs) {k : Int} (h0 : 0 ≤ k) (h1 : k ≤ 37) : H.getD k.toNat false = true ↔ Held ivs k := by
  have := h.same k.toNat (by omega)
  rwa [Int.toNat_of_nonneg h0] at this
theorem sorted_filter {l : List Int} (h : l.Pairwise (· < ·)) (p : Int → Bool) : (l.filter p).Pairwise (· < ·) := h.sublist List.filter_sublist
theorem opened_is {H : List Bool} {ivs : List Iv} (h : Tells38 H ivs) {R : List Int} (hs : R.Pairwise (· < ·)) (hR : ∀ x, x ∈ R ↔ 0 ≤ x ∧ x ≤ 37) {p : Int → Bool}
    (hp : ∀ k, 0 ≤ k → k ≤ 37 → (p k = true ↔ H.getD k.toNat false = true ∧ ¬ (0 < k ∧ H.getD (k - 1).toNat false = true))) : R.filter p = ivs.map (·.1) := by
  refine sorted_ext (sorted_filter hs p) h.norm.firsts fun x => ?_
  rw [List.mem_filter, mem_firsts h.norm, hR]
  constructor
  · rintro ⟨⟨h0, h1⟩, hx⟩
    obtain ⟨a, b⟩ := (hp x h0 h1).mp hx
    refine ⟨(h.is h0 h1).mp a, fun hq => b ?_⟩
    have := h.box _ hq
    exact ⟨by omega, (h.is (by omega) (by omega)).mpr hq⟩
  · rintro ⟨a, b⟩
    have hx := h.box _ a
    refine ⟨hx, (hp x hx.1 hx.2).mpr ⟨(h.is hx.1 hx.2).mpr a, fun hq => b ((h.is (by omega) (by omega)).mp hq.2)⟩⟩
theorem closed_is {H : List Bool} {ivs : List Iv} (h : Tells38 H ivs) {R : List Int} (hs : R.Pairwise (· < ·)) (hR : ∀ x, x ∈ R ↔ 0 ≤ x ∧ x ≤ 37) {p : Int → Bool}
    (hp : ∀ k, 0 ≤ k → k ≤ 37 → (p k = true ↔ H.getD k.toNat false = true ∧ ¬ (k < 37 ∧ H.getD (k + 1).toNat false = true))) : R.filter p = ivs.map (·.2) := by
  refine sorted_ext (sorted_filter hs p) h.norm.lasts fun x => ?_
  rw [List.mem_filter, mem_lasts h.norm, hR]
  constructor
  · rintro ⟨⟨h0, h1⟩, hx⟩
    obtain ⟨a, b⟩ := (hp x h0 h1).mp hx
    refine ⟨(h.is h0 h1).mp a, fun hq => b ?_⟩
    have := h.box _ hq
    exact ⟨by omega, (h.is (by omega) (by omega)).mpr hq⟩
  · rintro ⟨a, b⟩
    have hx := h.box _ a
    refine ⟨hx, (hp x hx.1 hx.2).mpr ⟨(h.is hx.1 hx.2).mpr a, fun hq => b ((h.is (by omega) (by omega)).mp hq.2)⟩⟩
/-- there are few stretches -/
theorem Tells38.few {H : List Bool} {ivs : List Iv} (h : Tells38 H ivs) : ivs.length ≤ 38 := by
  have aux : ∀ (l : List Int) (n : Nat), l.Pairwise (· < ·) → (∀ x ∈ l, ((38 - n : Nat) : Int) ≤ x ∧ x ≤ 37) → l.length ≤ n := by
    intro l
    induction l with
    | nil => intro n _ _; exact Nat.zero_le _
    | cons a l ih =>
      intro n hs hb
      obtain ⟨h1, h2⟩ := List.pairwise_cons.mp hs
      have ha := hb a (.head _)
      cases n with
      | zero => omega
      | succ n =>
        rw [List.length_cons]
        refine Nat.succ_le_succ (ih n h2 fun x hx => ?_)
        have := h1 x hx
        have := hb x (.tail _ hx)
        omega
  have := aux (ivs.map (·.1)) 38 h.norm.firsts (fun x hx => by
    have := h.box x ((mem_firsts h.norm x).mp hx).1
    omega)
  rwa [List.length_map] at this
theorem Tells38.first_in {H : List Bool} {ivs : List Iv} (h : Tells38 H ivs) {x : Int} (hx : x ∈ ivs.map (·.1)) : 0 ≤ x ∧ x ≤ 37 := h.box x ((mem_firsts h.norm x).mp hx).1
theorem Tells38.last_in {H : List Bool} {ivs : List Iv} (h : Tells38 H ivs) {x : Int} (hx : x ∈ ivs.map (·.2)) : 0 ≤ x ∧ x ≤ 37 := h.box x ((mem_lasts h.norm x).mp hx).1
theorem insL {xs ys : List Int} {x : Int} {k : Nat} (hp : (xs ++ x :: ys).Pairwise (· < ·)) (hc : Cut (xs ++ ys) (fun j => j < x) (fun j => x ≤ j) k) : k = xs.length := by
  obtain ⟨_, h2, h3⟩ := List.pairwise_append.mp hp
  obtain ⟨h4, _⟩ := List.pairwise_cons.mp h2
  exact hc.at (fun j h1 h2 => by omega) (fun j hj => h3 j hj x (.head _)) fun j hj => Int.le_of_lt (h4 j hj)
theorem insR {xs ys : List Int} {x : Int} {k : Nat} (hp : (xs ++ x :: ys).Pairwise (· < ·)) (hc : Cut (xs ++ ys) (fun j => j ≤ x) (fun j => x < j) k) : k = xs.length := by
  obtain ⟨_, h2, h3⟩ := List.pairwise_append.mp hp
  obtain ⟨h4, _⟩ := List.pairwise_cons.mp h2
  exact hc.at (fun j h1 h2 => by omega) (fun j hj => Int.le_of_lt (h3 j hj x (.head _))) fun j hj => h4 j hj
theorem ins_sorted {xs ys : List Int} {x : Int} (hp : (xs ++ x :: ys).Pairwise (· < ·)) : (xs ++ ys).Pairwise (· < ·) := hp.sublist (List.Sublist.append_left (List.sublist_cons_self _ _) _)
theorem ins_vals {α : Type} {va vc : List α} {x : α} {k : Nat} (h : k = va.length) : (va ++ vc).take k ++ x :: (va ++ vc).drop k = va ++ x :: vc := by
  subst h
  simp
theorem ins_vals2 {α : Type} {va vc : List α} {x : α} {k : Nat} (h : k = va.length) : (va ++ vc).take k ++ x :: (va ++ vc).drop k = (va ++ [x]) ++ vc := by
  subst h
  simp
/-- the numbers below n -/
noncomputable def upto : Nat → List Int
  | 0 => []
  | n + 1 => upto n ++ [(n : Int)]
theorem upto_length : ∀ n, (upto n).length = n
  | 0 => rfl
  | n + 1 => by rw [upto, List.length_append, upto_length n]; rfl
theorem mem_upto {n : Nat} {x : Int} : x ∈ upto n ↔ 0 ≤ x ∧ x < n := by
  induction n with
  | zero => simp only [upto, List.not_mem_nil, false_iff]; omega
  | succ n ih =>
    rw [upto, List.mem_append, ih, List.mem_singleton]
    omega
theorem upto_sorted : ∀ n, (upto n).Pairwise (· < ·)
  | 0 => List.Pairwise.nil
  | n + 1 => by
    rw [upto]
    refine List.pairwise_append.mpr ⟨upto_sorted n, List.pairwise_singleton _ _, fun a ha b hb => ?_⟩
    rw [List.mem_singleton.mp hb]
    exact (mem_upto.mp ha).2
theorem upto_get : ∀ {n i : Nat} (h : i < (upto n).length), (upto n)[i] = (i : Int)
  | 0, _, h => absurd h (Nat.not_lt_zero _)
  | n + 1, i, h => by
    have hl := upto_length n
    rw [upto_length] at h
    by_cases e : i < n
    · have e2 : (upto (n + 1))[i]? = some (i : Int) := by
        rw [upto, List.getElem?_append_left (by omega), List.getElem?_eq_getElem (by omega), upto_get]
      rw [List.getElem?_eq_getElem (by rw [upto_length]; omega)] at e2
      exact Option.some.inj e2
    · have e3 : i = n := by omega
      subst e3
      have e2 : (upto (i + 1))[i]? = some (i : Int) := by
        rw [upto, List.getElem?_append_right (by omega), hl, Nat.sub_self]; rfl
      rw [List.getElem?_eq_getElem (by rw [upto_length]; omega)] at e2
      exact Option.some.inj e2
theorem upto_filter (n : Nat) (p : Int → Bool) : (upto (n + 1)).filter p = (upto n).filter p ++ if p (n : Int) = true then [(n : Int)] else [] := by
  rw [upto, List.filter_append]
  congr 1
  by_cases e : p (n : Int) = true
  · rw [if_pos e, List.filter_cons_of_pos e]; rfl
  · rw [if_neg e, List.filter_cons_of_neg e]; rfl
theorem fdiv12 (i : Nat) : Int.fdiv (0 + (i : Int)) 12 = (i : Int) / 12 := by rw [Int.zero_add, Int.fdiv_eq_ediv_of_nonneg _ (by decide)]
theorem fmod12 (i : Nat) : Int.fmod (0 + (i : Int)) 12 = (i : Int) % 12 := by rw [Int.zero_add, Int.fmod_eq_emod_of_nonneg _ (by decide)]
/-- i places from a on set to b -/
noncomputable def setR (H : List Bool) (a : Nat) (b : Bool) : Nat → List Bool
  | 0 => H
  | i + 1 => (setR H a b i).set (a + i) b
theorem setR_length (H : List Bool) (a : Nat) (b : Bool) : ∀ i, (setR H a b i).length = H.length
  | 0 => rfl
  | i + 1 => by rw [setR, List.length_set, setR_length H a b i]
theorem setR_get (H : List Bool) (a : Nat) (b : Bool) (k : Nat) (hk : k < H.length) : ∀ i, (setR H a b i).getD k false = if a ≤ k ∧ k < a + i then b else H.getD k false
  | 0 => by rw [setR, if_neg (by omega)]
  | i + 1 => by
    rw [setR, List.getD_eq_getElem?_getD, List.getElem?_set]
    by_cases e : a + i = k
    · rw [if_pos e, if_pos (by rw [setR_length]; omega), if_pos (by omega)]
      rfl
    · rw [if_neg e, ← List.getD_eq_getElem?_getD, setR_get H a b k hk i]
      by_cases q : a ≤ k ∧ k < a + i
      · rw [if_pos q, if_pos (by omega)]
      · rw [if_neg q, if_neg (by omega)]
/-- a deed, on the plain row too -/
theorem Tells38.deed {H : List Bool} {ivs ivs' : List Iv} {bg en x : Int} (h : Tells38 H ivs) (hn : Norm ivs') (h0 : 0 ≤ bg) (h1 : bg ≤ en) (h2 : en ≤ 37)
    (hh : ∀ k, Held ivs' k ↔ if x = 2 then Held ivs k ∧ ¬ (bg ≤ k ∧ k ≤ en) else Held ivs k ∨ (bg ≤ k ∧ k ≤ en)) : Tells38 (setR H bg.toNat (x != 2) (en + 1 - bg).toNat) ivs' := by
  have hl := h.len
  refine ⟨hn, by rw [setR_length]; exact hl, fun k hk => ?_, fun k hk => ?_⟩
  · have := (hh k).mp hk
    split at this
    · exact h.box k this.1
    · rcases this with q | q
      · exact h.box k q
      · omega
  · rw [setR_get _ _ _ _ (by omega), hh]
    have hs := h.same k hk
    by_cases q : bg.toNat ≤ k ∧ k < bg.toNat + (en + 1 - bg).toNat
    · rw [if_pos q]
      have q' : bg ≤ (k : Int) ∧ (k : Int) ≤ en := by omega
      by_cases e : x = 2
      · subst e
        simp [q']
      · have e' : (x != 2) = true := by simp [e]
        rw [e', if_neg e]
        simp [q']
    · rw [if_neg q, hs]
      have q' : ¬ (bg ≤ (k : Int) ∧ (k : Int) ≤ en) := by omega
      by_cases e : x = 2
      · rw [if_pos e]; simp [q']
      · rw [if_neg e]; simp [q']
def pOpen (H : List Bool) (k : Int) : Bool := H.getD k.toNat false && !(decide (0 < k) && H.getD (k - 1).toNat false)
def pClose (H : List Bool) (k : Int) : Bool := H.getD k.toNat false && !(decide (k < 37) && H.getD (k + 1).toNat false)
theorem pOpen_iff {H : List Bool} {k : Int} : pOpen H k = true ↔ H.getD k.toNat false = true ∧ ¬ (0 < k ∧ H.getD (k - 1).toNat false = true) := by
  unfold pOpen
  cases H.getD k.toNat false <;> cases H.getD (k - 1).toNat false <;> simp
theorem pClose_iff {H : List Bool} {k : Int} : pClose H k = true ↔ H.getD k.toNat false = true ∧ ¬ (k < 37 ∧ H.getD (k + 1).toNat false = true) := by
  unfold pClose
  cases H.getD k.toNat false <;> cases H.getD (k + 1).toNat false <;> simp
theorem opened38 {H : List Bool} {ivs : List Iv} (h : Tells38 H ivs) : (upto 38).filter (pOpen H) = ivs.map (·.1) :=
  opened_is h (upto_sorted 38) (fun x => by rw [mem_upto]; omega) fun _ _ _ => pOpen_iff
theorem closed38 {H : List Bool} {ivs : List Iv} (h : Tells38 H ivs) : (upto 38).filter (pClose H) = ivs.map (·.2) :=
  closed_is h (upto_sorted 38) (fun x => by rw [mem_upto]; omega) fun _ _ _ => pClose_iff
end Mine

/- C0 -/
set_option maxRecDepth 100000
namespace Mine
noncomputable abbrev LP : Program := Challenge.rw_dn0047_03.row.prog
noncomputable abbrev LV : Program := Mine.hd.view_39
noncomputable abbrev LL : List Str := looseW Mine.hd.view_39 [Str.ofString "insort_right", Str.ofString "bisect_right", Str.ofString "insort_left", Str.ofString "bisect_left"]
/-- what a call of the def at f gives: R of the answer and the ledger behind it; it wants d frames' room -/
def Does (w : World) (d : Nat) (f : Addr) (vs : List Value) (news : List (Addr × Obj)) (R : Value → List (Addr × Obj) → Prop) : Prop :=
  ∀ (dp un : Nat) (gd : Option (List Code)) (cn : Str) (cs : Scope) (a : Addr) (ccd : Value) (cl : List (Str × Addr)) (outer : List Env) (A₀ : Around) (base h₀ : Heap) (L : Addr) (m mg mb : Str → Option Value) (mean : ExcName → Option Value) (s : Shared)
    (Q E : Value → Shared → Prop),
    Below A₀ base outer h₀ → Fr h₀ L s.heap m → (Mine.hd.heap_39 w.params).In h₀ → News h₀ L s.heap news → Top LV LL mean mg mb h₀ → cs.kind = .function → dp + d < recursionLimit → un + 8 * d + 100 < cLine →
    (∀ r news' h' tk', Fr h₀ L h' m → News h₀ L h' news' → R r news' → Q r { s with heap := h', toks := tk' }) →
    wpAny (model LP w) (ktrTop dp un gd cn cs L a ccd cl outer) (call (.ref f) vs) Q E s
theorem Does.use {w : World} {d : Nat} {f : Addr} {vs : List Value} {news : List (Addr × Obj)} {R : Value → List (Addr × Obj) → Prop} {dp un : Nat} {gd : Option (List Code)} {cn : Str} {cs : Scope} {a : Addr} {ccd : Value} {cl : List (Str × Addr)} {outer : List Env} {A₀ : Around} {base h₀ : Heap} {L : Addr} {m mg mb : Str → Option Value} {mean : ExcName → Option Value} {s : Shared}
    {Q E : Value → Shared → Prop} (C : Does w d f vs news R) (B : Below A₀ base outer h₀) (F : Fr h₀ L s.heap m) (X : (Mine.hd.heap_39 w.params).In h₀) (N : News h₀ L s.heap news) (T : Top LV LL mean mg mb h₀) (hk : cs.kind = .function) (hd : dp + d < recursionLimit) (hu : un + 8 * d + 100 < cLine)
    (ret : ∀ r news' h' tk', Fr h₀ L h' m → News h₀ L h' news' → R r news' → Q r { s with heap := h', toks := tk' }) :
    wpAny (model LP w) (ktrTop dp un gd cn cs L a ccd cl outer) (call (.ref f) vs) Q E s := C _ _ _ _ _ _ _ _ _ _ _ _ _ _ _ _ _ _ _ _ B F X N T hk hd hu ret
theorem Upd.of {d : Addr} {o o' : Obj} {post : List (Addr × Obj)} (h2 : ∀ p ∈ post, p.1 ≠ d) : ∀ {pre : List (Addr × Obj)}, (∀ p ∈ pre, p.1 ≠ d) → Upd d o o' (pre ++ (d, o) :: post) (pre ++ (d, o') :: post)
  | [], _ => .head h2
  | _ :: _, h => .tail (h _ (.head _)) (Upd.of h2 fun p hp => h p (.tail _ hp))
theorem UpdF.of {d : Addr} {o : Obj} {post : List (Addr × Obj)} (h2 : ∀ p ∈ post, p.1 ≠ d) : ∀ {pre : List (Addr × Obj)}, (∀ p ∈ pre, p.1 ≠ d) → UpdF d o (pre ++ (d, o) :: post) (fun o' => pre ++ (d, o') :: post)
  | [], _ => .head h2
  | _ :: _, h => .tail (h _ (.head _)) (UpdF.of h2 fun p hp => h p (.tail _ hp))
end Mine

/- C2 -/
set_option maxRecDepth 100000
namespace Mine
local macro_rules | `(tactic| walk_at "exec While") => `(tactic| (with_reducible refine Hold.mk ?_))
local macro_rules | `(tactic| walk_at "exec While Compare cons nil") => `(tactic| (with_reducible refine Hold.mk ?_))
local macro_rules | `(tactic| walk_at "subscriptTail Name Name ref int") => `(tactic| (with_reducible refine Hold.mk ?_))
local macro_rules | `(tactic| walk_at "compareOp Lt ref ref") => `(tactic| (with_reducible refine Hold.mk ?_))
local macro_rules | `(tactic| walk_at "KswEnd") => `(tactic| (with_reducible refine Hold.mk ?_))

theorem bis_lo {js : List Int} {p : Int → Prop} {m : Nat} (hs : js.Pairwise (· < ·)) (hp : ∀ a b, a < b → p b → p a) (hm : m < js.length) (h : p js[m]) : ∀ j ∈ js.take (m + 1), p j := by
  intro j hj
  obtain ⟨k, hk, rfl⟩ := List.getElem_of_mem hj
  rw [List.getElem_take]
  rw [List.length_take] at hk
  by_cases e : k = m
  · subst e; exact h
  · exact hp _ _ (List.pairwise_iff_getElem.mp hs k m (by omega) hm (by omega)) h
theorem bis_hi {js : List Int} {p : Int → Prop} {m : Nat} (hs : js.Pairwise (· < ·)) (hp : ∀ a b, a < b → p a → p b) (hm : m < js.length) (h : p js[m]) : ∀ j ∈ js.drop m, p j := by
  intro j hj
  obtain ⟨k, hk, rfl⟩ := List.getElem_of_mem hj
  rw [List.getElem_drop]
  rw [List.length_drop] at hk
  by_cases e : k = 0
  · subst e; simpa using h
  · exact hp _ _ (List.pairwise_iff_getElem.mp hs m (m + k) hm (by omega) (by omega)) h

set_option maxHeartbeats 4000000 in
theorem bl_does2 (w : World) (y i : Int) (l : Addr) (vs : List Value) (n : Nat) (js : List Int) (x : Value) (t0 : Tok) (news : List (Addr × Obj)) (hl : (l, listOf vs.toArray n) ∈ news) (hm : MonsIn news y vs js) (hx : MonIn news y x i) (hs : js.Pairwise (· < ·)) (hlen : js.length ≤ 1000) :
    Does w 1 64 [.ref l, x] news (fun r news' => news' = news ∧ ∃ (k : Nat) (t : Tok), r = .int (k : Int) t ∧ Cut js (fun j => j < i) (fun j => i ≤ j) k) := by
  obtain ⟨xb, xt, xu, xn, rfl, hxm⟩ := hx
  unfold Does
  intro dp un gd cn cs a ccd cl outer A₀ base h₀ L m mg mb mean s Q E B F X N T hk hd hu hret
  refine wpAny_call ?_
  have hvl := hm.length
  k_dflt (refine' code_def ?k1 ?k2 ?k3 ?k4 ?k5 ?kA ?kF ?kK ?k6 ?k7 ?k8 ?k9 ?kB ?_ ?c2 ?c3 ?c4 ?c5; (case kA => exact rfl); (case kF => exact rfl); (case kK => assumption); (case k1 => k_asm); (case k2 => k_asm); (case k3 => k_asm); (case k4 => k_asm); (case k5 => k_asm); (case k6 => k_is); (case k7 => k_is); (case k8 => ktr_room); (case k9 => exact kp_binds (Frag.In.keeps X F.keep) (fun S => by rfl)); (case c5 => decide); (case kB => exact locs rfl); (case c2 => exact rfl); (case c3 => exact rfl); (case c4 => exact rfl); k_whole; intro g' L' h' FG' F' N' B' X' T'; (try dsimp only); (try k_fold))
  k_steps
  refine len_led N' hl (by rw [hvl]; exact Nat.lt_of_le_of_lt hlen (by decide)) (fun t1 tk1 => ?_)
  k_steps
  refine Hold.intro ?_
  rename Fr _ _ _ _ => F1
  rename News _ _ _ _ => N1
  refine ksw_while (σ := Int × Tok × Int × Tok) (fun _ => news) (fun c => [(Str.ofString "lo", .int c.1 c.2.1), (Str.ofString "hi", .int c.2.2.1 c.2.2.2)]) (fun _ => True) [Str.ofString "mid"]
    (fun c => 0 ≤ c.1 ∧ c.1 ≤ c.2.2.1 ∧ c.2.2.1 ≤ (js.length : Int) ∧ (∀ j ∈ js.take c.1.toNat, j < i) ∧ ∀ j ∈ js.drop c.2.2.1.toNat, i ≤ j) (fun c => (c.2.2.1 - c.1).toNat) (0, ?tlo, (vs.length : Int), t1) F1 N1 trivial ?w1 ?w2 ?w3
  case w1 => kst_all
  case w2 =>
    refine ⟨Int.le_refl _, by show 0 ≤ (vs.length : Int); omega, by show (vs.length : Int) ≤ _; omega, ?_, ?_⟩
    · show ∀ j ∈ js.take (0 : Int).toNat, j < i
      simp
    · show ∀ j ∈ js.drop (vs.length : Int).toNat, i ≤ j
      rw [List.drop_of_length_le (by omega)]; simp
  rintro ⟨lo, tlo, hi, thi⟩ u h2 tk2 - ⟨p1, p2, p3, p4, p5⟩ F2 N2
  dsimp only at p1 p2 p3 p4 p5
  clear F1 N1
  dsimp only [kstB] at F2 ⊢
  try k_fold
  k_steps
  · refine Hold.intro ?_
    rename Fr _ _ _ _ => F3
    rename News _ _ _ _ => N3
    rename lo < hi => hlt
    have hmid : lo ≤ (lo + hi).fdiv 2 ∧ (lo + hi).fdiv 2 < hi := by
      rw [Int.fdiv_eq_ediv_of_nonneg _ (by decide)]; omega
    generalize hmd : (lo + hi).fdiv 2 = md at F3 hmid ⊢
    have hmn : md.toNat < js.length := by omega
    obtain ⟨v, hv, vb, vt, vu, vn, rfl, hvm⟩ := hm.get hmn
    refine item_led N3 hl (by omega) (by have : (2 : Int) ^ 63 = 9223372036854775808 := by decide
                                         omega) hv ?_
    k_steps
    refine Hold.intro ?_
    refine lt_pair (N3.get hvm) (N3.get hxm) (by show un + 3 < cLine; omega) ?_
    rw [ltP_mon]
    k_steps
    · refine Hold.intro ?_
      rename Fr _ _ _ _ => F4
      rename News _ _ _ _ => N4
      rename js[md.toNat] < i => hji
      refine ksw_end (md + 1, ?tbl1, hi, thi) F4 N4 (fun _ hp => hp) trivial ?e1 ?e2 ?e3 ?e4
      case e1 => kst_all
      case e2 => ksw_same
      case e3 =>
        refine ⟨by show 0 ≤ md + 1; omega, by show md + 1 ≤ hi; omega, p3, ?_, p5⟩
        show ∀ j ∈ js.take (md + 1).toNat, j < i
        rw [show (md + 1).toNat = md.toNat + 1 by omega]
        exact bis_lo (p := fun j => j < i) hs (fun a b h1 h2 => by (try dsimp only at h2); (try dsimp only); omega) hmn (by (try dsimp only); omega)
      case e4 =>
        show (hi - (md + 1)).toNat < (hi - lo).toNat
        omega
    · refine Hold.intro ?_
      rename Fr _ _ _ _ => F4
      rename News _ _ _ _ => N4
      rename ¬ js[md.toNat] < i => hji
      refine ksw_end (lo, tlo, md, ?tbl2) F4 N4 (fun _ hp => hp) trivial ?e1 ?e2 ?e3 ?e4
      case e1 => kst_all
      case e2 => ksw_same
      case e3 => exact ⟨p1, by show lo ≤ md; omega, by show md ≤ _; omega, p4, bis_hi (p := fun j => i ≤ j) hs (fun a b h1 h2 => by (try dsimp only at h2); (try dsimp only); omega) hmn (by (try dsimp only); omega)⟩
      case e4 =>
        show (md - lo).toNat < (hi - lo).toNat
        omega
  · rename ¬ lo < hi => hlt
    refine hret _ _ _ _ (by k_asm) (by k_asm) ⟨rfl, lo.toNat, tlo, ?_, ?_, ?_, ?_⟩
    · rw [Int.toNat_of_nonneg p1]
    · omega
    · exact p4
    · rw [show lo = hi by omega]; exact p5

set_option maxHeartbeats 4000000 in
theorem br_does2 (w : World) (y i : Int) (l : Addr) (vs : List Value) (n : Nat) (js : List Int) (x : Value) (t0 : Tok) (news : List (Addr × Obj)) (hl : (l, listOf vs.toArray n) ∈ news) (hm : MonsIn news y vs js) (hx : MonIn news y x i) (hs : js.Pairwise (· < ·)) (hlen : js.length ≤ 1000) :
    Does w 1 46 [.ref l, x] news (fun r news' => news' = news ∧ ∃ (k : Nat) (t : Tok), r = .int (k : Int) t ∧ Cut js (fun j => j ≤ i) (fun j => i < j) k) := by
  obtain ⟨xb, xt, xu, xn, rfl, hxm⟩ := hx
  unfold Does
  intro dp un gd cn cs a ccd cl outer A₀ base h₀ L m mg mb mean s Q E B F X N T hk hd hu hret
  refine wpAny_call ?_
  have hvl := hm.length
  k_dflt (refine' code_def ?k1 ?k2 ?k3 ?k4 ?k5 ?kA ?kF ?kK ?k6 ?k7 ?k8 ?k9 ?kB ?_ ?c2 ?c3 ?c4 ?c5; (case kA => exact rfl); (case kF => exact rfl); (case kK => assumption); (case k1 => k_asm); (case k2 => k_asm); (case k3 => k_asm); (case k4 => k_asm); (case k5 => k_asm); (case k6 => k_is); (case k7 => k_is); (case k8 => ktr_room); (case k9 => exact kp_binds (Frag.In.keeps X F.keep) (fun S => by rfl)); (case c5 => decide); (case kB => exact locs rfl); (case c2 => exact rfl); (case c3 => exact rfl); (case c4 => exact rfl); k_whole; intro g' L' h' FG' F' N' B' X' T'; (try dsimp only); (try k_fold))
  k_steps
  refine len_led N' hl (by rw [hvl]; exact Nat.lt_of_le_of_lt hlen (by decide)) (fun t1 tk1 => ?_)
  k_steps
  refine Hold.intro ?_
  rename Fr _ _ _ _ => F1
  rename News _ _ _ _ => N1
  refine ksw_while (σ := Int × Tok × Int × Tok) (fun _ => news) (fun c => [(Str.ofString "lo", .int c.1 c.2.1), (Str.ofString "hi", .int c.2.2.1 c.2.2.2)]) (fun _ => True) [Str.ofString "mid"]
    (fun c => 0 ≤ c.1 ∧ c.1 ≤ c.2.2.1 ∧ c.2.2.1 ≤ (js.length : Int) ∧ (∀ j ∈ js.take c.1.toNat, j ≤ i) ∧ ∀ j ∈ js.drop c.2.2.1.toNat, i < j) (fun c => (c.2.2.1 - c.1).toNat) (0, ?tlo, (vs.length : Int), t1) F1 N1 trivial ?w1 ?w2 ?w3
  case w1 => kst_all
  case w2 =>
    refine ⟨Int.le_refl _, by show 0 ≤ (vs.length : Int); omega, by show (vs.length : Int) ≤ _; omega, ?_, ?_⟩
    · show ∀ j ∈ js.take (0 : Int).toNat, j ≤ i
      simp
    · show ∀ j ∈ js.drop (vs.length : Int).toNat, i < j
      rw [List.drop_of_length_le (by omega)]; simp
  rintro ⟨lo, tlo, hi, thi⟩ u h2 tk2 - ⟨p1, p2, p3, p4, p5⟩ F2 N2
  dsimp only at p1 p2 p3 p4 p5
  clear F1 N1
  dsimp only [kstB] at F2 ⊢
  try k_fold
  k_steps
  · refine Hold.intro ?_
    rename Fr _ _ _ _ => F3
    rename News _ _ _ _ => N3
    rename lo < hi => hlt
    have hmid : lo ≤ (lo + hi).fdiv 2 ∧ (lo + hi).fdiv 2 < hi := by
      rw [Int.fdiv_eq_ediv_of_nonneg _ (by decide)]; omega
    generalize hmd : (lo + hi).fdiv 2 = md at F3 hmid ⊢
    have hmn : md.toNat < js.length := by omega
    obtain ⟨v, hv, vb, vt, vu, vn, rfl, hvm⟩ := hm.get hmn
    refine item_led N3 hl (by omega) (by have : (2 : Int) ^ 63 = 9223372036854775808 := by decide
                                         omega) hv ?_
    k_steps
    refine Hold.intro ?_
    refine lt_pair (N3.get hxm) (N3.get hvm) (by show un + 3 < cLine; omega) ?_
    rw [ltP_mon]
    k_steps
    · refine Hold.intro ?_
      rename Fr _ _ _ _ => F4
      rename News _ _ _ _ => N4
      rename i < js[md.toNat] => hji
      refine ksw_end (lo, tlo, md, ?tbr2) F4 N4 (fun _ hp => hp) trivial ?e1 ?e2 ?e3 ?e4
      case e1 => kst_all
      case e2 => ksw_same
      case e3 => exact ⟨p1, by show lo ≤ md; omega, by show md ≤ _; omega, p4, bis_hi (p := fun j => i < j) hs (fun a b h1 h2 => by (try dsimp only at h2); (try dsimp only); omega) hmn (by (try dsimp only); omega)⟩
      case e4 =>
        show (md - lo).toNat < (hi - lo).toNat
        omega
    · refine Hold.intro ?_
      rename Fr _ _ _ _ => F4
      rename News _ _ _ _ => N4
      rename ¬ i < js[md.toNat] => hji
      refine ksw_end (md + 1, ?tbr1, hi, thi) F4 N4 (fun _ hp => hp) trivial ?e1 ?e2 ?e3 ?e4
      case e1 => kst_all
      case e2 => ksw_same
      case e3 =>
        refine ⟨by show 0 ≤ md + 1; omega, by show md + 1 ≤ hi; omega, p3, ?_, p5⟩
        show ∀ j ∈ js.take (md + 1).toNat, j ≤ i
        rw [show (md + 1).toNat = md.toNat + 1 by omega]
        exact bis_lo (p := fun j => j ≤ i) hs (fun a b h1 h2 => by (try dsimp only at h2); (try dsimp only); omega) hmn (by (try dsimp only); omega)
      case e4 =>
        show (hi - (md + 1)).toNat < (hi - lo).toNat
        omega
  · rename ¬ lo < hi => hlt
    refine hret _ _ _ _ (by k_asm) (by k_asm) ⟨rfl, lo.toNat, tlo, ?_, ?_, ?_, ?_⟩
    · rw [Int.toNat_of_nonneg p1]
    · omega
    · exact p4
    · rw [show lo = hi by omega]; exact p5

set_option maxHeartbeats 4000000 in
theorem bl_does4 (w : World) (y i : Int) (l : Addr) (vs : List Value) (n : Nat) (js : List Int) (x : Value) (t0 : Tok) (news : List (Addr × Obj)) (hl : (l, listOf vs.toArray n) ∈ news) (hm : MonsIn news y vs js) (hx : MonIn news y x i) (hs : js.Pairwise (· < ·)) (hlen : js.length ≤ 1000) :
    Does w 1 64 [.ref l, x, .int 0 t0, .none] news (fun r news' => news' = news ∧ ∃ (k : Nat) (t : Tok), r = .int (k : Int) t ∧ Cut js (fun j => j < i) (fun j => i ≤ j) k) := by
  obtain ⟨xb, xt, xu, xn, rfl, hxm⟩ := hx
  unfold Does
  intro dp un gd cn cs a ccd cl outer A₀ base h₀ L m mg mb mean s Q E B F X N T hk hd hu hret
  refine wpAny_call ?_
  have hvl := hm.length
  k_dflt (refine' code_def ?k1 ?k2 ?k3 ?k4 ?k5 ?kA ?kF ?kK ?k6 ?k7 ?k8 ?k9 ?kB ?_ ?c2 ?c3 ?c4 ?c5; (case kA => exact rfl); (case kF => exact rfl); (case kK => assumption); (case k1 => k_asm); (case k2 => k_asm); (case k3 => k_asm); (case k4 => k_asm); (case k5 => k_asm); (case k6 => k_is); (case k7 => k_is); (case k8 => ktr_room); (case k9 => exact kp_binds (Frag.In.keeps X F.keep) (fun S => by rfl)); (case c5 => decide); (case kB => exact locs rfl); (case c2 => exact rfl); (case c3 => exact rfl); (case c4 => exact rfl); k_whole; intro g' L' h' FG' F' N' B' X' T'; (try dsimp only); (try k_fold))
  k_steps
  refine len_led N' hl (by rw [hvl]; exact Nat.lt_of_le_of_lt hlen (by decide)) (fun t1 tk1 => ?_)
  k_steps
  refine Hold.intro ?_
  rename Fr _ _ _ _ => F1
  rename News _ _ _ _ => N1
  refine ksw_while (σ := Int × Tok × Int × Tok) (fun _ => news) (fun c => [(Str.ofString "lo", .int c.1 c.2.1), (Str.ofString "hi", .int c.2.2.1 c.2.2.2)]) (fun _ => True) [Str.ofString "mid"]
    (fun c => 0 ≤ c.1 ∧ c.1 ≤ c.2.2.1 ∧ c.2.2.1 ≤ (js.length : Int) ∧ (∀ j ∈ js.take c.1.toNat, j < i) ∧ ∀ j ∈ js.drop c.2.2.1.toNat, i ≤ j) (fun c => (c.2.2.1 - c.1).toNat) (0, ?tlo, (vs.length : Int), t1) F1 N1 trivial ?w1 ?w2 ?w3
  case w1 => kst_all
  case w2 =>
    refine ⟨Int.le_refl _, by show 0 ≤ (vs.length : Int); omega, by show (vs.length : Int) ≤ _; omega, ?_, ?_⟩
    · show ∀ j ∈ js.take (0 : Int).toNat, j < i
      simp
    · show ∀ j ∈ js.drop (vs.length : Int).toNat, i ≤ j
      rw [List.drop_of_length_le (by omega)]; simp
  rintro ⟨lo, tlo, hi, thi⟩ u h2 tk2 - ⟨p1, p2, p3, p4, p5⟩ F2 N2
  dsimp only at p1 p2 p3 p4 p5
  clear F1 N1
  dsimp only [kstB] at F2 ⊢
  try k_fold
  k_steps
  · refine Hold.intro ?_
    rename Fr _ _ _ _ => F3
    rename News _ _ _ _ => N3
    rename lo < hi => hlt
    have hmid : lo ≤ (lo + hi).fdiv 2 ∧ (lo + hi).fdiv 2 < hi := by
      rw [Int.fdiv_eq_ediv_of_nonneg _ (by decide)]; omega
    generalize hmd : (lo + hi).fdiv 2 = md at F3 hmid ⊢
    have hmn : md.toNat < js.length := by omega
    obtain ⟨v, hv, vb, vt, vu, vn, rfl, hvm⟩ := hm.get hmn
    refine item_led N3 hl (by omega) (by have : (2 : Int) ^ 63 = 9223372036854775808 := by decide
                                         omega) hv ?_
    k_steps
    refine Hold.intro ?_
    refine lt_pair (N3.get hvm) (N3.get hxm) (by show un + 3 < cLine; omega) ?_
    rw [ltP_mon]
    k_steps
    · refine Hold.intro ?_
      rename Fr _ _ _ _ => F4
      rename News _ _ _ _ => N4
      rename js[md.toNat] < i => hji
      refine ksw_end (md + 1, ?tbl1, hi, thi) F4 N4 (fun _ hp => hp) trivial ?e1 ?e2 ?e3 ?e4
      case e1 => kst_all
      case e2 => ksw_same
      case e3 =>
        refine ⟨by show 0 ≤ md + 1; omega, by show md + 1 ≤ hi; omega, p3, ?_, p5⟩
        show ∀ j ∈ js.take (md + 1).toNat, j < i
        rw [show (md + 1).toNat = md.toNat + 1 by omega]
        exact bis_lo (p := fun j => j < i) hs (fun a b h1 h2 => by (try dsimp only at h2); (try dsimp only); omega) hmn (by (try dsimp only); omega)
      case e4 =>
        show (hi - (md + 1)).toNat < (hi - lo).toNat
        omega
    · refine Hold.intro ?_
      rename Fr _ _ _ _ => F4
      rename News _ _ _ _ => N4
      rename ¬ js[md.toNat] < i => hji
      refine ksw_end (lo, tlo, md, ?tbl2) F4 N4 (fun _ hp => hp) trivial ?e1 ?e2 ?e3 ?e4
      case e1 => kst_all
      case e2 => ksw_same
      case e3 => exact ⟨p1, by show lo ≤ md; omega, by show md ≤ _; omega, p4, bis_hi (p := fun j => i ≤ j) hs (fun a b h1 h2 => by (try dsimp only at h2); (try dsimp only); omega) hmn (by (try dsimp only); omega)⟩
      case e4 =>
        show (md - lo).toNat < (hi - lo).toNat
        omega
  · rename ¬ lo < hi => hlt
    refine hret _ _ _ _ (by k_asm) (by k_asm) ⟨rfl, lo.toNat, tlo, ?_, ?_, ?_, ?_⟩
    · rw [Int.toNat_of_nonneg p1]
    · omega
    · exact p4
    · rw [show lo = hi by omega]; exact p5

set_option maxHeartbeats 4000000 in
theorem br_does4 (w : World) (y i : Int) (l : Addr) (vs : List Value) (n : Nat) (js : List Int) (x : Value) (t0 : Tok) (news : List (Addr × Obj)) (hl : (l, listOf vs.toArray n) ∈ news) (hm : MonsIn news y vs js) (hx : MonIn news y x i) (hs : js.Pairwise (· < ·)) (hlen : js.length ≤ 1000) :
    Does w 1 46 [.ref l, x, .int 0 t0, .none] news (fun r news' => news' = news ∧ ∃ (k : Nat) (t : Tok), r = .int (k : Int) t ∧ Cut js (fun j => j ≤ i) (fun j => i < j) k) := by
  obtain ⟨xb, xt, xu, xn, rfl, hxm⟩ := hx
  unfold Does
  intro dp un gd cn cs a ccd cl outer A₀ base h₀ L m mg mb mean s Q E B F X N T hk hd hu hret
  refine wpAny_call ?_
  have hvl := hm.length
  k_dflt (refine' code_def ?k1 ?k2 ?k3 ?k4 ?k5 ?kA ?kF ?kK ?k6 ?k7 ?k8 ?k9 ?kB ?_ ?c2 ?c3 ?c4 ?c5; (case kA => exact rfl); (case kF => exact rfl); (case kK => assumption); (case k1 => k_asm); (case k2 => k_asm); (case k3 => k_asm); (case k4 => k_asm); (case k5 => k_asm); (case k6 => k_is); (case k7 => k_is); (case k8 => ktr_room); (case k9 => exact kp_binds (Frag.In.keeps X F.keep) (fun S => by rfl)); (case c5 => decide); (case kB => exact locs rfl); (case c2 => exact rfl); (case c3 => exact rfl); (case c4 => exact rfl); k_whole; intro g' L' h' FG' F' N' B' X' T'; (try dsimp only); (try k_fold))
  k_steps
  refine len_led N' hl (by rw [hvl]; exact Nat.lt_of_le_of_lt hlen (by decide)) (fun t1 tk1 => ?_)
  k_steps
  refine Hold.intro ?_
  rename Fr _ _ _ _ => F1
  rename News _ _ _ _ => N1
  refine ksw_while (σ := Int × Tok × Int × Tok) (fun _ => news) (fun c => [(Str.ofString "lo", .int c.1 c.2.1), (Str.ofString "hi", .int c.2.2.1 c.2.2.2)]) (fun _ => True) [Str.ofString "mid"]
    (fun c => 0 ≤ c.1 ∧ c.1 ≤ c.2.2.1 ∧ c.2.2.1 ≤ (js.length : Int) ∧ (∀ j ∈ js.take c.1.toNat, j ≤ i) ∧ ∀ j ∈ js.drop c.2.2.1.toNat, i < j) (fun c => (c.2.2.1 - c.1).toNat) (0, ?tlo, (vs.length : Int), t1) F1 N1 trivial ?w1 ?w2 ?w3
  case w1 => kst_all
  case w2 =>
    refine ⟨Int.le_refl _, by show 0 ≤ (vs.length : Int); omega, by show (vs.length : Int) ≤ _; omega, ?_, ?_⟩
    · show ∀ j ∈ js.take (0 : Int).toNat, j ≤ i
      simp
    · show ∀ j ∈ js.drop (vs.length : Int).toNat, i < j
      rw [List.drop_of_length_le (by omega)]; simp
  rintro ⟨lo, tlo, hi, thi⟩ u h2 tk2 - ⟨p1, p2, p3, p4, p5⟩ F2 N2
  dsimp only at p1 p2 p3 p4 p5
  clear F1 N1
  dsimp only [kstB] at F2 ⊢
  try k_fold
  k_steps
  · refine Hold.intro ?_
    rename Fr _ _ _ _ => F3
    rename News _ _ _ _ => N3
    rename lo < hi => hlt
    have hmid : lo ≤ (lo + hi).fdiv 2 ∧ (lo + hi).fdiv 2 < hi := by
      rw [Int.fdiv_eq_ediv_of_nonneg _ (by decide)]; omega
    generalize hmd : (lo + hi).fdiv 2 = md at F3 hmid ⊢
    have hmn : md.toNat < js.length := by omega
    obtain ⟨v, hv, vb, vt, vu, vn, rfl, hvm⟩ := hm.get hmn
    refine item_led N3 hl (by omega) (by have : (2 : Int) ^ 63 = 9223372036854775808 := by decide
                                         omega) hv ?_
    k_steps
    refine Hold.intro ?_
    refine lt_pair (N3.get hxm) (N3.get hvm) (by show un + 3 < cLine; omega) ?_
    rw [ltP_mon]
    k_steps
    · refine Hold.intro ?_
      rename Fr _ _ _ _ => F4
      rename News _ _ _ _ => N4
      rename i < js[md.toNat] => hji
      refine ksw_end (lo, tlo, md, ?tbr2) F4 N4 (fun _ hp => hp) trivial ?e1 ?e2 ?e3 ?e4
      case e1 => kst_all
      case e2 => ksw_same
      case e3 => exact ⟨p1, by show lo ≤ md; omega, by show md ≤ _; omega, p4, bis_hi (p := fun j => i < j) hs (fun a b h1 h2 => by (try dsimp only at h2); (try dsimp only); omega) hmn (by (try dsimp only); omega)⟩
      case e4 =>
        show (md - lo).toNat < (hi - lo).toNat
        omega
    · refine Hold.intro ?_
      rename Fr _ _ _ _ => F4
      rename News _ _ _ _ => N4
      rename ¬ i < js[md.toNat] => hji
      refine ksw_end (md + 1, ?tbr1, hi, thi) F4 N4 (fun _ hp => hp) trivial ?e1 ?e2 ?e3 ?e4
      case e1 => kst_all
      case e2 => ksw_same
      case e3 =>
        refine ⟨by show 0 ≤ md + 1; omega, by show md + 1 ≤ hi; omega, p3, ?_, p5⟩
        show ∀ j ∈ js.take (md + 1).toNat, j ≤ i
        rw [show (md + 1).toNat = md.toNat + 1 by omega]
        exact bis_lo (p := fun j => j ≤ i) hs (fun a b h1 h2 => by (try dsimp only at h2); (try dsimp only); omega) hmn (by (try dsimp only); omega)
      case e4 =>
        show (hi - (md + 1)).toNat < (hi - lo).toNat
        omega
  · rename ¬ lo < hi => hlt
    refine hret _ _ _ _ (by k_asm) (by k_asm) ⟨rfl, lo.toNat, tlo, ?_, ?_, ?_, ?_⟩
    · rw [Int.toNat_of_nonneg p1]
    · omega
    · exact p4
    · rw [show lo = hi by omega]; exact p5
end Mine

/- C3 -/
set_option maxRecDepth 100000
namespace Mine
local macro_rules | `(tactic| walk_at "call ref") => `(tactic| (with_reducible refine Hold.mk ?_))
local macro_rules | `(tactic| walk_at "getMethod ref") => `(tactic| (with_reducible refine Hold.mk ?_))
local macro_rules | `(tactic| walk_at "call builtin:list.insert") => `(tactic| (with_reducible refine Hold.mk ?_))
-- the premises of Does.use
local macro_rules | `(tactic| ktr_unf) => `(tactic| ((case k1 => k_asm); (case k2 => k_asm); (case k3 => k_asm); (case k4 => k_asm); (case k5 => k_asm); (case kK => first | exact rfl | assumption); (case kd => (first | omega | ((try simp only [depth_under_make, depth_under_kw, depth_in1, depth_deeper, depth_caller] at *); (try dsimp only [ktrTop] at *); omega))); (case ku => (first | omega | ((try simp only [units_in1, units_deeper, Around.mark_units, units_caller] at *); (try dsimp only [ktrTop] at *); omega)))))
-- the entering of a def, its binding with defaults
local macro_rules | `(tactic| ktr_rel) => `(tactic| (k_dflt (refine' code_def ?k1 ?k2 ?k3 ?k4 ?k5 ?kA ?kF ?kK ?k6 ?k7 ?k8 ?k9 ?kB ?_ ?c2 ?c3 ?c4 ?c5; (case kA => exact rfl); (case kF => exact rfl); (case kK => assumption); (case k1 => k_asm); (case k2 => k_asm); (case k3 => k_asm); (case k4 => k_asm); (case k5 => k_asm); (case k6 => k_is); (case k7 => k_is); (case k8 => ktr_room); (case k9 => first | exact BindsTo.of_eq rfl | exact kp_binds (by k_in) (fun S => by rfl)); (case c5 => decide); (case kB => exact locs rfl); (case c2 => exact rfl); (case c3 => exact rfl); (case c4 => exact rfl); k_whole)))

theorem kl_ins_nat (vs : List Value) (k : Nat) (x : Value) (h : k ≤ vs.length) : kl_ins vs (k : Int) x = vs.take k ++ x :: vs.drop k := by
  unfold kl_ins
  rw [if_neg (by omega), show min (k : Int).toNat vs.length = k by omega]
theorem fits_nat (k : Nat) (h : k ≤ 1000) : Builtin.List.listFitsIndex (k : Int) = true := by
  unfold Builtin.List.listFitsIndex
  rw [Bool.and_eq_true, decide_eq_true_eq, decide_eq_true_eq]
  have e : (2 : Int) ^ 63 = 9223372036854775808 := by decide
  rw [e]
  omega

set_option maxHeartbeats 4000000 in
theorem il_does (w : World) (y i : Int) (l : Addr) (vs : List Value) (n : Nat) (js : List Int) (x : Value) (pre post : List (Addr × Obj)) (hm : MonsIn (pre ++ (l, listOf vs.toArray n) :: post) y vs js) (hx : MonIn (pre ++ (l, listOf vs.toArray n) :: post) y x i) (hs : js.Pairwise (· < ·)) (hlen : js.length ≤ 1000)
    (h1 : ∀ p ∈ pre, p.1 ≠ l) (h2 : ∀ p ∈ post, p.1 ≠ l) :
    Does w 2 55 [.ref l, x] (pre ++ (l, listOf vs.toArray n) :: post) (fun r news' => r = .none ∧ ∃ (k : Nat), Cut js (fun j => j < i) (fun j => i ≤ j) k ∧ news' = pre ++ (l, listOf (vs.take k ++ x :: vs.drop k).toArray (n + 1)) :: post) := by
  have hU := fun vs' => Upd.of (d := l) (o := listOf vs.toArray n) (o' := listOf (List.toArray vs') (n + 1)) h2 h1
  generalize hnews : pre ++ (l, listOf vs.toArray n) :: post = news at hm hx hU ⊢
  have hl : (l, listOf vs.toArray n) ∈ news := by rw [← hnews]; exact List.mem_append.mpr (.inr (.head _))
  unfold Does
  intro dp un gd cn cs a ccd cl outer A₀ base h₀ L m mg mb mean s Q E B F X N T hk hd hu hret
  refine wpAny_call ?_
  have hvl := hm.length
  ktr_rel
  intro g' L' h' FG' F' N' B' X' T'
  (try dsimp only)
  (try k_fold)
  k_steps
  refine Hold.intro ?_
  k_dflt (refine' Does.use (bl_does4 w y i l vs n js x _ news hl hm hx hs hlen) ?k1 ?k2 ?k3 ?k4 ?k5 ?kK ?kd ?ku ?_)
  ktr_unf
  rintro r news' h2 tk2 F2 N2 ⟨rfl, k, t, rfl, hcut⟩
  have hk1 := hcut.1
  clear F' N'
  k_steps
  refine Hold.intro ?_
  rename News _ _ _ _ => N3
  k_dflt (refine' kl_method N3 hl PySem.F.slot_list_insert PySem.F.type_list_insert ?_)
  k_steps
  refine Hold.intro ?_
  rename Fr _ _ _ _ => F4
  rename News _ _ _ _ => N4
  refine kl_insert F4 N4 (fits_nat k (by omega)) (kl_ins_nat vs k x (by omega)) (hU _) (Nat.le_trans (show vs.length ≤ 1000 by omega) (by decide)) ?_
  intro h5 F5 N5
  clear F4 N4
  k_steps
  exact hret _ _ _ _ (by k_asm) (by k_asm) ⟨rfl, k, hcut, rfl⟩

set_option maxHeartbeats 4000000 in
theorem ir_does (w : World) (y i : Int) (l : Addr) (vs : List Value) (n : Nat) (js : List Int) (x : Value) (pre post : List (Addr × Obj)) (hm : MonsIn (pre ++ (l, listOf vs.toArray n) :: post) y vs js) (hx : MonIn (pre ++ (l, listOf vs.toArray n) :: post) y x i) (hs : js.Pairwise (· < ·)) (hlen : js.length ≤ 1000)
    (h1 : ∀ p ∈ pre, p.1 ≠ l) (h2 : ∀ p ∈ post, p.1 ≠ l) :
    Does w 2 37 [.ref l, x] (pre ++ (l, listOf vs.toArray n) :: post) (fun r news' => r = .none ∧ ∃ (k : Nat), Cut js (fun j => j ≤ i) (fun j => i < j) k ∧ news' = pre ++ (l, listOf (vs.take k ++ x :: vs.drop k).toArray (n + 1)) :: post) := by
  have hU := fun vs' => Upd.of (d := l) (o := listOf vs.toArray n) (o' := listOf (List.toArray vs') (n + 1)) h2 h1
  generalize hnews : pre ++ (l, listOf vs.toArray n) :: post = news at hm hx hU ⊢
  have hl : (l, listOf vs.toArray n) ∈ news := by rw [← hnews]; exact List.mem_append.mpr (.inr (.head _))
  unfold Does
  intro dp un gd cn cs a ccd cl outer A₀ base h₀ L m mg mb mean s Q E B F X N T hk hd hu hret
  refine wpAny_call ?_
  have hvl := hm.length
  ktr_rel
  intro g' L' h' FG' F' N' B' X' T'
  (try dsimp only)
  (try k_fold)
  k_steps
  refine Hold.intro ?_
  k_dflt (refine' Does.use (br_does4 w y i l vs n js x _ news hl hm hx hs hlen) ?k1 ?k2 ?k3 ?k4 ?k5 ?kK ?kd ?ku ?_)
  ktr_unf
  rintro r news' h2 tk2 F2 N2 ⟨rfl, k, t, rfl, hcut⟩
  have hk1 := hcut.1
  clear F' N'
  k_steps
  refine Hold.intro ?_
  rename News _ _ _ _ => N3
  k_dflt (refine' kl_method N3 hl PySem.F.slot_list_insert PySem.F.type_list_insert ?_)
  k_steps
  refine Hold.intro ?_
  rename Fr _ _ _ _ => F4
  rename News _ _ _ _ => N4
  refine kl_insert F4 N4 (fits_nat k (by omega)) (kl_ins_nat vs k x (by omega)) (hU _) (Nat.le_trans (show vs.length ≤ 1000 by omega) (by decide)) ?_
  intro h5 F5 N5
  clear F4 N4
  k_steps
  exact hret _ _ _ _ (by k_asm) (by k_asm) ⟨rfl, k, hcut, rfl⟩
end Mine

/- C4 -/
set_option maxRecDepth 100000
namespace Mine
local macro_rules | `(tactic| ktr_rel) => `(tactic| (k_dflt (refine' code_def ?k1 ?k2 ?k3 ?k4 ?k5 ?kA ?kF ?kK ?k6 ?k7 ?k8 ?k9 ?kB ?_ ?c2 ?c3 ?c4 ?c5; (case kA => exact rfl); (case kF => exact rfl); (case kK => assumption); (case k1 => k_asm); (case k2 => k_asm); (case k3 => k_asm); (case k4 => k_asm); (case k5 => k_asm); (case k6 => k_is); (case k7 => k_is); (case k8 => ktr_room); (case k9 => first | exact BindsTo.of_eq rfl | exact kp_binds (by k_in) (fun S => by rfl)); (case c5 => decide); (case kB => exact locs rfl); (case c2 => exact rfl); (case c3 => exact rfl); (case c4 => exact rfl); k_whole)))
/-- one new month at the ledger's head -/
def One (y j : Int) (news : List (Addr × Obj)) (r : Value) (news' : List (Addr × Obj)) : Prop := ∃ D t u n, r = .ref D ∧ news' = (D, tupO [.int (y + j / 12) t, .int (j % 12 + 1) u] n) :: news ∧ ∀ p ∈ news, p.1 < D
theorem One.mon {news : List (Addr × Obj)} {y j a b : Int} {D : Addr} {t u : Tok} {n : Nat} (hl : ∀ p ∈ news, p.1 < D) (h1 : a = y + j / 12) (h2 : b = j % 12 + 1) : One y j news (.ref D) ((D, tupO [.int a t, .int b u] n) :: news) := by
  subst h1
  subst h2
  exact ⟨D, t, u, n, rfl, rfl, hl⟩

set_option maxHeartbeats 4000000 in
theorem next_does (w : World) (y j : Int) (t u : Tok) (news : List (Addr × Obj)) : Does w 1 28 [.int (y + j / 12) t, .int (j % 12 + 1) u] news (One y (j + 1) news) := by
  unfold Does
  intro dp un gd cn cs a ccd cl outer A₀ base h₀ L m mg mb mean s Q E B F X N T hk hd hu hret
  refine wpAny_call ?_
  ktr_rel
  intro g' L' h' FG' F' N' B' X' T'
  (try dsimp only)
  (try k_fold)
  k_steps
  · exact hret _ _ _ _ (by k_asm) (by k_asm) (One.mon (by assumption) (by omega) (by omega))
  · exact hret _ _ _ _ (by k_asm) (by k_asm) (One.mon (by assumption) (by omega) (by omega))
set_option maxHeartbeats 4000000 in
theorem prev_does (w : World) (y j : Int) (t u : Tok) (news : List (Addr × Obj)) : Does w 1 21 [.int (y + j / 12) t, .int (j % 12 + 1) u] news (One y (j - 1) news) := by
  unfold Does
  intro dp un gd cn cs a ccd cl outer A₀ base h₀ L m mg mb mean s Q E B F X N T hk hd hu hret
  refine wpAny_call ?_
  ktr_rel
  intro g' L' h' FG' F' N' B' X' T'
  (try dsimp only)
  (try k_fold)
  k_steps
  · exact hret _ _ _ _ (by k_asm) (by k_asm) (One.mon (by assumption) (by omega) (by omega))
  · exact hret _ _ _ _ (by k_asm) (by k_asm) (One.mon (by assumption) (by omega) (by omega))
end Mine

/- C5 -/
set_option maxRecDepth 100000
namespace Mine
local macro_rules | `(tactic| walk_at "call ref") => `(tactic| (with_reducible refine Hold.mk ?_))
local macro_rules | `(tactic| ktr_unf) => `(tactic| ((case k1 => k_asm); (case k2 => k_asm); (case k3 => k_asm); (case k4 => k_asm); (case k5 => k_asm); (case kK => first | exact rfl | assumption); (case kd => (first | omega | ((try simp only [depth_under_make, depth_under_kw, depth_in1, depth_deeper, depth_caller] at *); (try dsimp only [ktrTop] at *); omega))); (case ku => (first | omega | ((try simp only [units_in1, units_deeper, Around.mark_units, units_caller] at *); (try dsimp only [ktrTop] at *); omega)))))
local macro_rules | `(tactic| ktr_rel) => `(tactic| (k_dflt (refine' code_def ?k1 ?k2 ?k3 ?k4 ?k5 ?kA ?kF ?kK ?k6 ?k7 ?k8 ?k9 ?kB ?_ ?c2 ?c3 ?c4 ?c5; (case kA => exact rfl); (case kF => exact rfl); (case kK => assumption); (case k1 => k_asm); (case k2 => k_asm); (case k3 => k_asm); (case k4 => k_asm); (case k5 => k_asm); (case k6 => k_is); (case k7 => k_is); (case k8 => ktr_room); (case k9 => first | exact BindsTo.of_eq rfl | exact kp_binds (by k_in) (fun S => by rfl)); (case c5 => decide); (case kB => exact locs rfl); (case c2 => exact rfl); (case c3 => exact rfl); (case c4 => exact rfl); k_whole)))
local macro_rules | `(tactic| k_mem) => `(tactic| first | assumption | exact List.mem_cons_self | (refine List.mem_cons_of_mem _ ?_; k_mem))
local macro_rules | `(tactic| walk_at "subscriptTail Name Constant ref int") => `(tactic| (k_dflt (refine' item_tupleT (News.isTup ?N ?m) ?a ?b ?c ?d ?_; (case N => k_asm); (case m => k_mem); (case a => decide); (case b => decide); (case c => rfl); (case d => rfl)); k_whole))
local macro_rules | `(tactic| walk_at "subscriptTail Name Name ref int") => `(tactic| (with_reducible refine Hold.mk ?_))
local macro_rules | `(tactic| walk_at "subscriptTail Name BinOp ref int") => `(tactic| (with_reducible refine Hold.mk ?_))
local macro_rules | `(tactic| walk_at "subscriptTail Name Slice ref ref") => `(tactic| (with_reducible refine Hold.mk ?_))
local macro_rules | `(tactic| walk_at "call builtin:min") => `(tactic| (with_reducible refine Hold.mk ?_))
local macro_rules | `(tactic| walk_at "call builtin:max") => `(tactic| (with_reducible refine Hold.mk ?_))
local macro_rules | `(tactic| walk_at "newTuple") => `(tactic| (with_reducible refine Hold.mk ?_))
local macro_rules | `(tactic| walk_at "binaryOp Add ref ref") => `(tactic| (with_reducible refine Hold.mk ?_))
/-- the two rows in the ledger -/
def Rows (news : List (Addr × Obj)) (y : Int) (fl ll : Addr) (ivs : List Iv) : Prop :=
  ∃ vs us n k, (fl, listOf (List.toArray vs) n) ∈ news ∧ (ll, listOf (List.toArray us) k) ∈ news ∧ MonsIn news y vs (ivs.map (·.1)) ∧ MonsIn news y us (ivs.map (·.2))
def Grown (news base : List (Addr × Obj)) (P : List (Addr × Obj) → Prop) (news' : List (Addr × Obj)) : Prop := ∃ tl, news' = tl ++ news ∧ (∀ p ∈ tl, ∀ q ∈ news, q.1 < p.1) ∧ P (tl ++ base)
/-- the answer of the two deeds -/
def Deed (y : Int) (H : Int → Prop) (r : Value) (nx : List (Addr × Obj)) : Prop :=
  ∃ D fl ll n ivs, r = .ref D ∧ (D, tupO [.ref fl, .ref ll] n) ∈ nx ∧ Rows nx y fl ll ivs ∧ Norm ivs ∧ ∀ k, Held ivs k ↔ H k
set_option maxHeartbeats 8000000 in
theorem put_does (w : World) (y b e : Int) (fl ll : Addr) (ivs : List Iv) (x z : Value) (news base : List (Addr × Obj)) (hb : ∀ p ∈ base, p ∈ news) (hr : Rows base y fl ll ivs) (hx : MonIn base y x b) (hz : MonIn base y z e) (hn : Norm ivs) (hbe : b ≤ e) (hlen : ivs.length ≤ 100) :
    Does w 3 71 [.ref fl, .ref ll, x, z] news (fun r => Grown news base (Deed y (fun k => Held ivs k ∨ (b ≤ k ∧ k ≤ e)) r)) := by
  obtain ⟨vs, us, vn, un', hfl0, hll0, hvs0, hus0⟩ := hr
  have hfl := hb _ hfl0
  have hll := hb _ hll0
  have hvs := hvs0.mono hb
  have hus := hus0.mono hb
  obtain ⟨xb, xt, xu, xn, rfl, hxm0⟩ := hx
  obtain ⟨zb, zt, zu, zn, rfl, hzm0⟩ := hz
  have hxm := hb _ hxm0
  have hzm := hb _ hzm0
  unfold Does
  intro dp un gd cn cs a ccd cl outer A₀ bs0 h₀ L m mg mb mean s Q E B F X N T hk hd hu hret
  refine wpAny_call ?_
  ktr_rel
  intro g' L' h' FG' F' N' B' X' T'
  (try dsimp only)
  (try k_fold)
  k_steps
  refine Hold.intro ?_
  k_dflt (refine' Does.use (prev_does w y b xt xu news) ?k1 ?k2 ?k3 ?k4 ?k5 ?kK ?kd ?ku ?_)
  ktr_unf
  rintro r news1 h1 tk1 F1 N1 ⟨D1, d1t, d1u, d1n, rfl, rfl, lt1⟩
  obtain ⟨o1, ho1⟩ : ∃ o1, o1 = tupO [.int (y + (b - 1) / 12) d1t, .int ((b - 1) % 12 + 1) d1u] d1n := ⟨_, rfl⟩
  rw [← ho1] at N1
  have hD1 : MonIn ((D1, o1) :: news) y (.ref D1) (b - 1) := ⟨D1, d1t, d1u, d1n, rfl, by rw [← ho1]; exact .head _⟩
  clear F' N'
  k_steps
  refine Hold.intro ?_
  have sub1 : ∀ p ∈ news, p ∈ (D1, o1) :: news := fun p hp => .tail _ hp
  k_dflt (refine' Does.use (bl_does2 w y (b - 1) ll us un' (ivs.map (·.2)) (.ref D1) 0 ((D1, o1) :: news) (sub1 _ hll) (hus.mono sub1) hD1 hn.lasts (by rw [List.length_map]; omega)) ?k1 ?k2 ?k3 ?k4 ?k5 ?kK ?kd ?ku ?_)
  ktr_unf
  rintro r news2 h2 tk2 F2 N2 ⟨rfl, low, tl, rfl, hlow⟩
  clear F1 N1
  k_steps
  refine Hold.intro ?_
  rename News _ _ _ _ => N3
  rename Fr _ _ _ _ => F3
  k_dflt (refine' Does.use (next_does w y e zt zu ((D1, o1) :: news)) ?k1 ?k2 ?k3 ?k4 ?k5 ?kK ?kd ?ku ?_)
  ktr_unf
  rintro r news1 h3 tk3 F4 N4 ⟨D2, d2t, d2u, d2n, rfl, rfl, lt2⟩
  obtain ⟨o2, ho2⟩ : ∃ o2, o2 = tupO [.int (y + (e + 1) / 12) d2t, .int ((e + 1) % 12 + 1) d2u] d2n := ⟨_, rfl⟩
  rw [← ho2] at N4
  have hD2 : MonIn ((D2, o2) :: (D1, o1) :: news) y (.ref D2) (e + 1) := ⟨D2, d2t, d2u, d2n, rfl, by rw [← ho2]; exact .head _⟩
  clear F3 N3
  k_steps
  refine Hold.intro ?_
  have sub2 : ∀ p ∈ news, p ∈ (D2, o2) :: (D1, o1) :: news := fun p hp => .tail _ (.tail _ hp)
  k_dflt (refine' Does.use (br_does2 w y (e + 1) fl vs vn (ivs.map (·.1)) (.ref D2) 0 ((D2, o2) :: (D1, o1) :: news) (sub2 _ hfl) (hvs.mono sub2) hD2 hn.firsts (by rw [List.length_map]; omega)) ?k1 ?k2 ?k3 ?k4 ?k5 ?kK ?kd ?ku ?_)
  ktr_unf
  rintro r news2 h4 tk4 F5 N5 ⟨rfl, high, th, rfl, hhigh⟩
  clear F4 N4
  have hP : PutAt ivs b e low high := PutAt.of hn hbe hlow hhigh
  have hvl := hvs.length
  have hul := hus.length
  rw [List.length_map] at hvl hul
  k_steps
  -- joined
  refine Hold.intro ?_
  rename News _ _ _ _ => N6
  rename (low : Int) < (high : Int) => hlt
  have hlt' : low < high := by omega
  have hh0 := hP.h0
  have hl9 : low < ivs.length := by omega
  have hh9 : high - 1 < ivs.length := by omega
  obtain ⟨v1, hv1, v1b, v1t, v1u, v1n, rfl, hv1m⟩ := hvs0.get (n := low) (by rw [List.length_map]; exact hl9)
  refine item_led N6 (sub2 _ hfl) (by omega) (by have : (2 : Int) ^ 63 = 9223372036854775808 := by decide
                                                 omega) hv1 ?_
  k_steps
  refine Hold.intro ?_
  rename News _ _ _ _ => N7
  rename Fr _ _ _ _ => F7
  refine min_mon rfl F7 N7 hxm0 hv1m (fun p hp => sub2 p (hb p hp)) (by show un + 3 + 1 < cLine; omega) ?_
  intro fb f h8 tk8 F8 N8 hfb hf
  clear F7 N7
  k_steps
  refine Hold.intro ?_
  rename News _ _ _ _ => N9
  obtain ⟨v2, hv2, v2b, v2t, v2u, v2n, rfl, hv2m⟩ := hus0.get (n := high - 1) (by rw [List.length_map]; exact hh9)
  refine item_led N9 (sub2 _ hll) (by omega) (by have : (2 : Int) ^ 63 = 9223372036854775808 := by decide
                                                 omega) (by rw [show ((high : Int) - 1).toNat = high - 1 by omega]; exact hv2) ?_
  k_steps
  refine Hold.intro ?_
  rename News _ _ _ _ => N10
  rename Fr _ _ _ _ => F10
  refine max_mon rfl F10 N10 hzm0 hv2m (fun p hp => sub2 p (hb p hp)) (by show un + 3 + 1 < cLine; omega) ?_
  intro lb l h11 tk11 F11 N11 hlb hl
  clear F10 N10
  have hJ := hP.join hlt' f l hl9 hh9 (by rw [hf]; simp) (by rw [hl]; simp)
  have hlh : low ≤ high := by omega
  k_steps
  rotate_left
  -- alone
  rename ¬ (low : Int) < (high : Int) => hlt
  have hlt' : ¬ low < high := by omega
  have hJ := hP.new hlt'
  have hlh : low ≤ high := by have := hP.not_lt hlt'; omega
  have hfb : MonIn base y (.ref xb) b := ⟨xb, xt, xu, xn, rfl, hxm0⟩
  have hlb : MonIn base y (.ref zb) e := ⟨zb, zt, zu, zn, rfl, hzm0⟩
  obtain ⟨fb, rfl⟩ : ∃ fb, fb = xb := ⟨xb, rfl⟩
  obtain ⟨lb, rfl⟩ : ∃ lb, lb = zb := ⟨zb, rfl⟩
  all_goals
    refine Hold.intro ?_
    rename News _ _ _ _ => Na
    rename Fr _ _ _ _ => Fa
    refine to_led Fa Na (sub2 _ hfl) (by omega) ?_
    intro D3 h3' F3' N3' lt3
    clear Fa Na
    k_steps
    refine Hold.intro ?_
    rename News _ _ _ _ => Na
    rename Fr _ _ _ _ => Fa
    refine from_led Fa Na (.tail _ (sub2 _ hfl)) (by omega) ?_
    intro D4 h4' F4' N4' lt4
    clear Fa Na
    k_steps
    refine Hold.intro ?_
    rename News _ _ _ _ => Na
    rename Fr _ _ _ _ => Fa
    refine add_led Fa Na (.tail _ (.head _)) (.head _) (by rw [List.length_take, List.length_drop]; omega) ?_
    intro D5 h5' F5' N5' lt5
    clear Fa Na
    k_steps
    refine Hold.intro ?_
    rename News _ _ _ _ => Na
    rename Fr _ _ _ _ => Fa
    refine to_led Fa Na (.tail _ (.tail _ (.tail _ (sub2 _ hll)))) (by omega) ?_
    intro D6 h6' F6' N6' lt6
    clear Fa Na
    k_steps
    refine Hold.intro ?_
    rename News _ _ _ _ => Na
    rename Fr _ _ _ _ => Fa
    refine from_led Fa Na (.tail _ (.tail _ (.tail _ (.tail _ (sub2 _ hll))))) (by omega) ?_
    intro D7 h7' F7' N7' lt7
    clear Fa Na
    k_steps
    refine Hold.intro ?_
    rename News _ _ _ _ => Na
    rename Fr _ _ _ _ => Fa
    refine add_led Fa Na (.tail _ (.head _)) (.head _) (by rw [List.length_take, List.length_drop]; omega) ?_
    intro D8 h8' F8' N8' lt8
    clear Fa Na
    k_steps
    refine Hold.intro ?_
    rename News _ _ _ _ => Na
    rename Fr _ _ _ _ => Fa
    refine tuple_led Fa Na (Nat.le_of_ble_eq_true rfl) ?_
    intro D9 h9' F9' N9' lt9
    clear Fa Na
    k_steps
    refine Hold.intro ?_
    rename News _ _ _ _ => Na
    rename Fr _ _ _ _ => Fa
    have a56 : D5 < D6 := lt6 (D5, _) (.head _)
    have a57 : D5 < D7 := lt7 (D5, _) (.tail _ (.head _))
    have a58 : D5 < D8 := lt8 (D5, _) (.tail _ (.tail _ (.head _)))
    have a59 : D5 < D9 := lt9 (D5, _) (.tail _ (.tail _ (.tail _ (.head _))))
    have a89 : D8 < D9 := lt9 (D8, _) (.head _)
    have hM1 := hJ.1.firsts
    have hM2 := hJ.1.lasts
    simp only [mid, List.map_append, List.map_cons, List.cons_append, List.nil_append, List.map_take, List.map_drop] at hM1 hM2
    have sub5 : ∀ p ∈ (D2, o2) :: (D1, o1) :: news, p ∈ [(D9, tupO [.ref D5, .ref D8] 0), (D8, listOf (us.take low ++ us.drop high).toArray 0), (D7, listOf (us.drop high).toArray 0), (D6, listOf (us.take low).toArray 0)] ++ (D5, listOf (vs.take low ++ vs.drop high).toArray 0) :: (D4, listOf (vs.drop high).toArray 0) :: (D3, listOf (vs.take low).toArray 0) :: (D2, o2) :: (D1, o1) :: news :=
      fun p hp => .tail _ (.tail _ (.tail _ (.tail _ (.tail _ (.tail _ (.tail _ hp))))))
    have hmA := ((hvs.mono sub2).take low).append ((hvs.mono sub2).drop high)
    have hmB := ((hus.mono sub2).take low).append ((hus.mono sub2).drop high)
    have hl1 : ((ivs.map (·.1)).take low ++ (ivs.map (·.1)).drop high).length ≤ 1000 := by
      rw [List.length_append, List.length_take, List.length_drop, List.length_map]; omega
    have hl2 : ((ivs.map (·.2)).take low ++ (ivs.map (·.2)).drop high).length ≤ 1000 := by
      rw [List.length_append, List.length_take, List.length_drop, List.length_map]; omega
    have CL := il_does w y _ D5 _ 0 _ _ [(D9, tupO [.ref D5, .ref D8] 0), (D8, listOf (us.take low ++ us.drop high).toArray 0), (D7, listOf (us.drop high).toArray 0), (D6, listOf (us.take low).toArray 0)] ((D4, listOf (vs.drop high).toArray 0) :: (D3, listOf (vs.take low).toArray 0) :: (D2, o2) :: (D1, o1) :: news)
      (hmA.mono sub5) (hfb.mono (fun p hp => sub5 p (sub2 p (hb p hp)))) (ins_sorted hM1) hl1 (List.forall_mem_cons.mpr ⟨Nat.ne_of_gt a59, List.forall_mem_cons.mpr ⟨Nat.ne_of_gt a58, List.forall_mem_cons.mpr ⟨Nat.ne_of_gt a57, List.forall_mem_cons.mpr ⟨Nat.ne_of_gt a56, List.forall_mem_nil _⟩⟩⟩⟩) (fun p hp => Nat.ne_of_lt (lt5 p hp))
    dsimp only [List.cons_append, List.nil_append] at CL
    k_dflt (refine' Does.use CL ?k1 ?k2 ?k3 ?k4 ?k5 ?kK ?kd ?ku ?_)
    ktr_unf
    clear Fa Na
    rintro r news9 h9 tk9 F9 N9 ⟨rfl, k1, hk1, rfl⟩
    have e1 := insL hM1 hk1
    rw [ins_vals (by rw [e1, List.length_take, List.length_take, List.length_map]; omega)] at N9
    k_steps
    refine Hold.intro ?_
    obtain ⟨post8, hpost8⟩ : ∃ post8, post8 = (D7, listOf (us.drop high).toArray 0) :: (D6, listOf (us.take low).toArray 0) :: (D5, listOf (vs.take low ++ Value.ref fb :: vs.drop high).toArray (0 + 1)) :: (D4, listOf (vs.drop high).toArray 0) :: (D3, listOf (vs.take low).toArray 0) :: (D2, o2) :: (D1, o1) :: news := ⟨_, rfl⟩
    rw [← hpost8] at N9
    have sub8 : ∀ p ∈ (D2, o2) :: (D1, o1) :: news, p ∈ [(D9, tupO [.ref D5, .ref D8] 0)] ++ (D8, listOf (us.take low ++ us.drop high).toArray 0) :: post8 :=
      fun p hp => by rw [hpost8]; exact .tail _ (.tail _ (.tail _ (.tail _ (.tail _ (.tail _ (.tail _ hp))))))
    have CR := ir_does w y _ D8 _ 0 _ _ [(D9, tupO [.ref D5, .ref D8] 0)] post8 (hmB.mono sub8) (hlb.mono (fun p hp => sub8 p (sub2 p (hb p hp)))) (ins_sorted hM2) hl2 (List.forall_mem_cons.mpr ⟨Nat.ne_of_gt a89, List.forall_mem_nil _⟩)
      (by rw [hpost8]
          exact List.forall_mem_cons.mpr ⟨Nat.ne_of_lt (lt8 _ (.head _)), List.forall_mem_cons.mpr ⟨Nat.ne_of_lt (lt8 (D6, _) (.tail _ (.head _))), List.forall_mem_cons.mpr ⟨Nat.ne_of_lt a58, fun p hp => Nat.ne_of_lt (lt8 p (.tail _ (.tail _ (.tail _ hp))))⟩⟩⟩)
    dsimp only [List.cons_append, List.nil_append] at CR
    k_dflt (refine' Does.use CR ?k1 ?k2 ?k3 ?k4 ?k5 ?kK ?kd ?ku ?_)
    ktr_unf
    clear F9 N9
    rintro r news11 h11 tk11 F11 N11 ⟨rfl, k2, hk2, rfl⟩
    have e2 := insR hM2 hk2
    rw [ins_vals (by rw [e2, List.length_take, List.length_take, List.length_map]; omega)] at N11
    k_steps
    refine Hold.intro ?_
    refine tuple_led F11 N11 (Nat.le_of_ble_eq_true rfl) ?_
    intro D10 h10' F10' N10' lt10
    clear F11 N11
    k_steps
    have hN : ∀ q ∈ news, q.1 < D1 := lt1
    have l2 : ∀ q ∈ news, q.1 < D2 := fun q hq => lt2 q (.tail _ hq)
    have l3 : ∀ q ∈ news, q.1 < D3 := fun q hq => lt3 q (.tail _ (.tail _ hq))
    have l4 : ∀ q ∈ news, q.1 < D4 := fun q hq => lt4 q (.tail _ (.tail _ (.tail _ hq)))
    have l5 : ∀ q ∈ news, q.1 < D5 := fun q hq => lt5 q (.tail _ (.tail _ (.tail _ (.tail _ hq))))
    have l6 : ∀ q ∈ news, q.1 < D6 := fun q hq => Nat.lt_trans (l5 q hq) a56
    have l7 : ∀ q ∈ news, q.1 < D7 := fun q hq => Nat.lt_trans (l5 q hq) a57
    have l8 : ∀ q ∈ news, q.1 < D8 := fun q hq => Nat.lt_trans (l5 q hq) a58
    have l9 : ∀ q ∈ news, q.1 < D9 := fun q hq => Nat.lt_trans (l5 q hq) a59
    have a510 : D5 < D10 := lt10 (D5, _) (by rw [hpost8]; exact .tail _ (.tail _ (.tail _ (.tail _ (.head _)))))
    have l10 : ∀ q ∈ news, q.1 < D10 := fun q hq => Nat.lt_trans (l5 q hq) a510
    have subE : ∀ p ∈ base, p ∈ [(D10, tupO [.ref D5, .ref D8] 0), (D9, tupO [.ref D5, .ref D8] 0), (D8, listOf (us.take low ++ Value.ref lb :: us.drop high).toArray (0 + 1)), (D7, listOf (us.drop high).toArray 0), (D6, listOf (us.take low).toArray 0), (D5, listOf (vs.take low ++ Value.ref fb :: vs.drop high).toArray (0 + 1)), (D4, listOf (vs.drop high).toArray 0), (D3, listOf (vs.take low).toArray 0), (D2, o2), (D1, o1)] ++ base :=
      fun p hp => .tail _ (.tail _ (.tail _ (.tail _ (.tail _ (.tail _ (.tail _ (.tail _ (.tail _ (.tail _ hp)))))))))
    refine hret _ _ _ _ (by k_asm) (by k_asm) ⟨[(D10, tupO [.ref D5, .ref D8] 0), (D9, tupO [.ref D5, .ref D8] 0), (D8, listOf (us.take low ++ Value.ref lb :: us.drop high).toArray (0 + 1)), (D7, listOf (us.drop high).toArray 0), (D6, listOf (us.take low).toArray 0), (D5, listOf (vs.take low ++ Value.ref fb :: vs.drop high).toArray (0 + 1)), (D4, listOf (vs.drop high).toArray 0), (D3, listOf (vs.take low).toArray 0), (D2, o2), (D1, o1)], ?g1, ?g2, D10, D5, D8, 0, _, rfl, .head _, ⟨vs.take low ++ Value.ref fb :: vs.drop high, us.take low ++ Value.ref lb :: us.drop high, 0 + 1, 0 + 1, ?g3, .tail _ (.tail _ (.head _)), ?g4, ?g5⟩, hJ⟩
    case g1 => rw [hpost8]; rfl
    case g2 =>
      exact List.forall_mem_cons.mpr ⟨l10, List.forall_mem_cons.mpr ⟨l9, List.forall_mem_cons.mpr ⟨l8, List.forall_mem_cons.mpr ⟨l7, List.forall_mem_cons.mpr ⟨l6, List.forall_mem_cons.mpr ⟨l5, List.forall_mem_cons.mpr ⟨l4, List.forall_mem_cons.mpr ⟨l3, List.forall_mem_cons.mpr ⟨l2, List.forall_mem_cons.mpr ⟨lt1, List.forall_mem_nil _⟩⟩⟩⟩⟩⟩⟩⟩⟩⟩
    case g3 => exact .tail _ (.tail _ (.tail _ (.tail _ (.tail _ (.head _)))))
    case g4 =>
      simp only [mid, List.map_append, List.map_cons, List.cons_append, List.nil_append, List.map_take, List.map_drop]
      exact ((hvs0.take low).append (.cons hfb (hvs0.drop high))).mono subE
    case g5 =>
      simp only [mid, List.map_append, List.map_cons, List.cons_append, List.nil_append, List.map_take, List.map_drop]
      exact ((hus0.take low).append (.cons hlb (hus0.drop high))).mono subE
end Mine

/- C6 -/
set_option maxRecDepth 100000
namespace Mine
local macro_rules | `(tactic| walk_at "call ref") => `(tactic| (with_reducible refine Hold.mk ?_))
local macro_rules | `(tactic| ktr_unf) => `(tactic| ((case k1 => k_asm); (case k2 => k_asm); (case k3 => k_asm); (case k4 => k_asm); (case k5 => k_asm); (case kK => first | exact rfl | assumption); (case kd => (first | omega | ((try simp only [depth_under_make, depth_under_kw, depth_in1, depth_deeper, depth_caller] at *); (try dsimp only [ktrTop] at *); omega))); (case ku => (first | omega | ((try simp only [units_in1, units_deeper, Around.mark_units, units_caller] at *); (try dsimp only [ktrTop] at *); omega)))))
local macro_rules | `(tactic| ktr_rel) => `(tactic| (k_dflt (refine' code_def ?k1 ?k2 ?k3 ?k4 ?k5 ?kA ?kF ?kK ?k6 ?k7 ?k8 ?k9 ?kB ?_ ?c2 ?c3 ?c4 ?c5; (case kA => exact rfl); (case kF => exact rfl); (case kK => assumption); (case k1 => k_asm); (case k2 => k_asm); (case k3 => k_asm); (case k4 => k_asm); (case k5 => k_asm); (case k6 => k_is); (case k7 => k_is); (case k8 => ktr_room); (case k9 => first | exact BindsTo.of_eq rfl | exact kp_binds (by k_in) (fun S => by rfl)); (case c5 => decide); (case kB => exact locs rfl); (case c2 => exact rfl); (case c3 => exact rfl); (case c4 => exact rfl); k_whole)))
local macro_rules | `(tactic| k_mem) => `(tactic| first | assumption | exact List.mem_cons_self | (refine List.mem_cons_of_mem _ ?_; k_mem))
local macro_rules | `(tactic| walk_at "subscriptTail Name Constant ref int") => `(tactic| (k_dflt (refine' item_tupleT (News.isTup ?N ?m) ?a ?b ?c ?d ?_; (case N => k_asm); (case m => k_mem); (case a => decide); (case b => decide); (case c => rfl); (case d => rfl)); k_whole))
local macro_rules | `(tactic| walk_at "subscriptTail Name Name ref int") => `(tactic| (with_reducible refine Hold.mk ?_))
local macro_rules | `(tactic| walk_at "subscriptTail Name BinOp ref int") => `(tactic| (with_reducible refine Hold.mk ?_))
local macro_rules | `(tactic| walk_at "subscriptTail Name Slice ref ref") => `(tactic| (with_reducible refine Hold.mk ?_))
local macro_rules | `(tactic| walk_at "newTuple") => `(tactic| (with_reducible refine Hold.mk ?_))
local macro_rules | `(tactic| walk_at "binaryOp Add ref ref") => `(tactic| (with_reducible refine Hold.mk ?_))
local macro_rules | `(tactic| walk_at "compareOp Lt ref ref") => `(tactic| (with_reducible refine Hold.mk ?_))

set_option maxHeartbeats 16000000 in
theorem take_does (w : World) (y b e : Int) (fl ll : Addr) (ivs : List Iv) (x z : Value) (news base : List (Addr × Obj)) (hb : ∀ p ∈ base, p ∈ news) (hr : Rows base y fl ll ivs) (hx : MonIn base y x b) (hz : MonIn base y z e) (hn : Norm ivs) (hbe : b ≤ e) (hlen : ivs.length ≤ 100) :
    Does w 3 78 [.ref fl, .ref ll, x, z] news (fun r => Grown news base (Deed y (fun k => Held ivs k ∧ ¬ (b ≤ k ∧ k ≤ e)) r)) := by
  obtain ⟨vs, us, vn, un', hfl0, hll0, hvs0, hus0⟩ := hr
  have hfl := hb _ hfl0
  have hll := hb _ hll0
  have hvs := hvs0.mono hb
  have hus := hus0.mono hb
  obtain ⟨xb, xt, xu, xn, rfl, hxm0⟩ := hx
  obtain ⟨zb, zt, zu, zn, rfl, hzm0⟩ := hz
  have hxm := hb _ hxm0
  have hzm := hb _ hzm0
  unfold Does
  intro dp un gd cn cs a ccd cl outer A₀ bs0 h₀ L m mg mb mean s Q E B F X N T hk hd hu hret
  refine wpAny_call ?_
  ktr_rel
  intro g' L' h' FG' F' N' B' X' T'
  (try dsimp only)
  (try k_fold)
  k_steps
  refine Hold.intro ?_
  k_dflt (refine' Does.use (bl_does2 w y b ll us un' (ivs.map (·.2)) (.ref xb) 0 news hll hus ⟨xb, xt, xu, xn, rfl, hxm⟩ hn.lasts (by rw [List.length_map]; omega)) ?k1 ?k2 ?k3 ?k4 ?k5 ?kK ?kd ?ku ?_)
  ktr_unf
  rintro r news2 h2 tk2 F2 N2 ⟨hnw2, low, tl, rfl, hlow⟩
  rw [hnw2] at N2
  clear F' N'
  k_steps
  refine Hold.intro ?_
  rename News _ _ _ _ => N3
  rename Fr _ _ _ _ => F3
  k_dflt (refine' Does.use (br_does2 w y e fl vs vn (ivs.map (·.1)) (.ref zb) 0 news hfl hvs ⟨zb, zt, zu, zn, rfl, hzm⟩ hn.firsts (by rw [List.length_map]; omega)) ?k1 ?k2 ?k3 ?k4 ?k5 ?kK ?kd ?ku ?_)
  ktr_unf
  rintro r news4 h4 tk4 F5 N5 ⟨hnw4, high, th, rfl, hhigh⟩
  rw [hnw4] at N5
  clear F3 N3
  have hP : TakeAt ivs b e low high := TakeAt.of hn hbe hlow hhigh
  have hvl := hvs.length
  have hul := hus.length
  rw [List.length_map] at hvl hul
  k_steps
  rotate_left
  -- nothing is met
  rename ¬ (low : Int) < (high : Int) => hlt
  have hlt' : ¬ low < high := by omega
  refine Hold.intro ?_
  rename News _ _ _ _ => Na
  rename Fr _ _ _ _ => Fa
  refine tuple_led Fa Na (Nat.le_of_ble_eq_true rfl) ?_
  intro D1 h1' F1' N1' lt1
  clear Fa Na
  k_steps
  refine hret _ _ _ _ (by k_asm) (by k_asm) ⟨[(D1, tupO [.ref fl, .ref ll] 0)], rfl, List.forall_mem_cons.mpr ⟨lt1, List.forall_mem_nil _⟩, D1, fl, ll, 0, ivs, rfl, .head _, ⟨vs, us, vn, un', .tail _ hfl0, .tail _ hll0, hvs0.mono (fun p hp => .tail _ hp), hus0.mono (fun p hp => .tail _ hp)⟩, hn, hP.none hlt'⟩
  -- something is met
  refine Hold.intro ?_
  rename News _ _ _ _ => Na
  rename Fr _ _ _ _ => Fa
  rename (low : Int) < (high : Int) => hlt
  have hlt' : low < high := by omega
  have hh0 := hP.h0
  have hl9 : low < ivs.length := by omega
  have hh9 : high - 1 < ivs.length := by omega
  have hJ := hP.cut hlt' hl9 hh9
  obtain ⟨v1, hv1, v1b, v1t, v1u, v1n, rfl, hv1m0⟩ := hvs0.get (n := low) (by rw [List.length_map]; exact hl9)
  obtain ⟨v2, hv2, v2b, v2t, v2u, v2n, rfl, hv2m0⟩ := hus0.get (n := high - 1) (by rw [List.length_map]; exact hh9)
  rw [List.getElem_map] at hv1m0 hv2m0
  have hv1m := hb _ hv1m0
  have hv2m := hb _ hv2m0
  refine item_led Na hfl (by omega) (by have : (2 : Int) ^ 63 = 9223372036854775808 := by decide
                                        omega) hv1 ?_
  k_steps
  refine Hold.intro ?_
  rename News _ _ _ _ => Na
  rename Fr _ _ _ _ => Fa
  refine item_led Na hll (by omega) (by have : (2 : Int) ^ 63 = 9223372036854775808 := by decide
                                        omega) (by rw [show ((high : Int) - 1).toNat = high - 1 by omega]; exact hv2) ?_
  generalize hB : ivs[low].1 = Bg at hJ hv1m hv1m0
  generalize hE : ivs[high - 1].2 = En at hJ hv2m hv2m0
  k_steps
  refine Hold.intro ?_
  rename News _ _ _ _ => Na
  rename Fr _ _ _ _ => Fa
  refine tuple_led Fa Na (Nat.le_of_ble_eq_true rfl) ?_
  intro D2 h2' F2' N2' ltD2
  clear Fa Na
  k_steps
  refine Hold.intro ?_
  rename News _ _ _ _ => Na
  rename Fr _ _ _ _ => Fa
  refine to_led Fa Na (.tail _ (hfl)) (by omega) ?_
  intro D3 hD3' FD3' ND3' ltD3
  clear Fa Na
  k_steps
  refine Hold.intro ?_
  rename News _ _ _ _ => Na
  rename Fr _ _ _ _ => Fa
  refine from_led Fa Na (.tail _ (.tail _ (hfl))) (by omega) ?_
  intro D4 hD4' FD4' ND4' ltD4
  clear Fa Na
  k_steps
  refine Hold.intro ?_
  rename News _ _ _ _ => Na
  rename Fr _ _ _ _ => Fa
  refine add_led Fa Na (.tail _ (.head _)) (.head _) (by rw [List.length_take, List.length_drop]; omega) ?_
  intro D5 hD5' FD5' ND5' ltD5
  clear Fa Na
  k_steps
  refine Hold.intro ?_
  rename News _ _ _ _ => Na
  rename Fr _ _ _ _ => Fa
  refine to_led Fa Na (.tail _ (.tail _ (.tail _ (.tail _ (hll))))) (by omega) ?_
  intro D6 hD6' FD6' ND6' ltD6
  clear Fa Na
  k_steps
  refine Hold.intro ?_
  rename News _ _ _ _ => Na
  rename Fr _ _ _ _ => Fa
  refine from_led Fa Na (.tail _ (.tail _ (.tail _ (.tail _ (.tail _ (hll)))))) (by omega) ?_
  intro D7 hD7' FD7' ND7' ltD7
  clear Fa Na
  k_steps
  refine Hold.intro ?_
  rename News _ _ _ _ => Na
  rename Fr _ _ _ _ => Fa
  refine add_led Fa Na (.tail _ (.head _)) (.head _) (by rw [List.length_take, List.length_drop]; omega) ?_
  intro D8 hD8' FD8' ND8' ltD8
  clear Fa Na
  k_steps
  refine Hold.intro ?_
  rename News _ _ _ _ => Na
  rename Fr _ _ _ _ => Fa
  refine tuple_led Fa Na (Nat.le_of_ble_eq_true rfl) ?_
  intro D9 hD9' FD9' ND9' ltD9
  clear Fa Na
  k_steps
  have hl1 : ((ivs.map (·.1)).take low ++ (ivs.map (·.1)).drop high).length ≤ 1000 := by
    rw [List.length_append, List.length_take, List.length_drop, List.length_map]; omega
  have hl2 : ((ivs.map (·.2)).take low ++ (ivs.map (·.2)).drop high).length ≤ 1000 := by
    rw [List.length_append, List.length_take, List.length_drop, List.length_map]; omega
  have hl3 : (((ivs.map (·.1)).take low ++ [Bg]) ++ (ivs.map (·.1)).drop high).length ≤ 1000 := by
    rw [List.length_append, List.length_append, List.length_take, List.length_drop, List.length_map]; simp only [List.length_cons, List.length_nil]; omega
  have hl4 : (((ivs.map (·.2)).take low ++ [b - 1]) ++ (ivs.map (·.2)).drop high).length ≤ 1000 := by
    rw [List.length_append, List.length_append, List.length_take, List.length_drop, List.length_map]; simp only [List.length_cons, List.length_nil]; omega
  have hM1 := hJ.1.firsts
  have hM2 := hJ.1.lasts
  refine Hold.intro ?_
  rename News _ _ _ _ => Na
  rename Fr _ _ _ _ => Fa
  have sb : ∀ p ∈ news, p ∈ (D9, tupO [.ref D5, .ref D8] 0) :: (D8, listOf (us.take low ++ us.drop high).toArray 0) :: (D7, listOf (us.drop high).toArray 0) :: (D6, listOf (us.take low).toArray 0) :: (D5, listOf (vs.take low ++ vs.drop high).toArray 0) :: (D4, listOf (vs.drop high).toArray 0) :: (D3, listOf (vs.take low).toArray 0) :: (D2, tupO [.ref v1b, .ref v2b] 0) :: news := fun p hp => .tail _ (.tail _ (.tail _ (.tail _ (.tail _ (.tail _ (.tail _ (.tail _ (hp))))))))
  refine lt_pair (Na.get (sb _ hv1m)) (Na.get (sb _ hxm)) (by show un + 3 < cLine; omega) ?_
  rw [ltP_mon]
  k_steps
  · skip
    rename Bg < b => hB2
    refine Hold.intro ?_
    rename News _ _ _ _ => Na
    rename Fr _ _ _ _ => Fa
    have sc1 : ∀ p ∈ news, p ∈ (D9, tupO [.ref D5, .ref D8] 0) :: (D8, listOf (us.take low ++ us.drop high).toArray 0) :: (D7, listOf (us.drop high).toArray 0) :: (D6, listOf (us.take low).toArray 0) :: (D5, listOf (vs.take low ++ vs.drop high).toArray 0) :: (D4, listOf (vs.drop high).toArray 0) :: (D3, listOf (vs.take low).toArray 0) :: (D2, tupO [.ref v1b, .ref v2b] 0) :: news := fun p hp => .tail _ (.tail _ (.tail _ (.tail _ (.tail _ (.tail _ (.tail _ (.tail _ (hp))))))))
    have hq1 : ((ivs.map (·.1)).take low ++ Bg :: (ivs.map (·.1)).drop high).Pairwise (· < ·) := by
      have hz9 := hM1
      unfold rest at hz9
      rw [if_pos hB2] at hz9
      simp only [mid, List.map_append, List.map_cons, List.map_nil, List.cons_append, List.nil_append, List.map_take, List.map_drop, List.append_assoc] at hz9
      exact hz9.sublist (List.Sublist.append_left (List.Sublist.cons_cons _ (List.sublist_append_right _ _)) _)
    have hq2 : ((ivs.map (·.2)).take low ++ (b - 1) :: (ivs.map (·.2)).drop high).Pairwise (· < ·) := by
      have hz9 := hM2
      unfold rest at hz9
      rw [if_pos hB2] at hz9
      simp only [mid, List.map_append, List.map_cons, List.map_nil, List.cons_append, List.nil_append, List.map_take, List.map_drop, List.append_assoc] at hz9
      exact hz9.sublist (List.Sublist.append_left (List.Sublist.cons_cons _ (List.sublist_append_right _ _)) _)
    have mma : MonsIn ((D9, tupO [.ref D5, .ref D8] 0) :: (D8, listOf (us.take low ++ us.drop high).toArray 0) :: (D7, listOf (us.drop high).toArray 0) :: (D6, listOf (us.take low).toArray 0) :: (D5, listOf (vs.take low ++ vs.drop high).toArray 0) :: (D4, listOf (vs.drop high).toArray 0) :: (D3, listOf (vs.take low).toArray 0) :: (D2, tupO [.ref v1b, .ref v2b] 0) :: news) y (vs.take low ++ vs.drop high) ((ivs.map (·.1)).take low ++ (ivs.map (·.1)).drop high) := ((hvs.mono sc1).take low).append ((hvs.mono sc1).drop high)
    have mxa : MonIn ((D9, tupO [.ref D5, .ref D8] 0) :: (D8, listOf (us.take low ++ us.drop high).toArray 0) :: (D7, listOf (us.drop high).toArray 0) :: (D6, listOf (us.take low).toArray 0) :: (D5, listOf (vs.take low ++ vs.drop high).toArray 0) :: (D4, listOf (vs.drop high).toArray 0) :: (D3, listOf (vs.take low).toArray 0) :: (D2, tupO [.ref v1b, .ref v2b] 0) :: news) y (Value.ref v1b) (Bg) := ⟨v1b, v1t, v1u, v1n, rfl, sc1 _ hv1m⟩
    have Ca := il_does w y (Bg) D5 (vs.take low ++ vs.drop high) 0 _ (Value.ref v1b) [(D9, tupO [.ref D5, .ref D8] 0), (D8, listOf (us.take low ++ us.drop high).toArray 0), (D7, listOf (us.drop high).toArray 0), (D6, listOf (us.take low).toArray 0)] ((D4, listOf (vs.drop high).toArray 0) :: (D3, listOf (vs.take low).toArray 0) :: (D2, tupO [.ref v1b, .ref v2b] 0) :: news) mma mxa (ins_sorted hq1) hl1 (List.forall_mem_cons.mpr ⟨Nat.ne_of_gt (ltD9 (D5, listOf (vs.take low ++ vs.drop high).toArray 0) (.tail _ (.tail _ (.tail _ (.head _))))), List.forall_mem_cons.mpr ⟨Nat.ne_of_gt (ltD8 (D5, listOf (vs.take low ++ vs.drop high).toArray 0) (.tail _ (.tail _ (.head _)))), List.forall_mem_cons.mpr ⟨Nat.ne_of_gt (ltD7 (D5, listOf (vs.take low ++ vs.drop high).toArray 0) (.tail _ (.head _))), List.forall_mem_cons.mpr ⟨Nat.ne_of_gt (ltD6 (D5, listOf (vs.take low ++ vs.drop high).toArray 0) (.head _)), List.forall_mem_nil _⟩⟩⟩⟩) (List.forall_mem_cons.mpr ⟨Nat.ne_of_lt (ltD5 (D4, listOf (vs.drop high).toArray 0) (.head _)), List.forall_mem_cons.mpr ⟨Nat.ne_of_lt (ltD5 (D3, listOf (vs.take low).toArray 0) (.tail _ (.head _))), List.forall_mem_cons.mpr ⟨Nat.ne_of_lt (ltD5 (D2, tupO [.ref v1b, .ref v2b] 0) (.tail _ (.tail _ (.head _)))), (fun q hq => Nat.ne_of_lt ((fun q hq => ltD5 q (.tail _ (.tail _ (.tail _ (hq))))) q hq))⟩⟩⟩)
    dsimp only [List.cons_append, List.nil_append] at Ca
    k_dflt (refine' Does.use Ca ?k1 ?k2 ?k3 ?k4 ?k5 ?kK ?kd ?ku ?_)
    ktr_unf
    clear Fa Na
    rintro r nxa ha tka Fa Na ⟨rfl, ka, hka, rfl⟩
    have ea := insL hq1 hka
    rw [ins_vals2 (by rw [ea]; simp only [List.length_append, List.length_take, List.length_cons, List.length_nil, List.length_map]; omega)] at Na
    k_steps
    refine Hold.intro ?_
    rename News _ _ _ _ => Na
    rename Fr _ _ _ _ => Fa
    k_dflt (refine' Does.use (prev_does w y b xt xu ((D9, tupO [.ref D5, .ref D8] 0) :: (D8, listOf (us.take low ++ us.drop high).toArray 0) :: (D7, listOf (us.drop high).toArray 0) :: (D6, listOf (us.take low).toArray 0) :: (D5, listOf ((vs.take low ++ [(Value.ref v1b)]) ++ vs.drop high).toArray (0 + 1)) :: (D4, listOf (vs.drop high).toArray 0) :: (D3, listOf (vs.take low).toArray 0) :: (D2, tupO [.ref v1b, .ref v2b] 0) :: news)) ?k1 ?k2 ?k3 ?k4 ?k5 ?kK ?kd ?ku ?_)
    ktr_unf
    clear Fa Na
    rintro r nxDp hDp tkDp FDp NDp ⟨Dp, pt, pu, pn, rfl, rfl, ltDp⟩
    k_steps
    refine Hold.intro ?_
    rename News _ _ _ _ => Na
    rename Fr _ _ _ _ => Fa
    have sc2 : ∀ p ∈ news, p ∈ (Dp, tupO [.int (y + (b - 1) / 12) pt, .int ((b - 1) % 12 + 1) pu] pn) :: (D9, tupO [.ref D5, .ref D8] 0) :: (D8, listOf (us.take low ++ us.drop high).toArray 0) :: (D7, listOf (us.drop high).toArray 0) :: (D6, listOf (us.take low).toArray 0) :: (D5, listOf ((vs.take low ++ [(Value.ref v1b)]) ++ vs.drop high).toArray (0 + 1)) :: (D4, listOf (vs.drop high).toArray 0) :: (D3, listOf (vs.take low).toArray 0) :: (D2, tupO [.ref v1b, .ref v2b] 0) :: news := fun p hp => .tail _ (.tail _ (.tail _ (.tail _ (.tail _ (.tail _ (.tail _ (.tail _ (.tail _ (hp)))))))))
    have mmb : MonsIn ((Dp, tupO [.int (y + (b - 1) / 12) pt, .int ((b - 1) % 12 + 1) pu] pn) :: (D9, tupO [.ref D5, .ref D8] 0) :: (D8, listOf (us.take low ++ us.drop high).toArray 0) :: (D7, listOf (us.drop high).toArray 0) :: (D6, listOf (us.take low).toArray 0) :: (D5, listOf ((vs.take low ++ [(Value.ref v1b)]) ++ vs.drop high).toArray (0 + 1)) :: (D4, listOf (vs.drop high).toArray 0) :: (D3, listOf (vs.take low).toArray 0) :: (D2, tupO [.ref v1b, .ref v2b] 0) :: news) y (us.take low ++ us.drop high) ((ivs.map (·.2)).take low ++ (ivs.map (·.2)).drop high) := ((hus.mono sc2).take low).append ((hus.mono sc2).drop high)
    have mxb : MonIn ((Dp, tupO [.int (y + (b - 1) / 12) pt, .int ((b - 1) % 12 + 1) pu] pn) :: (D9, tupO [.ref D5, .ref D8] 0) :: (D8, listOf (us.take low ++ us.drop high).toArray 0) :: (D7, listOf (us.drop high).toArray 0) :: (D6, listOf (us.take low).toArray 0) :: (D5, listOf ((vs.take low ++ [(Value.ref v1b)]) ++ vs.drop high).toArray (0 + 1)) :: (D4, listOf (vs.drop high).toArray 0) :: (D3, listOf (vs.take low).toArray 0) :: (D2, tupO [.ref v1b, .ref v2b] 0) :: news) y (Value.ref Dp) (b - 1) := ⟨Dp, pt, pu, pn, rfl, .head _⟩
    have Cb := ir_does w y (b - 1) D8 (us.take low ++ us.drop high) 0 _ (Value.ref Dp) [(Dp, tupO [.int (y + (b - 1) / 12) pt, .int ((b - 1) % 12 + 1) pu] pn), (D9, tupO [.ref D5, .ref D8] 0)] ((D7, listOf (us.drop high).toArray 0) :: (D6, listOf (us.take low).toArray 0) :: (D5, listOf ((vs.take low ++ [(Value.ref v1b)]) ++ vs.drop high).toArray (0 + 1)) :: (D4, listOf (vs.drop high).toArray 0) :: (D3, listOf (vs.take low).toArray 0) :: (D2, tupO [.ref v1b, .ref v2b] 0) :: news) mmb mxb (ins_sorted hq2) hl2 (List.forall_mem_cons.mpr ⟨Nat.ne_of_gt (ltDp (D8, listOf (us.take low ++ us.drop high).toArray 0) (.tail _ (.head _))), List.forall_mem_cons.mpr ⟨Nat.ne_of_gt (ltD9 (D8, listOf (us.take low ++ us.drop high).toArray 0) (.head _)), List.forall_mem_nil _⟩⟩) (List.forall_mem_cons.mpr ⟨Nat.ne_of_lt (ltD8 (D7, listOf (us.drop high).toArray 0) (.head _)), List.forall_mem_cons.mpr ⟨Nat.ne_of_lt (ltD8 (D6, listOf (us.take low).toArray 0) (.tail _ (.head _))), List.forall_mem_cons.mpr ⟨Nat.ne_of_lt (ltD8 (D5, listOf (vs.take low ++ vs.drop high).toArray 0) (.tail _ (.tail _ (.head _)))), List.forall_mem_cons.mpr ⟨Nat.ne_of_lt (ltD8 (D4, listOf (vs.drop high).toArray 0) (.tail _ (.tail _ (.tail _ (.head _))))), List.forall_mem_cons.mpr ⟨Nat.ne_of_lt (ltD8 (D3, listOf (vs.take low).toArray 0) (.tail _ (.tail _ (.tail _ (.tail _ (.head _)))))), List.forall_mem_cons.mpr ⟨Nat.ne_of_lt (ltD8 (D2, tupO [.ref v1b, .ref v2b] 0) (.tail _ (.tail _ (.tail _ (.tail _ (.tail _ (.head _))))))), (fun q hq => Nat.ne_of_lt ((fun q hq => ltD8 q (.tail _ (.tail _ (.tail _ (.tail _ (.tail _ (.tail _ (hq)))))))) q hq))⟩⟩⟩⟩⟩⟩)
    dsimp only [List.cons_append, List.nil_append] at Cb
    k_dflt (refine' Does.use Cb ?k1 ?k2 ?k3 ?k4 ?k5 ?kK ?kd ?ku ?_)
    ktr_unf
    clear Fa Na
    rintro r nxb hb tkb Fb Nb ⟨rfl, kb, hkb, rfl⟩
    have eb := insR hq2 hkb
    rw [ins_vals2 (by rw [eb]; simp only [List.length_append, List.length_take, List.length_cons, List.length_nil, List.length_map]; omega)] at Nb
    k_steps
    refine Hold.intro ?_
    rename News _ _ _ _ => Na
    rename Fr _ _ _ _ => Fa
    have sc3 : ∀ p ∈ news, p ∈ (Dp, tupO [.int (y + (b - 1) / 12) pt, .int ((b - 1) % 12 + 1) pu] pn) :: (D9, tupO [.ref D5, .ref D8] 0) :: (D8, listOf ((us.take low ++ [(Value.ref Dp)]) ++ us.drop high).toArray (0 + 1)) :: (D7, listOf (us.drop high).toArray 0) :: (D6, listOf (us.take low).toArray 0) :: (D5, listOf ((vs.take low ++ [(Value.ref v1b)]) ++ vs.drop high).toArray (0 + 1)) :: (D4, listOf (vs.drop high).toArray 0) :: (D3, listOf (vs.take low).toArray 0) :: (D2, tupO [.ref v1b, .ref v2b] 0) :: news := fun p hp => .tail _ (.tail _ (.tail _ (.tail _ (.tail _ (.tail _ (.tail _ (.tail _ (.tail _ (hp)))))))))
    refine lt_pair (Na.get (sc3 _ hzm)) (Na.get (sc3 _ hv2m)) (by show un + 3 < cLine; omega) ?_
    rw [ltP_mon]
    k_steps
    · skip
      rename e < En => hE2
      have hr2 : rest Bg En b e = [(Bg, b - 1), (e + 1, En)] := by unfold rest; rw [if_pos hB2, if_pos hE2]; rfl
      rw [hr2] at hJ
      rw [hr2] at hM1 hM2
      simp only [mid, List.map_append, List.map_cons, List.map_nil, List.cons_append, List.nil_append, List.map_take, List.map_drop] at hM1 hM2
      have hN1 : (((ivs.map (·.1)).take low ++ [Bg]) ++ (e + 1) :: (ivs.map (·.1)).drop high).Pairwise (· < ·) := by simpa only [List.append_assoc, List.cons_append, List.nil_append] using hM1
      have hN2 : (((ivs.map (·.2)).take low ++ [b - 1]) ++ En :: (ivs.map (·.2)).drop high).Pairwise (· < ·) := by simpa only [List.append_assoc, List.cons_append, List.nil_append] using hM2
      refine Hold.intro ?_
      rename News _ _ _ _ => Na
      rename Fr _ _ _ _ => Fa
      k_dflt (refine' Does.use (next_does w y e zt zu ((Dp, tupO [.int (y + (b - 1) / 12) pt, .int ((b - 1) % 12 + 1) pu] pn) :: (D9, tupO [.ref D5, .ref D8] 0) :: (D8, listOf ((us.take low ++ [(Value.ref Dp)]) ++ us.drop high).toArray (0 + 1)) :: (D7, listOf (us.drop high).toArray 0) :: (D6, listOf (us.take low).toArray 0) :: (D5, listOf ((vs.take low ++ [(Value.ref v1b)]) ++ vs.drop high).toArray (0 + 1)) :: (D4, listOf (vs.drop high).toArray 0) :: (D3, listOf (vs.take low).toArray 0) :: (D2, tupO [.ref v1b, .ref v2b] 0) :: news)) ?k1 ?k2 ?k3 ?k4 ?k5 ?kK ?kd ?ku ?_)
      ktr_unf
      clear Fa Na
      rintro r nxDn hDn tkDn FDn NDn ⟨Dn, nt, nu, nn, rfl, rfl, ltDn⟩
      k_steps
      refine Hold.intro ?_
      rename News _ _ _ _ => Na
      rename Fr _ _ _ _ => Fa
      have sd1 : ∀ p ∈ news, p ∈ (Dn, tupO [.int (y + (e + 1) / 12) nt, .int ((e + 1) % 12 + 1) nu] nn) :: (Dp, tupO [.int (y + (b - 1) / 12) pt, .int ((b - 1) % 12 + 1) pu] pn) :: (D9, tupO [.ref D5, .ref D8] 0) :: (D8, listOf ((us.take low ++ [(Value.ref Dp)]) ++ us.drop high).toArray (0 + 1)) :: (D7, listOf (us.drop high).toArray 0) :: (D6, listOf (us.take low).toArray 0) :: (D5, listOf ((vs.take low ++ [(Value.ref v1b)]) ++ vs.drop high).toArray (0 + 1)) :: (D4, listOf (vs.drop high).toArray 0) :: (D3, listOf (vs.take low).toArray 0) :: (D2, tupO [.ref v1b, .ref v2b] 0) :: news := fun p hp => .tail _ (.tail _ (.tail _ (.tail _ (.tail _ (.tail _ (.tail _ (.tail _ (.tail _ (.tail _ (hp))))))))))
      have mmc : MonsIn ((Dn, tupO [.int (y + (e + 1) / 12) nt, .int ((e + 1) % 12 + 1) nu] nn) :: (Dp, tupO [.int (y + (b - 1) / 12) pt, .int ((b - 1) % 12 + 1) pu] pn) :: (D9, tupO [.ref D5, .ref D8] 0) :: (D8, listOf ((us.take low ++ [(Value.ref Dp)]) ++ us.drop high).toArray (0 + 1)) :: (D7, listOf (us.drop high).toArray 0) :: (D6, listOf (us.take low).toArray 0) :: (D5, listOf ((vs.take low ++ [(Value.ref v1b)]) ++ vs.drop high).toArray (0 + 1)) :: (D4, listOf (vs.drop high).toArray 0) :: (D3, listOf (vs.take low).toArray 0) :: (D2, tupO [.ref v1b, .ref v2b] 0) :: news) y ((vs.take low ++ [(Value.ref v1b)]) ++ vs.drop high) (((ivs.map (·.1)).take low ++ [Bg]) ++ (ivs.map (·.1)).drop high) := (((hvs.mono sd1).take low).append (.cons ⟨v1b, v1t, v1u, v1n, rfl, sd1 _ hv1m⟩ (.nil))).append ((hvs.mono sd1).drop high)
      have mxc : MonIn ((Dn, tupO [.int (y + (e + 1) / 12) nt, .int ((e + 1) % 12 + 1) nu] nn) :: (Dp, tupO [.int (y + (b - 1) / 12) pt, .int ((b - 1) % 12 + 1) pu] pn) :: (D9, tupO [.ref D5, .ref D8] 0) :: (D8, listOf ((us.take low ++ [(Value.ref Dp)]) ++ us.drop high).toArray (0 + 1)) :: (D7, listOf (us.drop high).toArray 0) :: (D6, listOf (us.take low).toArray 0) :: (D5, listOf ((vs.take low ++ [(Value.ref v1b)]) ++ vs.drop high).toArray (0 + 1)) :: (D4, listOf (vs.drop high).toArray 0) :: (D3, listOf (vs.take low).toArray 0) :: (D2, tupO [.ref v1b, .ref v2b] 0) :: news) y (Value.ref Dn) (e + 1) := ⟨Dn, nt, nu, nn, rfl, .head _⟩
      have Cc := il_does w y (e + 1) D5 ((vs.take low ++ [(Value.ref v1b)]) ++ vs.drop high) (0 + 1) _ (Value.ref Dn) [(Dn, tupO [.int (y + (e + 1) / 12) nt, .int ((e + 1) % 12 + 1) nu] nn), (Dp, tupO [.int (y + (b - 1) / 12) pt, .int ((b - 1) % 12 + 1) pu] pn), (D9, tupO [.ref D5, .ref D8] 0), (D8, listOf ((us.take low ++ [(Value.ref Dp)]) ++ us.drop high).toArray (0 + 1)), (D7, listOf (us.drop high).toArray 0), (D6, listOf (us.take low).toArray 0)] ((D4, listOf (vs.drop high).toArray 0) :: (D3, listOf (vs.take low).toArray 0) :: (D2, tupO [.ref v1b, .ref v2b] 0) :: news) mmc mxc (ins_sorted hN1) hl3 (List.forall_mem_cons.mpr ⟨Nat.ne_of_gt (ltDn (D5, listOf ((vs.take low ++ [(Value.ref v1b)]) ++ vs.drop high).toArray (0 + 1)) (.tail _ (.tail _ (.tail _ (.tail _ (.tail _ (.head _))))))), List.forall_mem_cons.mpr ⟨Nat.ne_of_gt (ltDp (D5, listOf ((vs.take low ++ [(Value.ref v1b)]) ++ vs.drop high).toArray (0 + 1)) (.tail _ (.tail _ (.tail _ (.tail _ (.head _)))))), List.forall_mem_cons.mpr ⟨Nat.ne_of_gt (ltD9 (D5, listOf (vs.take low ++ vs.drop high).toArray 0) (.tail _ (.tail _ (.tail _ (.head _))))), List.forall_mem_cons.mpr ⟨Nat.ne_of_gt (ltD8 (D5, listOf (vs.take low ++ vs.drop high).toArray 0) (.tail _ (.tail _ (.head _)))), List.forall_mem_cons.mpr ⟨Nat.ne_of_gt (ltD7 (D5, listOf (vs.take low ++ vs.drop high).toArray 0) (.tail _ (.head _))), List.forall_mem_cons.mpr ⟨Nat.ne_of_gt (ltD6 (D5, listOf (vs.take low ++ vs.drop high).toArray 0) (.head _)), List.forall_mem_nil _⟩⟩⟩⟩⟩⟩) (List.forall_mem_cons.mpr ⟨Nat.ne_of_lt (ltD5 (D4, listOf (vs.drop high).toArray 0) (.head _)), List.forall_mem_cons.mpr ⟨Nat.ne_of_lt (ltD5 (D3, listOf (vs.take low).toArray 0) (.tail _ (.head _))), List.forall_mem_cons.mpr ⟨Nat.ne_of_lt (ltD5 (D2, tupO [.ref v1b, .ref v2b] 0) (.tail _ (.tail _ (.head _)))), (fun q hq => Nat.ne_of_lt ((fun q hq => ltD5 q (.tail _ (.tail _ (.tail _ (hq))))) q hq))⟩⟩⟩)
      dsimp only [List.cons_append, List.nil_append] at Cc
      k_dflt (refine' Does.use Cc ?k1 ?k2 ?k3 ?k4 ?k5 ?kK ?kd ?ku ?_)
      ktr_unf
      clear Fa Na
      rintro r nxc hc tkc Fc Nc ⟨rfl, kc, hkc, rfl⟩
      have ec := insL hN1 hkc
      rw [ins_vals2 (by rw [ec]; simp only [List.length_append, List.length_take, List.length_cons, List.length_nil, List.length_map]; omega)] at Nc
      k_steps
      refine Hold.intro ?_
      rename News _ _ _ _ => Na
      rename Fr _ _ _ _ => Fa
      have sd2 : ∀ p ∈ news, p ∈ (Dn, tupO [.int (y + (e + 1) / 12) nt, .int ((e + 1) % 12 + 1) nu] nn) :: (Dp, tupO [.int (y + (b - 1) / 12) pt, .int ((b - 1) % 12 + 1) pu] pn) :: (D9, tupO [.ref D5, .ref D8] 0) :: (D8, listOf ((us.take low ++ [(Value.ref Dp)]) ++ us.drop high).toArray (0 + 1)) :: (D7, listOf (us.drop high).toArray 0) :: (D6, listOf (us.take low).toArray 0) :: (D5, listOf (((vs.take low ++ [(Value.ref v1b)]) ++ [(Value.ref Dn)]) ++ vs.drop high).toArray ((0 + 1) + 1)) :: (D4, listOf (vs.drop high).toArray 0) :: (D3, listOf (vs.take low).toArray 0) :: (D2, tupO [.ref v1b, .ref v2b] 0) :: news := fun p hp => .tail _ (.tail _ (.tail _ (.tail _ (.tail _ (.tail _ (.tail _ (.tail _ (.tail _ (.tail _ (hp))))))))))
      have mmd : MonsIn ((Dn, tupO [.int (y + (e + 1) / 12) nt, .int ((e + 1) % 12 + 1) nu] nn) :: (Dp, tupO [.int (y + (b - 1) / 12) pt, .int ((b - 1) % 12 + 1) pu] pn) :: (D9, tupO [.ref D5, .ref D8] 0) :: (D8, listOf ((us.take low ++ [(Value.ref Dp)]) ++ us.drop high).toArray (0 + 1)) :: (D7, listOf (us.drop high).toArray 0) :: (D6, listOf (us.take low).toArray 0) :: (D5, listOf (((vs.take low ++ [(Value.ref v1b)]) ++ [(Value.ref Dn)]) ++ vs.drop high).toArray ((0 + 1) + 1)) :: (D4, listOf (vs.drop high).toArray 0) :: (D3, listOf (vs.take low).toArray 0) :: (D2, tupO [.ref v1b, .ref v2b] 0) :: news) y ((us.take low ++ [(Value.ref Dp)]) ++ us.drop high) (((ivs.map (·.2)).take low ++ [b - 1]) ++ (ivs.map (·.2)).drop high) := (((hus.mono sd2).take low).append (.cons ⟨Dp, pt, pu, pn, rfl, .tail _ (.head _)⟩ (.nil))).append ((hus.mono sd2).drop high)
      have mxd : MonIn ((Dn, tupO [.int (y + (e + 1) / 12) nt, .int ((e + 1) % 12 + 1) nu] nn) :: (Dp, tupO [.int (y + (b - 1) / 12) pt, .int ((b - 1) % 12 + 1) pu] pn) :: (D9, tupO [.ref D5, .ref D8] 0) :: (D8, listOf ((us.take low ++ [(Value.ref Dp)]) ++ us.drop high).toArray (0 + 1)) :: (D7, listOf (us.drop high).toArray 0) :: (D6, listOf (us.take low).toArray 0) :: (D5, listOf (((vs.take low ++ [(Value.ref v1b)]) ++ [(Value.ref Dn)]) ++ vs.drop high).toArray ((0 + 1) + 1)) :: (D4, listOf (vs.drop high).toArray 0) :: (D3, listOf (vs.take low).toArray 0) :: (D2, tupO [.ref v1b, .ref v2b] 0) :: news) y (Value.ref v2b) (En) := ⟨v2b, v2t, v2u, v2n, rfl, sd2 _ hv2m⟩
      have Cd := ir_does w y (En) D8 ((us.take low ++ [(Value.ref Dp)]) ++ us.drop high) (0 + 1) _ (Value.ref v2b) [(Dn, tupO [.int (y + (e + 1) / 12) nt, .int ((e + 1) % 12 + 1) nu] nn), (Dp, tupO [.int (y + (b - 1) / 12) pt, .int ((b - 1) % 12 + 1) pu] pn), (D9, tupO [.ref D5, .ref D8] 0)] ((D7, listOf (us.drop high).toArray 0) :: (D6, listOf (us.take low).toArray 0) :: (D5, listOf (((vs.take low ++ [(Value.ref v1b)]) ++ [(Value.ref Dn)]) ++ vs.drop high).toArray ((0 + 1) + 1)) :: (D4, listOf (vs.drop high).toArray 0) :: (D3, listOf (vs.take low).toArray 0) :: (D2, tupO [.ref v1b, .ref v2b] 0) :: news) mmd mxd (ins_sorted hN2) hl4 (List.forall_mem_cons.mpr ⟨Nat.ne_of_gt (ltDn (D8, listOf ((us.take low ++ [(Value.ref Dp)]) ++ us.drop high).toArray (0 + 1)) (.tail _ (.tail _ (.head _)))), List.forall_mem_cons.mpr ⟨Nat.ne_of_gt (ltDp (D8, listOf (us.take low ++ us.drop high).toArray 0) (.tail _ (.head _))), List.forall_mem_cons.mpr ⟨Nat.ne_of_gt (ltD9 (D8, listOf (us.take low ++ us.drop high).toArray 0) (.head _)), List.forall_mem_nil _⟩⟩⟩) (List.forall_mem_cons.mpr ⟨Nat.ne_of_lt (ltD8 (D7, listOf (us.drop high).toArray 0) (.head _)), List.forall_mem_cons.mpr ⟨Nat.ne_of_lt (ltD8 (D6, listOf (us.take low).toArray 0) (.tail _ (.head _))), List.forall_mem_cons.mpr ⟨Nat.ne_of_lt (ltD8 (D5, listOf (vs.take low ++ vs.drop high).toArray 0) (.tail _ (.tail _ (.head _)))), List.forall_mem_cons.mpr ⟨Nat.ne_of_lt (ltD8 (D4, listOf (vs.drop high).toArray 0) (.tail _ (.tail _ (.tail _ (.head _))))), List.forall_mem_cons.mpr ⟨Nat.ne_of_lt (ltD8 (D3, listOf (vs.take low).toArray 0) (.tail _ (.tail _ (.tail _ (.tail _ (.head _)))))), List.forall_mem_cons.mpr ⟨Nat.ne_of_lt (ltD8 (D2, tupO [.ref v1b, .ref v2b] 0) (.tail _ (.tail _ (.tail _ (.tail _ (.tail _ (.head _))))))), (fun q hq => Nat.ne_of_lt ((fun q hq => ltD8 q (.tail _ (.tail _ (.tail _ (.tail _ (.tail _ (.tail _ (hq)))))))) q hq))⟩⟩⟩⟩⟩⟩)
      dsimp only [List.cons_append, List.nil_append] at Cd
      k_dflt (refine' Does.use Cd ?k1 ?k2 ?k3 ?k4 ?k5 ?kK ?kd ?ku ?_)
      ktr_unf
      clear Fa Na
      rintro r nxd hd tkd Fd Nd ⟨rfl, kd, hkd, rfl⟩
      have ed := insR hN2 hkd
      rw [ins_vals2 (by rw [ed]; simp only [List.length_append, List.length_take, List.length_cons, List.length_nil, List.length_map]; omega)] at Nd
      k_steps
      refine Hold.intro ?_
      rename News _ _ _ _ => Na
      rename Fr _ _ _ _ => Fa
      refine tuple_led Fa Na (Nat.le_of_ble_eq_true rfl) ?_
      intro D10 hD10' FD10' ND10' ltD10
      clear Fa Na
      k_steps
      have sf : ∀ p ∈ base, p ∈ [(D10, tupO [.ref D5, .ref D8] 0), (Dn, tupO [.int (y + (e + 1) / 12) nt, .int ((e + 1) % 12 + 1) nu] nn), (Dp, tupO [.int (y + (b - 1) / 12) pt, .int ((b - 1) % 12 + 1) pu] pn), (D9, tupO [.ref D5, .ref D8] 0), (D8, listOf (((us.take low ++ [(Value.ref Dp)]) ++ [(Value.ref v2b)]) ++ us.drop high).toArray ((0 + 1) + 1)), (D7, listOf (us.drop high).toArray 0), (D6, listOf (us.take low).toArray 0), (D5, listOf (((vs.take low ++ [(Value.ref v1b)]) ++ [(Value.ref Dn)]) ++ vs.drop high).toArray ((0 + 1) + 1)), (D4, listOf (vs.drop high).toArray 0), (D3, listOf (vs.take low).toArray 0), (D2, tupO [.ref v1b, .ref v2b] 0)] ++ base := fun p hp => .tail _ (.tail _ (.tail _ (.tail _ (.tail _ (.tail _ (.tail _ (.tail _ (.tail _ (.tail _ (.tail _ (hp)))))))))))
      have w1 : MonsIn ([(D10, tupO [.ref D5, .ref D8] 0), (Dn, tupO [.int (y + (e + 1) / 12) nt, .int ((e + 1) % 12 + 1) nu] nn), (Dp, tupO [.int (y + (b - 1) / 12) pt, .int ((b - 1) % 12 + 1) pu] pn), (D9, tupO [.ref D5, .ref D8] 0), (D8, listOf (((us.take low ++ [(Value.ref Dp)]) ++ [(Value.ref v2b)]) ++ us.drop high).toArray ((0 + 1) + 1)), (D7, listOf (us.drop high).toArray 0), (D6, listOf (us.take low).toArray 0), (D5, listOf (((vs.take low ++ [(Value.ref v1b)]) ++ [(Value.ref Dn)]) ++ vs.drop high).toArray ((0 + 1) + 1)), (D4, listOf (vs.drop high).toArray 0), (D3, listOf (vs.take low).toArray 0), (D2, tupO [.ref v1b, .ref v2b] 0)] ++ base) y (vs.take low ++ (Value.ref v1b :: Value.ref Dn :: vs.drop high)) ((ivs.map (·.1)).take low ++ ((Bg) :: (e + 1) :: (ivs.map (·.1)).drop high)) := ((hvs0.mono sf).take low).append (.cons ⟨v1b, v1t, v1u, v1n, rfl, sf _ hv1m0⟩ (.cons ⟨Dn, nt, nu, nn, rfl, .tail _ (.head _)⟩ ((hvs0.mono sf).drop high)))
      have w2 : MonsIn ([(D10, tupO [.ref D5, .ref D8] 0), (Dn, tupO [.int (y + (e + 1) / 12) nt, .int ((e + 1) % 12 + 1) nu] nn), (Dp, tupO [.int (y + (b - 1) / 12) pt, .int ((b - 1) % 12 + 1) pu] pn), (D9, tupO [.ref D5, .ref D8] 0), (D8, listOf (((us.take low ++ [(Value.ref Dp)]) ++ [(Value.ref v2b)]) ++ us.drop high).toArray ((0 + 1) + 1)), (D7, listOf (us.drop high).toArray 0), (D6, listOf (us.take low).toArray 0), (D5, listOf (((vs.take low ++ [(Value.ref v1b)]) ++ [(Value.ref Dn)]) ++ vs.drop high).toArray ((0 + 1) + 1)), (D4, listOf (vs.drop high).toArray 0), (D3, listOf (vs.take low).toArray 0), (D2, tupO [.ref v1b, .ref v2b] 0)] ++ base) y (us.take low ++ (Value.ref Dp :: Value.ref v2b :: us.drop high)) ((ivs.map (·.2)).take low ++ ((b - 1) :: (En) :: (ivs.map (·.2)).drop high)) := ((hus0.mono sf).take low).append (.cons ⟨Dp, pt, pu, pn, rfl, .tail _ (.tail _ (.head _))⟩ (.cons ⟨v2b, v2t, v2u, v2n, rfl, sf _ hv2m0⟩ ((hus0.mono sf).drop high)))
      refine hret _ _ _ _ (by k_asm) (by k_asm) ⟨[(D10, tupO [.ref D5, .ref D8] 0), (Dn, tupO [.int (y + (e + 1) / 12) nt, .int ((e + 1) % 12 + 1) nu] nn), (Dp, tupO [.int (y + (b - 1) / 12) pt, .int ((b - 1) % 12 + 1) pu] pn), (D9, tupO [.ref D5, .ref D8] 0), (D8, listOf (((us.take low ++ [(Value.ref Dp)]) ++ [(Value.ref v2b)]) ++ us.drop high).toArray ((0 + 1) + 1)), (D7, listOf (us.drop high).toArray 0), (D6, listOf (us.take low).toArray 0), (D5, listOf (((vs.take low ++ [(Value.ref v1b)]) ++ [(Value.ref Dn)]) ++ vs.drop high).toArray ((0 + 1) + 1)), (D4, listOf (vs.drop high).toArray 0), (D3, listOf (vs.take low).toArray 0), (D2, tupO [.ref v1b, .ref v2b] 0)], rfl, List.forall_mem_cons.mpr ⟨(fun q hq => ltD10 q (.tail _ (.tail _ (.tail _ (.tail _ (.tail _ (.tail _ (.tail _ (.tail _ (.tail _ (.tail _ (hq)))))))))))), List.forall_mem_cons.mpr ⟨(fun q hq => ltDn q (.tail _ (.tail _ (.tail _ (.tail _ (.tail _ (.tail _ (.tail _ (.tail _ (.tail _ (hq))))))))))), List.forall_mem_cons.mpr ⟨(fun q hq => ltDp q (.tail _ (.tail _ (.tail _ (.tail _ (.tail _ (.tail _ (.tail _ (.tail _ (hq)))))))))), List.forall_mem_cons.mpr ⟨(fun q hq => ltD9 q (.tail _ (.tail _ (.tail _ (.tail _ (.tail _ (.tail _ (.tail _ (hq))))))))), List.forall_mem_cons.mpr ⟨(fun q hq => ltD8 q (.tail _ (.tail _ (.tail _ (.tail _ (.tail _ (.tail _ (hq)))))))), List.forall_mem_cons.mpr ⟨(fun q hq => ltD7 q (.tail _ (.tail _ (.tail _ (.tail _ (.tail _ (hq))))))), List.forall_mem_cons.mpr ⟨(fun q hq => ltD6 q (.tail _ (.tail _ (.tail _ (.tail _ (hq)))))), List.forall_mem_cons.mpr ⟨(fun q hq => ltD5 q (.tail _ (.tail _ (.tail _ (hq))))), List.forall_mem_cons.mpr ⟨(fun q hq => ltD4 q (.tail _ (.tail _ (hq)))), List.forall_mem_cons.mpr ⟨(fun q hq => ltD3 q (.tail _ (hq))), List.forall_mem_cons.mpr ⟨(fun q hq => ltD2 q (hq)), List.forall_mem_nil _⟩⟩⟩⟩⟩⟩⟩⟩⟩⟩⟩, D10, D5, D8, 0, _, rfl, .head _, ⟨_, _, _, _, .tail _ (.tail _ (.tail _ (.tail _ (.tail _ (.tail _ (.tail _ (.head _))))))), .tail _ (.tail _ (.tail _ (.tail _ (.head _)))), ?_, ?_⟩, hJ⟩
      · simpa only [mid, List.map_append, List.map_cons, List.map_nil, List.cons_append, List.nil_append, List.append_assoc, List.map_take, List.map_drop] using w1
      · simpa only [mid, List.map_append, List.map_cons, List.map_nil, List.cons_append, List.nil_append, List.append_assoc, List.map_take, List.map_drop] using w2
    · skip
      rename ¬ e < En => hE2
      have hr2 : rest Bg En b e = [(Bg, b - 1)] := by unfold rest; rw [if_pos hB2, if_neg hE2]; rfl
      rw [hr2] at hJ
      refine Hold.intro ?_
      rename News _ _ _ _ => Na
      rename Fr _ _ _ _ => Fa
      refine tuple_led Fa Na (Nat.le_of_ble_eq_true rfl) ?_
      intro D10 hD10' FD10' ND10' ltD10
      clear Fa Na
      k_steps
      have sf : ∀ p ∈ base, p ∈ [(D10, tupO [.ref D5, .ref D8] 0), (Dp, tupO [.int (y + (b - 1) / 12) pt, .int ((b - 1) % 12 + 1) pu] pn), (D9, tupO [.ref D5, .ref D8] 0), (D8, listOf ((us.take low ++ [(Value.ref Dp)]) ++ us.drop high).toArray (0 + 1)), (D7, listOf (us.drop high).toArray 0), (D6, listOf (us.take low).toArray 0), (D5, listOf ((vs.take low ++ [(Value.ref v1b)]) ++ vs.drop high).toArray (0 + 1)), (D4, listOf (vs.drop high).toArray 0), (D3, listOf (vs.take low).toArray 0), (D2, tupO [.ref v1b, .ref v2b] 0)] ++ base := fun p hp => .tail _ (.tail _ (.tail _ (.tail _ (.tail _ (.tail _ (.tail _ (.tail _ (.tail _ (.tail _ (hp))))))))))
      have w1 : MonsIn ([(D10, tupO [.ref D5, .ref D8] 0), (Dp, tupO [.int (y + (b - 1) / 12) pt, .int ((b - 1) % 12 + 1) pu] pn), (D9, tupO [.ref D5, .ref D8] 0), (D8, listOf ((us.take low ++ [(Value.ref Dp)]) ++ us.drop high).toArray (0 + 1)), (D7, listOf (us.drop high).toArray 0), (D6, listOf (us.take low).toArray 0), (D5, listOf ((vs.take low ++ [(Value.ref v1b)]) ++ vs.drop high).toArray (0 + 1)), (D4, listOf (vs.drop high).toArray 0), (D3, listOf (vs.take low).toArray 0), (D2, tupO [.ref v1b, .ref v2b] 0)] ++ base) y (vs.take low ++ (Value.ref v1b :: vs.drop high)) ((ivs.map (·.1)).take low ++ ((Bg) :: (ivs.map (·.1)).drop high)) := ((hvs0.mono sf).take low).append (.cons ⟨v1b, v1t, v1u, v1n, rfl, sf _ hv1m0⟩ ((hvs0.mono sf).drop high))
      have w2 : MonsIn ([(D10, tupO [.ref D5, .ref D8] 0), (Dp, tupO [.int (y + (b - 1) / 12) pt, .int ((b - 1) % 12 + 1) pu] pn), (D9, tupO [.ref D5, .ref D8] 0), (D8, listOf ((us.take low ++ [(Value.ref Dp)]) ++ us.drop high).toArray (0 + 1)), (D7, listOf (us.drop high).toArray 0), (D6, listOf (us.take low).toArray 0), (D5, listOf ((vs.take low ++ [(Value.ref v1b)]) ++ vs.drop high).toArray (0 + 1)), (D4, listOf (vs.drop high).toArray 0), (D3, listOf (vs.take low).toArray 0), (D2, tupO [.ref v1b, .ref v2b] 0)] ++ base) y (us.take low ++ (Value.ref Dp :: us.drop high)) ((ivs.map (·.2)).take low ++ ((b - 1) :: (ivs.map (·.2)).drop high)) := ((hus0.mono sf).take low).append (.cons ⟨Dp, pt, pu, pn, rfl, .tail _ (.head _)⟩ ((hus0.mono sf).drop high))
      refine hret _ _ _ _ (by k_asm) (by k_asm) ⟨[(D10, tupO [.ref D5, .ref D8] 0), (Dp, tupO [.int (y + (b - 1) / 12) pt, .int ((b - 1) % 12 + 1) pu] pn), (D9, tupO [.ref D5, .ref D8] 0), (D8, listOf ((us.take low ++ [(Value.ref Dp)]) ++ us.drop high).toArray (0 + 1)), (D7, listOf (us.drop high).toArray 0), (D6, listOf (us.take low).toArray 0), (D5, listOf ((vs.take low ++ [(Value.ref v1b)]) ++ vs.drop high).toArray (0 + 1)), (D4, listOf (vs.drop high).toArray 0), (D3, listOf (vs.take low).toArray 0), (D2, tupO [.ref v1b, .ref v2b] 0)], rfl, List.forall_mem_cons.mpr ⟨(fun q hq => ltD10 q (.tail _ (.tail _ (.tail _ (.tail _ (.tail _ (.tail _ (.tail _ (.tail _ (.tail _ (hq))))))))))), List.forall_mem_cons.mpr ⟨(fun q hq => ltDp q (.tail _ (.tail _ (.tail _ (.tail _ (.tail _ (.tail _ (.tail _ (.tail _ (hq)))))))))), List.forall_mem_cons.mpr ⟨(fun q hq => ltD9 q (.tail _ (.tail _ (.tail _ (.tail _ (.tail _ (.tail _ (.tail _ (hq))))))))), List.forall_mem_cons.mpr ⟨(fun q hq => ltD8 q (.tail _ (.tail _ (.tail _ (.tail _ (.tail _ (.tail _ (hq)))))))), List.forall_mem_cons.mpr ⟨(fun q hq => ltD7 q (.tail _ (.tail _ (.tail _ (.tail _ (.tail _ (hq))))))), List.forall_mem_cons.mpr ⟨(fun q hq => ltD6 q (.tail _ (.tail _ (.tail _ (.tail _ (hq)))))), List.forall_mem_cons.mpr ⟨(fun q hq => ltD5 q (.tail _ (.tail _ (.tail _ (hq))))), List.forall_mem_cons.mpr ⟨(fun q hq => ltD4 q (.tail _ (.tail _ (hq)))), List.forall_mem_cons.mpr ⟨(fun q hq => ltD3 q (.tail _ (hq))), List.forall_mem_cons.mpr ⟨(fun q hq => ltD2 q (hq)), List.forall_mem_nil _⟩⟩⟩⟩⟩⟩⟩⟩⟩⟩, D10, D5, D8, 0, _, rfl, .head _, ⟨_, _, _, _, .tail _ (.tail _ (.tail _ (.tail _ (.tail _ (.tail _ (.head _)))))), .tail _ (.tail _ (.tail _ (.head _))), ?_, ?_⟩, hJ⟩
      · simpa only [mid, List.map_append, List.map_cons, List.map_nil, List.cons_append, List.nil_append, List.append_assoc, List.map_take, List.map_drop] using w1
      · simpa only [mid, List.map_append, List.map_cons, List.map_nil, List.cons_append, List.nil_append, List.append_assoc, List.map_take, List.map_drop] using w2
  · skip
    rename ¬ Bg < b => hB2
    refine Hold.intro ?_
    rename News _ _ _ _ => Na
    rename Fr _ _ _ _ => Fa
    have sc3 : ∀ p ∈ news, p ∈ (D9, tupO [.ref D5, .ref D8] 0) :: (D8, listOf (us.take low ++ us.drop high).toArray 0) :: (D7, listOf (us.drop high).toArray 0) :: (D6, listOf (us.take low).toArray 0) :: (D5, listOf (vs.take low ++ vs.drop high).toArray 0) :: (D4, listOf (vs.drop high).toArray 0) :: (D3, listOf (vs.take low).toArray 0) :: (D2, tupO [.ref v1b, .ref v2b] 0) :: news := fun p hp => .tail _ (.tail _ (.tail _ (.tail _ (.tail _ (.tail _ (.tail _ (.tail _ (hp))))))))
    refine lt_pair (Na.get (sc3 _ hzm)) (Na.get (sc3 _ hv2m)) (by show un + 3 < cLine; omega) ?_
    rw [ltP_mon]
    k_steps
    · skip
      rename e < En => hE2
      have hr2 : rest Bg En b e = [(e + 1, En)] := by unfold rest; rw [if_neg hB2, if_pos hE2]; rfl
      rw [hr2] at hJ
      rw [hr2] at hM1 hM2
      simp only [mid, List.map_append, List.map_cons, List.map_nil, List.cons_append, List.nil_append, List.map_take, List.map_drop] at hM1 hM2
      have hN1 : ((ivs.map (·.1)).take low ++ (e + 1) :: (ivs.map (·.1)).drop high).Pairwise (· < ·) := by simpa only [List.append_assoc, List.cons_append, List.nil_append] using hM1
      have hN2 : ((ivs.map (·.2)).take low ++ En :: (ivs.map (·.2)).drop high).Pairwise (· < ·) := by simpa only [List.append_assoc, List.cons_append, List.nil_append] using hM2
      refine Hold.intro ?_
      rename News _ _ _ _ => Na
      rename Fr _ _ _ _ => Fa
      k_dflt (refine' Does.use (next_does w y e zt zu ((D9, tupO [.ref D5, .ref D8] 0) :: (D8, listOf (us.take low ++ us.drop high).toArray 0) :: (D7, listOf (us.drop high).toArray 0) :: (D6, listOf (us.take low).toArray 0) :: (D5, listOf (vs.take low ++ vs.drop high).toArray 0) :: (D4, listOf (vs.drop high).toArray 0) :: (D3, listOf (vs.take low).toArray 0) :: (D2, tupO [.ref v1b, .ref v2b] 0) :: news)) ?k1 ?k2 ?k3 ?k4 ?k5 ?kK ?kd ?ku ?_)
      ktr_unf
      clear Fa Na
      rintro r nxDn hDn tkDn FDn NDn ⟨Dn, nt, nu, nn, rfl, rfl, ltDn⟩
      k_steps
      refine Hold.intro ?_
      rename News _ _ _ _ => Na
      rename Fr _ _ _ _ => Fa
      have sd1 : ∀ p ∈ news, p ∈ (Dn, tupO [.int (y + (e + 1) / 12) nt, .int ((e + 1) % 12 + 1) nu] nn) :: (D9, tupO [.ref D5, .ref D8] 0) :: (D8, listOf (us.take low ++ us.drop high).toArray 0) :: (D7, listOf (us.drop high).toArray 0) :: (D6, listOf (us.take low).toArray 0) :: (D5, listOf (vs.take low ++ vs.drop high).toArray 0) :: (D4, listOf (vs.drop high).toArray 0) :: (D3, listOf (vs.take low).toArray 0) :: (D2, tupO [.ref v1b, .ref v2b] 0) :: news := fun p hp => .tail _ (.tail _ (.tail _ (.tail _ (.tail _ (.tail _ (.tail _ (.tail _ (.tail _ (hp)))))))))
      have mmc : MonsIn ((Dn, tupO [.int (y + (e + 1) / 12) nt, .int ((e + 1) % 12 + 1) nu] nn) :: (D9, tupO [.ref D5, .ref D8] 0) :: (D8, listOf (us.take low ++ us.drop high).toArray 0) :: (D7, listOf (us.drop high).toArray 0) :: (D6, listOf (us.take low).toArray 0) :: (D5, listOf (vs.take low ++ vs.drop high).toArray 0) :: (D4, listOf (vs.drop high).toArray 0) :: (D3, listOf (vs.take low).toArray 0) :: (D2, tupO [.ref v1b, .ref v2b] 0) :: news) y (vs.take low ++ vs.drop high) ((ivs.map (·.1)).take low ++ (ivs.map (·.1)).drop high) := ((hvs.mono sd1).take low).append ((hvs.mono sd1).drop high)
      have mxc : MonIn ((Dn, tupO [.int (y + (e + 1) / 12) nt, .int ((e + 1) % 12 + 1) nu] nn) :: (D9, tupO [.ref D5, .ref D8] 0) :: (D8, listOf (us.take low ++ us.drop high).toArray 0) :: (D7, listOf (us.drop high).toArray 0) :: (D6, listOf (us.take low).toArray 0) :: (D5, listOf (vs.take low ++ vs.drop high).toArray 0) :: (D4, listOf (vs.drop high).toArray 0) :: (D3, listOf (vs.take low).toArray 0) :: (D2, tupO [.ref v1b, .ref v2b] 0) :: news) y (Value.ref Dn) (e + 1) := ⟨Dn, nt, nu, nn, rfl, .head _⟩
      have Cc := il_does w y (e + 1) D5 (vs.take low ++ vs.drop high) 0 _ (Value.ref Dn) [(Dn, tupO [.int (y + (e + 1) / 12) nt, .int ((e + 1) % 12 + 1) nu] nn), (D9, tupO [.ref D5, .ref D8] 0), (D8, listOf (us.take low ++ us.drop high).toArray 0), (D7, listOf (us.drop high).toArray 0), (D6, listOf (us.take low).toArray 0)] ((D4, listOf (vs.drop high).toArray 0) :: (D3, listOf (vs.take low).toArray 0) :: (D2, tupO [.ref v1b, .ref v2b] 0) :: news) mmc mxc (ins_sorted hN1) hl1 (List.forall_mem_cons.mpr ⟨Nat.ne_of_gt (ltDn (D5, listOf (vs.take low ++ vs.drop high).toArray 0) (.tail _ (.tail _ (.tail _ (.tail _ (.head _)))))), List.forall_mem_cons.mpr ⟨Nat.ne_of_gt (ltD9 (D5, listOf (vs.take low ++ vs.drop high).toArray 0) (.tail _ (.tail _ (.tail _ (.head _))))), List.forall_mem_cons.mpr ⟨Nat.ne_of_gt (ltD8 (D5, listOf (vs.take low ++ vs.drop high).toArray 0) (.tail _ (.tail _ (.head _)))), List.forall_mem_cons.mpr ⟨Nat.ne_of_gt (ltD7 (D5, listOf (vs.take low ++ vs.drop high).toArray 0) (.tail _ (.head _))), List.forall_mem_cons.mpr ⟨Nat.ne_of_gt (ltD6 (D5, listOf (vs.take low ++ vs.drop high).toArray 0) (.head _)), List.forall_mem_nil _⟩⟩⟩⟩⟩) (List.forall_mem_cons.mpr ⟨Nat.ne_of_lt (ltD5 (D4, listOf (vs.drop high).toArray 0) (.head _)), List.forall_mem_cons.mpr ⟨Nat.ne_of_lt (ltD5 (D3, listOf (vs.take low).toArray 0) (.tail _ (.head _))), List.forall_mem_cons.mpr ⟨Nat.ne_of_lt (ltD5 (D2, tupO [.ref v1b, .ref v2b] 0) (.tail _ (.tail _ (.head _)))), (fun q hq => Nat.ne_of_lt ((fun q hq => ltD5 q (.tail _ (.tail _ (.tail _ (hq))))) q hq))⟩⟩⟩)
      dsimp only [List.cons_append, List.nil_append] at Cc
      k_dflt (refine' Does.use Cc ?k1 ?k2 ?k3 ?k4 ?k5 ?kK ?kd ?ku ?_)
      ktr_unf
      clear Fa Na
      rintro r nxc hc tkc Fc Nc ⟨rfl, kc, hkc, rfl⟩
      have ec := insL hN1 hkc
      rw [ins_vals2 (by rw [ec]; simp only [List.length_append, List.length_take, List.length_cons, List.length_nil, List.length_map]; omega)] at Nc
      k_steps
      refine Hold.intro ?_
      rename News _ _ _ _ => Na
      rename Fr _ _ _ _ => Fa
      have sd2 : ∀ p ∈ news, p ∈ (Dn, tupO [.int (y + (e + 1) / 12) nt, .int ((e + 1) % 12 + 1) nu] nn) :: (D9, tupO [.ref D5, .ref D8] 0) :: (D8, listOf (us.take low ++ us.drop high).toArray 0) :: (D7, listOf (us.drop high).toArray 0) :: (D6, listOf (us.take low).toArray 0) :: (D5, listOf ((vs.take low ++ [(Value.ref Dn)]) ++ vs.drop high).toArray (0 + 1)) :: (D4, listOf (vs.drop high).toArray 0) :: (D3, listOf (vs.take low).toArray 0) :: (D2, tupO [.ref v1b, .ref v2b] 0) :: news := fun p hp => .tail _ (.tail _ (.tail _ (.tail _ (.tail _ (.tail _ (.tail _ (.tail _ (.tail _ (hp)))))))))
      have mmd : MonsIn ((Dn, tupO [.int (y + (e + 1) / 12) nt, .int ((e + 1) % 12 + 1) nu] nn) :: (D9, tupO [.ref D5, .ref D8] 0) :: (D8, listOf (us.take low ++ us.drop high).toArray 0) :: (D7, listOf (us.drop high).toArray 0) :: (D6, listOf (us.take low).toArray 0) :: (D5, listOf ((vs.take low ++ [(Value.ref Dn)]) ++ vs.drop high).toArray (0 + 1)) :: (D4, listOf (vs.drop high).toArray 0) :: (D3, listOf (vs.take low).toArray 0) :: (D2, tupO [.ref v1b, .ref v2b] 0) :: news) y (us.take low ++ us.drop high) ((ivs.map (·.2)).take low ++ (ivs.map (·.2)).drop high) := ((hus.mono sd2).take low).append ((hus.mono sd2).drop high)
      have mxd : MonIn ((Dn, tupO [.int (y + (e + 1) / 12) nt, .int ((e + 1) % 12 + 1) nu] nn) :: (D9, tupO [.ref D5, .ref D8] 0) :: (D8, listOf (us.take low ++ us.drop high).toArray 0) :: (D7, listOf (us.drop high).toArray 0) :: (D6, listOf (us.take low).toArray 0) :: (D5, listOf ((vs.take low ++ [(Value.ref Dn)]) ++ vs.drop high).toArray (0 + 1)) :: (D4, listOf (vs.drop high).toArray 0) :: (D3, listOf (vs.take low).toArray 0) :: (D2, tupO [.ref v1b, .ref v2b] 0) :: news) y (Value.ref v2b) (En) := ⟨v2b, v2t, v2u, v2n, rfl, sd2 _ hv2m⟩
      have Cd := ir_does w y (En) D8 (us.take low ++ us.drop high) 0 _ (Value.ref v2b) [(Dn, tupO [.int (y + (e + 1) / 12) nt, .int ((e + 1) % 12 + 1) nu] nn), (D9, tupO [.ref D5, .ref D8] 0)] ((D7, listOf (us.drop high).toArray 0) :: (D6, listOf (us.take low).toArray 0) :: (D5, listOf ((vs.take low ++ [(Value.ref Dn)]) ++ vs.drop high).toArray (0 + 1)) :: (D4, listOf (vs.drop high).toArray 0) :: (D3, listOf (vs.take low).toArray 0) :: (D2, tupO [.ref v1b, .ref v2b] 0) :: news) mmd mxd (ins_sorted hN2) hl2 (List.forall_mem_cons.mpr ⟨Nat.ne_of_gt (ltDn (D8, listOf (us.take low ++ us.drop high).toArray 0) (.tail _ (.head _))), List.forall_mem_cons.mpr ⟨Nat.ne_of_gt (ltD9 (D8, listOf (us.take low ++ us.drop high).toArray 0) (.head _)), List.forall_mem_nil _⟩⟩) (List.forall_mem_cons.mpr ⟨Nat.ne_of_lt (ltD8 (D7, listOf (us.drop high).toArray 0) (.head _)), List.forall_mem_cons.mpr ⟨Nat.ne_of_lt (ltD8 (D6, listOf (us.take low).toArray 0) (.tail _ (.head _))), List.forall_mem_cons.mpr ⟨Nat.ne_of_lt (ltD8 (D5, listOf (vs.take low ++ vs.drop high).toArray 0) (.tail _ (.tail _ (.head _)))), List.forall_mem_cons.mpr ⟨Nat.ne_of_lt (ltD8 (D4, listOf (vs.drop high).toArray 0) (.tail _ (.tail _ (.tail _ (.head _))))), List.forall_mem_cons.mpr ⟨Nat.ne_of_lt (ltD8 (D3, listOf (vs.take low).toArray 0) (.tail _ (.tail _ (.tail _ (.tail _ (.head _)))))), List.forall_mem_cons.mpr ⟨Nat.ne_of_lt (ltD8 (D2, tupO [.ref v1b, .ref v2b] 0) (.tail _ (.tail _ (.tail _ (.tail _ (.tail _ (.head _))))))), (fun q hq => Nat.ne_of_lt ((fun q hq => ltD8 q (.tail _ (.tail _ (.tail _ (.tail _ (.tail _ (.tail _ (hq)))))))) q hq))⟩⟩⟩⟩⟩⟩)
      dsimp only [List.cons_append, List.nil_append] at Cd
      k_dflt (refine' Does.use Cd ?k1 ?k2 ?k3 ?k4 ?k5 ?kK ?kd ?ku ?_)
      ktr_unf
      clear Fa Na
      rintro r nxd hd tkd Fd Nd ⟨rfl, kd, hkd, rfl⟩
      have ed := insR hN2 hkd
      rw [ins_vals2 (by rw [ed]; simp only [List.length_append, List.length_take, List.length_cons, List.length_nil, List.length_map]; omega)] at Nd
      k_steps
      refine Hold.intro ?_
      rename News _ _ _ _ => Na
      rename Fr _ _ _ _ => Fa
      refine tuple_led Fa Na (Nat.le_of_ble_eq_true rfl) ?_
      intro D10 hD10' FD10' ND10' ltD10
      clear Fa Na
      k_steps
      have sf : ∀ p ∈ base, p ∈ [(D10, tupO [.ref D5, .ref D8] 0), (Dn, tupO [.int (y + (e + 1) / 12) nt, .int ((e + 1) % 12 + 1) nu] nn), (D9, tupO [.ref D5, .ref D8] 0), (D8, listOf ((us.take low ++ [(Value.ref v2b)]) ++ us.drop high).toArray (0 + 1)), (D7, listOf (us.drop high).toArray 0), (D6, listOf (us.take low).toArray 0), (D5, listOf ((vs.take low ++ [(Value.ref Dn)]) ++ vs.drop high).toArray (0 + 1)), (D4, listOf (vs.drop high).toArray 0), (D3, listOf (vs.take low).toArray 0), (D2, tupO [.ref v1b, .ref v2b] 0)] ++ base := fun p hp => .tail _ (.tail _ (.tail _ (.tail _ (.tail _ (.tail _ (.tail _ (.tail _ (.tail _ (.tail _ (hp))))))))))
      have w1 : MonsIn ([(D10, tupO [.ref D5, .ref D8] 0), (Dn, tupO [.int (y + (e + 1) / 12) nt, .int ((e + 1) % 12 + 1) nu] nn), (D9, tupO [.ref D5, .ref D8] 0), (D8, listOf ((us.take low ++ [(Value.ref v2b)]) ++ us.drop high).toArray (0 + 1)), (D7, listOf (us.drop high).toArray 0), (D6, listOf (us.take low).toArray 0), (D5, listOf ((vs.take low ++ [(Value.ref Dn)]) ++ vs.drop high).toArray (0 + 1)), (D4, listOf (vs.drop high).toArray 0), (D3, listOf (vs.take low).toArray 0), (D2, tupO [.ref v1b, .ref v2b] 0)] ++ base) y (vs.take low ++ (Value.ref Dn :: vs.drop high)) ((ivs.map (·.1)).take low ++ ((e + 1) :: (ivs.map (·.1)).drop high)) := ((hvs0.mono sf).take low).append (.cons ⟨Dn, nt, nu, nn, rfl, .tail _ (.head _)⟩ ((hvs0.mono sf).drop high))
      have w2 : MonsIn ([(D10, tupO [.ref D5, .ref D8] 0), (Dn, tupO [.int (y + (e + 1) / 12) nt, .int ((e + 1) % 12 + 1) nu] nn), (D9, tupO [.ref D5, .ref D8] 0), (D8, listOf ((us.take low ++ [(Value.ref v2b)]) ++ us.drop high).toArray (0 + 1)), (D7, listOf (us.drop high).toArray 0), (D6, listOf (us.take low).toArray 0), (D5, listOf ((vs.take low ++ [(Value.ref Dn)]) ++ vs.drop high).toArray (0 + 1)), (D4, listOf (vs.drop high).toArray 0), (D3, listOf (vs.take low).toArray 0), (D2, tupO [.ref v1b, .ref v2b] 0)] ++ base) y (us.take low ++ (Value.ref v2b :: us.drop high)) ((ivs.map (·.2)).take low ++ ((En) :: (ivs.map (·.2)).drop high)) := ((hus0.mono sf).take low).append (.cons ⟨v2b, v2t, v2u, v2n, rfl, sf _ hv2m0⟩ ((hus0.mono sf).drop high))
      refine hret _ _ _ _ (by k_asm) (by k_asm) ⟨[(D10, tupO [.ref D5, .ref D8] 0), (Dn, tupO [.int (y + (e + 1) / 12) nt, .int ((e + 1) % 12 + 1) nu] nn), (D9, tupO [.ref D5, .ref D8] 0), (D8, listOf ((us.take low ++ [(Value.ref v2b)]) ++ us.drop high).toArray (0 + 1)), (D7, listOf (us.drop high).toArray 0), (D6, listOf (us.take low).toArray 0), (D5, listOf ((vs.take low ++ [(Value.ref Dn)]) ++ vs.drop high).toArray (0 + 1)), (D4, listOf (vs.drop high).toArray 0), (D3, listOf (vs.take low).toArray 0), (D2, tupO [.ref v1b, .ref v2b] 0)], rfl, List.forall_mem_cons.mpr ⟨(fun q hq => ltD10 q (.tail _ (.tail _ (.tail _ (.tail _ (.tail _ (.tail _ (.tail _ (.tail _ (.tail _ (hq))))))))))), List.forall_mem_cons.mpr ⟨(fun q hq => ltDn q (.tail _ (.tail _ (.tail _ (.tail _ (.tail _ (.tail _ (.tail _ (.tail _ (hq)))))))))), List.forall_mem_cons.mpr ⟨(fun q hq => ltD9 q (.tail _ (.tail _ (.tail _ (.tail _ (.tail _ (.tail _ (.tail _ (hq))))))))), List.forall_mem_cons.mpr ⟨(fun q hq => ltD8 q (.tail _ (.tail _ (.tail _ (.tail _ (.tail _ (.tail _ (hq)))))))), List.forall_mem_cons.mpr ⟨(fun q hq => ltD7 q (.tail _ (.tail _ (.tail _ (.tail _ (.tail _ (hq))))))), List.forall_mem_cons.mpr ⟨(fun q hq => ltD6 q (.tail _ (.tail _ (.tail _ (.tail _ (hq)))))), List.forall_mem_cons.mpr ⟨(fun q hq => ltD5 q (.tail _ (.tail _ (.tail _ (hq))))), List.forall_mem_cons.mpr ⟨(fun q hq => ltD4 q (.tail _ (.tail _ (hq)))), List.forall_mem_cons.mpr ⟨(fun q hq => ltD3 q (.tail _ (hq))), List.forall_mem_cons.mpr ⟨(fun q hq => ltD2 q (hq)), List.forall_mem_nil _⟩⟩⟩⟩⟩⟩⟩⟩⟩⟩, D10, D5, D8, 0, _, rfl, .head _, ⟨_, _, _, _, .tail _ (.tail _ (.tail _ (.tail _ (.tail _ (.tail _ (.head _)))))), .tail _ (.tail _ (.tail _ (.head _))), ?_, ?_⟩, hJ⟩
      · simpa only [mid, List.map_append, List.map_cons, List.map_nil, List.cons_append, List.nil_append, List.append_assoc, List.map_take, List.map_drop] using w1
      · simpa only [mid, List.map_append, List.map_cons, List.map_nil, List.cons_append, List.nil_append, List.append_assoc, List.map_take, List.map_drop] using w2
    · skip
      rename ¬ e < En => hE2
      have hr2 : rest Bg En b e = [] := by unfold rest; rw [if_neg hB2, if_neg hE2]; rfl
      rw [hr2] at hJ
      refine Hold.intro ?_
      rename News _ _ _ _ => Na
      rename Fr _ _ _ _ => Fa
      refine tuple_led Fa Na (Nat.le_of_ble_eq_true rfl) ?_
      intro D10 hD10' FD10' ND10' ltD10
      clear Fa Na
      k_steps
      have sf : ∀ p ∈ base, p ∈ [(D10, tupO [.ref D5, .ref D8] 0), (D9, tupO [.ref D5, .ref D8] 0), (D8, listOf (us.take low ++ us.drop high).toArray 0), (D7, listOf (us.drop high).toArray 0), (D6, listOf (us.take low).toArray 0), (D5, listOf (vs.take low ++ vs.drop high).toArray 0), (D4, listOf (vs.drop high).toArray 0), (D3, listOf (vs.take low).toArray 0), (D2, tupO [.ref v1b, .ref v2b] 0)] ++ base := fun p hp => .tail _ (.tail _ (.tail _ (.tail _ (.tail _ (.tail _ (.tail _ (.tail _ (.tail _ (hp)))))))))
      have w1 : MonsIn ([(D10, tupO [.ref D5, .ref D8] 0), (D9, tupO [.ref D5, .ref D8] 0), (D8, listOf (us.take low ++ us.drop high).toArray 0), (D7, listOf (us.drop high).toArray 0), (D6, listOf (us.take low).toArray 0), (D5, listOf (vs.take low ++ vs.drop high).toArray 0), (D4, listOf (vs.drop high).toArray 0), (D3, listOf (vs.take low).toArray 0), (D2, tupO [.ref v1b, .ref v2b] 0)] ++ base) y (vs.take low ++ (vs.drop high)) ((ivs.map (·.1)).take low ++ ((ivs.map (·.1)).drop high)) := ((hvs0.mono sf).take low).append ((hvs0.mono sf).drop high)
      have w2 : MonsIn ([(D10, tupO [.ref D5, .ref D8] 0), (D9, tupO [.ref D5, .ref D8] 0), (D8, listOf (us.take low ++ us.drop high).toArray 0), (D7, listOf (us.drop high).toArray 0), (D6, listOf (us.take low).toArray 0), (D5, listOf (vs.take low ++ vs.drop high).toArray 0), (D4, listOf (vs.drop high).toArray 0), (D3, listOf (vs.take low).toArray 0), (D2, tupO [.ref v1b, .ref v2b] 0)] ++ base) y (us.take low ++ (us.drop high)) ((ivs.map (·.2)).take low ++ ((ivs.map (·.2)).drop high)) := ((hus0.mono sf).take low).append ((hus0.mono sf).drop high)
      refine hret _ _ _ _ (by k_asm) (by k_asm) ⟨[(D10, tupO [.ref D5, .ref D8] 0), (D9, tupO [.ref D5, .ref D8] 0), (D8, listOf (us.take low ++ us.drop high).toArray 0), (D7, listOf (us.drop high).toArray 0), (D6, listOf (us.take low).toArray 0), (D5, listOf (vs.take low ++ vs.drop high).toArray 0), (D4, listOf (vs.drop high).toArray 0), (D3, listOf (vs.take low).toArray 0), (D2, tupO [.ref v1b, .ref v2b] 0)], rfl, List.forall_mem_cons.mpr ⟨(fun q hq => ltD10 q (.tail _ (.tail _ (.tail _ (.tail _ (.tail _ (.tail _ (.tail _ (.tail _ (hq)))))))))), List.forall_mem_cons.mpr ⟨(fun q hq => ltD9 q (.tail _ (.tail _ (.tail _ (.tail _ (.tail _ (.tail _ (.tail _ (hq))))))))), List.forall_mem_cons.mpr ⟨(fun q hq => ltD8 q (.tail _ (.tail _ (.tail _ (.tail _ (.tail _ (.tail _ (hq)))))))), List.forall_mem_cons.mpr ⟨(fun q hq => ltD7 q (.tail _ (.tail _ (.tail _ (.tail _ (.tail _ (hq))))))), List.forall_mem_cons.mpr ⟨(fun q hq => ltD6 q (.tail _ (.tail _ (.tail _ (.tail _ (hq)))))), List.forall_mem_cons.mpr ⟨(fun q hq => ltD5 q (.tail _ (.tail _ (.tail _ (hq))))), List.forall_mem_cons.mpr ⟨(fun q hq => ltD4 q (.tail _ (.tail _ (hq)))), List.forall_mem_cons.mpr ⟨(fun q hq => ltD3 q (.tail _ (hq))), List.forall_mem_cons.mpr ⟨(fun q hq => ltD2 q (hq)), List.forall_mem_nil _⟩⟩⟩⟩⟩⟩⟩⟩⟩, D10, D5, D8, 0, _, rfl, .head _, ⟨_, _, _, _, .tail _ (.tail _ (.tail _ (.tail _ (.tail _ (.head _))))), .tail _ (.tail _ (.head _)), ?_, ?_⟩, hJ⟩
      · simpa only [mid, List.map_append, List.map_cons, List.map_nil, List.cons_append, List.nil_append, List.append_assoc, List.map_take, List.map_drop] using w1
      · simpa only [mid, List.map_append, List.map_cons, List.map_nil, List.cons_append, List.nil_append, List.append_assoc, List.map_take, List.map_drop] using w2
end Mine

/- V3 -/
set_option maxRecDepth 100000
namespace Mine
section
variable {prog : Program} {w : World} {A : Around} {E : Value → Shared → Prop} {s : Shared} {env : Env} {h₀ : Heap} {x : Str} {body : List Stmt} {Q : Flow → Shared → Prop}
/-- a loop over a range, by what holds at its turns -/
theorem range_J {r : Addr} {a₀ b₀ : Int} {t₀ u₀ v₀ : Tok} {n : Nat} {m₀ : Str → Option Value} {news : List (Addr × Obj)} (J : Nat → (Str → Option Value) → List (Addr × Obj) → Prop)
    (hh : A.handled = none) (hr : IsRange s.heap r a₀ b₀ 1 t₀ u₀ v₀) (hsmall : Builtin.Range.small a₀ b₀ 1 = true) (hsz : Builtin.Range.rangeSize a₀ b₀ 1 = (n : Int)) (F : Fr h₀ env.locals s.heap m₀) (N : News h₀ env.locals s.heap news) (hj : J 0 m₀ news)
    (turn : ∀ i (k : Int) t m₁ nx h tk own, i < n → k = a₀ + (i : Int) → OwnOff own (nx.map (·.1)) → J i m₁ nx → Fr h₀ env.locals h (fun y => if y = x then some (.int k t) else m₁ y) → News h₀ env.locals h (nx ++ own) →
      wpAny (model prog w) A (execs body env) (InvPostG h₀ env.locals (J (i + 1)) own { s with heap := h, toks := tk } Q) E { s with heap := h, toks := tk })
    (done : ∀ m₁ nx h tk, J n m₁ nx → Fr h₀ env.locals h m₁ → News h₀ env.locals h nx → Q .next { s with heap := h, toks := tk }) :
    wpAny (model prog w) A (pyIter (.ref r)) (fun it s₂ => LoopAtV prog w A h₀ env x body Q E it s₂) E s := by
  refine wpAny_pyIter_range hr hsmall ?_
  have W : Walks prog w A s.heap.objs.size [s.heap.objs.size] [s.heap.objs.size] n (fun i v => i < n ∧ ∃ t, v = .int (a₀ + i * 1) t)
      (fun i h => IsRangeIter h s.heap.objs.size (a₀ + (i : Nat) * 1) ((n : Int) - (i : Nat)) 1) := (Walks.range hh _ a₀ 1 n).bound
  refine kdr_loop J W (fun _ h => h) (fun _ h => h) ?_ ?_ ?_ ?_ (by show IsRangeIter _ _ _ _ _; rw [hsz]; simpa using Heap.get?_push_size _ rfl) (F.push _) (fun p hp => ⟨Heap.get?_push_of_some _ (N p hp).1, (N p hp).2⟩) hj ?_ done
  · intro i h hi b hb
    rw [List.mem_singleton.mp hb]
    exact ⟨_, hi⟩
  · intro hm
    exact absurd F.ns.lt ((List.mem_singleton.mp hm) ▸ Nat.lt_irrefl _)
  · intro b hb
    rw [List.mem_singleton.mp hb]
    exact next_is_new F
  · intro p hp hI
    exact absurd (Heap.lt_size (N p hp).1) ((List.mem_singleton.mp hI) ▸ Nat.lt_irrefl _)
  · rintro i v m₁ nx h tk own hi ⟨_, t, rfl⟩ hoff hJ F₁ N₁
    have e1 : a₀ + (i : Int) * 1 = a₀ + (i : Int) := by omega
    rw [e1] at F₁
    exact turn i _ t m₁ nx h tk own hi rfl hoff hJ F₁ N₁
end
section
variable {prog : Program} {w : World} {A : Around} {h₀ : Heap} {L : Addr} {m : Str → Option Value} {env : Env} {ct elt : Expr} {x : Str} {scope : Scope} {cl : List (Str × Addr)} {s : Shared} {S : List (Addr × Obj) → Prop} {P : Nat → Value → Prop} {Fin : List Value → List (Addr × Obj) → Prop} {news : List (Addr × Obj)} {n : Nat}
open LCg LCt
/-- a comprehension, by what holds at its turns -/
theorem comp_J (J : Nat → List Value → List (Addr × Obj) → Prop) (hj : J 0 [] news)
    (turn : ∀ i v I oI C oC D m₂ ys nw h tk (E' : Value → Shared → Prop), i < n → P i v → NsObj oC m₂ → m₂ x = some v → Fr h₀ L h m → News h₀ L h ((I, oI) :: (C, oC) :: (D, lst ys) :: nw) → Off3 I C D nw → ((@Ne Nat I C) ∧ (@Ne Nat I D) ∧ (@Ne Nat C D)) → J i ys nw →
      wpAny (model prog w) A (eval elt (compEnvC scope cl C env)) (CompEnd h₀ L m { s with heap := h, toks := tk } I oI C oC D (lst ys) S (fun y nw' => J (i + 1) (ys ++ [y]) nw')) E' { s with heap := h, toks := tk })
    (fin : ∀ ys nw, J n ys nw → Fin ys nw) : CompRest prog w A h₀ L m env elt x scope cl s S P Fin n 0 [] news := by
  have key : ∀ (j i : Nat) (ys : List Value) (nw : List (Addr × Obj)), i + j = n → J i ys nw → CompRest prog w A h₀ L m env elt x scope cl s S P Fin j i ys nw := by
    intro j
    induction j with
    | zero =>
      intro i ys nw hi hJ
      have e : i = n := by omega
      subst e
      exact CompRest.zero (fin ys nw hJ)
    | succ j ih =>
      intro i ys nw hi hJ
      refine CompRest.succ ?_
      intro v I oI C oC D m₂ h tk E' hv hC hx F N off ne
      refine wpAny_mono (turn i v I oI C oC D m₂ ys nw h tk E' (by omega) hv hC hx F N off ne hJ) (fun y s₂ hq => ?_) fun _ _ e => e
      obtain ⟨h', tk', nw', e, F', N', off', hS, hJ'⟩ := hq
      exact ⟨h', tk', nw', e, F', N', off', hS, ih (i + 1) _ nw' (by omega) hJ'⟩
  exact key n 0 [] news (by omega) hj
theorem compT_J (J : Nat → List Value → List (Addr × Obj) → Prop) (hj : J 0 [] news)
    (turn : ∀ i v I oI C oC D m₂ ys nw h tk (E' : Value → Shared → Prop), i < n → P i v → NsObj oC m₂ → m₂ x = some v → Fr h₀ L h m → News h₀ L h ((I, oI) :: (C, oC) :: (D, lst ys) :: nw) → Off3 I C D nw → ((@Ne Nat I C) ∧ (@Ne Nat I D) ∧ (@Ne Nat C D)) → J i ys nw →
      wpAny (model prog w) A (isTrue ct (compEnvC scope cl C env) (eval ct (compEnvC scope cl C env))) (fun ok s' => if ok = true then
        wpAny (model prog w) A (eval elt (compEnvC scope cl C env)) (CompEnd h₀ L m { s with heap := h, toks := tk } I oI C oC D (lst ys) S (fun y nw' => J (i + 1) (ys ++ [y]) nw')) E' s'
        else CompEnd h₀ L m { s with heap := h, toks := tk } I oI C oC D (lst ys) S (fun _ nw' => J (i + 1) ys nw') Value.none s') E' { s with heap := h, toks := tk })
    (fin : ∀ ys nw, J n ys nw → Fin ys nw) : CompRestT prog w A h₀ L m env ct elt x scope cl s S P Fin n 0 [] news := by
  have key : ∀ (j i : Nat) (ys : List Value) (nw : List (Addr × Obj)), i + j = n → J i ys nw → CompRestT prog w A h₀ L m env ct elt x scope cl s S P Fin j i ys nw := by
    intro j
    induction j with
    | zero =>
      intro i ys nw hi hJ
      have e : i = n := by omega
      subst e
      exact CompRestT.zero (fin ys nw hJ)
    | succ j ih =>
      intro i ys nw hi hJ
      refine CompRestT.succ ?_
      intro v I oI C oC D m₂ h tk E' hv hC hx F N off ne
      refine wpAny_mono (turn i v I oI C oC D m₂ ys nw h tk E' (by omega) hv hC hx F N off ne hJ) (fun b s₂ hq => ?_) fun _ _ e => e
      cases b with
      | true =>
        simp only [if_true] at hq ⊢
        refine wpAny_mono hq (fun y s₃ hr => ?_) fun _ _ e => e
        obtain ⟨h', tk', nw', e, F', N', off', hS, hJ'⟩ := hr
        exact ⟨h', tk', nw', e, F', N', off', hS, ih (i + 1) _ nw' (by omega) hJ'⟩
      | false =>
        simp only [Bool.false_eq_true, if_false] at hq ⊢
        obtain ⟨h', tk', nw', e, F', N', off', hS, hJ'⟩ := hq
        exact ⟨h', tk', nw', e, F', N', off', hS, ih (i + 1) _ nw' (by omega) hJ'⟩
  exact key n 0 [] news (by omega) hj
end
section
variable {prog : Program} {w : World} {A : Around} {E : Value → Shared → Prop} {s : Shared} {h₀ : Heap} {L l : Addr} {m : Str → Option Value} {news : List (Addr × Obj)} {us : List Value} {n : Nat} {Q : Value → Shared → Prop}
theorem list_led (F : Fr h₀ L s.heap m) (N : News h₀ L s.heap news) (hz : us.length ≤ 1000)
    (h : ∀ D h', Fr h₀ L h' m → News h₀ L h' ((D, listOf us.toArray 0) :: news) → (∀ p ∈ news, p.1 < D) → Q (.ref D) { s with heap := h' }) : wpAny (model prog w) A (newList us) Q E s :=
  newList_N F N (fun h' F' N' => h _ h' F' N' fun p hp => Heap.lt_size (N p hp).1) (Nat.le_trans hz (by decide))
end
theorem fr_known {h₀ h : Heap} {L : Addr} {m : Str → Option Value} (ps : List (Str × Value)) (F : Fr h₀ L h m) (hk : ∀ p ∈ ps, m p.1 = some p.2) : Fr h₀ L h (kstB m ps) := by
  have e : kstB m ps = m := funext fun y => kstB_eq hk fun _ => rfl
  rw [e]; exact F
theorem fr_knownX {h₀ h : Heap} {L : Addr} {m : Str → Option Value} {x : Str} {v : Value} (ps : List (Str × Value)) (F : Fr h₀ L h (fun y => if y = x then some v else m y)) (hk : ∀ p ∈ ps, m p.1 = some p.2) : Fr h₀ L h (fun y => if y = x then some v else kstB m ps y) := by
  have e : kstB m ps = m := funext fun y => kstB_eq hk fun _ => rfl
  rw [e]; exact F
section
variable {M : Model} {A : Around} {E : Value → Shared → Prop} {s : Shared}
/-- a statement that goes on, told by what holds behind it -/
theorem stmt_by {t : Sem Flow} {Q : Flow → Shared → Prop} (P : Shared → Prop) (h : wpAny M A t (fun f s' => f = .next ∧ P s') E s) (k : ∀ s', P s' → Q .next s') : wpAny M A t Q E s :=
  wpAny_mono h (fun _ _ ⟨e, hp⟩ => by subst e; exact k _ hp) fun _ _ x => x
end
end Mine

/- V4 -/
set_option maxRecDepth 100000
namespace Mine
/-- a mark: the walk is to stop at the comparison of two rows -/
structure HoldNe : Prop where
/-- what holds between the law's deeds -/
structure MS (L ml pl hl : Addr) (cH cP : Obj) (ys msv : List Value) (n : Nat) (y : Int) (hv : List Value) (H : List Bool) (rest : List (Addr × Obj)) (fa la : Addr) (ivs : List Iv) : Prop where
  off : ∀ p ∈ rest, p.1 ≠ hl
  bools : LSm.BoolsAre hv H
  tells : Tells38 H ivs
  rows : Rows rest y fa la ivs
  cellH : (L + 1 + 1 + 1, cH) ∈ rest
  cellP : (L + 1 + 1, cP) ∈ rest
  plain : (pl, LCg.lst ys) ∈ rest
  plainM : MonsIn rest y ys (upto 38)
  months : (ml, listOf (List.toArray msv) n) ∈ rest
  monthsM : MonsIn rest y msv (upto 38)
def MJ (L ml pl hl : Addr) (cH cP : Obj) (ys msv : List Value) (n : Nat) (y : Int) (m : Str → Option Value) (nx : List (Addr × Obj)) : Prop :=
  ∃ hv H rest fa la ivs, nx = (hl, listOf (List.toArray hv) 0) :: rest ∧ MS L ml pl hl cH cP ys msv n y hv H rest fa la ivs ∧ m (Str.ofString "months") = some (.ref ml) ∧ m (Str.ofString "firsts") = some (.ref fa) ∧ m (Str.ofString "lasts") = some (.ref la)
theorem name_list {h₀ h : Heap} {L D : Addr} {us : List Value} {n : Nat} {rest : List (Addr × Obj)} {ks : List Int} (N : News h₀ L h ((D, listOf (List.toArray us) n) :: rest)) (hi : IntsAre us ks) : ∃ c, IntsAre c ks ∧ News h₀ L h ((D, listOf (List.toArray c) n) :: rest) := ⟨us, hi, N⟩
theorem name_map {h₀ h : Heap} {L : Addr} {m : Str → Option Value} (F : Fr h₀ L h m) (P : (Str → Option Value) → Prop) (hp : P m) : ∃ m', Fr h₀ L h m' ∧ P m' := ⟨m, F, hp⟩
/-- the numbers of a deed -/
theorem deed_nums (x : Int) : 0 ≤ (x.fdiv 3).fmod 31 ∧ (x.fdiv 3).fmod 31 ≤ 30 ∧ 0 ≤ (x.fdiv 93).fmod 8 ∧ (x.fdiv 93).fmod 8 ≤ 7 := by
  rw [Int.fmod_eq_emod_of_nonneg _ (by decide), Int.fmod_eq_emod_of_nonneg _ (by decide)]
  omega
/-- two rows of the same months are not unequal -/
theorem ne_mon {prog : Program} {w : World} {A : Around} {E : Value → Shared → Prop} {s : Shared} {h₀ : Heap} {L a b : Addr} {news n₁ n₂ : List (Addr × Obj)} {xs zs : List Value} {ka kb : Nat} {y : Int} {js : List Int} {Q : Value → Shared → Prop}
    (N : News h₀ L s.heap news) (ma : (a, listOf (List.toArray xs) ka) ∈ news) (Da : MonsIn n₁ y xs js) (sa : ∀ p ∈ n₁, p ∈ news) (mb : (b, listOf (List.toArray zs) kb) ∈ news) (Db : MonsIn n₂ y zs js) (sb : ∀ p ∈ n₂, p ∈ news) (hu : A.units + 64 < cLine) (h : Q (.bool false) s) :
    wpAny (model prog w) A (compareOp .NotEq (.ref a) (.ref b)) Q E s := by
  have ok : ∀ d ∈ js.map (monD y), kqdOk 8 d = true := fun d hd => by
    obtain ⟨j, _, rfl⟩ := List.mem_map.mp hd
    exact monD_ok y j
  refine kqd_ne N ma rfl rfl Da.dat sa mb rfl rfl Db.dat sb ok ok hu ?_
  simpa using h
/-- behind a deed -/
def AfterDeed (s₁ : Shared) (L ml hl : Addr) (hv : List Value) (rest own : List (Addr × Obj)) (y xk bg en : Int) (tb te xt : Tok) (ivs : List Iv) (s' : Shared) : Prop :=
  ∃ h' tk' tl2 fa' la' ivs' m', s' = { heap := h', gens := s₁.gens, drawn := s₁.drawn, toks := tk', os := s₁.os } ∧ Fr s₁.heap L h' m' ∧ News s₁.heap L h' (tl2 ++ (hl, listOf (List.toArray hv) 0) :: (rest ++ own)) ∧ (∀ p ∈ tl2, ∀ q ∈ (hl, listOf (List.toArray hv) 0) :: (rest ++ own), q.1 < p.1) ∧ Rows (tl2 ++ rest) y fa' la' ivs' ∧ Norm ivs' ∧ (∀ k, Held ivs' k ↔ if xk.fmod 3 = 2 then Held ivs k ∧ ¬ (bg ≤ k ∧ k ≤ en) else Held ivs k ∨ (bg ≤ k ∧ k ≤ en))
    ∧ m' (Str.ofString "begin") = some (.int bg tb) ∧ m' (Str.ofString "end") = some (.int en te) ∧ m' (Str.ofString "x") = some (.int xk xt) ∧ m' (Str.ofString "months") = some (.ref ml) ∧ m' (Str.ofString "firsts") = some (.ref fa') ∧ m' (Str.ofString "lasts") = some (.ref la')
theorem tells_none : Tells38 (List.replicate (38 : Int).toNat [false]).flatten [] := by
  have e : (List.replicate (38 : Int).toNat [false]).flatten = List.replicate 38 false := by decide
  rw [e]
  refine ⟨.nil, List.length_replicate, fun k hk => absurd hk Held.nil, fun k hk => ?_⟩
  constructor
  · intro h
    rw [List.getD_eq_getElem?_getD, List.getElem?_replicate] at h
    split at h <;> simp at h
  · intro h; exact absurd h Held.nil
end Mine

/- M1 -/
set_option maxRecDepth 100000
namespace Mine
local macro_rules | `(tactic| walk_at "call ref") => `(tactic| (with_reducible refine Hold.mk ?_))
local macro_rules | `(tactic| walk_at "pyIter ref") => `(tactic| (with_reducible refine Hold.mk ?_))
local macro_rules | `(tactic| walk_at "CompSrc") => `(tactic| (with_reducible refine Hold.mk ?_))
local macro_rules | `(tactic| walk_at "CompSrcT") => `(tactic| (with_reducible refine Hold.mk ?_))
local macro_rules | `(tactic| walk_at "eval IfExp") => `(tactic| (with_reducible refine Hold.mk ?_))
local macro_rules | `(tactic| walk_at "newTuple") => `(tactic| (with_reducible refine Hold.mk ?_))
local macro_rules | `(tactic| walk_at "newList") => `(tactic| (with_reducible refine Hold.mk ?_))
local macro_rules | `(tactic| walk_at "subscriptTail Name Name ref int") => `(tactic| (with_reducible refine Hold.mk ?_))
local macro_rules | `(tactic| walk_at "subscriptTail Name Slice ref ref") => `(tactic| (with_reducible refine Hold.mk ?_))
local macro_rules | `(tactic| walk_at "binaryOp Add ref ref") => `(tactic| (with_reducible refine Hold.mk ?_))
local macro_rules | `(tactic| walk_at "binaryOp Mult ref int") => `(tactic| (with_reducible refine Hold.mk ?_))
local macro_rules | `(tactic| walk_at "exec For Name BinOp cons nil") => `(tactic| (k_here; (rename Fr _ _ _ _ => lF'); (with_unfolding_all refine' For_invVF lF' ?k1 ?k2 ?_; (case k1 => exact rfl); (case k2 => exact rfl); k_whole)))
local macro_rules | `(tactic| walk_at "compareOp NotEq ref ref") => `(tactic| ((have hq9 : HoldNe := by assumption); clear hq9; (with_reducible refine Hold.mk ?_)))
local macro_rules | `(tactic| walk_at "setItem ref int") => `(tactic| (with_reducible refine Hold.mk ?_))
local macro_rules | `(tactic| walk_at "exec If") => `(tactic| (with_reducible refine Hold.mk ?_))
local macro_rules | `(tactic| walk_at "CompEnd") => `(tactic| (with_reducible refine Hold.mk ?_))
local macro_rules | `(tactic| walk_at "FinE") => `(tactic| (with_reducible refine Hold.mk ?_))
local macro_rules | `(tactic| walk_at "InvEndG") => `(tactic| (with_reducible refine Hold.mk ?_))
local macro_rules | `(tactic| walk_at "call builtin:list.append") => `(tactic| (with_reducible refine Hold.mk ?_))
local macro_rules | `(tactic| k_mem) => `(tactic| first | assumption | exact List.mem_cons_self | (refine List.mem_cons_of_mem _ ?_; k_mem))
local macro_rules | `(tactic| ktr_unf) => `(tactic| ((case k1 => k_asm); (case k2 => k_asm); (case k3 => k_asm); (case k4 => k_asm); (case k5 => k_asm); (case kK => first | exact rfl | assumption); (case kd => (first | omega | decide | ((try simp only [depth_under_make, depth_under_kw, depth_in1, depth_deeper, depth_caller] at *); (try dsimp only [ktrTop] at *); first | omega | decide))); (case ku => (first | omega | decide | ((try simp only [units_in1, units_deeper, Around.mark_units, units_caller] at *); (try dsimp only [ktrTop] at *); first | omega | decide)))))
set_option maxHeartbeats 8000000 in
theorem mainWalk : PySem.Challenge.rw_dn0047_03.Holds := by
  refine Mine.hd ?_
  k_fill
  intro w s₀ s₁ mg mb G Y fa o pm cd doc dV kV ho hd hcd hD hmg hg args vals as hpre hlay hrd hwl hlo
  have KX := kIn_of Y
  k_behind G ho hd hcd hD hmg hpre hlay hrd hwl hlo cd
  (all_goals try k_fold)
  k_steps
  refine Hold.intro ?_
  rename Fr _ _ _ _ => F0
  rename News _ _ _ _ => N0
  refine keep_int F0 N0 ?g1 ?g2
  case g1 =>
    refine IfExp_ ?_
    k_steps
    refine Hold.intro ?_
    refine list_led F0 N0 (Nat.zero_le _) ?_
    intro D0 h0 F1 N1 lt0
    clear F0 N0
    k_steps
    · k_asm
    · exact drop_led (by assumption) (fun p hp => .tail _ hp)
    · exfalso
      rename decide (_ = []) = false => hne
      rename _ ∨ _ => hor
      simp only [decide_eq_false_iff_not] at hne
      exact hne (List.eq_nil_of_length_eq_zero (by omega))
    · k_asm
    · exact drop_led (by assumption) (fun p hp => .tail _ hp)
  intro y t0 h0 tk0 F1 N1
  clear F0 N0
  obtain ⟨sa, svs, ns, m0, hsL, hsI, hn63, hscr, Fm⟩ : ∃ sa svs ns m0, s₁.heap.IsList sa (List.toArray svs) ∧ IntsAre svs ns ∧ ¬ ((63 : Nat) : Int) < (ns.length : Int) ∧ m0 (Str.ofString "script") = some (.ref sa) ∧ Fr s₁.heap s₁.heap.objs.size h0 m0 := ⟨_, _, _, _, by assumption, by assumption, by assumption, by rfl, F1⟩
  clear F1
  have F2 := fr_known [(Str.ofString "script", .ref sa)] Fm (List.forall_mem_cons.mpr ⟨hscr, List.forall_mem_nil _⟩)
  clear Fm
  dsimp only [kstB] at F2
  k_steps
  refine Hold.intro ?_
  rename Fr _ _ _ _ => Fa
  rename News _ _ _ _ => Na
  obtain ⟨cH, cP, cY, ⟨vH, dH⟩, ⟨vP, dP⟩, dY, Nb⟩ : ∃ cH cP cY, (∃ v, cH.data = .cell v) ∧ (∃ v, cP.data = .cell v) ∧ cY.data = .cell (some (.int y t0)) ∧ News s₁.heap s₁.heap.objs.size _ [(s₁.heap.objs.size + 1 + 1 + 1, cH), (s₁.heap.objs.size + 1 + 1, cP), (s₁.heap.objs.size + 1, cY)] := ⟨_, _, _, ⟨_, by assumption⟩, ⟨_, by assumption⟩, by assumption, Na⟩
  clear Na
  refine tuple_led Fa Nb (Nat.le_of_ble_eq_true rfl) ?_
  intro D1 h1' F1' N1' lt1
  clear Fa Nb
  k_steps
  refine Hold.intro ?_
  rename Fr _ _ _ _ => Fa
  rename News _ _ _ _ => Na
  refine list_led Fa Na (Nat.le_of_ble_eq_true rfl) ?_
  intro ml h2' F2' N2' lt2
  clear Fa Na
  k_steps
  refine Hold.intro ?_
  rename Fr _ _ _ _ => Fa
  rename News _ _ _ _ => Na
  rename IsRange _ _ _ _ _ _ _ _ => hR
  -- the months
  refine range_J (n := 37) (fun i m nx => ∃ tl msv n, nx = (s₁.heap.objs.size + 1 + 1 + 1, cH) :: (s₁.heap.objs.size + 1 + 1, cP) :: (s₁.heap.objs.size + 1, cY) :: (ml, listOf (List.toArray msv) n) :: tl ∧ (∀ p ∈ tl, s₁.heap.objs.size + 1 + 1 + 1 < p.1) ∧ s₁.heap.objs.size + 1 + 1 + 1 < ml ∧ (∀ p ∈ tl, p.1 ≠ ml) ∧ MonsIn tl y msv (upto (i + 1)) ∧ m (Str.ofString "months") = some (.ref ml) ∧ m (Str.ofString "script") = some (.ref sa)) rfl hR (by decide) (by rfl) Fa (N := drop_led (news := (s₁.heap.objs.size + 1 + 1 + 1, cH) :: (s₁.heap.objs.size + 1 + 1, cP) :: (s₁.heap.objs.size + 1, cY) :: (ml, listOf (List.toArray [Value.ref D1]) 0) :: [(D1, tupO [.int y t0, .int 1 tk0] 0)]) Na ?n1) ?j0 ?turn ?done
  case n1 =>
    exact List.forall_mem_cons.mpr ⟨.tail _ (.tail _ (.head _)), List.forall_mem_cons.mpr ⟨.tail _ (.tail _ (.tail _ (.head _))), List.forall_mem_cons.mpr ⟨.tail _ (.tail _ (.tail _ (.tail _ (.head _)))), List.forall_mem_cons.mpr ⟨.head _, List.forall_mem_cons.mpr ⟨.tail _ (.head _), List.forall_mem_nil _⟩⟩⟩⟩⟩
  case j0 =>
    refine ⟨[(D1, tupO [.int y t0, .int 1 tk0] 0)], [.ref D1], 0, rfl, List.forall_mem_cons.mpr ⟨lt1 _ (.head _), List.forall_mem_nil _⟩, lt2 (s₁.heap.objs.size + 1 + 1 + 1, cH) (.tail _ (.head _)), List.forall_mem_cons.mpr ⟨Nat.ne_of_lt (lt2 _ (.head _)), List.forall_mem_nil _⟩, ?_, rfl, rfl⟩
    show MonsIn _ y [.ref D1] [0]
    refine .cons ⟨D1, t0, tk0, 0, rfl, ?_⟩ .nil
    rw [show y + (0 : Int) / 12 = y by omega, show (0 : Int) % 12 + 1 = 1 by decide]
    exact .head _
  case turn =>
    rintro i k t m nx h tk own hi hk hoff ⟨tl, msv, n, rfl, b1, b2, b3, hms, hm1, hm2⟩ F3 N3
    have F4 := fr_knownX [(Str.ofString "months", .ref ml), (Str.ofString "script", .ref sa)] F3 (List.forall_mem_cons.mpr ⟨hm1, List.forall_mem_cons.mpr ⟨hm2, List.forall_mem_nil _⟩⟩)
    clear F3 Fa Na
    dsimp only [kstB] at F4
    dsimp only [List.cons_append] at N3
    try k_fold
    k_steps
    refine Hold.intro ?_
    rename Fr _ _ _ _ => Fa
    rename News _ _ _ _ => Na
    have sub : ∀ p ∈ tl, p ∈ (s₁.heap.objs.size + 1 + 1 + 1, cH) :: (s₁.heap.objs.size + 1 + 1, cP) :: (s₁.heap.objs.size + 1, cY) :: (ml, listOf (List.toArray msv) n) :: (tl ++ own) := fun p hp => .tail _ (.tail _ (.tail _ (.tail _ (List.mem_append.mpr (.inl hp)))))
    have hkn : k.toNat < (upto (i + 1)).length := by rw [upto_length]; omega
    have hml := hms.length
    rw [upto_length] at hml
    obtain ⟨v, hv, vb, vt, vu, vn, rfl, hvm⟩ := hms.get hkn
    rw [upto_get, show ((k.toNat : Nat) : Int) = k by omega] at hvm
    have hvm' := sub _ hvm
    have hkf : k < 2 ^ 63 := by have : (2 : Int) ^ 63 = 9223372036854775808 := by decide
                                omega
    refine item_led Na (.tail _ (.tail _ (.tail _ (.head _)))) (by omega) hkf hv ?_
    k_steps
    refine Hold.intro ?_
    refine item_led Na (.tail _ (.tail _ (.tail _ (.head _)))) (by omega) hkf hv ?_
    k_steps
    refine Hold.intro ?_
    k_dflt (refine' Does.use (next_does w y k vt vu ((s₁.heap.objs.size + 1 + 1 + 1, cH) :: (s₁.heap.objs.size + 1 + 1, cP) :: (s₁.heap.objs.size + 1, cY) :: (ml, listOf (List.toArray msv) n) :: (tl ++ own))) ?k1 ?k2 ?k3 ?k4 ?k5 ?kK ?kd ?ku ?_)
    ktr_unf
    rintro r news5 h5 tk5 F5 N5 ⟨D2, d2t, d2u, d2n, rfl, rfl, lt3⟩
    clear Fa Na
    k_steps
    refine Hold.intro ?_
    have hmo : ∀ p ∈ own, p.1 ≠ ml := fun p hp => hoff p hp ml (.tail _ (.tail _ (.tail _ (.head _))))
    have hU := Upd.of (d := ml) (o := listOf (List.toArray msv) n) (o' := listOf ((List.toArray msv).push (.ref D2)) (n + 1)) (post := tl ++ own) (fun p hp => (List.mem_append.mp hp).elim (b3 p) (hmo p))
      (pre := [(D2, tupO [.int (y + (k + 1) / 12) d2t, .int ((k + 1) % 12 + 1) d2u] d2n), (s₁.heap.objs.size + 1 + 1 + 1, cH), (s₁.heap.objs.size + 1 + 1, cP), (s₁.heap.objs.size + 1, cY)])
      (List.forall_mem_cons.mpr ⟨Nat.ne_of_gt (lt3 (ml, listOf (List.toArray msv) n) (.tail _ (.tail _ (.tail _ (.head _))))), List.forall_mem_cons.mpr ⟨Nat.ne_of_lt b2, List.forall_mem_cons.mpr ⟨Nat.ne_of_lt (Nat.lt_trans (Nat.lt_succ_self _) b2), List.forall_mem_cons.mpr ⟨Nat.ne_of_lt (Nat.lt_trans (Nat.lt_succ_self _) (Nat.lt_trans (Nat.lt_succ_self _) b2)), List.forall_mem_nil _⟩⟩⟩⟩)
    rw [List.push_toArray] at hU
    have hmz : (List.toArray msv).size ≤ sizeLine := by rw [List.size_toArray]; exact Nat.le_trans (show msv.length ≤ 1000 by omega) (by decide)
    refine append_K F5 N5 (by rw [List.push_toArray]; exact hU) ?_ hmz
    intro h6 F6 N6
    clear F5 N5
    dsimp only [List.cons_append, List.nil_append] at N6
    k_steps
    refine Hold.intro ?_
    rename Fr _ _ _ _ => Fa
    rename News _ _ _ _ => Na
    refine InvEndG.intro (nx := (s₁.heap.objs.size + 1 + 1 + 1, cH) :: (s₁.heap.objs.size + 1 + 1, cP) :: (s₁.heap.objs.size + 1, cY) :: (ml, listOf (List.toArray (msv ++ [.ref D2])) (n + 1)) :: (D2, tupO [.int (y + (k + 1) / 12) d2t, .int ((k + 1) % 12 + 1) d2u] d2n) :: tl) Fa Na ?i1 ?i2 ?i3 ?i4
    case i1 =>
      refine ⟨_, _, _, rfl, List.forall_mem_cons.mpr ⟨lt3 (s₁.heap.objs.size + 1 + 1 + 1, cH) (.head _), b1⟩, b2, List.forall_mem_cons.mpr ⟨Nat.ne_of_gt (lt3 (ml, listOf (List.toArray msv) n) (.tail _ (.tail _ (.tail _ (.head _))))), b3⟩, ?_, rfl, rfl⟩
      show MonsIn _ y _ (upto (i + 1) ++ [((i + 1 : Nat) : Int)])
      rw [show ((i + 1 : Nat) : Int) = k + 1 by omega]
      exact (hms.mono (fun p hp => .tail _ hp)).append (.cons ⟨D2, d2t, d2u, d2n, rfl, .head _⟩ .nil)
    case i2 =>
      intro p hp b hb
      rcases List.mem_cons.mp hb with rfl | hb
      · exact hoff p hp _ (.head _)
      rcases List.mem_cons.mp hb with rfl | hb
      · exact hoff p hp _ (.tail _ (.head _))
      rcases List.mem_cons.mp hb with rfl | hb
      · exact hoff p hp _ (.tail _ (.tail _ (.head _)))
      rcases List.mem_cons.mp hb with rfl | hb
      · exact hoff p hp _ (.tail _ (.tail _ (.tail _ (.head _))))
      rcases List.mem_cons.mp hb with rfl | hb
      · exact Nat.ne_of_lt (lt3 p (.tail _ (.tail _ (.tail _ (.tail _ (List.mem_append.mpr (.inr hp)))))))
      · exact hoff p hp _ (.tail _ (.tail _ (.tail _ (.tail _ hb))))
    case i3 =>
      exact List.forall_mem_cons.mpr ⟨.tail _ (.head _), List.forall_mem_cons.mpr ⟨.tail _ (.tail _ (.head _)), List.forall_mem_cons.mpr ⟨.tail _ (.tail _ (.tail _ (.head _))), List.forall_mem_cons.mpr ⟨.tail _ (.tail _ (.tail _ (.tail _ (.head _)))), List.forall_mem_cons.mpr ⟨.head _, fun p hp => .tail _ (.tail _ (.tail _ (.tail _ (.tail _ (List.mem_append.mpr (.inl hp))))))⟩⟩⟩⟩⟩
    case i4 => exact fun p hp => .tail _ (.tail _ (.tail _ (.tail _ (.tail _ (List.mem_append.mpr (.inr hp))))))
  case done =>
    rintro m nx h tk ⟨tl, msv, n, rfl, b1, b2, b3, hms, hm1, hm2⟩ F3 N3
    have F4 := fr_known [(Str.ofString "months", .ref ml), (Str.ofString "script", .ref sa)] F3 (List.forall_mem_cons.mpr ⟨hm1, List.forall_mem_cons.mpr ⟨hm2, List.forall_mem_nil _⟩⟩)
    clear F3 Fa Na
    dsimp only [kstB] at F4
    k_steps
    refine Hold.intro ?_
    rename Fr _ _ _ _ => Fa
    rename News _ _ _ _ => Na
    clear hR
    rename IsRange _ _ _ _ _ _ _ _ => hR
    -- the plain row
    refine LCg.CompSrc.range (n := 38) rfl Fa Na hR (by decide) (by rfl) (by decide) ?_
    intro g
    refine comp_J (fun i ys nw => ∃ tl', nw = (s₁.heap.objs.size + 1 + 1 + 1, cH) :: (s₁.heap.objs.size + 1 + 1, cP) :: (s₁.heap.objs.size + 1, cY) :: (ml, listOf (List.toArray msv) n) :: (tl' ++ tl) ∧ (∀ p ∈ tl', s₁.heap.objs.size + 1 + 1 + 1 < p.1) ∧ (∀ p ∈ tl', ml < p.1) ∧ MonsIn (tl' ++ tl) y ys (upto i)) ?j0 ?turn ?fin
    case j0 => exact ⟨[], rfl, List.forall_mem_nil _, List.forall_mem_nil _, .nil⟩
    case turn =>
      clear Fa Na
      rintro i v I oI C oC D m₂ ys nw h tk E' hi ⟨t, rfl⟩ hC hx F N off ne ⟨tl', rfl, c1, c2, hys⟩
      k_steps
      refine Hold.intro ?_
      refine tuple_led F N (Nat.le_of_ble_eq_true rfl) ?_
      intro T1 h7 F7 N7 ltT
      clear F N
      rw [fdiv12, fmod12] at N7
      obtain ⟨tt, tu, N8⟩ : ∃ tt tu, News s₁.heap _ h7 ((T1, tupO [.int (y + (i : Int) / 12) tt, .int ((i : Int) % 12 + 1) tu] 0) :: (I, oI) :: (C, oC) :: (D, LCg.lst ys) :: (s₁.heap.objs.size + 1 + 1 + 1, cH) :: (s₁.heap.objs.size + 1 + 1, cP) :: (s₁.heap.objs.size + 1, cY) :: (ml, listOf (List.toArray msv) n) :: (tl' ++ tl)) := ⟨_, _, N7⟩
      have aI : I < T1 := ltT (I, oI) (.head _)
      have aC : C < T1 := ltT (C, oC) (.tail _ (.head _))
      have aD : D < T1 := ltT (D, LCg.lst ys) (.tail _ (.tail _ (.head _)))
      obtain ⟨off1, off2, off3, off4, off5⟩ := off
      refine LCg.CompEnd.intro F7 N8 ((s₁.heap.objs.size + 1 + 1 + 1, cH) :: (s₁.heap.objs.size + 1 + 1, cP) :: (s₁.heap.objs.size + 1, cY) :: (ml, listOf (List.toArray msv) n) :: ((T1, tupO [.int (y + (i : Int) / 12) tt, .int ((i : Int) % 12 + 1) tu] 0) :: tl' ++ tl)) ?s1 ?s2 trivial ?s3
      case s1 =>
        exact List.forall_mem_cons.mpr ⟨.tail _ (.head _), List.forall_mem_cons.mpr ⟨.tail _ (.tail _ (.head _)), List.forall_mem_cons.mpr ⟨.tail _ (.tail _ (.tail _ (.head _))), List.forall_mem_cons.mpr ⟨.tail _ (.tail _ (.tail _ (.tail _ (.head _)))), List.forall_mem_cons.mpr ⟨.tail _ (.tail _ (.tail _ (.tail _ (.tail _ (.head _))))), List.forall_mem_cons.mpr ⟨.tail _ (.tail _ (.tail _ (.tail _ (.tail _ (.tail _ (.head _)))))), List.forall_mem_cons.mpr ⟨.tail _ (.tail _ (.tail _ (.tail _ (.tail _ (.tail _ (.tail _ (.head _))))))), List.forall_mem_cons.mpr ⟨.head _, fun p hp => .tail _ (.tail _ (.tail _ (.tail _ (.tail _ (.tail _ (.tail _ (.tail _ hp)))))))⟩⟩⟩⟩⟩⟩⟩⟩
      case s2 => exact ⟨off1, off2, off3, off4, ⟨Nat.ne_of_gt aI, Nat.ne_of_gt aC, Nat.ne_of_gt aD⟩, off5⟩
      case s3 =>
        refine ⟨(T1, tupO [.int (y + (i : Int) / 12) tt, .int ((i : Int) % 12 + 1) tu] 0) :: tl', rfl, List.forall_mem_cons.mpr ⟨ltT (s₁.heap.objs.size + 1 + 1 + 1, cH) (.tail _ (.tail _ (.tail _ (.head _)))), c1⟩, List.forall_mem_cons.mpr ⟨ltT (ml, listOf (List.toArray msv) n) (.tail _ (.tail _ (.tail _ (.tail _ (.tail _ (.tail _ (.head _))))))), c2⟩, ?_⟩
        exact (hys.mono (fun p hp => .tail _ hp)).append (.cons ⟨T1, tt, tu, 0, rfl, .head _⟩ .nil)
    case fin =>
      clear Fa Na
      rintro ys nw ⟨tl', rfl, c1, c2, hys⟩
      intro pl h8 tk8 F8 N8 offp
      change Fr s₁.heap s₁.heap.objs.size h8 _ at F8
      change News s₁.heap s₁.heap.objs.size h8 _ at N8
      obtain ⟨q3, q2, q1, qm, qt⟩ := offp
      dsimp only at q3 q2 q1 qm
      have z1 : ∀ p ∈ tl' ++ tl, s₁.heap.objs.size + 1 + 1 + 1 < p.1 := fun p hp => (List.mem_append.mp hp).elim (c1 p) (b1 p)
      refine storeX_C F8 N8 rfl (UpdF.of (pre := [(pl, LCg.lst ys), (s₁.heap.objs.size + 1 + 1 + 1, cH)]) (d := s₁.heap.objs.size + 1 + 1) (o := cP) (post := (s₁.heap.objs.size + 1, cY) :: (ml, listOf (List.toArray msv) n) :: (tl' ++ tl)) ?u1 ?u2) dP ?_
      case u1 => exact List.forall_mem_cons.mpr ⟨Nat.ne_of_lt (Nat.lt_succ_self _), List.forall_mem_cons.mpr ⟨Nat.ne_of_gt (Nat.lt_trans (Nat.lt_succ_self _) b2), fun p hp => Nat.ne_of_gt (Nat.lt_trans (Nat.lt_succ_self _) (z1 p hp))⟩⟩
      case u2 => exact List.forall_mem_cons.mpr ⟨Ne.symm q2, List.forall_mem_cons.mpr ⟨Nat.ne_of_gt (Nat.lt_succ_self _), List.forall_mem_nil _⟩⟩
      intro h9 cP' F9 N9 dP'
      clear F8 N8
      dsimp only [List.cons_append, List.nil_append] at N9
      k_steps
      refine Hold.intro ?_
      rename Fr _ _ _ _ => Fa
      rename News _ _ _ _ => Na
      refine list_led Fa Na (Nat.le_of_ble_eq_true rfl) ?_
      intro D3 h10 F10 N10 lt10
      clear Fa Na
      k_steps
      refine Hold.intro ?_
      rename Fr _ _ _ _ => Fa
      rename News _ _ _ _ => Na
      refine kbo_mul Fa Na ⟨_, (Na _ (.head _)).1, rfl, 0, rfl⟩ (LSm.BoolsAre.cons false LSm.BoolsAre.nil) (by decide) (by decide) (by decide) ?_
      intro hl h11 F11 N11 lt11 hB0 _ _ _ _ _ _
      clear Fa Na
      have a3 : s₁.heap.objs.size + 1 + 1 + 1 < hl := lt11 (s₁.heap.objs.size + 1 + 1 + 1, cH) (.tail _ (.tail _ (.head _)))
      have aD3 : s₁.heap.objs.size + 1 + 1 + 1 < D3 := lt10 (s₁.heap.objs.size + 1 + 1 + 1, cH) (.tail _ (.head _))
      refine storeX_C F11 N11 rfl (UpdF.of (pre := [(hl, listOf (List.replicate (38 : Int).toNat [Value.bool false]).flatten.toArray 0), (D3, listOf (List.toArray [Value.bool false]) 0), (pl, LCg.lst ys)]) (d := s₁.heap.objs.size + 1 + 1 + 1) (o := cH) (post := (s₁.heap.objs.size + 1 + 1, cP') :: (s₁.heap.objs.size + 1, cY) :: (ml, listOf (List.toArray msv) n) :: (tl' ++ tl)) ?u1 ?u2) dH ?_
      case u1 => exact List.forall_mem_cons.mpr ⟨Nat.ne_of_lt (Nat.lt_succ_self _), List.forall_mem_cons.mpr ⟨Nat.ne_of_lt (Nat.lt_trans (Nat.lt_succ_self _) (Nat.lt_succ_self _)), List.forall_mem_cons.mpr ⟨Nat.ne_of_gt b2, fun p hp => Nat.ne_of_gt (z1 p hp)⟩⟩⟩
      case u2 => exact List.forall_mem_cons.mpr ⟨Nat.ne_of_gt a3, List.forall_mem_cons.mpr ⟨Nat.ne_of_gt aD3, List.forall_mem_cons.mpr ⟨Ne.symm q3, List.forall_mem_nil _⟩⟩⟩
      intro h12 cH' F12 N12 dH'
      clear F11 N11
      dsimp only [List.cons_append, List.nil_append] at N12
      k_steps
      refine Hold.intro ?_
      rename Fr _ _ _ _ => Fa
      rename News _ _ _ _ => Na
      refine list_led Fa Na (Nat.zero_le _) ?_
      intro fl0 h13 F13 N13 lt13
      clear Fa Na
      k_steps
      refine Hold.intro ?_
      rename Fr _ _ _ _ => Fa
      rename News _ _ _ _ => Na
      refine list_led Fa Na (Nat.zero_le _) ?_
      intro ll0 h14 F14 N14 lt14
      clear Fa Na
      k_steps
      refine Hold.intro ?_
      rename Fr _ _ _ _ => Fa
      rename News _ _ _ _ => Na
      refine tuple_led Fa Na (Nat.le_of_ble_eq_true rfl) ?_
      intro D4 h15 F15 N15 lt15
      clear Fa Na
      k_steps
      refine Hold.intro ?_
      rename Fr _ _ _ _ => Fa
      rename News _ _ _ _ => Na
      refine list_led Fa Na (Nat.le_of_ble_eq_true rfl) ?_
      intro D5 h16 F16 N16 lt16
      clear Fa Na
      obtain ⟨c3, hc3, N16'⟩ := name_list N16 (IntsAre.cons 678 _ (.cons 735 _ (.cons 38 _ .nil)))
      clear N16
      have hc3l : c3.length = 3 := hc3.length
      k_steps
      refine Hold.intro ?_
      rename Fr _ _ _ _ => Fa
      rename News _ _ _ _ => Na
      have hsls : s₁.heap.IsList sa (List.toArray svs) := hsL
      refine kmk_slice_lit Fa Na (its := List.toArray svs) (lo := none) (hi := some ((64 : Nat) : Int)) (hsL.at fun o e => Fa.keep _ _ e) .none (.int _ _) (slice_to svs 64) ?_ (by with_unfolding_all rfl) (by intro _; with_unfolding_all rfl) (by rw [List.size_toArray, hsI.length]; exact Nat.le_trans (show ns.length ≤ 63 by omega) (by decide))
      intro D6 h17 F17 N17 lt17
      clear Fa Na
      k_steps
      refine Hold.intro ?_
      rename Fr _ _ _ _ => Fa
      rename News _ _ _ _ => Na
      have hsl : svs.length ≤ 63 := by rw [hsI.length]; omega
      refine add_led Fa Na (.tail _ (.head _)) (.head _) (by rw [List.length_take]; omega) ?_
      intro sl h18 F18 N18 lt18
      clear Fa Na
      k_steps
      refine Hold.intro ?_
      rename Fr _ _ _ _ => Fa
      rename News _ _ _ _ => Na
      have hAll : IntsAre (c3 ++ svs.take 64) ([678, 735, 38] ++ ns.take 64) := hc3.append (hsI.take 64)
      have gFl : hl < fl0 := lt13 (hl, _) (.head _)
      have gLl : hl < ll0 := lt14 (hl, _) (.tail _ (.head _))
      have gD4 : hl < D4 := lt15 (hl, _) (.tail _ (.tail _ (.head _)))
      have gD5 : hl < D5 := lt16 (hl, _) (.tail _ (.tail _ (.tail _ (.head _))))
      have gD6 : hl < D6 := lt17 (hl, _) (.tail _ (.tail _ (.tail _ (.tail _ (.head _)))))
      have gSl : hl < sl := lt18 (hl, _) (.tail _ (.tail _ (.tail _ (.tail _ (.tail _ (.head _))))))
      -- the deeds
      refine kdl_iter (fun _ m nx => MJ s₁.heap.objs.size ml pl hl cH' cP' ys msv n y m nx) rfl (vs := c3 ++ svs.take 64) (nn := 0) ?hl Fa (N := drop_led (news := (hl, listOf (List.replicate (38 : Int).toNat [Value.bool false]).flatten.toArray 0) :: (sl, listOf (List.toArray (c3 ++ svs.take 64)) 0) :: (ll0, listOf (List.toArray []) 0) :: (fl0, listOf (List.toArray []) 0) :: (pl, LCg.lst ys) :: (s₁.heap.objs.size + 1 + 1 + 1, cH') :: (s₁.heap.objs.size + 1 + 1, cP') :: (ml, listOf (List.toArray msv) n) :: (tl' ++ tl)) Na ?n1) ?j0 ?turn ?done
      case n1 =>
        exact List.forall_mem_cons.mpr ⟨.tail _ (.tail _ (.tail _ (.tail _ (.tail _ (.tail _ (.head _)))))), List.forall_mem_cons.mpr ⟨.head _, List.forall_mem_cons.mpr ⟨.tail _ (.tail _ (.tail _ (.tail _ (.head _)))), List.forall_mem_cons.mpr ⟨.tail _ (.tail _ (.tail _ (.tail _ (.tail _ (.head _))))), List.forall_mem_cons.mpr ⟨.tail _ (.tail _ (.tail _ (.tail _ (.tail _ (.tail _ (.tail _ (.tail _ (.head _)))))))), List.forall_mem_cons.mpr ⟨.tail _ (.tail _ (.tail _ (.tail _ (.tail _ (.tail _ (.tail _ (.tail _ (.tail _ (.head _))))))))), List.forall_mem_cons.mpr ⟨.tail _ (.tail _ (.tail _ (.tail _ (.tail _ (.tail _ (.tail _ (.tail _ (.tail _ (.tail _ (.head _)))))))))), List.forall_mem_cons.mpr ⟨.tail _ (.tail _ (.tail _ (.tail _ (.tail _ (.tail _ (.tail _ (.tail _ (.tail _ (.tail _ (.tail _ (.tail _ (.head _)))))))))))), fun p hp => .tail _ (.tail _ (.tail _ (.tail _ (.tail _ (.tail _ (.tail _ (.tail _ (.tail _ (.tail _ (.tail _ (.tail _ (.tail _ hp))))))))))))⟩⟩⟩⟩⟩⟩⟩⟩
      case hl => exact .tail _ (.head _)
      case j0 =>
        refine ⟨_, _, _, fl0, ll0, [], rfl, ⟨?_, hB0, tells_none, ⟨[], [], 0, 0, .tail _ (.tail _ (.head _)), .tail _ (.head _), .nil, .nil⟩, .tail _ (.tail _ (.tail _ (.tail _ (.head _)))), .tail _ (.tail _ (.tail _ (.tail _ (.tail _ (.head _))))), .tail _ (.tail _ (.tail _ (.head _))), hys.mono (fun p hp => .tail _ (.tail _ (.tail _ (.tail _ (.tail _ (.tail _ (.tail _ hp))))))), .tail _ (.tail _ (.tail _ (.tail _ (.tail _ (.tail _ (.head _)))))), hms.mono (fun p hp => .tail _ (.tail _ (.tail _ (.tail _ (.tail _ (.tail _ (.tail _ (List.mem_append.mpr (.inr hp)))))))))⟩, rfl, rfl, rfl⟩
        exact List.forall_mem_cons.mpr ⟨Nat.ne_of_gt gSl, List.forall_mem_cons.mpr ⟨Nat.ne_of_gt gLl, List.forall_mem_cons.mpr ⟨Nat.ne_of_gt gFl, List.forall_mem_cons.mpr ⟨Nat.ne_of_lt (lt11 (pl, _) (.tail _ (.head _))), List.forall_mem_cons.mpr ⟨Nat.ne_of_lt a3, List.forall_mem_cons.mpr ⟨Nat.ne_of_lt (lt11 (s₁.heap.objs.size + 1 + 1, _) (.tail _ (.tail _ (.tail _ (.head _))))), List.forall_mem_cons.mpr ⟨Nat.ne_of_lt (lt11 (ml, _) (.tail _ (.tail _ (.tail _ (.tail _ (.tail _ (.head _))))))), fun p hp => Nat.ne_of_lt (lt11 p (.tail _ (.tail _ (.tail _ (.tail _ (.tail _ (.tail _ hp)))))))⟩⟩⟩⟩⟩⟩⟩
      case done =>
        rintro m₁ nx h tk _ F3 N3
        clear Fa Na
        k_steps
      case turn =>
        clear Fa Na
        rintro i v m₁ nx h tk own hv0 hoff hlm ⟨hv, H, rest, fa, la, ivs, rfl, S, hm1, hm2, hm3⟩ F3 N3
        obtain ⟨xk, xt, rfl, -⟩ := hAll.at i v hv0
        have F4 := fr_knownX [(Str.ofString "months", .ref ml), (Str.ofString "firsts", .ref fa), (Str.ofString "lasts", .ref la)] F3 (List.forall_mem_cons.mpr ⟨hm1, List.forall_mem_cons.mpr ⟨hm2, List.forall_mem_cons.mpr ⟨hm3, List.forall_mem_nil _⟩⟩⟩)
        clear F3
        dsimp only [kstB] at F4
        dsimp only [List.cons_append] at N3
        try k_fold
        k_steps
        refine Hold.intro ?_
        rename Fr _ _ _ _ => Fa
        rename News _ _ _ _ => Na
        obtain ⟨n1, n2, n3, n4⟩ := deed_nums xk
        generalize hbg : (xk.fdiv 3).fmod 31 = bg at Fa n1 n2
        generalize hof : (xk.fdiv 93).fmod 8 = ofs at Fa n3 n4
        obtain ⟨m5, F5, tb, te, e1, e2, e3, e4, e5, e6⟩ := name_map Fa (fun m => ∃ tb te, m (Str.ofString "begin") = some (.int bg tb) ∧ m (Str.ofString "end") = some (.int (bg + ofs) te) ∧ m (Str.ofString "x") = some (.int xk xt) ∧ m (Str.ofString "months") = some (.ref ml) ∧ m (Str.ofString "firsts") = some (.ref fa) ∧ m (Str.ofString "lasts") = some (.ref la)) ⟨_, _, rfl, rfl, rfl, rfl, rfl, rfl⟩
        clear Fa
        have F6 := fr_known [(Str.ofString "begin", .int bg tb), (Str.ofString "end", .int (bg + ofs) te), (Str.ofString "x", .int xk xt), (Str.ofString "months", .ref ml), (Str.ofString "firsts", .ref fa), (Str.ofString "lasts", .ref la)] F5 (List.forall_mem_cons.mpr ⟨e1, List.forall_mem_cons.mpr ⟨e2, List.forall_mem_cons.mpr ⟨e3, List.forall_mem_cons.mpr ⟨e4, List.forall_mem_cons.mpr ⟨e5, List.forall_mem_cons.mpr ⟨e6, List.forall_mem_nil _⟩⟩⟩⟩⟩⟩)
        clear F5
        dsimp only [kstB] at F6
        generalize hen : bg + ofs = en at F6 e2
        have n5 : bg ≤ en := by omega
        have n6 : en ≤ 37 := by omega
        refine stmt_by (AfterDeed s₁ s₁.heap.objs.size ml hl hv rest own y xk bg en tb te xt ivs) ?dd ?rest
        case dd =>
          have hb1 : bg.toNat < (upto 38).length := by rw [upto_length]; omega
          have hb2 : en.toNat < (upto 38).length := by rw [upto_length]; omega
          obtain ⟨v1, hv1, v1b, v1t, v1u, v1n, rfl, hv1m⟩ := S.monthsM.get hb1
          obtain ⟨v2, hv2, v2b, v2t, v2u, v2n, rfl, hv2m⟩ := S.monthsM.get hb2
          rw [upto_get, show ((bg.toNat : Nat) : Int) = bg by omega] at hv1m
          rw [upto_get, show ((en.toNat : Nat) : Int) = en by omega] at hv2m
          have f63 : (2 : Int) ^ 63 = 9223372036854775808 := by decide
          have subR : ∀ p ∈ rest, p ∈ (hl, listOf (List.toArray hv) 0) :: (rest ++ own) := fun p hp => .tail _ (List.mem_append.mpr (.inl hp))
          have few : ivs.length ≤ 100 := Nat.le_trans S.tells.few (by decide)
          refine wpAny_If ?_
          k_steps
          all_goals
            refine Hold.intro ?_
            refine item_led Na (subR _ S.months) n1 (by omega) hv1 ?_
            k_steps
            refine Hold.intro ?_
            refine item_led Na (subR _ S.months) (by omega) (by omega) hv2 ?_
            k_steps
            refine Hold.intro ?_
          · rename xk.fmod 3 = 2 => h32
            k_dflt (refine' Does.use (take_does w y bg en fa la ivs (.ref v1b) (.ref v2b) ((hl, listOf (List.toArray hv) 0) :: (rest ++ own)) rest subR S.rows ⟨v1b, v1t, v1u, v1n, rfl, hv1m⟩ ⟨v2b, v2t, v2u, v2n, rfl, hv2m⟩ S.tells.norm n5 few) ?k1 ?k2 ?k3 ?k4 ?k5 ?kK ?kd ?ku ?_)
            ktr_unf
            rintro r nw7 h7 tk7 F7 N7 ⟨tl2, rfl, ord, D7, fa', la', dn, ivs', rfl, hD7, hrows, hnorm, hheld⟩
            change Fr s₁.heap s₁.heap.objs.size h7 _ at F7
            change News s₁.heap s₁.heap.objs.size h7 _ at N7
            clear Na F6
            have hD7' : (D7, tupO [.ref fa', .ref la'] dn) ∈ tl2 ++ (hl, listOf (List.toArray hv) 0) :: (rest ++ own) := (List.mem_append.mp hD7).elim (fun h => List.mem_append.mpr (.inl h)) (fun h => List.mem_append.mpr (.inr (subR _ h)))
            k_steps
            rename Fr _ _ _ _ => Fa
            rename News _ _ _ _ => Na
            refine ⟨_, _, tl2, fa', la', ivs', _, rfl, Fa, Na, ord, hrows, hnorm, fun k => ?_, rfl, rfl, rfl, rfl, rfl, rfl⟩
            rw [if_pos h32]
            exact hheld k
          · rename ¬ xk.fmod 3 = 2 => h32
            k_dflt (refine' Does.use (put_does w y bg en fa la ivs (.ref v1b) (.ref v2b) ((hl, listOf (List.toArray hv) 0) :: (rest ++ own)) rest subR S.rows ⟨v1b, v1t, v1u, v1n, rfl, hv1m⟩ ⟨v2b, v2t, v2u, v2n, rfl, hv2m⟩ S.tells.norm n5 few) ?k1 ?k2 ?k3 ?k4 ?k5 ?kK ?kd ?ku ?_)
            ktr_unf
            rintro r nw7 h7 tk7 F7 N7 ⟨tl2, rfl, ord, D7, fa', la', dn, ivs', rfl, hD7, hrows, hnorm, hheld⟩
            change Fr s₁.heap s₁.heap.objs.size h7 _ at F7
            change News s₁.heap s₁.heap.objs.size h7 _ at N7
            clear Na F6
            have hD7' : (D7, tupO [.ref fa', .ref la'] dn) ∈ tl2 ++ (hl, listOf (List.toArray hv) 0) :: (rest ++ own) := (List.mem_append.mp hD7).elim (fun h => List.mem_append.mpr (.inl h)) (fun h => List.mem_append.mpr (.inr (subR _ h)))
            k_steps
            rename Fr _ _ _ _ => Fa
            rename News _ _ _ _ => Na
            refine ⟨_, _, tl2, fa', la', ivs', _, rfl, Fa, Na, ord, hrows, hnorm, fun k => ?_, rfl, rfl, rfl, rfl, rfl, rfl⟩
            rw [if_neg h32]
            exact hheld k
        case rest =>
          clear Na F6
          rintro s' ⟨h7, tk7, tl2, fa', la', ivs', m7, rfl, F7, N7, ord, hrows, hnorm, hheld, g1, g2, g3, g4, g5, g6⟩
          have F8 := fr_known [(Str.ofString "begin", .int bg tb), (Str.ofString "end", .int en te), (Str.ofString "x", .int xk xt), (Str.ofString "months", .ref ml), (Str.ofString "firsts", .ref fa'), (Str.ofString "lasts", .ref la')] F7 (List.forall_mem_cons.mpr ⟨g1, List.forall_mem_cons.mpr ⟨g2, List.forall_mem_cons.mpr ⟨g3, List.forall_mem_cons.mpr ⟨g4, List.forall_mem_cons.mpr ⟨g5, List.forall_mem_cons.mpr ⟨g6, List.forall_mem_nil _⟩⟩⟩⟩⟩⟩)
          clear F7
          dsimp only [kstB] at F8
          try k_fold
          k_steps
          refine Hold.intro ?_
          rename Fr _ _ _ _ => Fa
          rename News _ _ _ _ => Na
          clear hR
          rename IsRange _ _ _ _ _ _ _ _ => hR
          have hoffL : ∀ p ∈ tl2 ++ (rest ++ own), p.1 ≠ hl := by
            intro p hp
            rcases List.mem_append.mp hp with hp | hp
            · exact Nat.ne_of_gt (ord p hp (hl, _) (.head _))
            · rcases List.mem_append.mp hp with hp | hp
              · exact S.off p hp
              · exact hoff p hp hl (.head _)
          have hHl : H.length = 38 := S.tells.len
          have hcnt : ((en + 1 - bg).toNat : Int) = en + 1 - bg := by omega
          -- the plain row of what is held
          refine range_J (n := (en + 1 - bg).toNat) (fun i m nx => ∃ hv', nx = (hl, listOf (List.toArray hv') 0) :: (tl2 ++ (rest ++ own)) ∧ LSm.BoolsAre hv' (setR H bg.toNat (xk.fmod 3 != 2) i) ∧ m (Str.ofString "x") = some (.int xk xt) ∧ m (Str.ofString "months") = some (.ref ml) ∧ m (Str.ofString "firsts") = some (.ref fa') ∧ m (Str.ofString "lasts") = some (.ref la')) rfl hR ?sm ?sz Fa (N := drop_led (news := (hl, listOf (List.toArray hv) 0) :: (tl2 ++ (rest ++ own))) Na ?n1) ?j0 ?turn ?done
          case sm => exact small_one (by omega) (by omega) (by omega) (by omega)
          case sz =>
            rw [rangeSize_nat]
          case n1 =>
            refine List.forall_mem_cons.mpr ⟨List.mem_append.mpr (.inr (.head _)), fun p hp => ?_⟩
            rcases List.mem_append.mp hp with hp | hp
            · exact List.mem_append.mpr (.inl hp)
            · exact List.mem_append.mpr (.inr (.tail _ hp))
          case j0 => exact ⟨hv, rfl, S.bools, rfl, rfl, rfl, rfl⟩
          case turn =>
            clear Fa Na
            rintro i2 k2 t2 m9 nx2 h9 tk9 own2 hi2 hk2 hoff2 ⟨hv', rfl, hB, j1, j2, j3, j4⟩ F9 N9
            have F10 := fr_knownX [(Str.ofString "x", .int xk xt), (Str.ofString "months", .ref ml), (Str.ofString "firsts", .ref fa'), (Str.ofString "lasts", .ref la')] F9 (List.forall_mem_cons.mpr ⟨j1, List.forall_mem_cons.mpr ⟨j2, List.forall_mem_cons.mpr ⟨j3, List.forall_mem_cons.mpr ⟨j4, List.forall_mem_nil _⟩⟩⟩⟩)
            clear F9
            dsimp only [kstB] at F10
            dsimp only [List.cons_append] at N9
            have cellHm : (s₁.heap.objs.size + 1 + 1 + 1, cH') ∈ tl2 ++ (rest ++ own) ++ own2 := List.mem_append.mpr (.inl (List.mem_append.mpr (.inr (List.mem_append.mpr (.inl S.cellH)))))
            try k_fold
            k_steps
            refine Hold.intro ?_
            rename Fr _ _ _ _ => Fa
            rename News _ _ _ _ => Na
            have hlB : (setR H bg.toNat (xk.fmod 3 != 2) i2).length = 38 := by rw [setR_length]; exact hHl
            have f63 : (2 : Int) ^ 63 = 9223372036854775808 := by decide
            refine kbo_set Fa Na (Upd.of (pre := []) (d := hl) (post := tl2 ++ (rest ++ own) ++ own2) ?u1 (List.forall_mem_nil _)) hB (by omega) (by rw [hlB]; omega) (by omega) ?_
            case u1 =>
              intro p hp
              rcases List.mem_append.mp hp with hp | hp
              · exact hoffL p hp
              · exact hoff2 p hp hl (.head _)
            intro h10 F11 N11 hB' _
            clear Fa Na
            dsimp only [List.nil_append] at N11
            k_steps
            refine Hold.intro ?_
            rename Fr _ _ _ _ => Fa
            rename News _ _ _ _ => Na
            refine InvEndG.intro (nx := (hl, listOf (List.toArray (hv'.set k2.toNat (.bool (xk.fmod 3 != 2)))) 0) :: (tl2 ++ (rest ++ own))) Fa Na ?i1 ?i2 ?i3 ?i4
            case i1 =>
              refine ⟨_, rfl, ?_, rfl, rfl, rfl, rfl⟩
              rw [setR, show bg.toNat + i2 = k2.toNat by omega]
              exact hB'
            case i2 => exact hoff2
            case i3 => exact List.forall_mem_cons.mpr ⟨.head _, fun p hp => .tail _ (List.mem_append.mpr (.inl hp))⟩
            case i4 => exact fun p hp => .tail _ (List.mem_append.mpr (.inr hp))
          case done =>
            clear Fa Na
            rintro m9 nx2 h9 tk9 ⟨hv', rfl, hB, j1, j2, j3, j4⟩ F9 N9
            have F10 := fr_known [(Str.ofString "x", .int xk xt), (Str.ofString "months", .ref ml), (Str.ofString "firsts", .ref fa'), (Str.ofString "lasts", .ref la')] F9 (List.forall_mem_cons.mpr ⟨j1, List.forall_mem_cons.mpr ⟨j2, List.forall_mem_cons.mpr ⟨j3, List.forall_mem_cons.mpr ⟨j4, List.forall_mem_nil _⟩⟩⟩⟩)
            clear F9
            dsimp only [kstB] at F10
            have hT : Tells38 (setR H bg.toNat (xk.fmod 3 != 2) (en + 1 - bg).toNat) ivs' := S.tells.deed hnorm n1 n5 n6 hheld
            generalize setR H bg.toNat (xk.fmod 3 != 2) (en + 1 - bg).toNat = H' at hB hT
            change Fr s₁.heap s₁.heap.objs.size h9 _ at F10
            change News s₁.heap s₁.heap.objs.size h9 _ at N9
            have cellHm : (s₁.heap.objs.size + 1 + 1 + 1, cH') ∈ tl2 ++ (rest ++ own) := List.mem_append.mpr (.inr (List.mem_append.mpr (.inl S.cellH)))
            have cellPm : (s₁.heap.objs.size + 1 + 1, cP') ∈ tl2 ++ (rest ++ own) := List.mem_append.mpr (.inr (List.mem_append.mpr (.inl S.cellP)))
            have plainm : (pl, LCg.lst ys) ∈ tl2 ++ (rest ++ own) := List.mem_append.mpr (.inr (List.mem_append.mpr (.inl S.plain)))
            have hHl' : H'.length = 38 := hT.len
            have f63 : (2 : Int) ^ 63 = 9223372036854775808 := by decide
            k_steps
            refine Hold.intro ?_
            rename Fr _ _ _ _ => Fa
            rename News _ _ _ _ => Na
            clear hR
            rename IsRange _ _ _ _ _ _ _ _ => hR
            -- opened
            refine LCt.CompSrcT.range (n := 38) rfl Fa Na hR (by decide) (by rfl) (by decide) ?_
            intro g
            refine compT_J (fun i zs nw => nw = (hl, listOf (List.toArray hv') 0) :: (tl2 ++ (rest ++ own)) ∧ MonsIn rest y zs ((upto i).filter (pOpen H'))) ⟨rfl, .nil⟩ ?turn ?fin
            case turn =>
              clear Fa Na
              rintro i3 v I oI C oC D m₂ zs nw h11 tk11 E' hi3 ⟨t3, rfl⟩ hC hx F N off ne ⟨rfl, hzs⟩
              k_steps
              refine Hold.intro ?_
              refine kbo_sub N (.tail _ (.tail _ (.tail _ (.head _)))) hB (by omega) (by rw [hHl']; omega) (by omega) ?_
              have hi4 : i3 < (upto 38).length := by rw [upto_length]; exact hi3
              obtain ⟨v4, hv4, v4b, v4t, v4u, v4n, rfl, hv4m⟩ := S.plainM.get hi4
              rw [upto_get] at hv4m
              have ez : (0 : Int) + (i3 : Int) = (i3 : Int) := Int.zero_add _
              k_steps
              · rename H'.getD (0 + (i3 : Int) - 1).toNat false = true => y3
                rename 0 < 0 + (i3 : Int) => y2
                rename H'.getD (0 + (i3 : Int)).toNat false = true => y1
                rw [ez] at y1 y2 y3
                refine Hold.intro (LCg.CompEnd.intro F N _ (fun p hp => hp) off trivial ⟨rfl, ?_⟩)
                rw [upto_filter, if_neg (by rw [pOpen_iff]; exact fun q => q.2 ⟨y2, y3⟩), List.append_nil]
                exact hzs
              · rename H'.getD (0 + (i3 : Int) - 1).toNat false = false => y3
                rename 0 < 0 + (i3 : Int) => y2
                rename H'.getD (0 + (i3 : Int)).toNat false = true => y1
                rw [ez] at y1 y2 y3
                refine Hold.intro ?_
                refine item_led N (.tail _ (.tail _ (.tail _ (.tail _ plainm)))) (by omega) (by omega) (by rw [show (0 + (i3 : Int)).toNat = i3 by omega]; exact hv4) ?_
                refine LCg.CompEnd.intro F N _ (fun p hp => hp) off trivial ⟨rfl, ?_⟩
                rw [upto_filter, if_pos (by rw [pOpen_iff]; exact ⟨y1, fun q => by rw [y3] at q; exact Bool.false_ne_true q.2⟩)]
                exact hzs.append (.cons ⟨v4b, v4t, v4u, v4n, rfl, hv4m⟩ .nil)
              · rename ¬ 0 < 0 + (i3 : Int) => y2
                rename H'.getD (0 + (i3 : Int)).toNat false = true => y1
                rw [ez] at y1 y2
                refine Hold.intro ?_
                refine item_led N (.tail _ (.tail _ (.tail _ (.tail _ plainm)))) (by omega) (by omega) (by rw [show (0 + (i3 : Int)).toNat = i3 by omega]; exact hv4) ?_
                refine LCg.CompEnd.intro F N _ (fun p hp => hp) off trivial ⟨rfl, ?_⟩
                rw [upto_filter, if_pos (by rw [pOpen_iff]; exact ⟨y1, fun q => y2 q.1⟩)]
                exact hzs.append (.cons ⟨v4b, v4t, v4u, v4n, rfl, hv4m⟩ .nil)
              · rename H'.getD (0 + (i3 : Int)).toNat false = false => y1
                rw [ez] at y1
                refine Hold.intro (LCg.CompEnd.intro F N _ (fun p hp => hp) off trivial ⟨rfl, ?_⟩)
                rw [upto_filter, if_neg (by rw [pOpen_iff, y1]; exact fun q => Bool.false_ne_true q.1), List.append_nil]
                exact hzs
            case fin =>
              clear Fa Na
              rintro zs nw ⟨rfl, hzs⟩
              rw [opened38 hT] at hzs
              intro ol h12 tk12 F12 N12 offo
              change Fr s₁.heap s₁.heap.objs.size h12 _ at F12
              change News s₁.heap s₁.heap.objs.size h12 _ at N12
              k_steps
              refine Hold.intro ?_
              rename Fr _ _ _ _ => Fa
              rename News _ _ _ _ => Na
              clear hR
              rename IsRange _ _ _ _ _ _ _ _ => hR
              -- closed
              refine LCt.CompSrcT.range (n := 38) rfl Fa Na hR (by decide) (by rfl) (by decide) ?_
              intro g2
              refine compT_J (fun i ws nw => nw = (ol, LCg.lst zs) :: (hl, listOf (List.toArray hv') 0) :: (tl2 ++ (rest ++ own)) ∧ MonsIn rest y ws ((upto i).filter (pClose H'))) ⟨rfl, .nil⟩ ?turn ?fin
              case turn =>
                clear Fa Na
                rintro i3 v I oI C oC D m₂ ws nw h11 tk11 E' hi3 ⟨t3, rfl⟩ hC hx F N off ne ⟨rfl, hws⟩
                k_steps
                refine Hold.intro ?_
                refine kbo_sub N (.tail _ (.tail _ (.tail _ (.tail _ (.head _))))) hB (by omega) (by rw [hHl']; omega) (by omega) ?_
                have hi4 : i3 < (upto 38).length := by rw [upto_length]; exact hi3
                obtain ⟨v4, hv4, v4b, v4t, v4u, v4n, rfl, hv4m⟩ := S.plainM.get hi4
                rw [upto_get] at hv4m
                have ez : (0 : Int) + (i3 : Int) = (i3 : Int) := Int.zero_add _
                k_steps
                · rename H'.getD (0 + (i3 : Int) + 1).toNat false = true => y3
                  rename 0 + (i3 : Int) < 37 => y2
                  rename H'.getD (0 + (i3 : Int)).toNat false = true => y1
                  rw [ez] at y1 y2 y3
                  refine Hold.intro (LCg.CompEnd.intro F N _ (fun p hp => hp) off trivial ⟨rfl, ?_⟩)
                  rw [upto_filter, if_neg (by rw [pClose_iff]; exact fun q => q.2 ⟨y2, y3⟩), List.append_nil]
                  exact hws
                · rename H'.getD (0 + (i3 : Int) + 1).toNat false = false => y3
                  rename 0 + (i3 : Int) < 37 => y2
                  rename H'.getD (0 + (i3 : Int)).toNat false = true => y1
                  rw [ez] at y1 y2 y3
                  refine Hold.intro ?_
                  refine item_led N (.tail _ (.tail _ (.tail _ (.tail _ (.tail _ plainm))))) (by omega) (by omega) (by rw [show (0 + (i3 : Int)).toNat = i3 by omega]; exact hv4) ?_
                  refine LCg.CompEnd.intro F N _ (fun p hp => hp) off trivial ⟨rfl, ?_⟩
                  rw [upto_filter, if_pos (by rw [pClose_iff]; exact ⟨y1, fun q => by rw [y3] at q; exact Bool.false_ne_true q.2⟩)]
                  exact hws.append (.cons ⟨v4b, v4t, v4u, v4n, rfl, hv4m⟩ .nil)
                · rename ¬ 0 + (i3 : Int) < 37 => y2
                  rename H'.getD (0 + (i3 : Int)).toNat false = true => y1
                  rw [ez] at y1 y2
                  refine Hold.intro ?_
                  refine item_led N (.tail _ (.tail _ (.tail _ (.tail _ (.tail _ plainm))))) (by omega) (by omega) (by rw [show (0 + (i3 : Int)).toNat = i3 by omega]; exact hv4) ?_
                  refine LCg.CompEnd.intro F N _ (fun p hp => hp) off trivial ⟨rfl, ?_⟩
                  rw [upto_filter, if_pos (by rw [pClose_iff]; exact ⟨y1, fun q => y2 q.1⟩)]
                  exact hws.append (.cons ⟨v4b, v4t, v4u, v4n, rfl, hv4m⟩ .nil)
                · rename H'.getD (0 + (i3 : Int)).toNat false = false => y1
                  rw [ez] at y1
                  refine Hold.intro (LCg.CompEnd.intro F N _ (fun p hp => hp) off trivial ⟨rfl, ?_⟩)
                  rw [upto_filter, if_neg (by rw [pClose_iff, y1]; exact fun q => Bool.false_ne_true q.1), List.append_nil]
                  exact hws
              case fin =>
                clear Fa Na
                rintro ws nw ⟨rfl, hws⟩
                rw [closed38 hT] at hws
                intro cl h13 tk13 F13 N13 offc
                change Fr s₁.heap s₁.heap.objs.size h13 _ at F13
                change News s₁.heap s₁.heap.objs.size h13 _ at N13
                have holdNe : HoldNe := HoldNe.mk
                k_steps
                refine Hold.intro ?_
                refine wpAny_If ?_
                k_steps
                refine Hold.intro ?_
                rename Fr _ _ _ _ => Fa
                rename News _ _ _ _ => Na
                obtain ⟨fvs, lvs, fn, ln, hfm, hlm', hfv, hlv⟩ := hrows
                have subT : ∀ p ∈ tl2 ++ rest, p ∈ (cl, LCg.lst ws) :: (ol, LCg.lst zs) :: (hl, listOf (List.toArray hv') 0) :: (tl2 ++ (rest ++ own)) := fun p hp => .tail _ (.tail _ (.tail _ ((List.mem_append.mp hp).elim (fun h => List.mem_append.mpr (.inl h)) (fun h => List.mem_append.mpr (.inr (List.mem_append.mpr (.inl h)))))))
                have subW : ∀ p ∈ rest, p ∈ (cl, LCg.lst ws) :: (ol, LCg.lst zs) :: (hl, listOf (List.toArray hv') 0) :: (tl2 ++ (rest ++ own)) := fun p hp => subT p (List.mem_append.mpr (.inr hp))
                refine ne_mon Na (subT _ hfm) hfv subT (.tail _ (.head _)) hzs subW (by simp only [units_deeper, units_caller]; decide) ?_
                k_steps
                refine Hold.intro ?_
                refine ne_mon Na (subT _ hlm') hlv subT (.head _) hws subW (by simp only [units_deeper, units_caller]; decide) ?_
                k_steps
                refine Hold.intro ?_
                rename Fr _ _ _ _ => Fa
                rename News _ _ _ _ => Na
                have hslm : (sl, listOf (List.toArray (c3 ++ svs.take 64)) 0) ∈ rest := by
                  rcases List.mem_cons.mp hlm with e | e
                  · exact absurd (Prod.mk.inj e).1 (Nat.ne_of_gt gSl)
                  · exact e
                have subX : ∀ p ∈ rest, p ∈ tl2 ++ rest := fun p hp => List.mem_append.mpr (.inr hp)
                refine InvEndG.intro (nx := (hl, listOf (List.toArray hv') 0) :: (tl2 ++ rest)) Fa Na ?i1 ?i2 ?i3 ?i4
                case i1 =>
                  refine ⟨.tail _ (subX _ hslm), hv', H', tl2 ++ rest, fa', la', ivs', rfl, ⟨?_, hB, hT, ⟨fvs, lvs, fn, ln, hfm, hlm', hfv, hlv⟩, subX _ S.cellH, subX _ S.cellP, subX _ S.plain, S.plainM.mono subX, subX _ S.months, S.monthsM.mono subX⟩, rfl, rfl, rfl⟩
                  intro p hp
                  rcases List.mem_append.mp hp with hp | hp
                  · exact hoffL p (List.mem_append.mpr (.inl hp))
                  · exact S.off p hp
                case i2 =>
                  intro p hp b hb
                  rcases List.mem_cons.mp hb with e | hb
                  · rw [e]; exact hoff p hp hl (.head _)
                  · obtain ⟨q, hq, rfl⟩ := List.mem_map.mp hb
                    rcases List.mem_append.mp hq with hq | hq
                    · exact Nat.ne_of_lt (ord q hq p (.tail _ (List.mem_append.mpr (.inr hp))))
                    · exact hoff p hp q.1 (.tail _ (List.mem_map.mpr ⟨q, hq, rfl⟩))
                case i3 => exact List.forall_mem_cons.mpr ⟨.tail _ (.tail _ (.head _)), subT⟩
                case i4 => exact fun p hp => .tail _ (.tail _ (.tail _ (List.mem_append.mpr (.inr (List.mem_append.mpr (.inr hp))))))
end Mine

set_option maxRecDepth 100000 in
set_option maxHeartbeats 8000000 in
theorem PySem.Challenge.cw_dn0047_03_holds : PySem.Challenge.rw_dn0047_03.Holds :=
  Mine.mainWalk
