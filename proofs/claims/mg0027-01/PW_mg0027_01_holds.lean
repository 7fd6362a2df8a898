import PyProof.Rows.All
import Wide.All
import OpenK.AllK
import Wide.FinOn
import Lean
import PySem.Challenge.RW_mg0027_01
set_option Elab.async false
section
open PySem PySem.W PyProof.Rows
set_option Elab.async false
namespace Mine
set_option maxRecDepth 100000 in
set_option maxHeartbeats 8000000 in
open_top hd for PySem.Challenge.rw_mg0027_01
end Mine
end
section
open PySem PySem.W PyProof.Rows
set_option Elab.async false
set_option maxRecDepth 100000
namespace Mine
section
open AutoSeq1 (wpAny_loadPart')
variable {prog : Program} {w : World} {A : Around} {E : Value → Shared → Prop} {s : Shared}
/-- a tuple iterator hands out its item -/
theorem nextOf_tuple_item {it t : Addr} {i : Nat} {items : Array Value} {x : Value} {Q : Value → Shared → Prop} (hit : s.heap.IsTupleIter it t i)
    (ht : s.heap.IsTuple t items) (hx : items[i]? = some x)
    (hQ : ∀ h', h'.IsTupleIter it t (i + 1) → Heap.SameBut it s.heap h' → Q x { s with heap := h' }) :
    wpAny (model prog w) A (Builtin.SmallTypes.nextOf (.ref it)) Q E s := by
  obtain ⟨o, ho, hc, hd⟩ := id hit
  obtain ⟨ol, hol, _, nl, hdl⟩ := ht
  unfold Builtin.SmallTypes.nextOf
  refine wpAny_bind (wpAny_callSpecial?_slot (name := Str.ofString "__next__") hit.typeIs F.slot_tuple_iterator_next
    (wpAny_call_entry F.slot_tuple_iterator_next hit.typeIs F.entry_tuple_iterator_next ?_ (F.args_tuple_iterator_next_1 _)))
  show wpAny _ _ (field (.ref it) 0 >>= _) _ _ s
  refine wpAny_bind (wpAny_field ho hd (x := .ref t) rfl ?_)
  show wpAny _ _ (if (Value.ref t == Value.none) = true then _ else _) _ _ s
  rw [if_neg (show ¬ ((Value.ref t == Value.none) = true) from Bool.false_ne_true)]
  show wpAny _ _ (field (.ref it) 1 >>= _) _ _ s
  refine wpAny_bind (wpAny_field ho hd (x := .int i 0) rfl ?_)
  show wpAny _ _ (seqItems? (.ref t) >>= _) _ _ s
  refine wpAny_bind (wpAny_seqItems hol hdl ?_)
  simp only [Int.toNat_natCast, hx]
  refine wpAny_bind (wpAny_setField ho hd (by simp) (wpAny_pure ⟨x, rfl, wpAny_pure (hQ _ ?_ (Heap.SameBut.update ..))⟩))
  exact ⟨_, Heap.get?_update_self _ ho (Obj.isFreed_of_fields (Obj.data_mapFields hd _)), (Obj.cls_mapFields ..).trans hc, by
    rw [Obj.data_mapFields hd]; simp [rawInt]⟩
/-- a tuple iterator at its end -/
theorem nextOf_tuple_end {it t : Addr} {i : Nat} {items : Array Value} {Q : Value → Shared → Prop} (hh : A.handled = none)
    (hit : s.heap.IsTupleIter it t i) (ht : s.heap.IsTuple t items) (hx : items[i]? = none)
    (hE : ∀ h' e, Heap.ExtBut it s.heap h' → (∃ o, h'.get? e = some o ∧ o.cls = .type "StopIteration") → E (.ref e) { s with heap := h' }) :
    wpAny (model prog w) A (Builtin.SmallTypes.nextOf (.ref it)) Q E s := by
  obtain ⟨o, ho, hc, hd⟩ := id hit
  obtain ⟨ol, hol, _, nl, hdl⟩ := ht
  unfold Builtin.SmallTypes.nextOf
  refine wpAny_bind (wpAny_callSpecial?_slot (name := Str.ofString "__next__") hit.typeIs F.slot_tuple_iterator_next
    (wpAny_call_entry F.slot_tuple_iterator_next hit.typeIs F.entry_tuple_iterator_next ?_ (F.args_tuple_iterator_next_1 _)))
  show wpAny _ _ (field (.ref it) 0 >>= _) _ _ s
  refine wpAny_bind (wpAny_field ho hd (x := .ref t) rfl ?_)
  show wpAny _ _ (if (Value.ref t == Value.none) = true then _ else _) _ _ s
  rw [if_neg (show ¬ ((Value.ref t == Value.none) = true) from Bool.false_ne_true)]
  show wpAny _ _ (field (.ref it) 1 >>= _) _ _ s
  refine wpAny_bind (wpAny_field ho hd (x := .int i 0) rfl ?_)
  show wpAny _ _ (seqItems? (.ref t) >>= _) _ _ s
  refine wpAny_bind (wpAny_seqItems hol hdl ?_)
  simp only [Int.toNat_natCast, hx]
  refine wpAny_bind (wpAny_rule (wpAny_bind (wpAny_setField ho hd (by simp) ?_)))
  show wpAny _ _ (newExc (.type "StopIteration") [] >>= _) _ _ _
  refine wpAny_bind ?_
  simp only [newExc, newTuple]
  refine wpAny_bind (wpAny_newObj_type ?_ (by size_fits))
  refine wpAny_bind (m := firstArgMember _ _) (wpAny_of_eq (a := Value.none) (by first | rfl | (simp only [firstArgMember]; rfl)) ?_)
  refine wpAny_newObj_type ?_ (by size_fits)
  simp only [raiseNew]
  refine wpAny_bind (wpAny_handled ?_)
  first | rw [show A.in1.handled = none from hh] | rw [hh]
  refine wpAny_bind (wpAny_pure (wpAny_throw ?_))
  exact hE _ _ (((Heap.SameBut.update ..).extBut.push _).push _) ⟨_, Heap.get?_push_size _ rfl, rfl⟩
end
theorem draws_tuple {prog : Program} {w : World} {A : Around} (hh : A.handled = none) (it l : Addr) (hne : l ≠ it) (items : Array Value) :
    Draws prog w A it [it, l] items.size (fun i v => items[i]? = some v) (fun i h => h.IsTupleIter it l i ∧ h.IsTuple l items) where
  live := fun _ _ st => let ⟨o, ho, _⟩ := st.1; ⟨o, ho⟩
  frame := fun _ _ _ st hk => ⟨st.1.at fun o e => hk it (by simp) o e, st.2.at fun o e => hk l (by simp) o e⟩
  item := fun i s Q E hi st hQ => by
    refine nextOf_tuple_item st.1 st.2 (x := items[i]) (by simp [hi]) fun h' hit' hs' => ?_
    exact hQ _ h' s.toks (by simp [hi]) ⟨hit', st.2.extBut hs'.extBut hne⟩ hs'
  done := fun s Q E st hE => nextOf_tuple_end hh st.1 st.2 (by simp) hE
section
open AutoSeq1 (wpAny_loadPart')
theorem meets_enum_tuple (l : Addr) (items : Array Value) (n : Nat) (dct : Option Addr) (sl : Array (Option Value)) :
    Meets (Builtin.«enumerate.__new__» ⟨[.type "enumerate", .ref l], []⟩) (fun _ R s => s.heap.get? l = some { cls := .type "tuple", dict := dct, data := .seq items n, slots := sl } ∧
      R (.ok (.ret (.ref (s.heap.push { cls := .type "tuple_iterator", data := .fields #[.ref l, .int 0 0] }).objs.size)))
        { s with heap := (s.heap.push { cls := .type "tuple_iterator", data := .fields #[.ref l, .int 0 0] }).push { cls := .type "enumerate", data := .fields #[.none, .bool false, .ref s.heap.objs.size, rawInt 0, .none, .none] } }) :=
  .of_wp fun prog w A R s h => by
    obtain ⟨hp, g, d, tk, os⟩ := s; obtain ⟨hl, h⟩ := h
    have hsub := sub_enumerate
    have hL : Heap.IsTuple (Shared.heap ⟨hp, g, d, tk, os⟩) l items := ⟨_, hl, rfl, n, rfl⟩
    wp_walk using wpAny_loadPart' hl
    refine wpAny_stack_any fun st => wpAny_pure ?_
    split
    · rename_i c _ _ _ _ _
      cases (c == Value.type "enumerate")
      · wp_walk using wpAny_loadPart' hl, wpAny_pyIter_tuple hL
        exact ⟨_, rfl, h⟩
      · wp_walk using wpAny_loadPart' hl, wpAny_pyIter_tuple hL
        exact ⟨_, rfl, h⟩
    · wp_walk using wpAny_loadPart' hl, wpAny_pyIter_tuple hL
      exact ⟨_, rfl, h⟩
variable {prog : Program} {w : World} {A : Around} {E : Value → Shared → Prop} {s : Shared}
theorem call_enum_tuple {l : Addr} {items : Array Value} {Q : Value → Shared → Prop} (hL : s.heap.IsTuple l items)
    (h : ∀ h', IsEnum h' (s.heap.objs.size + 1) s.heap.objs.size 0 .none → h'.IsTupleIter s.heap.objs.size l 0 → h'.objs.size = s.heap.objs.size + 2 →
      (∀ b o, s.heap.get? b = some o → h'.get? b = some o) → Q (.ref (s.heap.objs.size + 1)) { s with heap := h' }) :
    wpAny (model prog w) A (call (.type "enumerate") [.ref l]) Q E s := by
  obtain ⟨⟨c, dct, dt, sl⟩, hl, hc, n, hd⟩ := hL
  replace hc : c = .type "tuple" := hc
  replace hd : dt = .seq items n := hd
  subst hc hd
  refine callType_new F.called_enumerate (by decide) (F.typeCall_enumerate_1 _) (F.newCall_enumerate_1 _) (fun obj => F.args_object_init_2 obj _) F.entry_enumerate_new
    (meets_enum_tuple l items n dct sl) ⟨hl, ?_⟩
  have hz : (s.heap.push { cls := .type "tuple_iterator", data := .fields #[.ref l, .int 0 0] }).objs.size = s.heap.objs.size + 1 := Heap.size_push ..
  show _ ∧ _
  rw [hz]
  have he : IsEnum ((s.heap.push { cls := .type "tuple_iterator", data := .fields #[.ref l, .int 0 0] }).push
      { cls := .type "enumerate", data := .fields #[.none, .bool false, .ref s.heap.objs.size, rawInt 0, .none, .none] }) (s.heap.objs.size + 1) s.heap.objs.size 0 .none := by
    have := Heap.get?_push_size (s.heap.push { cls := .type "tuple_iterator", data := .fields #[.ref l, .int 0 0] })
      (o := { cls := .type "enumerate", data := .fields #[.none, .bool false, .ref s.heap.objs.size, rawInt 0, .none, .none] }) rfl
    rw [hz] at this; exact this
  refine ⟨⟨_, he, rfl⟩, h _ he ⟨_, Heap.get?_push_of_some _ (Heap.get?_push_size _ rfl), rfl, rfl⟩ (by rw [Heap.size_push, hz]) fun b o x => Heap.get?_push_of_some _ (Heap.get?_push_of_some _ x)⟩
end
end Mine
end
section
open PySem PySem.W PyProof.Rows PySem.Spec
set_option Elab.async false
set_option maxRecDepth 100000
namespace Mine
section
variable {prog : Program} {w : World} {A : Around} {E : Value → Shared → Prop} {s : Shared} {env : Env} {h₀ : Heap} {target : Expr} {body orelse : List Stmt} {Q : Flow → Shared → Prop}

/-- a for with an else, by any iterator and an invariant -/
theorem loop_else {R : Result → Shared → Prop} {I : Addr} {fp wr : List Addr} {n : Nat} {P Md : Nat → Value → Heap → Prop} {St : Nat → Heap → Prop} {m : Str → Option Value} {news : List (Addr × Obj)} (W : KTurns prog w A target I fp wr n P Md St)
    (hLf : env.locals ∉ fp) (hwr : ∀ b ∈ wr, h₀.get? b = none) (hnw : ∀ p ∈ news, p.1 ∉ wr) (hst : St 0 s.heap) (F : Fr h₀ env.locals s.heap m) (N : News h₀ env.locals s.heap news)
    (J : Nat → (Str → Option Value) → List (Addr × Obj) → Prop) (h0 : J 0 m news)
    (step : ∀ i v m₁ news₁ h₁ tk₁ own, i < n → P i v h₁ → J i m₁ news₁ → (∀ p ∈ news₁, p.1 ∉ wr) → (∀ p ∈ own, p.1 ∈ fp) → (∀ p ∈ own, h₁.get? p.1 = some p.2) → (∀ b ∈ fp, h₀.get? b = none → ∀ o, h₁.get? b = some o → (b, o) ∈ own) → St (i + 1) h₁ →
      Fr h₀ env.locals h₁ m₁ → News h₀ env.locals h₁ (own ++ news₁) →
      wpAny (model prog w) A (assign target env v) (fun _ s₂ => wpAny (model prog w) A (execs body env)
        (LoopStepV h₀ env.locals wr own (J (i + 1)) { s with heap := h₁, toks := tk₁ } (fun v s' => R (.ok (.ret v)) s') fun s' => R (.ok .next) s') (notedBy (model prog w) A env fun e s' => R (.error e) s') s₂) (notedBy (model prog w) A env fun e s' => R (.error e) s') { s with heap := h₁, toks := tk₁ })
    (hR : ∀ h' tk m' news', Fr h₀ env.locals h' m' → News h₀ env.locals h' news' → (∀ p ∈ news', p.1 ∉ wr) → J n m' news' →
      wpAny (model prog w) A (execs orelse env) (fun f s₃ => R (.ok f) s₃) (notedBy (model prog w) A env fun e s' => R (.error e) s') { s with heap := h', toks := tk }) :
    codeAny (model prog w) A (.forLoop target (.ref I) body orelse env) R s := by
  have hLw : env.locals ∉ wr := fun h => hLf (W.sub _ h)
  have old : ∀ b o, h₀.get? b = some o → b ∉ wr := fun b o e hb => by rw [hwr b hb] at e; cases e
  refine codeAny_forLoop_any
    (fun k s' => ∃ h' tk m' news' i, s' = { s with heap := h', toks := tk } ∧ St i h' ∧ Fr h₀ env.locals h' m' ∧ News h₀ env.locals h' news' ∧ (∀ p ∈ news', p.1 ∉ wr) ∧ J i m' news' ∧ i ≤ n ∧ k = n + 1 - i) ?_ (n + 1)
    ⟨s.heap, s.toks, m, news, 0, rfl, hst, F, N, hnw, h0, Nat.zero_le _, rfl⟩
  rintro k s' ⟨h', tk, m', news', i, rfl, hst', F', N', hnw', hJ, hi, rfl⟩
  have next : ∀ h₁ : Heap, (∀ b o, b ∉ wr → h'.get? b = some o → h₁.get? b = some o) → Fr h₀ env.locals h₁ m' ∧ News h₀ env.locals h₁ news' := fun h₁ hk₁ =>
    ⟨⟨F'.ns.at' fun o e => hk₁ _ o hLw e, fun b o e => hk₁ b o (old b o e) (F'.keep b o e), F'.above⟩, fun p hp => ⟨hk₁ _ _ (hnw' p hp) (N' p hp).1, (N' p hp).2⟩⟩
  by_cases hlt : i < n
  · refine W.item i _ _ _ hlt hst' fun v h₁ tk₁ hMd hk₁ => ?_
    refine W.go i v _ _ _ hMd fun h₂ hP hst₂ hk₂ => ?_
    obtain ⟨F₂, N₂⟩ := next h₂ fun b o hb x => hk₂ b o hb (hk₁ b o hb x)
    have Nown : News h₀ env.locals h₂ (PyProof.Rows.ownOf h₀ fp h₂) := news_ownOf hLf
    have fin : ∀ s₃, LoopStepU h₀ env.locals wr (PyProof.Rows.ownOf h₀ fp h₂) (J (i + 1)) { s with heap := h₂, toks := tk₁ } .next s₃ →
        ∃ k', k' < n + 1 - i ∧ ∃ h' tk m' news' i, s₃ = { s with heap := h', toks := tk } ∧ St i h' ∧ Fr h₀ env.locals h' m' ∧ News h₀ env.locals h' news' ∧ (∀ p ∈ news', p.1 ∉ wr) ∧ J i m' news' ∧ i ≤ n ∧ k' = n + 1 - i := by
      rintro s₃ ⟨_, h₃', tk₃, m₂, news₂, rfl, F₃, N₃, ha₃, hJ₃⟩
      refine ⟨n + 1 - (i + 1), by omega, h₃', tk₃, m₂, news₂, i + 1, rfl, ?_, F₃, N₃.right, ha₃, hJ₃, hlt, rfl⟩
      refine W.frame _ _ _ hst₂ fun b hb o e => ?_
      cases hn : h₀.get? b with
      | some o₀ =>
        have : o₀ = o := by have q := F₂.keep b o₀ hn; rw [e] at q; exact (Option.some.inj q).symm
        exact this ▸ F₃.keep b o₀ hn
      | none => exact (N₃ _ (List.mem_append_left _ (mem_ownOf hb hn e))).1
    refine wpAny_mono (step i v m' news' h₂ tk₁ (PyProof.Rows.ownOf h₀ fp h₂) hlt hP hJ hnw' ownOf_sub (fun p hp => (Nown p hp).1) (fun b hb hn o e => mem_ownOf hb hn e) hst₂ F₂ (Nown.append N₂)) (fun _ s₂ h₂' => wpAny_mono h₂' (fun f s₃ h₃ => ?_) fun _ _ e => e) fun _ _ e => e
    cases f with
    | ret v => exact h₃
    | brk => exact h₃
    | cont => exact fin _ h₃
    | next => exact fin _ h₃
  · have hin : i = n := by omega
    subst hin
    refine W.done _ _ _ hst' fun h₁ tk₁ hk₁ => ?_
    obtain ⟨F₁, N₁⟩ := next h₁ hk₁
    exact hR h₁ tk₁ m' news' F₁ N₁ hnw' hJ

def ElseAt (prog : Program) (w : World) (A : Around) (h₀ : Heap) (env : Env) (target : Expr) (body orelse : List Stmt) (Q : Flow → Shared → Prop) (E : Value → Shared → Prop) (it : Value) (s₂ : Shared) : Prop :=
  ∃ (I : Addr) (fp wr : List Addr) (n : Nat) (P Md : Nat → Value → Heap → Prop) (St : Nat → Heap → Prop) (m : Str → Option Value) (news : List (Addr × Obj)) (J : Nat → (Str → Option Value) → List (Addr × Obj) → Prop),
    it = .ref I ∧ KTurns prog w A target I fp wr n P Md St ∧ env.locals ∉ fp ∧ (∀ b ∈ wr, h₀.get? b = none) ∧ (∀ p ∈ news, p.1 ∉ wr) ∧ St 0 s₂.heap ∧ Fr h₀ env.locals s₂.heap m ∧ News h₀ env.locals s₂.heap news ∧ J 0 m news ∧
    (∀ i v m₁ news₁ h₁ tk₁ own, i < n → P i v h₁ → J i m₁ news₁ → (∀ p ∈ news₁, p.1 ∉ wr) → (∀ p ∈ own, p.1 ∈ fp) → (∀ p ∈ own, h₁.get? p.1 = some p.2) → (∀ b ∈ fp, h₀.get? b = none → ∀ o, h₁.get? b = some o → (b, o) ∈ own) → St (i + 1) h₁ →
      Fr h₀ env.locals h₁ m₁ → News h₀ env.locals h₁ (own ++ news₁) →
      wpAny (model prog w) A (assign target env v) (fun _ s₃ => wpAny (model prog w) A (execs body env)
        (LoopStepV h₀ env.locals wr own (J (i + 1)) { s₂ with heap := h₁, toks := tk₁ } (fun v s' => Q (.ret v) s') fun s' => Q .next s') E s₃) E { s₂ with heap := h₁, toks := tk₁ }) ∧
    ∀ h' tk m' news', Fr h₀ env.locals h' m' → News h₀ env.locals h' news' → (∀ p ∈ news', p.1 ∉ wr) → J n m' news' → wpAny (model prog w) A (execs orelse env) Q E { s₂ with heap := h', toks := tk }

theorem For_else {iter : Expr} {pos : Pos} {m : Str → Option Value} (_F : Fr h₀ env.locals s.heap m)
    (h : wpAny (model prog w) A (eval iter env) (fun xv s₁ => wpAny (model prog w) A (pyIter xv) (fun it s₂ => ElseAt prog w A h₀ env target body orelse Q E it s₂) E s₁) E s)
    (hs : ∀ x, foldedSetIterable iter env x = pure x := by intro _; rfl)
    (hE : PassesOwn (model prog w) A env E := by passes_own) :
    wpAny (model prog w) A (exec (.For target iter body orelse pos) env) Q E s := by
  refine wpAny_For (wpAny_mono h (fun xv s₁ h₁ => wpAny_mono h₁ (fun it s₂ h₂ => ?_) fun _ _ e => e) fun _ _ e => e) hs
  obtain ⟨I, fp, wr, n, P, Md, St, m, news, J, rfl, W, hLf, hwr, hnw, hst, F, N, h0, step, hQ⟩ := h₂
  exact loop_else (R := fun r s' => match r with | .ok f => Q f s' | .error e => cameBackBy (model prog w) A env E e s') W hLf hwr hnw hst F N J h0
    (fun i v m₁ news₁ h₁ tk₁ own a b c d e f g st F₁ N₁ => wpAny_mono (step i v m₁ news₁ h₁ tk₁ own a b c d e f g st F₁ N₁) (fun _ _ x => wpAny_passesOwn hE x) hE)
    (fun h' tk m' news' F' N' hn' hJ => wpAny_passesOwn hE (hQ h' tk m' news' F' N' hn' hJ))

/-- over a tuple of the ground, the ledger as it stands -/
theorem tup_else {l : Addr} {items : Array Value} {m₀ : Str → Option Value} {news : List (Addr × Obj)} (J : Nat → (Str → Option Value) → Prop)
    (hh : A.handled = none) (hl : h₀.IsTuple l items) (F : Fr h₀ env.locals s.heap m₀) (N : News h₀ env.locals s.heap news) (hj : J 0 m₀)
    (turn : ∀ i x m₁ h tk own, items[i]? = some x → OwnOff own (news.map (·.1)) → J i m₁ → Fr h₀ env.locals h m₁ → News h₀ env.locals h (news ++ own) →
      wpAny (model prog w) A (assign target env x) (fun _ s₃ => wpAny (model prog w) A (execs body env) (InvPost h₀ env.locals (J (i + 1)) (news ++ own) { s with heap := h, toks := tk } Q) E s₃) E { s with heap := h, toks := tk })
    (done : ∀ m₁ h tk, J items.size m₁ → Fr h₀ env.locals h m₁ → News h₀ env.locals h news → wpAny (model prog w) A (execs orelse env) Q E { s with heap := h, toks := tk }) :
    wpAny (model prog w) A (pyIter (.ref l)) (fun it s₂ => ElseAt prog w A h₀ env target body orelse Q E it s₂) E s := by
  have hls : s.heap.IsTuple l items := hl.at fun o e => F.keep l o e
  obtain ⟨ol, hol, _⟩ := id hl
  have hlt : l < h₀.objs.size := Heap.lt_size hol
  have hne : l ≠ s.heap.objs.size := Nat.ne_of_lt (Nat.lt_trans (Nat.lt_of_lt_of_le hlt F.above) F.ns.lt)
  refine wpAny_pyIter_tuple hls ?_
  have W := KTurns.ofWalks (target := target) (Walks.tuple (prog := prog) (w := w) hh s.heap.objs.size l hne items) fun i v s Q E st q => letGo_tupleiter st.1 q
  refine ⟨_, _, _, items.size, _, _, _, m₀, news, fun i m₁ news₁ => news₁ = news ∧ J i m₁, rfl, W, ?_, ?_, ?_, ⟨⟨_, Heap.get?_push_size _ rfl, rfl, rfl⟩, hls.at fun o e => Heap.get?_push_of_some _ e⟩, F.push _, (fun p hp => ⟨Heap.get?_push_of_some _ (N p hp).1, (N p hp).2⟩), ⟨rfl, hj⟩, ?_, ?_⟩
  · intro hm
    rcases List.mem_cons.mp hm with e | hm
    · exact absurd F.ns.lt (e ▸ Nat.lt_irrefl _)
    · exact absurd (Nat.lt_of_lt_of_le hlt F.above) ((List.mem_singleton.mp hm) ▸ Nat.lt_irrefl _)
  · intro b hb
    rw [List.mem_singleton.mp hb]
    exact next_is_new F
  · intro p hp hI
    exact absurd (Heap.lt_size (N p hp).1) ((List.mem_singleton.mp hI) ▸ Nat.lt_irrefl _)
  · rintro i v m₁ news₁ h₁ tk₁ own hin hP ⟨rfl, hJ⟩ hoff hown hget hall hst F₁ N₁
    have hsep : OwnOff own (news₁.map (·.1)) := by
      intro p hp b hb e
      obtain ⟨q, hq, rfl⟩ := List.mem_map.mp hb
      rcases List.mem_cons.mp (hown p hp) with h1 | h1
      · exact absurd (Heap.lt_size (N q hq).1) (by rw [← e, h1]; exact Nat.lt_irrefl _)
      · have h2 := List.mem_singleton.mp h1
        have h3 := (N q hq).2.2
        rw [← e, h2, hol] at h3
        cases h3
    have N₂ : News h₀ env.locals h₁ (news₁ ++ own) := fun p hp => N₁ p ((List.mem_append.mp hp).elim (fun h => List.mem_append.mpr (.inr h)) fun h => List.mem_append.mpr (.inl h))
    refine wpAny_mono (turn i v m₁ h₁ tk₁ own hP hsep hJ F₁ N₂) (fun _ s₂ h₂ => wpAny_mono h₂ (fun f s₃ p => ?_) fun _ _ e => e) fun _ _ e => e
    have fin : ∀ s₃, InvEnd h₀ env.locals (J (i + 1)) (news₁ ++ own) { s with heap := h₁, toks := tk₁ } s₃ → LoopStepU h₀ env.locals [s.heap.objs.size] own (fun m' n' => n' = news₁ ∧ J (i + 1) m') { s with heap := h₁, toks := tk₁ } .next s₃ := by
      rintro s₃ ⟨h', tk, m', news', e, F', N', hn, hm⟩
      exact ⟨rfl, h', tk, m', news₁, e, F', fun p hp => N' p (hn p ((List.mem_append.mp hp).elim (fun h => List.mem_append.mpr (.inr h)) fun h => List.mem_append.mpr (.inl h))), hoff, rfl, hm⟩
    cases f with
    | ret v => exact .ret p
    | brk => exact .brk p
    | next => exact .next (fin _ p)
    | cont => exact .cont (fin _ p)
  · rintro h' tk m' news' F' N' _ ⟨rfl, hJ⟩
    exact done m' h' tk hJ F' N'

/-- enumerate over a tuple of the ground; the ledger may turn -/
theorem enum_inv {elts : List Expr} {k : Nat} {pos : Pos} {l : Addr} {items : Array Value} {m₀ : Str → Option Value} {news : List (Addr × Obj)} (J : Nat → (Str → Option Value) → List (Addr × Obj) → Prop)
    (hh : A.handled = none) (hl : h₀.IsTuple l items) (F : Fr h₀ env.locals s.heap m₀) (N : News h₀ env.locals s.heap news) (hj : J 0 m₀ news)
    (turn : ∀ i x t T m₁ news₁ h tk own, items[i]? = some x → news₁.map (·.1) = news.map (·.1) → OwnOff own (news.map (·.1)) → J i m₁ news₁ → IsTup h T #[.int ((i : Nat) : Int) t, x] → Fr h₀ env.locals h m₁ → News h₀ env.locals h (news₁ ++ own) →
      wpAny (model prog w) A (assign (.Tuple elts k pos) env (.ref T)) (fun _ s₃ => wpAny (model prog w) A (execs body env) (InvPostN h₀ env.locals (J (i + 1)) own (news.map (·.1)) { s with heap := h, toks := tk } Q) E s₃) E { s with heap := h, toks := tk })
    (done : ∀ m₁ news₁ h tk, J items.size m₁ news₁ → Fr h₀ env.locals h m₁ → News h₀ env.locals h news₁ → Q .next { s with heap := h, toks := tk }) :
    wpAny (model prog w) A (call (.type "enumerate") [.ref l]) (fun xv s₁ => wpAny (model prog w) A (pyIter xv) (fun it s₂ => TurnsAt prog w A h₀ env (.Tuple elts k pos) body Q E it s₂) E s₁) E s := by
  have hls : s.heap.IsTuple l items := hl.at fun o e => F.keep l o e
  obtain ⟨ol, hol, _⟩ := id hl
  have hlt₀ : l < h₀.objs.size := Heap.lt_size hol
  have hLs : env.locals < s.heap.objs.size := F.ns.lt
  have hlt : l < s.heap.objs.size := Nat.lt_trans (Nat.lt_of_lt_of_le hlt₀ F.above) hLs
  refine call_enum_tuple hls fun h' hE hI hsz hk => ?_
  refine wpAny_pyIter_enum hE ?_
  have D := draws_tuple (prog := prog) (w := w) (A := A.in1) hh s.heap.objs.size l (Nat.ne_of_lt hlt) items
  have W := KTurns.ofWalksU (elts := elts) (k := k) (pos := pos) (WalksT.enumerateD D (s.heap.objs.size + 1) (Nat.succ_ne_self _) (by
    intro hm
    rcases List.mem_cons.mp hm with e | hm
    · exact Nat.succ_ne_self _ e
    · exact absurd (List.mem_singleton.mp hm) (Nat.ne_of_gt (Nat.lt_succ_of_lt hlt))) (by simp)).toU
  have F' : Fr h₀ env.locals h' m₀ := F.keeps hk
  have N' : News h₀ env.locals h' news := N.grown hk
  refine ⟨_, _, _, items.size, _, _, _, m₀, news, fun i m₁ news₁ => news₁.map (·.1) = news.map (·.1) ∧ J i m₁ news₁, rfl, W, ?_, ?_, ?_, ⟨⟨_, hE⟩, hI, hls.at fun o e => hk _ _ e⟩, F', N', ⟨rfl, hj⟩, ?_, ?_⟩
  · intro hm
    rcases List.mem_cons.mp hm with e | hm
    · exact absurd hLs (by rw [e]; exact Nat.not_lt.mpr (Nat.le_succ _))
    · rcases List.mem_cons.mp hm with e | hm
      · exact absurd hLs (e ▸ Nat.lt_irrefl _)
      · exact absurd (Nat.lt_of_lt_of_le hlt₀ F.above) ((List.mem_singleton.mp hm) ▸ Nat.lt_irrefl _)
  · intro b hb
    rcases List.mem_cons.mp hb with e | hb
    · rw [e]; exact ktu_new F (Nat.le_succ _)
    · rw [List.mem_singleton.mp hb]; exact next_is_new F
  · intro p hp hI
    have hq := Heap.lt_size (N p hp).1
    rcases List.mem_cons.mp hI with e | hI
    · rw [e] at hq; exact absurd hq (Nat.not_lt.mpr (Nat.le_succ _))
    · rw [List.mem_singleton.mp hI] at hq; exact Nat.lt_irrefl _ hq
  · rintro i v m₁ news₁ h₁ tk₁ own hin ⟨T, vals, rfl, ⟨t, x, hx, rfl⟩, hT⟩ ⟨hadr, hJ⟩ hoff hown hget hall hst F₁ N₁
    have hsep : OwnOff own (news.map (·.1)) := by
      intro p hp b hb e
      obtain ⟨q, hq, rfl⟩ := List.mem_map.mp hb
      have hq' := Heap.lt_size (N q hq).1
      rcases List.mem_cons.mp (hown p hp) with h1 | h1
      · rw [← e, h1] at hq'; exact absurd hq' (Nat.not_lt.mpr (Nat.le_succ _))
      · rcases List.mem_cons.mp h1 with h1 | h1
        · rw [← e, h1] at hq'; exact Nat.lt_irrefl _ hq'
        · have h2 := List.mem_singleton.mp h1
          have h3 := (N q hq).2.2
          rw [← e, h2, hol] at h3
          cases h3
    have N₂ : News h₀ env.locals h₁ (news₁ ++ own) := fun p hp => N₁ p ((List.mem_append.mp hp).elim (fun h => List.mem_append.mpr (.inr h)) fun h => List.mem_append.mpr (.inl h))
    refine wpAny_mono (turn i x t T m₁ news₁ h₁ tk₁ own hx hadr hsep hJ hT F₁ N₂) (fun _ s₂ h₂ => wpAny_mono h₂ (fun f s₃ p => ?_) fun _ _ e => e) fun _ _ e => e
    have fin : ∀ s₃, InvEndN h₀ env.locals (J (i + 1)) own (news.map (·.1)) { s with heap := h₁, toks := tk₁ } s₃ → LoopStepU h₀ env.locals [s.heap.objs.size + 1, s.heap.objs.size] own (fun m' n' => n'.map (·.1) = news.map (·.1) ∧ J (i + 1) m' n') { s with heap := h₁, toks := tk₁ } .next s₃ := by
      rintro s₃ ⟨h'', tk, m', news', nx, e, F'', N'', hn, ho, ha, hm⟩
      refine ⟨rfl, h'', tk, m', nx, e, F'', fun p hp => N'' p ((List.mem_append.mp hp).elim (ho p) (hn p)), fun p hp hq => ?_, ha, hm⟩
      have h1 : p.1 ∈ nx.map (·.1) := List.mem_map.mpr ⟨p, hp, rfl⟩
      rw [ha, ← hadr] at h1
      obtain ⟨q, hq1, hq2⟩ := List.mem_map.mp h1
      exact hoff q hq1 (by rw [hq2]; exact hq)
    cases f with
    | ret v => exact .ret p
    | brk => exact .brk p
    | next => exact .next (fin _ p)
    | cont => exact .cont (fin _ p)
  · rintro h'' tk m' news' F'' N'' _ ⟨_, hJ⟩
    exact done m' news' h'' tk hJ F'' N''
end
end Mine
end
section
open PySem PySem.W PyProof.Rows PySem.Calls
set_option Elab.async false
set_option maxRecDepth 100000
namespace Mine
abbrev tabL : List (List (Int × PySem.Str)) :=
  [[(40960, Str.ofString "l"), (49152, Str.ofString "s"), (32768, Str.ofString "-"), (24576, Str.ofString "b"), (16384, Str.ofString "d"), (8192, Str.ofString "c"), (4096, Str.ofString "p")],
   [(256, Str.ofString "r")], [(128, Str.ofString "w")], [(2112, Str.ofString "s"), (2048, Str.ofString "S"), (64, Str.ofString "x")],
   [(32, Str.ofString "r")], [(16, Str.ofString "w")], [(1032, Str.ofString "s"), (1024, Str.ofString "S"), (8, Str.ofString "x")],
   [(4, Str.ofString "r")], [(2, Str.ofString "w")], [(513, Str.ofString "t"), (512, Str.ofString "T"), (1, Str.ofString "x")]]
def hits (i : Nat) (n b : Int) : Bool := if i = 0 then decide (Builtin.bitAnd n 61440 = b) else decide (Builtin.bitAnd n b = b)
def pick (i : Nat) (n : Int) : List (Int × PySem.Str) → PySem.Str
  | [] => if i = 0 then Str.ofString "?" else Str.ofString "-"
  | (b, c) :: r => if hits i n b = true then c else pick i n r
def signs (n : Int) : List PySem.Str := tabL.mapIdx fun i r => pick i n r

/-- the tuple's items in the written part -/
def tupIn (K : Frag) : Value → Option (List Value)
  | .ref a => match K.lookup a with
    | some o => if o.cls = .type "tuple" then (match o.data with | .seq its _ => some its.toList | _ => none) else none
    | none => none
  | _ => none
def pairIn (K : Frag) (b : Int) (c : PySem.Str) (v : Value) : Bool := match tupIn K v with
  | some [.int b' _, .str c' _] => decide (b' = b) && decide (c' = c)
  | _ => false
def rowIn (K : Frag) : List (Int × PySem.Str) → List Value → Bool
  | [], [] => true
  | (b, c) :: r, v :: vs => pairIn K b c v && rowIn K r vs
  | _, _ => false
def rowsIn (K : Frag) : List (List (Int × PySem.Str)) → List Value → Bool
  | [], [] => true
  | r :: rs, v :: vs => (match tupIn K v with | some its => rowIn K r its | none => false) && rowsIn K rs vs
  | _, _ => false
theorem tupIn_is {K : Frag} {h : Heap} (X : K.In h) {v : Value} {its : List Value} (e : tupIn K v = some its) : ∃ a, v = .ref a ∧ h.IsTuple a its.toArray := by
  unfold tupIn at e
  split at e
  · rename_i a
    split at e
    · rename_i o ho
      split at e
      · rename_i hc
        split at e
        · rename_i its' k hd
          cases e
          exact ⟨a, rfl, o, X _ _ ho, hc, k, by simpa using hd⟩
        · cases e
      · cases e
    · cases e
  · cases e
theorem pairIn_is {K : Frag} {h : Heap} (X : K.In h) {v : Value} {b : Int} {c : PySem.Str} (e : pairIn K b c v = true) : ∃ a t u, v = .ref a ∧ h.IsTuple a #[.int b t, .str c u] := by
  unfold pairIn at e
  split at e
  · rename_i b' t c' u q
    obtain ⟨h1, h2⟩ := Bool.and_eq_true_iff.mp e
    obtain ⟨a, ha, hT⟩ := tupIn_is X q
    rw [of_decide_eq_true h1, of_decide_eq_true h2] at hT
    exact ⟨a, t, u, ha, hT⟩
  · cases e
theorem rowIn_is {K : Frag} {h : Heap} (X : K.In h) : ∀ {r : List (Int × PySem.Str)} {vs : List Value}, rowIn K r vs = true → vs.length = r.length ∧ ∀ (j : Nat) (v : Value), vs[j]? = some v → ∃ b c a t u, r[j]? = some (b, c) ∧ v = .ref a ∧ h.IsTuple a #[.int b t, .str c u]
  | [], [], _ => ⟨rfl, fun j v e => by simp at e⟩
  | [], _ :: _, e => by cases e
  | _ :: _, [], e => by cases e
  | (b, c) :: r, v :: vs, e => by
    obtain ⟨h1, h2⟩ := Bool.and_eq_true_iff.mp e
    obtain ⟨ih1, ih2⟩ := rowIn_is X h2
    refine ⟨by simp [ih1], fun j w q => ?_⟩
    cases j with
    | zero =>
      have e' : v = w := by simpa using q
      subst e'
      obtain ⟨a, t, u, z⟩ := pairIn_is X h1
      exact ⟨b, c, a, t, u, by simp, z⟩
    | succ j =>
      obtain ⟨b', c', z⟩ := ih2 j w (by simpa using q)
      exact ⟨b', c', by simpa using z⟩
theorem rowsIn_is {K : Frag} {h : Heap} (X : K.In h) : ∀ {rs : List (List (Int × PySem.Str))} {vs : List Value}, rowsIn K rs vs = true → vs.length = rs.length ∧ ∀ (i : Nat) (v : Value), vs[i]? = some v → ∃ r a its, rs[i]? = some r ∧ v = .ref a ∧ h.IsTuple a its ∧ its.size = r.length ∧
      ∀ (j : Nat) (v : Value), its[j]? = some v → ∃ b c a t u, r[j]? = some (b, c) ∧ v = .ref a ∧ h.IsTuple a #[.int b t, .str c u]
  | [], [], _ => ⟨rfl, fun j v e => by simp at e⟩
  | [], _ :: _, e => by cases e
  | _ :: _, [], e => by cases e
  | r :: rs, v :: vs, e => by
    obtain ⟨h1, h2⟩ := Bool.and_eq_true_iff.mp e
    obtain ⟨ih1, ih2⟩ := rowsIn_is X h2
    refine ⟨by simp [ih1], fun j w q => ?_⟩
    cases j with
    | zero =>
      have e' : v = w := by simpa using q
      subst e'
      split at h1
      · rename_i its q'
        obtain ⟨a, ha, hT⟩ := tupIn_is X q'
        obtain ⟨z1, z2⟩ := rowIn_is X h1
        exact ⟨r, a, its.toArray, by simp, ha, hT, by simpa using z1, fun j v e => z2 j v (by simpa using e)⟩
      · cases h1
    | succ j =>
      obtain ⟨b', z⟩ := ih2 j w (by simpa using q)
      exact ⟨b', by simpa using z⟩
abbrev tabVs : List Value := [.ref 57, .ref 59, .ref 61, .ref 65, .ref 67, .ref 69, .ref 73, .ref 75, .ref 77, .ref 81]
theorem tab_in (P : Params) : tupIn (hd.heap_39 P) (.ref 82) = some tabVs := by rfl
theorem tab_rows (P : Params) : rowsIn (hd.heap_39 P) tabL tabVs = true := by rfl
end Mine
end
section
open PySem PySem.W PyProof.Rows PySem.Calls
set_option Elab.async false
set_option maxRecDepth 100000
namespace Mine
structure Stay (P : Prop) : Prop where
  out : P
theorem drop_at {α : Type} {l : List α} {j : Nat} {a : α} (h : l[j]? = some a) : l.drop j = a :: l.drop (j + 1) := by
  obtain ⟨hj, e⟩ := List.getElem?_eq_some_iff.mp h
  rw [List.drop_eq_getElem_cons hj, e]
theorem pick_hit {i : Nat} {n b : Int} {c : PySem.Str} {row : List (Int × PySem.Str)} {j : Nat} (h : row[j]? = some (b, c)) (hh : hits i n b = true) : pick i n (row.drop j) = c := by
  rw [drop_at h, pick, if_pos hh]
theorem pick_miss {i : Nat} {n b : Int} {c : PySem.Str} {row : List (Int × PySem.Str)} {j : Nat} (h : row[j]? = some (b, c)) (hh : hits i n b = false) : pick i n (row.drop j) = pick i n (row.drop (j + 1)) := by
  rw [drop_at h, pick, if_neg (by rw [hh]; exact Bool.false_ne_true)]
theorem hits_zero {i : Nat} {n b : Int} (hi : (i : Int) = 0) (h : Builtin.bitAnd n 61440 = b) : hits i n b = true := by
  rw [hits, if_pos (by omega)]; exact decide_eq_true h
theorem hits_zero' {i : Nat} {n b : Int} (hi : (i : Int) = 0) (h : ¬ Builtin.bitAnd n 61440 = b) : hits i n b = false := by
  rw [hits, if_pos (by omega)]; exact decide_eq_false h
theorem hits_more {i : Nat} {n b : Int} (hi : ¬ (i : Int) = 0) (h : Builtin.bitAnd n b = b) : hits i n b = true := by
  rw [hits, if_neg (by omega)]; exact decide_eq_true h
theorem hits_more' {i : Nat} {n b : Int} (hi : ¬ (i : Int) = 0) (h : ¬ Builtin.bitAnd n b = b) : hits i n b = false := by
  rw [hits, if_neg (by omega)]; exact decide_eq_false h
theorem pick_nil {i : Nat} {n : Int} : pick i n [] = if i = 0 then Str.ofString "?" else Str.ofString "-" := rfl
theorem signs_len (n : Int) : (signs n).length = 10 := rfl
theorem step_strs {n : Int} {i : Nat} {row : List (Int × PySem.Str)} {vs : List Value} {c : PySem.Str} {t : Tok} (hrow : tabL[i]? = some row) (hs : StrsAre vs ((signs n).take i)) (hc : pick i n row = c) : StrsAre (vs ++ [.str c t]) ((signs n).take (i + 1)) := by
  have e : (signs n)[i]? = some (pick i n row) := by
    show (tabL.mapIdx fun i r => pick i n r)[i]? = _
    rw [List.getElem?_mapIdx, hrow]; rfl
  rw [List.take_add_one, e, hc]
  exact kct_snoc hs
theorem pick_in {i : Nat} {n : Int} : ∀ {row : List (Int × PySem.Str)}, (∀ p ∈ row, p.2.length = 1) → (pick i n row).length = 1
  | [], _ => by
    rw [pick_nil]
    split <;> rfl
  | (b, c) :: r, h => by
    rw [pick]
    split
    · exact h (b, c) List.mem_cons_self
    · exact pick_in fun p hp => h p (List.mem_cons_of_mem _ hp)
theorem tab_ones : ∀ row ∈ tabL, ∀ p ∈ row, p.2.length = 1 := by decide
theorem sum_ones : ∀ {l : List PySem.Str}, (∀ x ∈ l, x.length = 1) → (l.map (·.length)).sum = l.length
  | [], _ => rfl
  | x :: r, h => by
    rw [List.map_cons, List.sum_cons, sum_ones fun y hy => h y (List.mem_cons_of_mem _ hy), h x List.mem_cons_self, List.length_cons]; omega
theorem signs_ones (n : Int) : ∀ x ∈ signs n, x.length = 1 := by
  intro x hx
  obtain ⟨i, hi, e⟩ := List.mem_mapIdx.mp hx
  rw [← e]
  exact pick_in (tab_ones _ (List.getElem_mem hi))
theorem signs_fit (n : Int) : ((signs n).map (·.length)).sum + (signs n).length * (Str.ofString "").length ≤ 16777216 := by
  rw [sum_ones (signs_ones n), signs_len]; decide
theorem strs_len : ∀ {vs : List Value} {ys : List PySem.Str}, StrsAre vs ys → vs.length = ys.length
  | _, _, .nil => rfl
  | _, _, .cons _ _ r => by simp [strs_len r]
theorem strs_fit {vs : List Value} {n : Int} {i : Nat} (h : StrsAre vs ((signs n).take i)) : vs.toArray.size ≤ sizeLine := by
  have e := strs_len h
  have e2 : ((signs n).take i).length ≤ 10 := by rw [List.length_take, signs_len]; omega
  rw [List.size_toArray, e, sizeLine_eq]
  omega
/-- what filemode writes -/
def fmode (n : Int) : PySem.Str := Txt.join (Str.ofString "") (signs n)
end Mine
end
section
open PySem PySem.W PyProof.Rows PySem.Calls
set_option Elab.async false
set_option maxRecDepth 100000
namespace Mine
local macro_rules | `(tactic| walk_at "exec For Tuple Call") => `(tactic| k_extra "my for")
local macro_rules | `(tactic| walk_at "exec For Tuple Call cons nil") => `(tactic| k_extra "my for")
local macro_rules | `(tactic| walk_at "call type:enumerate") => `(tactic| k_extra "my enum")
local macro_rules | `(tactic| walk_at "exec For Tuple Name") => `(tactic| k_extra "my inner for")
local macro_rules | `(tactic| walk_at "exec For Tuple Name cons cons") => `(tactic| k_extra "my inner for")
local macro_rules | `(tactic| walk_at "pyIter ref") => `(tactic| k_extra "my inner iter")
local macro_rules | `(tactic| walk_at "call builtin:list.append") => `(tactic| k_extra "my append")
local macro_rules | `(tactic| walk_at "call ref") => `(tactic| k_extra "my call")
set_option maxHeartbeats 8000000 in
theorem filemode_does (n : Int) (tn : Tok) : ∀ (w : World) (p : Program) (loose : List PySem.Str) (mean : ExcName → Option Value) (mg mb : PySem.Str → Option Value) (dp un : Nat) (gd : Option (List Code)) (cn : PySem.Str) (cs : Scope) (a : Addr) (ccd : Value) (cl : List (PySem.Str × Addr)) (outer : List Env) (A₀ : Around) (base h₀ : Heap) (L : Addr) (m : PySem.Str → Option Value) (s : Shared) (Q E : Value → Shared → Prop),
    Below A₀ base outer h₀ → Fr h₀ L s.heap m → (hd.heap_39 w.params).In h₀ → Top p loose mean mg mb h₀ → cs.kind = .function → dp + 3 < recursionLimit → un + 20 < cLine →
    (∀ (t : Tok) (h' : Heap) (tk' : Nat), (∀ b o, s.heap.get? b = some o → h'.get? b = some o) → Q (.str (fmode n) t) { s with heap := h', toks := tk' }) →
      wpAny (model PySem.Challenge.rw_mg0027_01.row.prog w) (ktrTop dp un gd cn cs L a ccd cl outer) (call (.ref 89) [.int n tn]) Q E s := by
  w_top off
  k_with_none
  k_fill
  intro w p loose mean mg mb dp un gd cn cs a ccd cl outer A₀ base h₀ L m s Q E B F X T hk hd1 hu1 hret
  have N : News h₀ L s.heap [] := News.nil
  refine wpAny_call ?_
  refine' code_defG ?k1 ?k2 ?k3 ?k4 ?k5 ?kA ?kF ?kK ?k6 ?k7 ?k8 ?k9 ?kB ?_ ?c2 ?c3 ?c4 ?c5; (case kA => exact rfl); (case kF => exact rfl); (case kK => assumption); (case k1 => k_asm); (case k2 => k_asm); (case k3 => k_asm); (case k4 => k_asm); (case k5 => k_asm); (case k6 => k_is); (case k7 => k_is); (case k8 => ktr_room); (case k9 => exact BindsTo.of_eq rfl); (case c5 => decide); (case kB => exact locs rfl); (case c2 => exact rfl); (case c3 => exact rfl); (case c4 => exact rfl); k_whole; intro g' L' h' FG' F' N' B' X' T' G'; (try dsimp only); (try k_lift B'); (try k_fold)
  obtain ⟨_, e82, hTab⟩ := tupIn_is X' (tab_in w.params)
  cases e82
  have hRows := (rowsIn_is X' (tab_rows w.params)).2
  k_with "my for" => refine For_turns (by k_asm) ?_
  k_with "my enum" => refine enum_inv (fun i m news => m (Str.ofString "mode") = some (Value.int n tn) ∧ ∃ lp vs k, m (Str.ofString "perm") = some (Value.ref lp) ∧ news = [(lp, W.listOf vs.toArray k)] ∧ StrsAre vs ((signs n).take i)) (by rfl) hTab (by k_asm) (by k_asm) (Stay.out ?hj) (Stay.out ?turn) (Stay.out ?done)
  k_steps
  case hj => constructor; exact ⟨rfl, _, [], _, rfl, rfl, by simpa using StrsAre.nil⟩
  case turn =>
    constructor
    intro i x t T m₁ news₁ h tk own hx hadr hoff hJ hTup F9 N9
    obtain ⟨hm1, lp, vs, k, hm2, rfl, hs⟩ := hJ
    have elp := (List.cons.inj hadr).1
    dsimp only at elp
    subst elp
    clear hadr
    obtain ⟨row, ar, its, hrow, rfl, hit, hsz, hpairs⟩ := hRows i x (by simpa using hx)
    have e9 : m₁ = fun z => if z = Str.ofString "mode" then some (Value.int n tn) else if z = Str.ofString "perm" then some (Value.ref lp) else m₁ z := by
      funext z
      split
      · rename_i q; rw [q, hm1]
      · split
        · rename_i q; rw [q, hm2]
        · rfl
    rw [e9] at F9
    clear e9
    simp only [List.map_cons, List.map_nil, List.cons_append, List.nil_append] at N9 hoff ⊢
    have hl9 := strs_fit hs
    k_with "my call" => (refine wpAny_call ?_; k_dflt (refine' code_def ?k1 ?k2 ?k3 ?k4 ?k5 ?kA ?kF ?kK ?k6 ?k7 ?k8 ?k9 ?kB ?_ ?c2 ?c3 ?c4 ?c5; (case kA => exact rfl); (case kF => exact rfl); (case kK => first | assumption | rfl); (case k1 => k_asm); (case k2 => k_asm); (case k3 => k_asm); (case k4 => k_asm); (case k5 => k_asm); (case k6 => k_is); (case k7 => k_is); (case k8 => ktr_room); (case k9 => exact BindsTo.of_eq rfl); (case c5 => decide); (case kB => exact locs rfl); (case c2 => exact rfl); (case c3 => exact rfl); (case c4 => exact rfl); k_whole; intro g' L' h' FG' F' N' B' X' T'; (try dsimp only); (try k_lift B'); (try k_fold)))
    k_with "my inner for" => refine For_else (by k_asm) ?_
    k_with "my inner iter" => refine tup_else (fun j m => m (Str.ofString "mode") = some (Value.int n tn) ∧ m (Str.ofString "perm") = some (Value.ref lp) ∧ m (Str.ofString "index") = some (Value.int (i : Int) t) ∧ pick i n row = pick i n (row.drop j)) (by rfl) hit (by k_asm) (by k_asm) (Stay.out ?hj2) (Stay.out ?turn2) (Stay.out ?done2)
    k_steps
    case hj2 => constructor; exact ⟨rfl, rfl, rfl, by simp⟩
    case turn2 =>
      constructor
      intro j x2 m₂ h2 tk2 own2 hx2 hoff2 hJ2 F8 N8
      obtain ⟨hm1, hm2, hm3, hpk⟩ := hJ2
      obtain ⟨b, c, ap, tb, tc, hbc, rfl, hpair⟩ := hpairs j x2 hx2
      have e8 : m₂ = fun z => if z = Str.ofString "mode" then some (Value.int n tn) else if z = Str.ofString "perm" then some (Value.ref lp) else if z = Str.ofString "index" then some (Value.int (i : Int) t) else m₂ z := by
        funext z
        split
        · rename_i q; rw [q, hm1]
        · split
          · rename_i q; rw [q, hm2]
          · split
            · rename_i q; rw [q, hm3]
            · rfl
      rw [e8] at F8
      clear e8
      have hoff3 : OwnOff (own ++ own2) [lp] := fun p hp b hb => by
        rcases List.mem_append.mp hp with hp | hp
        · exact hoff p hp b hb
        · exact hoff2 p hp b (List.mem_cons.mpr (.inl (List.mem_singleton.mp hb)))
      have hsub3 : ∀ p ∈ own, p ∈ own ++ own2 := fun p hp => List.mem_append_left _ hp
      simp only [List.cons_append] at N8 ⊢
      generalize own ++ own2 = own3 at hoff3 hsub3 N8 ⊢
      clear hoff hoff2
      k_with "my append" => refine append_K (by k_asm) (by k_asm) (Upd.head (OwnOff.ne hoff3 (by simp))) ?_ hl9
      k_steps
      · refine InvEndN.intro (nx := [(lp, W.listOf (vs.toArray.push (.str c tc)) (k + 1))]) (by k_asm) (by k_asm) ⟨rfl, lp, vs ++ [.str c tc], k + 1, rfl, by rw [List.push_toArray], step_strs hrow hs (hpk.trans (pick_hit hbc (hits_zero (by assumption) (by assumption))))⟩ rfl (fun p hp => List.mem_cons.mpr (.inl (List.mem_singleton.mp hp))) (fun p hp => List.mem_cons_of_mem _ (hsub3 p hp))
      · refine InvEnd.intro (by k_asm) (by k_asm) (fun p hp => hp) ⟨rfl, rfl, rfl, hpk.trans (pick_miss hbc (hits_zero' (by assumption) (by assumption)))⟩
      · refine InvEndN.intro (nx := [(lp, W.listOf (vs.toArray.push (.str c tc)) (k + 1))]) (by k_asm) (by k_asm) ⟨rfl, lp, vs ++ [.str c tc], k + 1, rfl, by rw [List.push_toArray], step_strs hrow hs (hpk.trans (pick_hit hbc (hits_more (by assumption) (by assumption))))⟩ rfl (fun p hp => List.mem_cons.mpr (.inl (List.mem_singleton.mp hp))) (fun p hp => List.mem_cons_of_mem _ (hsub3 p hp))
      · refine InvEnd.intro (by k_asm) (by k_asm) (fun p hp => hp) ⟨rfl, rfl, rfl, hpk.trans (pick_miss hbc (hits_more' (by assumption) (by assumption)))⟩
    case done2 =>
      constructor
      intro m₂ h2 tk2 hJ2 F8 N8
      obtain ⟨hm1, hm2, hm3, hpk⟩ := hJ2
      rw [hsz, List.drop_length, pick_nil] at hpk
      have e8 : m₂ = fun z => if z = Str.ofString "mode" then some (Value.int n tn) else if z = Str.ofString "perm" then some (Value.ref lp) else if z = Str.ofString "index" then some (Value.int (i : Int) t) else m₂ z := by
        funext z
        split
        · rename_i q; rw [q, hm1]
        · split
          · rename_i q; rw [q, hm2]
          · split
            · rename_i q; rw [q, hm3]
            · rfl
      rw [e8] at F8
      clear e8
      k_with "my append" => refine append_K (by k_asm) (by k_asm) (Upd.head (OwnOff.ne hoff (by simp))) ?_ hl9
      k_steps
      · refine InvEndN.intro (nx := [(lp, W.listOf (vs.toArray.push (.str _ _)) (k + 1))]) (by k_asm) (by k_asm) ⟨rfl, lp, vs ++ [.str _ _], k + 1, rfl, by rw [List.push_toArray], step_strs hrow hs (hpk.trans (if_pos (by omega)))⟩ rfl (fun p hp => List.mem_cons.mpr (.inl (List.mem_singleton.mp hp))) (fun p hp => List.mem_cons_of_mem _ hp)
      · refine InvEndN.intro (nx := [(lp, W.listOf (vs.toArray.push (.str _ _)) (k + 1))]) (by k_asm) (by k_asm) ⟨rfl, lp, vs ++ [.str _ _], k + 1, rfl, by rw [List.push_toArray], step_strs hrow hs (hpk.trans (if_neg (by omega)))⟩ rfl (fun p hp => List.mem_cons.mpr (.inl (List.mem_singleton.mp hp))) (fun p hp => List.mem_cons_of_mem _ hp)
  case done =>
    constructor
    intro m₁ news₁ h tk hJ F9 N9
    obtain ⟨hm1, lp, vs, k, hm2, rfl, hs⟩ := hJ
    have e9 : m₁ = fun z => if z = Str.ofString "mode" then some (Value.int n tn) else if z = Str.ofString "perm" then some (Value.ref lp) else m₁ z := by
      funext z
      split
      · rename_i q; rw [q, hm1]
      · split
        · rename_i q; rw [q, hm2]
        · rfl
    rw [e9] at F9
    clear e9
    have hs' : StrsAre vs (signs n) := by
      have e : (signs n).take tabVs.toArray.size = signs n := List.take_of_length_le (Nat.le_of_eq (signs_len n))
      rw [e] at hs
      exact hs
    k_steps
    refine join_list (ys := signs n) ⟨_, (N9 _ List.mem_cons_self).1, rfl, _, rfl⟩ hs' (signs_fit n) ?_
    intro t' k'
    exact leaveK_ F9 N9 (fun _ _ => hret t' _ _ (fun b o e => F9.keep b o (G' b o e (by simp))))
end Mine
end
section
open PySem PySem.W PyProof.Rows PySem.Calls
set_option Elab.async false
set_option maxRecDepth 100000
namespace Mine
/-- what _law_figures reads off a row -/
def figs (x : PySem.Str) : List Int :=
  [(Txt.find (Str.ofString "-xSs") (Txt.item x 3)).fdiv 2, (Txt.find (Str.ofString "-xSs") (Txt.item x 6)).fdiv 2, (Txt.find (Str.ofString "-xTt") (Txt.item x 9)).fdiv 2,
   Txt.find (Str.ofString "-r") (Txt.item x 1), Txt.find (Str.ofString "-w") (Txt.item x 2), (Txt.find (Str.ofString "-xSs") (Txt.item x 3)).fmod 2,
   Txt.find (Str.ofString "-r") (Txt.item x 4), Txt.find (Str.ofString "-w") (Txt.item x 5), (Txt.find (Str.ofString "-xSs") (Txt.item x 6)).fmod 2,
   Txt.find (Str.ofString "-r") (Txt.item x 7), Txt.find (Str.ofString "-w") (Txt.item x 8), (Txt.find (Str.ofString "-xTt") (Txt.item x 9)).fmod 2]
theorem figs_ints {x : PySem.Str} {t0 t1 t2 t3 t4 t5 t6 t7 t8 t9 ta tb : Tok} : IntsAre
    [Value.int ((Txt.find (Str.ofString "-xSs") (Txt.item x 3)).fdiv 2) t0, Value.int ((Txt.find (Str.ofString "-xSs") (Txt.item x 6)).fdiv 2) t1, Value.int ((Txt.find (Str.ofString "-xTt") (Txt.item x 9)).fdiv 2) t2,
     Value.int (Txt.find (Str.ofString "-r") (Txt.item x 1)) t3, Value.int (Txt.find (Str.ofString "-w") (Txt.item x 2)) t4, Value.int ((Txt.find (Str.ofString "-xSs") (Txt.item x 3)).fmod 2) t5,
     Value.int (Txt.find (Str.ofString "-r") (Txt.item x 4)) t6, Value.int (Txt.find (Str.ofString "-w") (Txt.item x 5)) t7, Value.int ((Txt.find (Str.ofString "-xSs") (Txt.item x 6)).fmod 2) t8,
     Value.int (Txt.find (Str.ofString "-r") (Txt.item x 7)) t9, Value.int (Txt.find (Str.ofString "-w") (Txt.item x 8)) ta, Value.int ((Txt.find (Str.ofString "-xTt") (Txt.item x 9)).fmod 2) tb] (figs x) :=
  .cons _ _ (.cons _ _ (.cons _ _ (.cons _ _ (.cons _ _ (.cons _ _ (.cons _ _ (.cons _ _ (.cons _ _ (.cons _ _ (.cons _ _ (.cons _ _ .nil)))))))))))
local macro_rules | `(tactic| walk_at "LeaveK") => `(tactic| k_extra "my leave")
set_option maxHeartbeats 8000000 in
theorem figures_does (x : PySem.Str) (tn : Tok) (hx : x.length = 10) : ∀ (w : World) (p : Program) (loose : List PySem.Str) (mean : ExcName → Option Value) (mg mb : PySem.Str → Option Value) (dp un : Nat) (gd : Option (List Code)) (cn : PySem.Str) (cs : Scope) (a : Addr) (ccd : Value) (cl : List (PySem.Str × Addr)) (outer : List Env) (A₀ : Around) (base h₀ : Heap) (L : Addr) (m : PySem.Str → Option Value) (s : Shared) (Q E : Value → Shared → Prop),
    Below A₀ base outer h₀ → Fr h₀ L s.heap m → (hd.heap_39 w.params).In h₀ → Top p loose mean mg mb h₀ → cs.kind = .function → dp + 3 < recursionLimit → un + 20 < cLine →
    (∀ (l : Addr) (vs : List Value) (k : Nat) (h' : Heap) (tk' : Nat), (∀ b o, s.heap.get? b = some o → h'.get? b = some o) → h'.get? l = some (W.listOf vs.toArray k) → s.heap.get? l = none → IntsAre vs (figs x) → Q (.ref l) { s with heap := h', toks := tk' }) →
      wpAny (model PySem.Challenge.rw_mg0027_01.row.prog w) (ktrTop dp un gd cn cs L a ccd cl outer) (call (.ref 94) [.str x tn]) Q E s := by
  w_top off
  k_with_none
  k_fill
  intro w p loose mean mg mb dp un gd cn cs a ccd cl outer A₀ base h₀ L m s Q E B F X T hk hd1 hu1 hret
  have N : News h₀ L s.heap [] := News.nil
  refine wpAny_call ?_
  refine' code_defG ?k1 ?k2 ?k3 ?k4 ?k5 ?kA ?kF ?kK ?k6 ?k7 ?k8 ?k9 ?kB ?_ ?c2 ?c3 ?c4 ?c5; (case kA => exact rfl); (case kF => exact rfl); (case kK => assumption); (case k1 => k_asm); (case k2 => k_asm); (case k3 => k_asm); (case k4 => k_asm); (case k5 => k_asm); (case k6 => k_is); (case k7 => k_is); (case k8 => ktr_room); (case k9 => exact BindsTo.of_eq rfl); (case c5 => decide); (case kB => exact locs rfl); (case c2 => exact rfl); (case c3 => exact rfl); (case c4 => exact rfl); k_whole; intro g' L' h' FG' F' N' B' X' T' G'; (try dsimp only); (try k_lift B'); (try k_fold)
  k_with "my leave" => refine Stay.out ?fin
  k_steps
  case fin =>
    constructor
    rename Fr _ _ _ _ => FF
    rename News _ _ _ _ => NN
    refine leaveK_ FF NN (fun _ _ => ?_)
    refine hret _ _ _ _ _ (fun b o e => FF.keep b o (G' b o e (by simp))) (News.get NN (.tail _ (.tail _ (.tail _ (.head _))))) ?_ figs_ints
    cases e : s.heap.get? _ with
    | none => rfl
    | some o =>
      have z := G' _ o e (by simp)
      rw [News.fresh NN (.tail _ (.tail _ (.tail _ (.head _))))] at z
      cases z
end Mine
end
section
open PySem PySem.W PyProof.Rows PySem.Calls
set_option Elab.async false
set_option maxRecDepth 100000
namespace Mine
theorem one_of {x : PySem.Str} (h : x.length = 1) : ∃ c, x = ⟨#[c]⟩ := by
  obtain ⟨⟨l⟩⟩ := x
  match l, h with
  | [c], _ => exact ⟨c, rfl⟩
theorem row_of (c0 c1 c2 c3 c4 c5 c6 c7 c8 c9 : Nat) : Txt.join (Str.ofString "") [⟨#[c0]⟩, ⟨#[c1]⟩, ⟨#[c2]⟩, ⟨#[c3]⟩, ⟨#[c4]⟩, ⟨#[c5]⟩, ⟨#[c6]⟩, ⟨#[c7]⟩, ⟨#[c8]⟩, ⟨#[c9]⟩] = (⟨#[c0, c1, c2, c3, c4, c5, c6, c7, c8, c9]⟩ : PySem.Str) := by rfl
theorem fmode_len (n : Int) : (fmode n).length = 10 := by
  unfold fmode
  rw [PySem.W.KT.join_ones _ (signs_ones n), signs_len]
theorem join_item {l : List PySem.Str} (hl : l.length = 10) (h : ∀ x ∈ l, x.length = 1) : ∀ j, (hj : j < 10) → Txt.item (Txt.join (Str.ofString "") l) ((j : Nat) : Int) = l[j]'(by omega) := by
  match l, hl with
  | [s0, s1, s2, s3, s4, s5, s6, s7, s8, s9], _ =>
    obtain ⟨c0, rfl⟩ := one_of (h s0 (by simp))
    obtain ⟨c1, rfl⟩ := one_of (h s1 (by simp))
    obtain ⟨c2, rfl⟩ := one_of (h s2 (by simp))
    obtain ⟨c3, rfl⟩ := one_of (h s3 (by simp))
    obtain ⟨c4, rfl⟩ := one_of (h s4 (by simp))
    obtain ⟨c5, rfl⟩ := one_of (h s5 (by simp))
    obtain ⟨c6, rfl⟩ := one_of (h s6 (by simp))
    obtain ⟨c7, rfl⟩ := one_of (h s7 (by simp))
    obtain ⟨c8, rfl⟩ := one_of (h s8 (by simp))
    obtain ⟨c9, rfl⟩ := one_of (h s9 (by simp))
    rw [row_of]
    intro j hj
    match j, hj with
    | 0, _ => rfl
    | 1, _ => rfl
    | 2, _ => rfl
    | 3, _ => rfl
    | 4, _ => rfl
    | 5, _ => rfl
    | 6, _ => rfl
    | 7, _ => rfl
    | 8, _ => rfl
    | 9, _ => rfl
theorem item_at (n : Int) (j : Nat) (hj : j < 10) : Txt.item (fmode n) (j : Int) = (signs n)[j]'(by rw [signs_len]; exact hj) := join_item (signs_len n) (signs_ones n) j hj
/-- the bits -/
theorem and_nat (k m : Nat) : Builtin.bitAnd (k : Int) (m : Int) = ((k &&& m : Nat) : Int) := by
  unfold Builtin.bitAnd
  rw [decide_eq_true (by omega : (0 : Int) ≤ k), decide_eq_true (by omega : (0 : Int) ≤ m)]
  rfl
theorem and_two (k i j : Nat) : (k &&& (2 ^ i ||| 2 ^ j) = 2 ^ i ||| 2 ^ j) ↔ (k / 2 ^ i % 2 = 1 ∧ k / 2 ^ j % 2 = 1) := by
  have t : ∀ i, (k / 2 ^ i % 2 = 1) ↔ k.testBit i = true := fun i => by rw [Nat.testBit_eq_decide_div_mod_eq]; simp
  rw [t, t]
  constructor
  · intro h
    have a := congrArg (·.testBit i) h
    have b := congrArg (·.testBit j) h
    simp only [Nat.testBit_and, Nat.testBit_or, Nat.testBit_two_pow_self, Bool.true_or, Bool.or_true, Bool.and_true] at a b
    exact ⟨a, b⟩
  · rintro ⟨a, b⟩
    apply Nat.eq_of_testBit_eq
    intro x
    simp only [Nat.testBit_and, Nat.testBit_or, Nat.testBit_two_pow]
    by_cases hi : i = x
    · subst hi; simp [a]
    · by_cases hj : j = x
      · subst hj; simp [b]
      · simp [hi, hj]
theorem and_one (k i : Nat) : (k &&& 2 ^ i = 2 ^ i) ↔ k / 2 ^ i % 2 = 1 := by
  have h := and_two k i i
  rw [Nat.or_self] at h
  simpa using h
theorem and_low (k : Nat) : k &&& 4095 = k % 4096 := Nat.and_two_pow_sub_one_eq_mod k 12
theorem and_high (k : Nat) (h : k < 65536) : k &&& 61440 = 4096 * (k / 4096) := by
  have e1 : 61440 = (2 ^ 4 - 1) <<< 12 := by decide
  have e2 : 4096 * (k / 4096) = (k >>> 12) <<< 12 := by rw [Nat.shiftLeft_eq, Nat.shiftRight_eq_div_pow]; omega
  rw [e1, e2]
  apply Nat.eq_of_testBit_eq
  intro i
  simp only [Nat.testBit_and, Nat.testBit_shiftLeft, Nat.testBit_two_pow_sub_one, Nat.testBit_shiftRight]
  by_cases hi : 12 ≤ i
  · have e3 : 12 + (i - 12) = i := by omega
    rw [e3]
    by_cases h4 : i - 12 < 4
    · simp [hi, h4]
    · have : k.testBit i = false := Nat.testBit_lt_two_pow (Nat.lt_of_lt_of_le h (Nat.pow_le_pow_right (by decide : 0 < 2) (by omega : 16 ≤ i)))
      simp [this]
  · simp [hi]
theorem hit1 (p k : Nat) (hp : 0 < p) (i m : Nat) (hm : m = 2 ^ i) : hits p (k : Int) (m : Int) = decide (k / m % 2 = 1) := by
  subst hm
  rw [hits, if_neg (by omega), and_nat]
  exact decide_eq_decide.mpr ((Int.natCast_inj).trans (and_one k i))
theorem hit2 (p k : Nat) (hp : 0 < p) (i j m : Nat) (hm : m = 2 ^ i ||| 2 ^ j) : hits p (k : Int) (m : Int) = (decide (k / 2 ^ i % 2 = 1) && decide (k / 2 ^ j % 2 = 1)) := by
  subst hm
  rw [hits, if_neg (by omega), and_nat, ← Bool.decide_and]
  exact decide_eq_decide.mpr ((Int.natCast_inj).trans (and_two k i j))
theorem bit_or (k : Nat) : k % 2 = 0 ∨ k % 2 = 1 := by omega
/-- a place of one bit -/
theorem find1 (p k i m : Nat) (c d : PySem.Str) (hp : 0 < p) (hm : m = 2 ^ i) (h0 : Txt.find d (Str.ofString "-") = 0) (h1 : Txt.find d c = 1) : Txt.find d (pick p (k : Int) [((m : Int), c)]) = ((k / m % 2 : Nat) : Int) := by
  rw [pick, pick_nil, hit1 p k hp i m hm, if_neg (by omega : ¬ p = 0)]
  rcases bit_or (k / m) with e | e <;> rw [e] <;> simp [h0, h1]
theorem find2 (p k i j m a b : Nat) (x y z d : PySem.Str) (hp : 0 < p) (hm : m = 2 ^ i ||| 2 ^ j) (ha : a = 2 ^ i) (hb : b = 2 ^ j) (h0 : Txt.find d (Str.ofString "-") = 0) (h1 : Txt.find d z = 1) (h2 : Txt.find d y = 2) (h3 : Txt.find d x = 3) :
    Txt.find d (pick p (k : Int) [((m : Int), x), ((a : Int), y), ((b : Int), z)]) = ((2 * (k / a % 2) + k / b % 2 : Nat) : Int) := by
  rw [pick, pick, pick, pick_nil, hit2 p k hp i j m hm, hit1 p k hp i a ha, hit1 p k hp j b hb, if_neg (by omega : ¬ p = 0), ← ha, ← hb]
  rcases bit_or (k / a) with e | e <;> rcases bit_or (k / b) with f | f <;> rw [e, f] <;> simp [h0, h1, h2, h3]
/-- the bits of a mode, the highest first -/
def bits (k : Nat) : List Int := [((k / 2048 % 2 : Nat) : Int), ((k / 1024 % 2 : Nat) : Int), ((k / 512 % 2 : Nat) : Int), ((k / 256 % 2 : Nat) : Int), ((k / 128 % 2 : Nat) : Int), ((k / 64 % 2 : Nat) : Int), ((k / 32 % 2 : Nat) : Int), ((k / 16 % 2 : Nat) : Int), ((k / 8 % 2 : Nat) : Int), ((k / 4 % 2 : Nat) : Int), ((k / 2 % 2 : Nat) : Int), ((k / 1 % 2 : Nat) : Int)]
theorem figs_bits (k : Nat) : figs (fmode (k : Int)) = bits k := by
  have i1 := item_at k 1 (by decide +kernel)
  have i2 := item_at k 2 (by decide +kernel)
  have i3 := item_at k 3 (by decide +kernel)
  have i4 := item_at k 4 (by decide +kernel)
  have i5 := item_at k 5 (by decide +kernel)
  have i6 := item_at k 6 (by decide +kernel)
  have i7 := item_at k 7 (by decide +kernel)
  have i8 := item_at k 8 (by decide +kernel)
  have i9 := item_at k 9 (by decide +kernel)
  have f1 : Txt.find (Str.ofString "-r") (Txt.item (fmode k) 1) = _ := (congrArg _ i1).trans (find1 1 k 8 256 (Str.ofString "r") (Str.ofString "-r") (by decide +kernel) (by decide +kernel) (by decide +kernel) (by decide +kernel))
  have f2 : Txt.find (Str.ofString "-w") (Txt.item (fmode k) 2) = _ := (congrArg _ i2).trans (find1 2 k 7 128 (Str.ofString "w") (Str.ofString "-w") (by decide +kernel) (by decide +kernel) (by decide +kernel) (by decide +kernel))
  have f3 : Txt.find (Str.ofString "-xSs") (Txt.item (fmode k) 3) = _ := (congrArg _ i3).trans (find2 3 k 11 6 2112 2048 64 (Str.ofString "s") (Str.ofString "S") (Str.ofString "x") (Str.ofString "-xSs") (by decide +kernel) (by decide +kernel) (by decide +kernel) (by decide +kernel) (by decide +kernel) (by decide +kernel) (by decide +kernel) (by decide +kernel))
  have f4 : Txt.find (Str.ofString "-r") (Txt.item (fmode k) 4) = _ := (congrArg _ i4).trans (find1 4 k 5 32 (Str.ofString "r") (Str.ofString "-r") (by decide +kernel) (by decide +kernel) (by decide +kernel) (by decide +kernel))
  have f5 : Txt.find (Str.ofString "-w") (Txt.item (fmode k) 5) = _ := (congrArg _ i5).trans (find1 5 k 4 16 (Str.ofString "w") (Str.ofString "-w") (by decide +kernel) (by decide +kernel) (by decide +kernel) (by decide +kernel))
  have f6 : Txt.find (Str.ofString "-xSs") (Txt.item (fmode k) 6) = _ := (congrArg _ i6).trans (find2 6 k 10 3 1032 1024 8 (Str.ofString "s") (Str.ofString "S") (Str.ofString "x") (Str.ofString "-xSs") (by decide +kernel) (by decide +kernel) (by decide +kernel) (by decide +kernel) (by decide +kernel) (by decide +kernel) (by decide +kernel) (by decide +kernel))
  have f7 : Txt.find (Str.ofString "-r") (Txt.item (fmode k) 7) = _ := (congrArg _ i7).trans (find1 7 k 2 4 (Str.ofString "r") (Str.ofString "-r") (by decide +kernel) (by decide +kernel) (by decide +kernel) (by decide +kernel))
  have f8 : Txt.find (Str.ofString "-w") (Txt.item (fmode k) 8) = _ := (congrArg _ i8).trans (find1 8 k 1 2 (Str.ofString "w") (Str.ofString "-w") (by decide +kernel) (by decide +kernel) (by decide +kernel) (by decide +kernel))
  have f9 : Txt.find (Str.ofString "-xTt") (Txt.item (fmode k) 9) = _ := (congrArg _ i9).trans (find2 9 k 9 0 513 512 1 (Str.ofString "t") (Str.ofString "T") (Str.ofString "x") (Str.ofString "-xTt") (by decide +kernel) (by decide +kernel) (by decide +kernel) (by decide +kernel) (by decide +kernel) (by decide +kernel) (by decide +kernel) (by decide +kernel))
  unfold figs bits
  rw [f1, f2, f3, f4, f5, f6, f7, f8, f9]
  have d2 : ∀ a b : Nat, (((2 * (a % 2) + b % 2 : Nat) : Int).fdiv 2) = ((a % 2 : Nat) : Int) := fun a b => by rw [Int.fdiv_eq_ediv_of_nonneg _ (by decide)]; omega
  have m2 : ∀ a b : Nat, (((2 * (a % 2) + b % 2 : Nat) : Int).fmod 2) = ((b % 2 : Nat) : Int) := fun a b => by rw [Int.fmod_eq_emod_of_nonneg _ (by decide)]; omega
  rw [d2, d2, d2, m2, m2, m2]
theorem type_sign (k : Nat) (h : k < 65536) : Txt.item (fmode (k : Int)) 0 = Txt.item (Str.ofString "?pc?d?b?-?l?s???") ((k : Int).fdiv 4096) := by
  have i0 : Txt.item (fmode k) 0 = _ := item_at k 0 (by decide)
  have e : Builtin.bitAnd (k : Int) 61440 = ((4096 * (k / 4096) : Nat) : Int) := by rw [← and_high k h]; exact and_nat k 61440
  have q : (k : Int).fdiv 4096 = ((k / 4096 : Nat) : Int) := by rw [Int.fdiv_eq_ediv_of_nonneg _ (by decide)]; rfl
  have hq : k / 4096 < 16 := by omega
  rw [i0, q]
  show pick 0 (k : Int) _ = _
  simp only [pick, hits, if_true, e]
  generalize k / 4096 = z at hq
  match z, hq with
  | 0, _ => decide
  | 1, _ => decide
  | 2, _ => decide
  | 3, _ => decide
  | 4, _ => decide
  | 5, _ => decide
  | 6, _ => decide
  | 7, _ => decide
  | 8, _ => decide
  | 9, _ => decide
  | 10, _ => decide
  | 11, _ => decide
  | 12, _ => decide
  | 13, _ => decide
  | 14, _ => decide
  | 15, _ => decide
  | _ + 16, h => omega
end Mine
end
section
open PySem PySem.W PyProof.Rows PySem.Calls
set_option Elab.async false
set_option maxRecDepth 100000
namespace Mine
def val : List Int → Int
  | [] => 0
  | x :: xs => x * 2 ^ xs.length + val xs
def Bits (xs : List Int) : Prop := ∀ x ∈ xs, x = 0 ∨ x = 1
theorem val_in : ∀ {xs : List Int}, Bits xs → 0 ≤ val xs ∧ val xs < 2 ^ xs.length
  | [], _ => ⟨Int.le_refl _, by decide⟩
  | x :: xs, h => by
    obtain ⟨h1, h2⟩ := val_in (xs := xs) fun y hy => h y (.tail _ hy)
    have e : (2 : Int) ^ (x :: xs).length = 2 * 2 ^ xs.length := by rw [List.length_cons, Int.pow_succ]; omega
    rw [e, val]
    generalize (2 : Int) ^ xs.length = P at *
    rcases h x (.head _) with rfl | rfl
    · omega
    · omega
theorem val_lex : ∀ {xs ys : List Int} {j : Nat}, Bits xs → Bits ys → xs.length = ys.length → (∀ i, i < j → xs[i]? = ys[i]?) → xs[j]? = some 0 → ys[j]? = some 1 → val xs < val ys
  | [], _, _, _, _, _, _, h, _ => by simp at h
  | _ :: _, [], _, _, _, _, _, _, h => by simp at h
  | x :: xs, y :: ys, j, bx, by', hl, ha, hx, hy => by
    have hl' : xs.length = ys.length := by simpa using hl
    cases j with
    | zero =>
      have ex : x = 0 := by simpa using hx
      have ey : y = 1 := by simpa using hy
      subst ex ey
      have a := (val_in (xs := xs) fun z hz => bx z (.tail _ hz)).2
      have b := (val_in (xs := ys) fun z hz => by' z (.tail _ hz)).1
      rw [val, val, ← hl']
      generalize (2 : Int) ^ xs.length = P at *
      omega
    | succ j =>
      have e : x = y := by simpa using ha 0 (by omega)
      subst e
      have r := val_lex (xs := xs) (ys := ys) (j := j) (fun z hz => bx z (.tail _ hz)) (fun z hz => by' z (.tail _ hz)) hl' (fun i hi => by simpa using ha (i + 1) (by omega)) (by simpa using hx) (by simpa using hy)
      rw [val, val, ← hl']
      omega
theorem bits_Bits (k : Nat) : Bits (bits k) := by
  intro x hx
  simp only [bits, List.mem_cons, List.not_mem_nil, or_false] at hx
  omega
theorem bits_len (k : Nat) : (bits k).length = 12 := rfl
theorem step_val (k a b : Nat) (h : b = 2 * a) : k % b = a * (k / a % 2) + k % a := by
  subst h
  rw [Nat.mul_comm 2 a, Nat.mod_mul]; omega
theorem val_bits (k : Nat) : val (bits k) = ((k % 4096 : Nat) : Int) := by
  have h1 := step_val k 2048 4096 rfl
  have h2 := step_val k 1024 2048 rfl
  have h3 := step_val k 512 1024 rfl
  have h4 := step_val k 256 512 rfl
  have h5 := step_val k 128 256 rfl
  have h6 := step_val k 64 128 rfl
  have h7 := step_val k 32 64 rfl
  have h8 := step_val k 16 32 rfl
  have h9 := step_val k 8 16 rfl
  have ha := step_val k 4 8 rfl
  have hb := step_val k 2 4 rfl
  have hc := step_val k 1 2 rfl
  have hd : k % 1 = 0 := Nat.mod_one k
  simp only [bits, val, List.length_cons, List.length_nil]
  generalize k / 2048 % 2 = z1 at *
  generalize k / 1024 % 2 = z2 at *
  generalize k / 512 % 2 = z3 at *
  generalize k / 256 % 2 = z4 at *
  generalize k / 128 % 2 = z5 at *
  generalize k / 64 % 2 = z6 at *
  generalize k / 32 % 2 = z7 at *
  generalize k / 16 % 2 = z8 at *
  generalize k / 8 % 2 = z9 at *
  generalize k / 4 % 2 = za at *
  generalize k / 2 % 2 = zb at *
  generalize k / 1 % 2 = zc at *
  rw [h1, h2, h3, h4, h5, h6, h7, h8, h9, ha, hb, hc, hd]
  simp only [Int.natCast_add, Int.natCast_mul, Nat.zero_add, Nat.reduceAdd, Int.reducePow, Int.pow_zero, Int.pow_one]
  clear h1 h2 h3 h4 h5 h6 h7 h8 h9 ha hb hc hd
  omega
/-- the places at which two rows part -/
def parts (xs ys : List Int) (n : Nat) : List Nat := (List.range n).filter fun j => decide (xs[j]? ≠ ys[j]?)
theorem parts_succ_ne {xs ys : List Int} {n : Nat} (h : xs[n]? ≠ ys[n]?) : parts xs ys (n + 1) = parts xs ys n ++ [n] := by
  simp [parts, List.range_succ, List.filter_append, h]
theorem parts_succ_eq {xs ys : List Int} {n : Nat} (h : xs[n]? = ys[n]?) : parts xs ys (n + 1) = parts xs ys n := by
  simp [parts, List.range_succ, List.filter_append, h]
theorem parts_nil {xs ys : List Int} : ∀ {n : Nat}, parts xs ys n = [] → ∀ i, i < n → xs[i]? = ys[i]?
  | n, h, i, hi => by
    have := List.filter_eq_nil_iff.mp h i (List.mem_range.mpr hi)
    simpa using this
theorem parts_head {xs ys : List Int} : ∀ {n : Nat} {j : Nat} {r : List Nat}, parts xs ys n = j :: r → j < n ∧ xs[j]? ≠ ys[j]? ∧ ∀ i, i < j → xs[i]? = ys[i]?
  | 0, j, r, h => by simp [parts] at h
  | n + 1, j, r, h => by
    by_cases e : parts xs ys n = []
    · by_cases hn : xs[n]? = ys[n]?
      · rw [parts_succ_eq hn, e] at h; cases h
      · rw [parts_succ_ne hn, e] at h
        cases h
        exact ⟨Nat.lt_succ_self _, hn, parts_nil e⟩
    · obtain ⟨j', r', e'⟩ := List.exists_cons_of_ne_nil e
      have ih := parts_head e'
      have ej : j = j' := by
        by_cases hn : xs[n]? = ys[n]?
        · rw [parts_succ_eq hn, e'] at h; exact (List.cons.inj h).1.symm
        · rw [parts_succ_ne hn, e'] at h; exact (List.cons.inj h).1.symm
      subst ej
      exact ⟨Nat.lt_succ_of_lt ih.1, ih.2⟩
theorem parts_few (xs ys : List Int) (n : Nat) : (parts xs ys n).length ≤ n := by
  have := List.length_filter_le (fun j => decide (xs[j]? ≠ ys[j]?)) (List.range n)
  simpa [parts] using this
/-- no place parts them -/
theorem order_nil {p q : Nat} (h : parts (bits p) (bits q) 12 = []) : p % 4096 = q % 4096 := by
  have e : bits p = bits q := List.ext_getElem? fun i => by
    by_cases hi : i < 12
    · exact parts_nil h i hi
    · rw [List.getElem?_eq_none (by rw [bits_len]; omega), List.getElem?_eq_none (by rw [bits_len]; omega)]
  have a := val_bits p
  have b := val_bits q
  rw [e] at a
  omega
/-- the first place that parts them -/
theorem order_cons {p q j : Nat} {r : List Nat} (h : parts (bits p) (bits q) 12 = j :: r) : j < 12 ∧ ∃ b, (bits p)[j]? = some b ∧ ((b = 0 ∧ p % 4096 < q % 4096) ∨ (b = 1 ∧ q % 4096 < p % 4096)) := by
  obtain ⟨h1, h2, h3⟩ := parts_head h
  obtain ⟨a, ha⟩ : ∃ a, (bits p)[j]? = some a := ⟨_, List.getElem?_eq_getElem (by rw [bits_len]; exact h1)⟩
  obtain ⟨b, hb⟩ : ∃ a, (bits q)[j]? = some a := ⟨_, List.getElem?_eq_getElem (by rw [bits_len]; exact h1)⟩
  have ba := bits_Bits p a (List.mem_of_getElem? ha)
  have bb := bits_Bits q b (List.mem_of_getElem? hb)
  have vp := val_bits p
  have vq := val_bits q
  rw [ha, hb] at h2
  refine ⟨h1, a, ha, ?_⟩
  rcases ba with rfl | rfl <;> rcases bb with rfl | rfl
  · exact absurd rfl h2
  · have := val_lex (bits_Bits p) (bits_Bits q) rfl h3 ha hb
    omega
  · have := val_lex (bits_Bits q) (bits_Bits p) rfl (fun i hi => (h3 i hi).symm) hb ha
    omega
  · exact absurd rfl h2
theorem one_first {p : Nat} : (1 ∈ (bits p).take 4) ↔ 256 ≤ p % 4096 := by
  have : (bits p).take 4 = [((p / 2048 % 2 : Nat) : Int), ((p / 1024 % 2 : Nat) : Int), ((p / 512 % 2 : Nat) : Int), ((p / 256 % 2 : Nat) : Int)] := rfl
  rw [this]
  simp only [List.mem_cons, List.not_mem_nil, or_false]
  omega
theorem val_pos : ∀ {xs : List Int}, Bits xs → 1 ∈ xs → 0 < val xs
  | [], _, h => nomatch h
  | x :: xs, b, h => by
    have p : (0 : Int) < 2 ^ xs.length := Int.pow_pos (by decide)
    have r := val_in (xs := xs) fun z hz => b z (.tail _ hz)
    rw [val]
    rcases List.mem_cons.mp h with e | h
    · subst e; omega
    · have := val_pos (xs := xs) (fun z hz => b z (.tail _ hz)) h
      rcases b x (.head _) with rfl | rfl <;> omega
theorem val_zero : ∀ {xs : List Int}, Bits xs → 1 ∉ xs → val xs = 0
  | [], _, _ => rfl
  | x :: xs, b, h => by
    have e : x = 0 := by
      rcases b x (.head _) with e | e
      · exact e
      · subst e; exact absurd (List.mem_cons_self) h
    rw [val, val_zero (xs := xs) (fun z hz => b z (.tail _ hz)) fun z => h (.tail _ z), e]; omega
theorem one_any {p : Nat} : (1 ∈ bits p) ↔ p % 4096 ≠ 0 := by
  have v := val_bits p
  constructor
  · intro h e
    have := val_pos (bits_Bits p) h
    omega
  · intro h
    by_cases e : (1 : Int) ∈ bits p
    · exact e
    · have := val_zero (bits_Bits p) e
      omega
end Mine
end
section
open PySem PySem.W PyProof.Rows PySem.Spec PySem.Calls
set_option Elab.async false
set_option maxRecDepth 100000
namespace Mine
section
variable {prog : Program} {w : World} {A : Around} {h₀ : Heap} {L : Addr} {m : Str → Option Value} {env : Env} {ct elt : Expr} {x : Str} {scope : Scope} {cl : List (Str × Addr)} {s : Shared} {S : List (Addr × Obj) → Prop} {P : Nat → Value → Prop} {Fin : List Value → List (Addr × Obj) → Prop} {n : Nat} {news : List (Addr × Obj)}
/-- a comprehension by what holds of it -/
theorem comp_fold (R : Nat → List Value → List (Addr × Obj) → Prop) (h0 : R 0 [] news)
    (turn : ∀ i ys nw v I oI C oC D m₂ h tk (E' : Value → Shared → Prop), i < n → R i ys nw → P i v → LCg.NsObj oC m₂ → m₂ x = some v → Fr h₀ L h m → News h₀ L h ((I, oI) :: (C, oC) :: (D, LCg.lst ys) :: nw) → LCg.Off3 I C D nw → ((@Ne Nat I C) ∧ (@Ne Nat I D) ∧ (@Ne Nat C D)) →
      wpAny (model prog w) A (eval elt (compEnvC scope cl C env)) (LCg.CompEnd h₀ L m { s with heap := h, toks := tk } I oI C oC D (LCg.lst ys) S (fun y nw' => R (i + 1) (ys ++ [y]) nw')) E' { s with heap := h, toks := tk })
    (fin : ∀ ys nw, R n ys nw → Fin ys nw) : LCg.CompRest prog w A h₀ L m env elt x scope cl s S P Fin n 0 [] news := by
  have key : ∀ (j i : Nat) (ys : List Value) (nw : List (Addr × Obj)), i + j = n → R i ys nw → LCg.CompRest prog w A h₀ L m env elt x scope cl s S P Fin j i ys nw := by
    intro j
    induction j with
    | zero =>
      intro i ys nw hi hr
      have e : i = n := by omega
      subst e
      exact LCg.CompRest.zero (fin ys nw hr)
    | succ j ih =>
      intro i ys nw hi hr
      refine LCg.CompRest.succ ?_
      intro v I oI C oC D m₂ h tk E' hv hC hx F N off ne
      refine wpAny_mono (turn i ys nw v I oI C oC D m₂ h tk E' (by omega) hr hv hC hx F N off ne) (fun y s₂ hq => ?_) fun _ _ e => e
      obtain ⟨h', tk', nw', e, F', N', off', hS, hr'⟩ := hq
      exact ⟨h', tk', nw', e, F', N', off', hS, ih (i + 1) _ _ (by omega) hr'⟩
  exact key n 0 [] news (by omega) h0
/-- .. with a test -/
theorem comp_foldT (R : Nat → List Value → List (Addr × Obj) → Prop) (h0 : R 0 [] news)
    (turn : ∀ i ys nw v I oI C oC D m₂ h tk (E' : Value → Shared → Prop), i < n → R i ys nw → P i v → LCg.NsObj oC m₂ → m₂ x = some v → Fr h₀ L h m → News h₀ L h ((I, oI) :: (C, oC) :: (D, LCg.lst ys) :: nw) → LCg.Off3 I C D nw → ((@Ne Nat I C) ∧ (@Ne Nat I D) ∧ (@Ne Nat C D)) →
      wpAny (model prog w) A (isTrue ct (compEnvC scope cl C env) (eval ct (compEnvC scope cl C env))) (fun ok s' => if ok = true then
        wpAny (model prog w) A (eval elt (compEnvC scope cl C env)) (LCg.CompEnd h₀ L m { s with heap := h, toks := tk } I oI C oC D (LCg.lst ys) S (fun y nw' => R (i + 1) (ys ++ [y]) nw')) E' s'
        else LCg.CompEnd h₀ L m { s with heap := h, toks := tk } I oI C oC D (LCg.lst ys) S (fun _ nw' => R (i + 1) ys nw') Value.none s') E' { s with heap := h, toks := tk })
    (fin : ∀ ys nw, R n ys nw → Fin ys nw) : LCt.CompRestT prog w A h₀ L m env ct elt x scope cl s S P Fin n 0 [] news := by
  have key : ∀ (j i : Nat) (ys : List Value) (nw : List (Addr × Obj)), i + j = n → R i ys nw → LCt.CompRestT prog w A h₀ L m env ct elt x scope cl s S P Fin j i ys nw := by
    intro j
    induction j with
    | zero =>
      intro i ys nw hi hr
      have e : i = n := by omega
      subst e
      exact LCt.CompRestT.zero (fin ys nw hr)
    | succ j ih =>
      intro i ys nw hi hr
      refine LCt.CompRestT.succ ?_
      intro v I oI C oC D m₂ h tk E' hv hC hx F N off ne
      refine wpAny_mono (turn i ys nw v I oI C oC D m₂ h tk E' (by omega) hr hv hC hx F N off ne) (fun ok s₂ hq => ?_) fun _ _ e => e
      cases ok with
      | true =>
        simp only [if_true] at hq ⊢
        refine wpAny_mono hq (fun y s₃ hq => ?_) fun _ _ e => e
        obtain ⟨h', tk', nw', e, F', N', off', hS, hr'⟩ := hq
        exact ⟨h', tk', nw', e, F', N', off', hS, ih (i + 1) _ _ (by omega) hr'⟩
      | false =>
        simp only [Bool.false_eq_true, if_false] at hq ⊢
        obtain ⟨h', tk', nw', e, F', N', off', hS, hr'⟩ := hq
        exact ⟨h', tk', nw', e, F', N', off', hS, ih (i + 1) _ _ (by omega) hr'⟩
  exact key n 0 [] news (by omega) h0
/-- an element's end: the ledger as it was -/
def SameEnd (h₀ : Heap) (L : Addr) (m : Str → Option Value) (s₁ : Shared) (led : List (Addr × Obj)) (R : Value → Prop) (y : Value) (s₂ : Shared) : Prop :=
  ∃ h' tk, s₂ = { s₁ with heap := h', toks := tk } ∧ Fr h₀ L h' m ∧ News h₀ L h' led ∧ R y
theorem SameEnd.intro {s₁ : Shared} {led : List (Addr × Obj)} {R : Value → Prop} {y : Value} {h' : Heap} {tk : Nat} (F : Fr h₀ L h' m) (N : News h₀ L h' led) (r : R y) : SameEnd h₀ L m s₁ led R y { s₁ with heap := h', toks := tk } := ⟨h', tk, rfl, F, N, r⟩
theorem comp_same (R : Nat → List Value → Prop) (hS : S news) (h0 : R 0 [])
    (turn : ∀ i ys v I oI C oC D m₂ h tk (E' : Value → Shared → Prop), i < n → R i ys → P i v → LCg.NsObj oC m₂ → m₂ x = some v → Fr h₀ L h m → News h₀ L h ((I, oI) :: (C, oC) :: (D, LCg.lst ys) :: news) → LCg.Off3 I C D news → ((@Ne Nat I C) ∧ (@Ne Nat I D) ∧ (@Ne Nat C D)) →
      wpAny (model prog w) A (eval elt (compEnvC scope cl C env)) (SameEnd h₀ L m { s with heap := h, toks := tk } ((I, oI) :: (C, oC) :: (D, LCg.lst ys) :: news) (fun y => R (i + 1) (ys ++ [y]))) E' { s with heap := h, toks := tk })
    (fin : ∀ ys, R n ys → Fin ys news) : LCg.CompRest prog w A h₀ L m env elt x scope cl s S P Fin n 0 [] news := by
  refine comp_fold (fun i ys nw => nw = news ∧ R i ys) ⟨rfl, h0⟩ ?_ ?_
  · rintro i ys nw v I oI C oC D m₂ h tk E' hi ⟨rfl, hr⟩ hv hC hx F N off ne
    refine wpAny_mono (turn i ys v I oI C oC D m₂ h tk E' hi hr hv hC hx F N off ne) (fun y s₂ hq => ?_) fun _ _ e => e
    obtain ⟨h', tk', e, F', N', hr'⟩ := hq
    exact ⟨h', tk', nw, e, F', N', off, hS, rfl, hr'⟩
  · rintro ys nw ⟨rfl, hr⟩
    exact fin ys hr
/-- an element's end: one object more on the ledger -/
def GrowEnd (h₀ : Heap) (L : Addr) (m : Str → Option Value) (s₁ : Shared) (led : List (Addr × Obj)) (R : Value → Addr × Obj → Prop) (y : Value) (s₂ : Shared) : Prop :=
  ∃ h' tk p, s₂ = { s₁ with heap := h', toks := tk } ∧ Fr h₀ L h' m ∧ News h₀ L h' (p :: led) ∧ (∀ q ∈ led, p.1 ≠ q.1) ∧ R y p
theorem comp_grow (R : Nat → List Value → List (Addr × Obj) → Prop) (hS : ∀ fl, S (fl ++ news)) (h0 : R 0 [] [])
    (turn : ∀ i ys fl v I oI C oC D m₂ h tk (E' : Value → Shared → Prop), i < n → R i ys fl → P i v → LCg.NsObj oC m₂ → m₂ x = some v → Fr h₀ L h m → News h₀ L h ((I, oI) :: (C, oC) :: (D, LCg.lst ys) :: (fl ++ news)) → LCg.Off3 I C D (fl ++ news) → ((@Ne Nat I C) ∧ (@Ne Nat I D) ∧ (@Ne Nat C D)) →
      wpAny (model prog w) A (eval elt (compEnvC scope cl C env)) (GrowEnd h₀ L m { s with heap := h, toks := tk } ((I, oI) :: (C, oC) :: (D, LCg.lst ys) :: (fl ++ news)) (fun y p => R (i + 1) (ys ++ [y]) (p :: fl))) E' { s with heap := h, toks := tk })
    (fin : ∀ ys fl, R n ys fl → Fin ys (fl ++ news)) : LCg.CompRest prog w A h₀ L m env elt x scope cl s S P Fin n 0 [] news := by
  refine comp_fold (fun i ys nw => ∃ fl, nw = fl ++ news ∧ R i ys fl) ⟨[], rfl, h0⟩ ?_ ?_
  · rintro i ys nw v I oI C oC D m₂ h tk E' hi ⟨fl, rfl, hr⟩ hv hC hx F N off ne
    refine wpAny_mono (turn i ys fl v I oI C oC D m₂ h tk E' hi hr hv hC hx F N off ne) (fun y s₂ hq => ?_) fun _ _ e => e
    obtain ⟨h', tk', p, e, F', N', hp, hr'⟩ := hq
    refine ⟨h', tk', p :: (fl ++ news), e, F', fun q hq => N' q ?_, ⟨⟨hp _ (.head _), hp _ (.tail _ (.head _)), hp _ (.tail _ (.tail _ (.head _)))⟩, off⟩, hS (p :: fl), p :: fl, rfl, hr'⟩
    rcases List.mem_cons.mp hq with rfl | hq
    · exact .tail _ (.head _)
    · rcases List.mem_cons.mp hq with rfl | hq
      · exact .tail _ (.tail _ (.head _))
      · rcases List.mem_cons.mp hq with rfl | hq
        · exact .tail _ (.tail _ (.tail _ (.head _)))
        · rcases List.mem_cons.mp hq with rfl | hq
          · exact .head _
          · exact .tail _ (.tail _ (.tail _ (.tail _ hq)))
  · rintro ys nw ⟨fl, rfl, hr⟩
    exact fin ys fl hr
theorem comp_sameT (R : Nat → List Value → Prop) (hS : S news) (h0 : R 0 [])
    (turn : ∀ i ys v I oI C oC D m₂ h tk (E' : Value → Shared → Prop), i < n → R i ys → P i v → LCg.NsObj oC m₂ → m₂ x = some v → Fr h₀ L h m → News h₀ L h ((I, oI) :: (C, oC) :: (D, LCg.lst ys) :: news) → LCg.Off3 I C D news → ((@Ne Nat I C) ∧ (@Ne Nat I D) ∧ (@Ne Nat C D)) →
      wpAny (model prog w) A (isTrue ct (compEnvC scope cl C env) (eval ct (compEnvC scope cl C env))) (fun ok s' => if ok = true then
        wpAny (model prog w) A (eval elt (compEnvC scope cl C env)) (SameEnd h₀ L m { s with heap := h, toks := tk } ((I, oI) :: (C, oC) :: (D, LCg.lst ys) :: news) (fun y => R (i + 1) (ys ++ [y]))) E' s'
        else SameEnd h₀ L m { s with heap := h, toks := tk } ((I, oI) :: (C, oC) :: (D, LCg.lst ys) :: news) (fun _ => R (i + 1) ys) Value.none s') E' { s with heap := h, toks := tk })
    (fin : ∀ ys, R n ys → Fin ys news) : LCt.CompRestT prog w A h₀ L m env ct elt x scope cl s S P Fin n 0 [] news := by
  refine comp_foldT (fun i ys nw => nw = news ∧ R i ys) ⟨rfl, h0⟩ ?_ ?_
  · rintro i ys nw v I oI C oC D m₂ h tk E' hi ⟨rfl, hr⟩ hv hC hx F N off ne
    refine wpAny_mono (turn i ys v I oI C oC D m₂ h tk E' hi hr hv hC hx F N off ne) (fun ok s₂ hq => ?_) fun _ _ e => e
    cases ok with
    | true =>
      simp only [if_true] at hq ⊢
      refine wpAny_mono hq (fun y s₃ hq => ?_) fun _ _ e => e
      obtain ⟨h', tk', e, F', N', hr'⟩ := hq
      exact ⟨h', tk', nw, e, F', N', off, hS, rfl, hr'⟩
    | false =>
      simp only [Bool.false_eq_true, if_false] at hq ⊢
      obtain ⟨h', tk', e, F', N', hr'⟩ := hq
      exact ⟨h', tk', nw, e, F', N', off, hS, rfl, hr'⟩
  · rintro ys nw ⟨rfl, hr⟩
    exact fin ys hr
end
section
variable {prog : Program} {w : World} {A : Around} {E : Value → Shared → Prop} {s : Shared} {env : Env} {h₀ : Heap} {body : List Stmt} {Q : Flow → Shared → Prop}
/-- for over a range of the ledger or none; the ledger may turn -/
theorem range_inv {x : Str} {px : Pos} {r : Addr} {b : Int} {t u v : Tok} {n : Nat} {m₀ : Str → Option Value} {news : List (Addr × Obj)} (J : Nat → (Str → Option Value) → List (Addr × Obj) → Prop)
    (hh : A.handled = none) (hr : IsRange s.heap r 0 b 1 t u v) (hsm : Builtin.Range.small 0 b 1 = true) (hn : Builtin.Range.rangeSize 0 b 1 = ((n : Nat) : Int)) (F : Fr h₀ env.locals s.heap m₀) (N : News h₀ env.locals s.heap news) (hj : J 0 m₀ news)
    (turn : ∀ i t m₁ news₁ h tk own, i < n → news₁.map (·.1) = news.map (·.1) → OwnOff own (news.map (·.1)) → J i m₁ news₁ → Fr h₀ env.locals h m₁ → News h₀ env.locals h (news₁ ++ own) →
      wpAny (model prog w) A (assign (.Name x px) env (.int ((i : Nat) : Int) t)) (fun _ s₃ => wpAny (model prog w) A (execs body env) (InvPostN h₀ env.locals (J (i + 1)) own (news.map (·.1)) { s with heap := h, toks := tk } Q) E s₃) E { s with heap := h, toks := tk })
    (done : ∀ m₁ news₁ h tk, J n m₁ news₁ → Fr h₀ env.locals h m₁ → News h₀ env.locals h news₁ → Q .next { s with heap := h, toks := tk }) :
    wpAny (model prog w) A (pyIter (.ref r)) (fun it s₂ => TurnsAt prog w A h₀ env (.Name x px) body Q E it s₂) E s := by
  refine wpAny_pyIter_range hr hsm ?_
  have W := KTurns.ofWalks (target := Expr.Name x px) (LCg.range_walks (prog := prog) (w := w) (I := s.heap.objs.size) hh 0 n) fun i v s Q E st q => wpAny_pure q
  refine ⟨_, _, _, n, _, _, _, m₀, news, fun i m₁ news₁ => news₁.map (·.1) = news.map (·.1) ∧ J i m₁ news₁, rfl, W, ?_, ?_, ?_, (by show IsRangeIter _ _ _ _ _; rw [hn]; simpa using Heap.get?_push_size _ rfl), F.push _, (fun p hp => ⟨Heap.get?_push_of_some _ (N p hp).1, (N p hp).2⟩), ⟨rfl, hj⟩, ?_, ?_⟩
  · intro hm
    exact absurd F.ns.lt ((List.mem_singleton.mp hm) ▸ Nat.lt_irrefl _)
  · intro b hb
    rw [List.mem_singleton.mp hb]
    exact next_is_new F
  · intro p hp hI
    exact absurd (Heap.lt_size (N p hp).1) ((List.mem_singleton.mp hI) ▸ Nat.lt_irrefl _)
  · rintro i v m₁ news₁ h₁ tk₁ own hin ⟨t, rfl⟩ ⟨hadr, hJ⟩ hoff hown hget hall hst F₁ N₁
    have hsep : OwnOff own (news.map (·.1)) := by
      intro p hp b hb e
      obtain ⟨q, hq, rfl⟩ := List.mem_map.mp hb
      exact absurd (Heap.lt_size (N q hq).1) (by rw [← e, List.mem_singleton.mp (hown p hp)]; exact Nat.lt_irrefl _)
    have N₂ : News h₀ env.locals h₁ (news₁ ++ own) := fun p hp => N₁ p ((List.mem_append.mp hp).elim (fun h => List.mem_append.mpr (.inr h)) fun h => List.mem_append.mpr (.inl h))
    rw [Int.zero_add]
    refine wpAny_mono (turn i t m₁ news₁ h₁ tk₁ own hin hadr hsep hJ F₁ N₂) (fun _ s₂ h₂ => wpAny_mono h₂ (fun f s₃ p => ?_) fun _ _ e => e) fun _ _ e => e
    have fin : ∀ s₃, InvEndN h₀ env.locals (J (i + 1)) own (news.map (·.1)) { s with heap := h₁, toks := tk₁ } s₃ → LoopStepU h₀ env.locals [s.heap.objs.size] own (fun m' n' => n'.map (·.1) = news.map (·.1) ∧ J (i + 1) m' n') { s with heap := h₁, toks := tk₁ } .next s₃ := by
      rintro s₃ ⟨h'', tk, m', news', nx, e, F'', N'', hn, ho, ha, hm⟩
      refine ⟨rfl, h'', tk, m', nx, e, F'', fun p hp => N'' p ((List.mem_append.mp hp).elim (ho p) (hn p)), fun p hp hq => ?_, ha, hm⟩
      have h1 : p.1 ∈ nx.map (·.1) := List.mem_map.mpr ⟨p, hp, rfl⟩
      rw [ha, ← hadr] at h1
      obtain ⟨q, hq1, hq2⟩ := List.mem_map.mp h1
      exact hoff q hq1 (by rw [hq2]; exact hq)
    cases f with
    | ret v => exact .ret p
    | brk => exact .brk p
    | next => exact .next (fin _ p)
    | cont => exact .cont (fin _ p)
  · rintro h'' tk m' news' F'' N'' _ ⟨_, hJ⟩
    exact done m' news' h'' tk hJ F'' N''
end
end Mine
end
section
open PySem PySem.W PyProof.Rows PySem.Calls
set_option Elab.async false
set_option maxRecDepth 100000
namespace Mine
/-- the modes of a script -/
def modesOf (ns : List Int) : List Int := [255, 256] ++ (ns.take 8).map fun a => a.fmod 65536
theorem modes_low (ns : List Int) : 2 ≤ (modesOf ns).length := by simp [modesOf]
theorem modes_few (ns : List Int) : (modesOf ns).length ≤ 10 := by simp [modesOf]; omega
theorem modes_in (ns : List Int) : ∀ x ∈ modesOf ns, 0 ≤ x ∧ x < 65536 := by
  intro x hx
  rcases List.mem_append.mp hx with h | h
  · rcases List.mem_cons.mp h with rfl | h
    · omega
    · rw [List.mem_singleton.mp h]; omega
  · obtain ⟨a, _, rfl⟩ := List.mem_map.mp h
    exact ⟨Int.fmod_nonneg_of_pos _ (by decide), Int.fmod_lt_of_pos _ (by decide)⟩
theorem drop23 {a b c d e f : Addr × Obj} : ∀ p ∈ [a, d, e, f], p ∈ [a, b, c, d, e, f] := by
  intro p hp
  simp only [List.mem_cons, List.not_mem_nil, or_false] at hp ⊢
  rcases hp with h | h | h | h <;> simp [h]
theorem ints_fit {vs : List Value} {ns : List Int} (h : IntsAre vs (modesOf ns)) : vs.toArray.size ≤ sizeLine := by
  have e := IntsAre.length h
  have e2 := modes_few ns
  rw [List.size_toArray, e, sizeLine_eq]
  omega
theorem strs_at : ∀ {vs : List Value} {xs : List PySem.Str}, StrsAre vs xs → ∀ {i : Nat} {v : Value}, vs[i]? = some v → ∃ x t, v = .str x t ∧ xs[i]? = some x
  | _, _, .nil, i, v, h => by simp at h
  | _, _, .cons y t r, 0, v, h => ⟨y, t, by simpa using h.symm, by simp⟩
  | _, _, .cons y t r, i + 1, v, h => by
    obtain ⟨x, t', e, hx⟩ := strs_at r (i := i) (v := v) (by simpa using h)
    exact ⟨x, t', e, by simpa using hx⟩
theorem strs_ten {vs : List Value} {ms : List Int} {i : Nat} {v : Value} (h : StrsAre vs (ms.map fmode)) (hv : vs[i]? = some v) : ∃ x t, v = Value.str x t ∧ x.length = 10 := by
  obtain ⟨x, t, e, hx⟩ := strs_at h hv
  obtain ⟨n, _, rfl⟩ := List.mem_map.mp (List.mem_of_getElem? hx)
  exact ⟨_, t, e, fmode_len n⟩
/-- the list of the rows' figures, as the ledger bears it -/
def FigsAt (ys : List Value) (fl : List (Addr × Obj)) (nss : List (List Int)) : Prop :=
  ys.length = nss.length ∧ ∀ (j : Nat) (ns : List Int), nss[j]? = some ns → ∃ (l : Addr) (vs : List Value) (k : Nat), ys[j]? = some (Value.ref l) ∧ (l, W.listOf (List.toArray vs) k) ∈ fl ∧ IntsAre vs ns
theorem sub_figs {a x y c d e f g : Addr × Obj} {fl : List (Addr × Obj)} : ∀ p ∈ a :: c :: d :: e :: f :: g :: fl, p ∈ a :: (fl ++ [x, y, c, d, e, f, g]) := by
  intro p hp
  simp only [List.mem_cons, List.mem_append, List.not_mem_nil, or_false] at hp ⊢
  rcases hp with h | h | h | h | h | h | h <;> simp [h]
theorem off1_mem {D : Addr} : ∀ {l : List (Addr × Obj)}, LCg.Off1 D l → ∀ p ∈ l, @Ne Nat p.1 D
  | [], _, _, h => nomatch h
  | _ :: _, x, p, h => by
    rcases List.mem_cons.mp h with rfl | h
    · exact x.1
    · exact off1_mem x.2 p h
/-- lists are no cells -/
theorem fl_off {h₀ h : Heap} {L : Addr} {news fl : List (Addr × Obj)} {adr : List Addr} (N : News h₀ L h news) (hf : ∀ p ∈ fl, p ∈ news) (hc : ∀ b ∈ adr, ∃ o, (b, o) ∈ news ∧ ∃ v, o.data = .cell v) (hl : ∀ p ∈ fl, ∃ its k, p.2 = W.listOf its k) : OwnOff fl adr := by
  intro p hp b hb e
  obtain ⟨o, ho, v, hv⟩ := hc b hb
  have h1 := (N p (hf p hp)).1
  have h2 := (N _ ho).1
  rw [e] at h1
  have e2 : p.2 = o := Option.some.inj (h1.symm.trans h2)
  obtain ⟨its, k, e3⟩ := hl p hp
  rw [← e2, e3] at hv
  cases hv
theorem FigsAt.nil : FigsAt [] [] [] := ⟨rfl, fun j ns h => by simp at h⟩
theorem FigsAt.snoc {ys : List Value} {fl : List (Addr × Obj)} {nss : List (List Int)} {l : Addr} {vs : List Value} {k : Nat} {ns : List Int} (h : FigsAt ys fl nss) (hi : IntsAre vs ns) : FigsAt (ys ++ [.ref l]) ((l, W.listOf vs.toArray k) :: fl) (nss ++ [ns]) := by
  refine ⟨by simp [h.1], fun j n hn => ?_⟩
  by_cases hj : j < nss.length
  · rw [List.getElem?_append_left hj] at hn
    obtain ⟨l', vs', k', e1, e2, e3⟩ := h.2 j n hn
    exact ⟨l', vs', k', by rw [List.getElem?_append_left (by rw [h.1]; exact hj)]; exact e1, .tail _ e2, e3⟩
  · rw [List.getElem?_append_right (Nat.not_lt.mp hj)] at hn
    have e0 : j - nss.length = 0 := by
      cases e : j - nss.length with
      | zero => rfl
      | succ q => rw [e] at hn; simp at hn
    rw [e0] at hn
    have e : ns = n := by simpa using hn
    subst e
    refine ⟨l, vs, k, ?_, .head _, hi⟩
    rw [List.getElem?_append_right (by rw [h.1]; exact Nat.not_lt.mp hj), h.1, e0]; rfl
section
variable {prog : Program} {w : World} {A : Around} {E : Value → Shared → Prop} {s : Shared} {h₀ : Heap} {L : Addr} {m : Str → Option Value} {news : List (Addr × Obj)}
theorem add_ints {l b : Addr} {its its2 : Array Value} {ns ms : List Int} {keep : List (Addr × Obj)} {Q : Value → Shared → Prop} (F : Fr h₀ L s.heap m) (N : News h₀ L s.heap news) (hl : s.heap.IsList l its) (hb : s.heap.IsList b its2)
    (hi : IntsAre its.toList ns) (hj : IntsAre its2.toList ms) (hk : ∀ p ∈ keep, p ∈ news)
    (h : ∀ M vs h', (∀ p ∈ keep, p.1 < M) → Fr h₀ L h' m → News h₀ L h' ((M, W.listOf (List.toArray vs) 0) :: keep) → IntsAre vs (ns ++ ms) → Q (.ref M) { s with heap := h' })
    (hsz : ns.length + ms.length ≤ sizeLine) :
    wpAny (model prog w) A (binaryOp .Add (.ref l) (.ref b)) Q E s :=
  add_arrays_ints F N hl hb hi hj (fun h' F' N' hI => h _ _ h' (fun p hp => Heap.lt_size (N p (hk p hp)).1) F' (fun p hp => N' p (by
    rcases List.mem_cons.mp hp with rfl | hp
    · exact .head _
    · exact .tail _ (hk p hp))) hI) hsz
theorem grow_end {s₁ : Shared} {led : List (Addr × Obj)} {R : Value → Addr × Obj → Prop} {l : Addr} {o : Obj} {h h' : Heap} {tk : Nat} (F : Fr h₀ L h m) (N : News h₀ L h led)
    (hk : ∀ b o, h.get? b = some o → h'.get? b = some o) (hg : h'.get? l = some o) (hn : h.get? l = none) (r : R (.ref l) (l, o)) : GrowEnd h₀ L m s₁ led R (.ref l) { s₁ with heap := h', toks := tk } := by
  refine ⟨h', tk, (l, o), rfl, F.keeps hk, fun p hp => ?_, fun q hq e => ?_, r⟩
  · rcases List.mem_cons.mp hp with rfl | hp
    · refine ⟨hg, fun e => ?_, ?_⟩
      · obtain ⟨oL, _, _, hL, _⟩ := F.ns
        have e' : l = L := e
        rw [e', hL] at hn; cases hn
      · cases e : h₀.get? l with
        | none => rfl
        | some o' => rw [F.keep _ _ e] at hn; cases hn
    · exact (N.grown hk) p hp
  · have e' : l = q.1 := e
    rw [e', (N q hq).1] at hn; cases hn
end
end Mine
end
section
open PySem PySem.W PyProof.Rows PySem.Calls
set_option Elab.async false
set_option maxRecDepth 100000
namespace Mine
section
variable {prog : Program} {w : World} {A : Around} {E : Value → Shared → Prop} {s : Shared} {env : Env} {h₀ : Heap} {body : List Stmt} {Q : Flow → Shared → Prop}
/-- what the loop keeps -/
def LoopJ (na nb : Str) (M Dr : Addr) (front : List (Addr × Obj)) (c3 c2 : Addr) (back : List (Addr × Obj)) (m : Str → Option Value) (news : List (Addr × Obj)) : Prop :=
  m na = some (.ref M) ∧ m nb = some (.ref Dr) ∧ ∃ o3 o2 v3 v2, o3.data = Data.cell v3 ∧ o2.data = Data.cell v2 ∧ news = front ++ (c3, o3) :: (c2, o2) :: back
theorem two_names {na nb : Str} {m : Str → Option Value} {a b : Value} (h1 : m na = some a) (h2 : m nb = some b) : m = fun z => if z = na then some a else if z = nb then some b else m z := by
  funext z
  split
  · rename_i q; rw [q, h1]
  · split
    · rename_i q; rw [q, h2]
    · rfl
theorem loop_go {x : Str} {px : Pos} {r : Addr} {b : Int} {t u v : Tok} {n : Nat} {m₀ : Str → Option Value} {D9 Dr M c3 c2 c1 : Addr} {a9 ar am o3 o2 o1 : Obj} {fl : List (Addr × Obj)} {v3 v2 : Option Value} (na nb : Str)
    (hr : IsRange s.heap r 0 b 1 t u v) (F : Fr h₀ env.locals s.heap m₀) (N : News h₀ env.locals s.heap ((D9, a9) :: (Dr, ar) :: (M, am) :: (c3, o3) :: (c2, o2) :: (c1, o1) :: fl))
    (h3 : o3.data = Data.cell v3) (h2 : o2.data = Data.cell v2) (hna : m₀ na = some (.ref M)) (hnb : m₀ nb = some (.ref Dr))
    (hh : A.handled = none) (hsm : Builtin.Range.small 0 b 1 = true) (hn : Builtin.Range.rangeSize 0 b 1 = ((n : Nat) : Int))
    (turn : ∀ i t (m₁ : Str → Option Value) o3 o2 v3 v2 h tk own, i < n → OwnOff own (D9 :: Dr :: M :: c3 :: c2 :: c1 :: fl.map (·.1)) → o3.data = Data.cell v3 → o2.data = Data.cell v2 →
      Fr h₀ env.locals h (fun z => if z = na then some (.ref M) else if z = nb then some (.ref Dr) else m₁ z) → News h₀ env.locals h ((D9, a9) :: (Dr, ar) :: (M, am) :: (c3, o3) :: (c2, o2) :: (c1, o1) :: (fl ++ own)) →
      wpAny (model prog w) A (assign (.Name x px) env (.int ((i : Nat) : Int) t)) (fun _ s₃ => wpAny (model prog w) A (execs body env)
        (InvPostN h₀ env.locals (LoopJ na nb M Dr [(D9, a9), (Dr, ar), (M, am)] c3 c2 ((c1, o1) :: fl)) own (D9 :: Dr :: M :: c3 :: c2 :: c1 :: fl.map (·.1)) { s with heap := h, toks := tk } Q) E s₃) E { s with heap := h, toks := tk })
    (done : ∀ m₁ news₁ h tk, Fr h₀ env.locals h m₁ → News h₀ env.locals h news₁ → Q .next { s with heap := h, toks := tk }) :
    wpAny (model prog w) A (pyIter (.ref r)) (fun it s₂ => TurnsAt prog w A h₀ env (.Name x px) body Q E it s₂) E s := by
  refine range_inv (fun _ => LoopJ na nb M Dr [(D9, a9), (Dr, ar), (M, am)] c3 c2 ((c1, o1) :: fl)) hh hr hsm hn F N ⟨hna, hnb, o3, o2, v3, v2, h3, h2, rfl⟩ ?_ ?_
  · rintro i t m₁ news₁ h tk own hi hadr hoff ⟨ha, hb, o3', o2', v3', v2', h3', h2', rfl⟩ F₁ N₁
    rw [two_names ha hb] at F₁
    exact turn i t m₁ o3' o2' v3' v2' h tk own hi hoff h3' h2' F₁ N₁
  · intro m₁ news₁ h tk _ F₁ N₁
    exact done m₁ news₁ h tk F₁ N₁
/-- a turn's end -/
theorem turn_end {na nb : Str} {m' : Str → Option Value} {own news' fl : List (Addr × Obj)} {D9 Dr M c3 c2 c1 : Addr} {a9 ar am o3 o2 o1 : Obj} {v3 v2 : Option Value} {s₁ : Shared} {h' : Heap} {tk : Nat} {L : Addr} (F : Fr h₀ L h' m') (N : News h₀ L h' news')
    (hna : m' na = some (.ref M)) (hnb : m' nb = some (.ref Dr)) (h3 : o3.data = Data.cell v3) (h2 : o2.data = Data.cell v2)
    (m1 : (D9, a9) ∈ news') (m2 : (Dr, ar) ∈ news') (m3 : (M, am) ∈ news') (m4 : (c3, o3) ∈ news') (m5 : (c2, o2) ∈ news') (m6 : (c1, o1) ∈ news') (m7 : ∀ p ∈ fl ++ own, p ∈ news') :
    InvEndN h₀ L (LoopJ na nb M Dr [(D9, a9), (Dr, ar), (M, am)] c3 c2 ((c1, o1) :: fl)) own (D9 :: Dr :: M :: c3 :: c2 :: c1 :: fl.map (·.1)) s₁ { s₁ with heap := h', toks := tk } := by
  refine InvEndN.intro (nx := (D9, a9) :: (Dr, ar) :: (M, am) :: (c3, o3) :: (c2, o2) :: (c1, o1) :: fl) F N ⟨hna, hnb, o3, o2, v3, v2, h3, h2, rfl⟩ (by simp) ?_ (fun p hp => m7 p (List.mem_append_right _ hp))
  intro p hp
  simp only [List.mem_cons] at hp
  rcases hp with rfl | rfl | rfl | rfl | rfl | rfl | hp
  · exact m1
  · exact m2
  · exact m3
  · exact m4
  · exact m5
  · exact m6
  · exact m7 p (List.mem_append_left _ hp)
end
end Mine
end
section
open PySem PySem.W PyProof.Rows PySem.Calls
set_option Elab.async false
set_option maxRecDepth 100000
namespace Mine
theorem strs_get : ∀ {vs : List Value} {xs : List PySem.Str}, StrsAre vs xs → ∀ {i : Nat} {x : PySem.Str}, xs[i]? = some x → ∃ t, vs[i]? = some (.str x t)
  | _, _, .nil, i, v, h => by simp at h
  | _, _, .cons y t r, 0, v, h => ⟨t, by simpa using h⟩
  | _, _, .cons y t r, i + 1, v, h => by
    obtain ⟨t', e⟩ := strs_get r (i := i) (x := v) (by simpa using h)
    exact ⟨t', by simpa using e⟩
/-- all that the lists hold at a place -/
theorem at_all {vs ys zs : List Value} {fl : List (Addr × Obj)} {ms : List Int} {i : Nat} (hI : IntsAre vs ms) (hys : StrsAre ys (ms.map fmode)) (hR : FigsAt zs fl (ms.map fun n => figs (fmode n))) (hin : ∀ x ∈ ms, 0 ≤ x ∧ x < 65536) (hi : i < ms.length) :
    ∃ (p : Nat) (tp ty : Tok) (lp : Addr) (us : List Value) (kp : Nat), p < 65536 ∧ vs[i]? = some (.int (p : Int) tp) ∧ ys[i]? = some (.str (fmode (p : Int)) ty) ∧ zs[i]? = some (.ref lp) ∧ (lp, W.listOf us.toArray kp) ∈ fl ∧ IntsAre us (bits p) := by
  obtain ⟨n, hn⟩ : ∃ n, ms[i]? = some n := ⟨_, List.getElem?_eq_getElem hi⟩
  obtain ⟨h0, h1⟩ := hin n (List.mem_of_getElem? hn)
  obtain ⟨p, rfl⟩ : ∃ p : Nat, n = (p : Int) := ⟨n.toNat, by omega⟩
  obtain ⟨tp, e1⟩ := hI.get i _ hn
  obtain ⟨ty, e2⟩ := strs_get hys (i := i) (x := fmode p) (by rw [List.getElem?_map, hn]; rfl)
  obtain ⟨l, us, k, e3, e4, e5⟩ := hR.2 i (figs (fmode p)) (by rw [List.getElem?_map, hn]; rfl)
  rw [figs_bits] at e5
  exact ⟨p, tp, ty, l, us, k, by omega, e1, e2, e3, e4, e5⟩
theorem range_small_of {n : Nat} (h : n ≤ 10) : Builtin.Range.small 0 (n : Int) 1 = true := by
  match n, h with
  | 0, _ => decide
  | 1, _ => decide
  | 2, _ => decide
  | 3, _ => decide
  | 4, _ => decide
  | 5, _ => decide
  | 6, _ => decide
  | 7, _ => decide
  | 8, _ => decide
  | 9, _ => decide
  | 10, _ => decide
  | _ + 11, h => omega
theorem range_size_of {n : Nat} (h : n ≤ 10) : Builtin.Range.rangeSize 0 (n : Int) 1 = ((n : Nat) : Int) := by
  match n, h with
  | 0, _ => decide
  | 1, _ => decide
  | 2, _ => decide
  | 3, _ => decide
  | 4, _ => decide
  | 5, _ => decide
  | 6, _ => decide
  | 7, _ => decide
  | 8, _ => decide
  | 9, _ => decide
  | 10, _ => decide
  | _ + 11, h => omega
theorem sub_turn {a b c d e f x y : Addr × Obj} {fl own : List (Addr × Obj)} (hx : x ∈ fl) (hy : y ∈ fl) : ∀ p ∈ x :: y :: a :: b :: c :: d :: e :: f :: (fl ++ own), p ∈ a :: b :: c :: d :: e :: f :: (fl ++ own) := by
  intro p hp
  simp only [List.mem_cons, List.mem_append] at hp ⊢
  rcases hp with rfl | rfl | h | h | h | h | h | h | h | h <;> simp [*]
theorem off_tail {fl own : List (Addr × Obj)} {D9 Dr M c3 c2 c1 : Addr} {r : List Addr} (h : OwnOff fl [c3, c2, c1]) (h' : OwnOff own (D9 :: Dr :: M :: c3 :: c2 :: c1 :: r)) : OwnOff (fl ++ own) [c3, c2, c1] := by
  intro p hp b hb
  rcases List.mem_append.mp hp with hp | hp
  · exact h p hp b hb
  · refine h' p hp b ?_
    simp only [List.mem_cons, List.not_mem_nil, or_false] at hb ⊢
    rcases hb with h | h | h <;> simp [h]
theorem fdiv_in {p : Nat} (h : p < 65536) : 0 ≤ (p : Int).fdiv 4096 ∧ (p : Int).fdiv 4096 < 16 := by
  rw [Int.fdiv_eq_ediv_of_nonneg _ (by decide)]; omega
/-- what a turn of the places reads -/
theorem bits_at {us : List Value} {p i : Nat} (h : IntsAre us (bits p)) (hi : i < 12) : ∃ b t, us[i]? = some (.int b t) ∧ (bits p)[i]? = some b := by
  obtain ⟨b, hb⟩ : ∃ b, (bits p)[i]? = some b := ⟨_, List.getElem?_eq_getElem (by rw [bits_len]; exact hi)⟩
  obtain ⟨t, e⟩ := h.get i _ hb
  exact ⟨b, t, e, hb⟩
theorem ints_snoc : ∀ {vs : List Value} {ns : List Int} {k : Int} {t : Tok}, IntsAre vs ns → IntsAre (vs ++ [.int k t]) (ns ++ [k])
  | _, _, _, _, .nil => .cons _ _ .nil
  | _, _, _, _, .cons _ _ r => .cons _ _ (ints_snoc r)
/-- the places parted so far -/
def PartsAre (p q i : Nat) (ys : List Value) : Prop := IntsAre ys ((parts (bits p) (bits q) i).map fun (j : Nat) => (j : Int))
theorem PartsAre.nil {p q : Nat} : PartsAre p q 0 [] := IntsAre.nil
theorem PartsAre.more {p q i : Nat} {ys : List Value} {a b : Int} {t : Tok} (h : PartsAre p q i ys) (ha : (bits p)[i]? = some a) (hb : (bits q)[i]? = some b) (hne : ¬ a = b) : PartsAre p q (i + 1) (ys ++ [.int (i : Int) t]) := by
  unfold PartsAre
  rw [parts_succ_ne (by rw [ha, hb]; simpa using hne), List.map_append]
  exact ints_snoc h
theorem PartsAre.same {p q i : Nat} {ys : List Value} {a b : Int} (h : PartsAre p q i ys) (ha : (bits p)[i]? = some a) (hb : (bits q)[i]? = some b) (he : a = b) : PartsAre p q (i + 1) ys := by
  unfold PartsAre
  rw [parts_succ_eq (by rw [ha, hb, he])]
  exact h
theorem parts_cases {p q : Nat} {ys : List Value} (h : PartsAre p q 12 ys) : (ys = [] ∧ p % 4096 = q % 4096) ∨ ∃ (j : Nat) (t : Tok) (r : List Value) (b : Int), ys = .int (j : Int) t :: r ∧ j < 12 ∧ (bits p)[j]? = some b ∧ ((b = 0 ∧ p % 4096 < q % 4096) ∨ (b = 1 ∧ q % 4096 < p % 4096)) := by
  unfold PartsAre at h
  cases e : parts (bits p) (bits q) 12 with
  | nil =>
    rw [e] at h
    cases h
    exact .inl ⟨rfl, order_nil e⟩
  | cons j r =>
    rw [e] at h
    obtain ⟨hj, b, hb, hc⟩ := order_cons e
    cases h with
    | cons k t h => exact .inr ⟨j, t, _, b, rfl, hj, hb, hc⟩
theorem PartsAre.few {p q : Nat} {ys : List Value} (h : PartsAre p q 12 ys) : ys.length ≤ 12 := by
  have e := IntsAre.length h
  rw [List.length_map] at e
  rw [e]
  exact parts_few _ _ _
theorem prev_at {i n : Nat} (hi : i < n) : ∃ j, j < n ∧ ((i : Int) - 1 = (j : Int) ∨ (i : Int) - 1 + (n : Int) = (j : Int)) := by
  by_cases h : i = 0
  · exact ⟨n - 1, by omega, .inr (by omega)⟩
  · exact ⟨i - 1, by omega, .inl (by omega)⟩
theorem IntsAre.bits_len {us : List Value} {p : Nat} (h : IntsAre us (bits p)) : us.length = 12 := IntsAre.length h
theorem any_one (ns : List Int) : ns.any (· == 1) = decide (1 ∈ ns) := by
  rw [Bool.eq_iff_iff]
  simp
section
variable {prog : Program} {w : World} {A : Around} {E : Value → Shared → Prop} {s : Shared} {h₀ : Heap} {L : Addr} {m : Str → Option Value} {news : List (Addr × Obj)} {Q : Value → Shared → Prop}
/-- a value once for all ways -/
theorem cut_val {t : Sem Value} {v : Value} (F : Fr h₀ L s.heap m) (N : News h₀ L s.heap news) (h1 : wpAny (model prog w) A t (SameEnd h₀ L m s news (fun y => y = v)) E s)
    (h2 : ∀ h' tk, Fr h₀ L h' m → News h₀ L h' news → Q v { s with heap := h', toks := tk }) : wpAny (model prog w) A t Q E s :=
  wpAny_mono h1 (fun y s₂ hq => by
    obtain ⟨h', tk, e, F', N', rfl⟩ := hq
    subst e
    exact h2 h' tk F' N') fun _ _ e => e
/-- an item of a list of the ledger, from either end -/
theorem sub_led {value slice : PySem.Expr} {a : Addr} {lo : Obj} {l : List Value} {c j : Nat} {k : Int} {u : Tok} {x : Value} (N : News h₀ L s.heap news) (hm : (a, lo) ∈ news) (hc : lo.cls = .type "list") (hd : lo.data = .seq l.toArray c)
    (hx : l[j]? = some x) (hlen : l.length ≤ 1000000) (hk : k = (j : Int) ∨ k + (l.length : Int) = (j : Int)) (h : Q x s)
    (hs : subscripted slice false (.ref a) (.int k u) = operate [.ref a, .int k u] (getItem (.ref a) (.int k u)) := by with_unfolding_all rfl) :
    wpAny (model prog w) A (subscriptTail value slice (.ref a) (.int k u)) Q E s := by
  have hl : s.heap.IsList a l.toArray := ⟨lo, (N _ hm).1, hc, c, hd⟩
  have hj : j < l.length := by
    rcases Nat.lt_or_ge j l.length with h | h
    · exact h
    · rw [List.getElem?_eq_none h] at hx; cases hx
  rcases hk with rfl | hk
  · exact tail_any hl.typeIs slot_list_getitem.lookup (wpAny_getItem_list hl (by omega) (by omega) (by simpa using hx) h) hs
  · exact tail_any hl.typeIs slot_list_getitem.lookup (wpAny_getItem_list_neg hl (by omega) (by rw [List.size_toArray]; omega) (by omega) (by rw [List.size_toArray, hk]; simpa using hx) h) hs
theorem bits_low {p : Nat} {x : Int} (h : x ∈ bits p) : 0 ≤ x := by
  rcases bits_Bits p x h with rfl | rfl <;> decide
/-- the least of the bits is no less than zero -/
theorem min_bits {l : Addr} {lo : Obj} {us : List Value} {c p : Nat} (F : Fr h₀ L s.heap m) (N : News h₀ L s.heap news) (hm : (l, lo) ∈ news) (hc : lo.cls = .type "list") (hd : lo.data = .seq us.toArray c) (hi : IntsAre us (bits p)) (hh : A.handled = none)
    (h : ∀ h' M (t : Tok) tk, Fr h₀ L h' m → News h₀ L h' news → (0 : Int) ≤ M → Q (.int M t) { s with heap := h', toks := tk }) : wpAny (model prog w) A (call (.builtin "min") [.ref l]) Q E s :=
  kso_min F N ⟨lo, (N _ hm).1, hc, c, hd⟩ hi (by rw [bits_len]; decide) hh fun h' M t tk F' N' hM _ => h h' M t tk F' N' (bits_low hM)
theorem ne_same_str {x y : PySem.Str} {t u : Tok} (e : x = y) (h : Q (.bool false) s) : wpAny (model prog w) A (compareOp .NotEq (.str x t) (.str y u)) Q E s :=
  ne_str (by subst e; rw [bne_self_eq_false]; exact h)
theorem in_bits {l : Addr} {lo : Obj} {us : List Value} {c : Nat} {t : Tok} {ns : List Int} {b : Bool} (N : News h₀ L s.heap news) (hm : (l, lo) ∈ news) (hc : lo.cls = .type "list") (hd : lo.data = .seq us.toArray c) (hi : IntsAre us ns) (hb : decide (1 ∈ ns) = b)
    (h : Q (.bool b) s) : wpAny (model prog w) A (compareOp .In (.int 1 t) (.ref l)) Q E s :=
  in_list_ints ⟨lo, (N _ hm).1, hc, c, hd⟩ hi (by
    have e : ns.any (· == 1) = b := by rw [← hb]; exact any_one ns
    rw [e]; exact h)
theorem notin_bits {l : Addr} {lo : Obj} {us : List Value} {c : Nat} {t : Tok} {ns : List Int} {b : Bool} (N : News h₀ L s.heap news) (hm : (l, lo) ∈ news) (hc : lo.cls = .type "list") (hd : lo.data = .seq us.toArray c) (hi : IntsAre us ns) (hb : decide (1 ∈ ns) = b)
    (h : Q (.bool (!b)) s) : wpAny (model prog w) A (compareOp .NotIn (.int 1 t) (.ref l)) Q E s :=
  notin_list_ints ⟨lo, (N _ hm).1, hc, c, hd⟩ hi (by
    have e : ns.any (· == 1) = b := by rw [← hb]; exact any_one ns
    rw [e]; exact h)
end
end Mine
end
section
open PySem PySem.W PyProof.Rows PySem.Calls
set_option Elab.async false
set_option maxRecDepth 100000
namespace Mine
theorem low_is (p : Nat) : Builtin.bitAnd (p : Int) 4095 = ((p % 4096 : Nat) : Int) := by
  rw [← and_low p]; exact and_nat p 4095
theorem high_is {p : Nat} (h : p < 65536) : Builtin.bitAnd (p : Int) 61440 = ((4096 * (p / 4096) : Nat) : Int) := by
  rw [← and_high p h]; exact and_nat p 61440
theorem dec_iff {a b : Prop} [Decidable a] [Decidable b] (h : a ↔ b) : decide a = decide b := decide_eq_decide.mpr h
theorem beq_dec (a b : Int) : (a == b) = decide (a = b) := by
  rw [Bool.eq_iff_iff]; simp
theorem tell1 (p q : Nat) : decide (256 + (Builtin.bitAnd (p : Int) 4095 - Builtin.bitAnd (q : Int) 4095) < 256) = decide (p % 4096 < q % 4096) := by
  rw [low_is, low_is]
  exact dec_iff (by omega)
theorem tell2 (p q : Nat) : decide (256 ≤ 256 + (Builtin.bitAnd (p : Int) 4095 - Builtin.bitAnd (q : Int) 4095)) = !decide (p % 4096 < q % 4096) := by
  rw [low_is, low_is, ← decide_not]
  exact dec_iff (by omega)
theorem tell3 (p q : Nat) : (Builtin.bitAnd (p : Int) 4095 - Builtin.bitAnd (q : Int) 4095 == 0) = decide (List.map (fun (j : Nat) => (j : Int)) (parts (bits p) (bits q) 12) = []) := by
  rw [low_is, low_is, beq_dec]
  refine dec_iff ?_
  cases e : parts (bits p) (bits q) 12 with
  | nil =>
    have := order_nil e
    simp only [List.map_nil, iff_true]
    omega
  | cons j r =>
    obtain ⟨_, b, _, hc⟩ := order_cons e
    simp only [List.map_cons, reduceCtorEq, iff_false]
    omega
theorem tell4 (p : Nat) : decide (Builtin.bitAnd (p : Int) 4095 < 256) = !(List.take 4 (bits p)).any fun x => x == 1 := by
  rw [low_is, any_one, ← decide_not]
  refine dec_iff ?_
  rw [one_first]
  omega
theorem tell5 (p : Nat) : decide (256 ≤ Builtin.bitAnd (p : Int) 4095) = (List.take 4 (bits p)).any fun x => x == 1 := by
  rw [low_is, any_one]
  refine dec_iff ?_
  rw [one_first]
  omega
theorem tell6 (p : Nat) : (Builtin.bitAnd (p : Int) 4095 == 0) = !(bits p).any fun x => x == 1 := by
  rw [low_is, any_one, beq_dec, ← decide_not]
  refine dec_iff ?_
  rw [one_any]
  omega
theorem tell7 {p q : Nat} (hp : p < 65536) (hq : q < 65536) : (Builtin.bitAnd (p : Int) 61440 - Builtin.bitAnd (q : Int) 61440 == 0) = ((p : Int).fdiv 4096 == (q : Int).fdiv 4096) := by
  rw [high_is hp, high_is hq, beq_dec, beq_dec, Int.fdiv_eq_ediv_of_nonneg _ (by decide), Int.fdiv_eq_ediv_of_nonneg _ (by decide)]
  exact dec_iff (by omega)
theorem seven_at {x1 x2 x3 x4 x5 x6 x7 : Bool} {i : Nat} {v : Value} (h : (#[Value.bool x1, .bool x2, .bool x3, .bool x4, .bool x5, .bool x6, .bool x7] : Array Value)[i]? = some v) : ∃ b, v = .bool b := by
  have hm := Array.mem_of_getElem? h
  simp only [List.mem_toArray, List.mem_cons, List.not_mem_nil, or_false] at hm
  rcases hm with rfl | rfl | rfl | rfl | rfl | rfl | rfl <;> exact ⟨_, rfl⟩
section
variable {prog : Program} {w : World} {A : Around} {E : Value → Shared → Prop} {s : Shared} {h₀ : Heap} {L : Addr} {m : Str → Option Value} {news : List (Addr × Obj)} {Q : Value → Shared → Prop}
/-- seven bools and the same seven -/
theorem ne_seven {a b : Addr} {oa ob : Obj} {x1 x2 x3 x4 x5 x6 x7 y1 y2 y3 y4 y5 y6 y7 : Bool} {c d : Nat} (N : News h₀ L s.heap news)
    (ma : (a, oa) ∈ news) (ca : oa.cls = .type "list") (da : oa.data = .seq #[.bool x1, .bool x2, .bool x3, .bool x4, .bool x5, .bool x6, .bool x7] c)
    (mb : (b, ob) ∈ news) (cb : ob.cls = .type "list") (db : ob.data = .seq #[.bool y1, .bool y2, .bool y3, .bool y4, .bool y5, .bool y6, .bool y7] d)
    (hu : A.units + 64 < cLine) (e1 : x1 = y1) (e2 : x2 = y2) (e3 : x3 = y3) (e4 : x4 = y4) (e5 : x5 = y5) (e6 : x6 = y6) (e7 : x7 = y7) (h : Q (.bool false) s) :
    wpAny (model prog w) A (compareOp .NotEq (.ref a) (.ref b)) Q E s := by
  subst e1 e2 e3 e4 e5 e6 e7
  have r : ∀ {l : Addr} {o : Obj} {k : Nat}, (l, o) ∈ news → o.cls = .type "list" → o.data = .seq #[.bool x1, .bool x2, .bool x3, .bool x4, .bool x5, .bool x6, .bool x7] k → s.heap.IsList l [Value.bool x1, .bool x2, .bool x3, .bool x4, .bool x5, .bool x6, .bool x7].toArray :=
    fun hm hc hd => ⟨_, (N _ hm).1, hc, _, hd⟩
  have cr : CarriedAll [Value.bool x1, .bool x2, .bool x3, .bool x4, .bool x5, .bool x6, .bool x7] [PyData.bool x1, .bool x2, .bool x3, .bool x4, .bool x5, .bool x6, .bool x7] :=
    .cons (.bool _) (.cons (.bool _) (.cons (.bool _) (.cons (.bool _) (.cons (.bool _) (.cons (.bool _) (.cons (.bool _) .nil))))))
  refine ne_dataH_same (reads_newData (r ma ca da) cr) (reads_newData (r mb cb db) cr) rfl rfl hu (SeqAt.noMix_of_shape (.list .bool) rfl _ _ rfl rfl) ?_
  have e : PySem.Spec.same (.list [PyData.bool x1, .bool x2, .bool x3, .bool x4, .bool x5, .bool x6, .bool x7]) (.list [PyData.bool x1, .bool x2, .bool x3, .bool x4, .bool x5, .bool x6, .bool x7]) = true := by
    simp [PySem.Spec.same, PySem.Spec.sameAll]
  rw [e]
  exact h
/-- a list of ints that is not empty -/
theorem ne_cons_nil {a b : Addr} {oa ob : Obj} {v : Value} {r : List Value} {n : Int} {ns : List Int} {c d : Nat} (N : News h₀ L s.heap news)
    (ma : (a, oa) ∈ news) (ca : oa.cls = .type "list") (da : oa.data = .seq (v :: r).toArray c) (mb : (b, ob) ∈ news) (cb : ob.cls = .type "list") (db : ob.data = .seq #[] d)
    (hi : IntsAre (v :: r) (n :: ns)) (hu : A.units + 64 < cLine) (h : Q (.bool true) s) :
    wpAny (model prog w) A (compareOp .NotEq (.ref a) (.ref b)) Q E s :=
  ke_ne_ints (xs := v :: r) (ys := []) ⟨_, (N _ ma).1, ca, _, da⟩ ⟨_, (N _ mb).1, cb, _, db⟩ hi .nil hu (by
    rw [show decide (n :: ns = []) = false from decide_eq_false (by simp)]; exact h)
end
/-- the parted places, opened -/
theorem parts_open {p q : Nat} {ys : List Value} (h : PartsAre p q 12 ys) : (ys = [] ∧ decide (p % 4096 < q % 4096) = false) ∨ ∃ (j : Nat) (t : Tok) (r : List Value) (ns : List Int) (b : Int), ys = .int (j : Int) t :: r ∧ IntsAre (.int (j : Int) t :: r) ((j : Int) :: ns) ∧ (bits p)[j]? = some b ∧ (b == 0) = decide (p % 4096 < q % 4096) := by
  have h' := h
  unfold PartsAre at h
  cases e : parts (bits p) (bits q) 12 with
  | nil =>
    rw [e] at h
    cases h
    exact .inl ⟨rfl, decide_eq_false (by have := order_nil e; omega)⟩
  | cons j r =>
    rw [e] at h
    obtain ⟨hj, b, hb, hc⟩ := order_cons e
    have hd : (b == 0) = decide (p % 4096 < q % 4096) := by
      rw [beq_dec]
      exact dec_iff (by omega)
    cases h with
    | cons k t h => exact .inr ⟨j, t, _, _, b, rfl, .cons _ _ h, hb, hd⟩
end Mine
end
section
open PySem PySem.W PyProof.Rows PySem.Calls
set_option Elab.async false
set_option maxRecDepth 100000
set_option maxHeartbeats 3000000
namespace Mine
local macro_rules | `(tactic| walk_at "exec Assign cons ListComp") => `(tactic| k_extra "my comp")
local macro_rules | `(tactic| walk_at "CompSrc") => `(tactic| k_extra "my src")
local macro_rules | `(tactic| walk_at "CompSrcT") => `(tactic| k_extra "my srcT")
local macro_rules | `(tactic| walk_at "eval ListComp") => `(tactic| k_extra "my list")
local macro_rules | `(tactic| walk_at "exec For Name Call") => `(tactic| k_extra "my for")
local macro_rules | `(tactic| walk_at "exec For Name Call cons nil") => `(tactic| k_extra "my for")
local macro_rules | `(tactic| walk_at "pyIter ref") => `(tactic| k_extra "my iter")
local macro_rules | `(tactic| walk_at "call ref") => `(tactic| k_extra "my call")
local macro_rules | `(tactic| walk_at $s:str) => `(tactic| k_extra $s)
local macro_rules | `(tactic| walk_at "SameEnd") => `(tactic| k_extra "my same")
theorem t1 : PySem.Challenge.rw_mg0027_01.Holds := Mine.hd (by
  w_strict (
    w_top off
    k_with_none
    k_fill
    intro w s₀ s₁ mg mb G Y fa o pm cd doc dV kV ho hd hcd hD hmg hg args vals as hpre hlay hrd hwl hlo
    have KX := kIn_of Y
    k_behind G ho hd hcd hD hmg hpre hlay hrd hwl hlo cd
    (try k_fold)
    rename IntsAre _ _ => hI
    rename Heap.IsList _ _ _ => hScr
    rename Top _ _ _ _ _ _ => hTop
    rename Below _ _ _ _ => hBel
    k_steps
    rename NewPlain _ _ _ _ => hNP
    rename CarriedAll _ _ => hCar
    rename News _ _ _ _ => hNw
    rename Fr _ _ _ _ => hFr
    rename Heap.IsList _ _ _ => hLst
    refine add_ints hFr hNw ⟨_, (News.get hNw (.tail _ (.head _))), rfl, _, rfl⟩ hLst (.cons _ _ (.cons _ _ .nil)) (gn_ints hNP hCar (fun _ => rfl)) (fun p hp => .tail _ (.tail _ hp)) (Stay.out ?mods) (Stay.out ?msz)
    case msz =>
      constructor
      rw [sizeLine_eq]
      simp
      omega
    case mods =>
      constructor
      intro M vs h1 hlt F1 N1 hI1
      k_lt hlt
      clear hNP hCar hLst hFr hNw
      obtain ⟨m0, F0⟩ : ∃ m0, Fr s₁.heap s₁.heap.objs.size h1 m0 := ⟨_, F1⟩
      clear F1
      dsimp only at hlt ⊢
      have hfit : vs.toArray.size ≤ sizeLine := ints_fit hI1
      obtain ⟨ms, hin, hlo2, hhi2, hI1⟩ : ∃ ms, (∀ x ∈ ms, 0 ≤ x ∧ x < 65536) ∧ 2 ≤ ms.length ∧ ms.length ≤ 10 ∧ IntsAre vs ms := ⟨_, modes_in _, modes_low _, modes_few _, hI1⟩
      k_with "my comp" => k_dflt (refine LCg.Assign_ListComp_U (F₀ := by k_asm) (by rfl) (by with_unfolding_all rfl) (by with_unfolding_all rfl) (by decide) (by rfl) (by decide) (by rfl) (by rfl) (by rfl) ?_)
      k_with "my src" => k_dflt (refine LCg.CompSrc.ledger (by rfl) (by k_asm) (by k_asm) (by k_mem) hfit (fun g => Stay.out ?rows))
      k_steps
      case rows =>
        constructor
        refine comp_same (fun i ys => StrsAre ys ((ms.take i).map fmode)) (.inr ⟨_, .head _, rfl, _, rfl⟩) (by simpa using StrsAre.nil) (Stay.out ?rt) (Stay.out ?rf)
        case rt =>
          constructor
          intro i ys v I oI C oC D m₂ h tk E' hi hR hv hC hx F N off ne
          obtain ⟨n, t, rfl, hn⟩ := IntsAre.at hI1 i v (by simpa using hv)
          k_with "my call" => (k_dflt (refine filemode_does _ _ _ _ _ _ _ _ _ _ _ _ _ _ _ _ _ _ _ _ _ _ _ _ _ hBel (by k_asm) KX hTop rfl (by k_room) (by ktr_units) ?_); intro t9 h9 tk9 hk9; have F9 := Fr.keeps (by k_asm) hk9; have N9 := News.grown (by k_asm) hk9)
          k_with "my same" => refine SameEnd.intro (by k_asm) (by k_asm) ?_
          k_steps
          rw [List.take_add_one, hn]
          simpa using kct_snoc hR
        case rf =>
          constructor
          intro ys hys
          have hyl : ys.toArray.size ≤ sizeLine := by
            rw [List.size_toArray, strs_len hys, sizeLine_eq, List.length_map, List.length_take]
            omega
          rw [List.take_of_length_le (by rw [List.size_toArray, IntsAre.length hI1]; exact Nat.le_refl _)] at hys
          k_with "my list" => k_dflt (refine LCt.ListComp_T (F₀ := by k_asm) (by with_unfolding_all rfl) (by decide) (by rfl) (by decide) (by rfl) ?_)
          k_with "my srcT" => k_dflt (refine LCt.CompSrcT.ledger (by rfl) (by k_asm) (by k_asm) (by k_mem) hyl (fun g => Stay.out ?chk))
          k_steps
          case chk =>
            constructor
            refine comp_sameT (fun i ys => ys = []) (.inr ⟨_, .head _, rfl, _, rfl⟩) rfl (Stay.out ?ct) (Stay.out ?cf)
            case ct =>
              constructor
              intro i ys2 v I oI C oC D m₂ h tk E' hi hR hv hC hx F N off ne
              obtain ⟨x9, t9, rfl, hx9⟩ : ∃ x9 t9, v = Value.str x9 t9 ∧ x9.length = 10 := strs_ten hys (by simpa using hv)
              subst hR
              k_steps
              · exfalso; omega
              · trivial
            case cf =>
              constructor
              intro ys2 hR
              subst hR
              k_with_none
              k_with "my list" => k_dflt (refine LCg.ListComp_U (F₀ := by k_asm) (by with_unfolding_all rfl) (by decide) (by rfl) (by decide) (by rfl) ?_)
              k_with "my src" => k_dflt (refine LCg.CompSrc.ledger (by rfl) (by k_asm) (by k_asm) (by k_mem) hyl (fun g => Stay.out ?fgs))
              k_steps
              case fgs =>
                constructor
                refine comp_grow (fun i zs fl => FigsAt zs fl ((ms.take i).map fun n => figs (fmode n)) ∧ ∀ p ∈ fl, ∃ its k, p.2 = W.listOf its k) (fun fl => .inr ⟨_, List.mem_append_right _ (.tail _ (.tail _ (.head _))), rfl, _, rfl⟩) ⟨by simpa using FigsAt.nil, fun p hp => nomatch hp⟩ (Stay.out ?gt) (Stay.out ?gf)
                case gt =>
                  constructor
                  intro i zs fl v I oI C oC D m₂ h tk E' hi hR hv hC hx F N off ne
                  obtain ⟨x9, t9, rfl, hx9⟩ := strs_at hys (i := i) (v := v) (by simpa using hv)
                  obtain ⟨n9, hn9, rfl⟩ : ∃ n9, ms[i]? = some n9 ∧ fmode n9 = x9 := by simpa using hx9
                  k_with "my call" => (k_dflt (refine figures_does _ _ (fmode_len _) _ _ _ _ _ _ _ _ _ _ _ _ _ _ _ _ _ _ _ _ _ _ _ hBel (by k_asm) KX hTop rfl (by k_room) (by ktr_units) (Stay.out ?ge)))
                  k_steps
                  case ge =>
                    constructor
                    intro l9 vs9 k9 h9 tk9 hk9 hg9 hnn9 hi9
                    refine grow_end (by k_asm) (by k_asm) hk9 hg9 hnn9 ?_
                    rw [List.take_add_one, hn9, List.map_append]
                    refine ⟨hR.1.snoc hi9, fun p hp => ?_⟩
                    rcases List.mem_cons.mp hp with rfl | hp
                    · exact ⟨_, _, rfl⟩
                    · exact hR.2 p hp
                case gf =>
                  constructor
                  intro zs fl hR
                  unfold LCg.FinE
                  intro D9 h9 tk9 F9 N9 o9
                  have hoff9 := off1_mem o9
                  have hoffl := fl_off (adr := [s₁.heap.objs.size + 1 + 1 + 1, s₁.heap.objs.size + 1 + 1, s₁.heap.objs.size + 1]) N9 (fun p hp => .tail _ (List.mem_append_left _ hp)) (fun b hb => by
                    simp only [List.mem_cons, List.not_mem_nil, or_false] at hb
                    rcases hb with rfl | rfl | rfl
                    · exact ⟨_, .tail _ (List.mem_append_right _ (.tail _ (.tail _ (.tail _ (.tail _ (.head _)))))), _, by assumption⟩
                    · exact ⟨_, .tail _ (List.mem_append_right _ (.tail _ (.tail _ (.tail _ (.tail _ (.tail _ (.head _))))))), _, by assumption⟩
                    · exact ⟨_, .tail _ (List.mem_append_right _ (.tail _ (.tail _ (.tail _ (.tail _ (.tail _ (.tail _ (.head _)))))))), _, by assumption⟩) hR.2
                  have hd1 := hoff9 _ (List.mem_append_right _ (.tail _ (.tail _ (.tail _ (.tail _ (.head _))))))
                  have hd2 := hoff9 _ (List.mem_append_right _ (.tail _ (.tail _ (.tail _ (.tail _ (.tail _ (.head _)))))))
                  have hd3 := hoff9 _ (List.mem_append_right _ (.tail _ (.tail _ (.tail _ (.tail _ (.tail _ (.tail _ (.head _))))))))
                  have N10 := cb_drop N9 sub_figs
                  clear N9 o9 hoff9
                  dsimp only at hd1 hd2 hd3
                  k_with "my for" => k_dflt (refine For_turns (by k_asm) ?_)
                  k_steps
                  rename IsRange _ _ _ _ _ _ _ _ => hRg
                  rename Fr _ _ _ _ => F11
                  rename News _ _ _ _ => N11
                  have hR1 : FigsAt zs fl (ms.map fun n => figs (fmode n)) := by
                    have e := hR.1
                    rw [List.take_of_length_le (by rw [List.size_toArray, strs_len hys, List.length_map]; exact Nat.le_refl _)] at e
                    exact e
                  have hlz : zs.length ≤ 1000000 := by rw [hR1.1, List.length_map]; omega
                  have hly : ys.length ≤ 1000000 := by rw [strs_len hys, List.length_map]; omega
                  have hlv : vs.length ≤ 1000000 := by rw [IntsAre.length hI1]; omega
                  have hnz : zs.length = ms.length := by rw [hR1.1, List.length_map]
                  have hny : ys.length = ms.length := by rw [strs_len hys, List.length_map]
                  have hnv : vs.length = ms.length := IntsAre.length hI1
                  refine loop_go (n := ms.length) (Str.ofString "modes") (Str.ofString "rows") hRg F11 N11 (by assumption) (by assumption) rfl rfl rfl (range_small_of hhi2) (range_size_of hhi2) (Stay.out ?turn) (Stay.out ?done)
                  case done =>
                    constructor
                    intro m₁ news₁ h tk F12 N12
                    k_steps
                  case turn =>
                    constructor
                    intro i t m₁ o3 o2 v3 v2 h tk own hi hoff h3 h2 F' N12
                    obtain ⟨p, tp, ty, lp, us, kp, hp, hvp, hyp, hzp, hlp, hup⟩ := at_all hI1 hys hR1 hin hi
                    obtain ⟨j, hj, hjk⟩ := prev_at hi
                    obtain ⟨q, tq, tyq, lq, us', kq, hq, hvq, hyq, hzq, hlq, huq⟩ := at_all hI1 hys hR1 hin hj
                    have hlp3 := hoffl _ hlp _ (.head _)
                    have hlp2 := hoffl _ hlp _ (.tail _ (.head _))
                    have hlp1 := hoffl _ hlp _ (.tail _ (.tail _ (.head _)))
                    have hlq3 := hoffl _ hlq _ (.head _)
                    have hlq2 := hoffl _ hlq _ (.tail _ (.head _))
                    have hlq1 := hoffl _ hlq _ (.tail _ (.tail _ (.head _)))
                    dsimp only at hlp3 hlp2 hlp1 hlq3 hlq2 hlq1
                    have N' := cb_drop N12 (sub_turn hlp hlq)
                    have htl := off_tail hoffl hoff
                    clear N12
                    obtain ⟨tl, htl0⟩ : ∃ tl, tl = fl ++ own := ⟨_, rfl⟩
                    rw [← htl0] at N' htl
                    clear F11 N11 hRg
                    obtain ⟨hfd0, hfd1⟩ := fdiv_in hp
                    have hlu : us.length ≤ 1000000 := by rw [IntsAre.bits_len hup]; decide
                    have hlu' : us'.length ≤ 1000000 := by rw [IntsAre.bits_len huq]; decide
                    k_with_none
                    k_with "subscriptTail Name Name ref int" => k_dflt (refine sub_led (by k_asm) (by k_mem) rfl rfl (by first | exact hzp | exact hyp | exact hvp) (by assumption) (.inl rfl) ?_)
                    k_with "call builtin:min" => (k_dflt (refine min_bits (by k_asm) (by k_asm) (by k_mem) rfl rfl hup rfl ?_); k_whole; intro h' M' t' k' F' N' hM')
                    k_with "subscriptTail Subscript Name Name Constant str int" => (k_dflt (refine kba_turn (value' := PySem.Expr.Name (PySem.Str.ofString "_") ⟨0, 0, 0, 0⟩) (fun _ => rfl) ?_); k_dflt (refine KXi.item (fmode_len _) (by omega) (by omega) (by decide) ?_); k_whole; intro _)
                    k_with "compareOp NotEq str str" => k_dflt (refine ne_same_str (type_sign _ hp) ?_)
                    k_with "exec Assign cons ListComp" => k_dflt (refine LCt.Assign_ListComp_T (F₀ := by k_asm) (by rfl) (by with_unfolding_all rfl) (by with_unfolding_all rfl) (by decide) (by rfl) (by decide) (by rfl) (by rfl) (by rfl) ?_)
                    k_with "CompSrcT" => k_dflt (refine LCt.CompSrcT.range (n := 12) (by rfl) (by k_asm) (by k_asm) (by assumption) (by decide) (by decide) (by decide) (fun g => Stay.out ?prt))
                    k_steps
                    case prt =>
                      constructor
                      refine comp_sameT (fun i ys => PartsAre p q i ys) trivial PartsAre.nil (Stay.out ?pt) (Stay.out ?pf)
                      case pt =>
                        constructor
                        intro i2 ys2 v I oI C oC D m₂ h tk E' hi2 hR2 hv hC hx F N off ne
                        obtain ⟨t2, rfl⟩ := hv
                        rw [Int.zero_add] at hx
                        obtain ⟨b1, u1, e1, f1⟩ := bits_at hup hi2
                        obtain ⟨b2, u2, e2, f2⟩ := bits_at huq hi2
                        k_with_none
                        k_with "subscriptTail Name Name ref int" => k_dflt (refine sub_led (by k_asm) (by k_mem) rfl rfl e1 hlu (.inl rfl) ?_)
                        k_with "subscriptTail Name BinOp ref int" => k_dflt (refine sub_led (by k_asm) (by k_mem) rfl rfl hzq hlz (by rw [hnz]; exact hjk) ?_)
                        k_with "subscriptTail Subscript Name BinOp Name ref int" => k_dflt (refine sub_led (by k_asm) (by k_mem) rfl rfl e2 hlu' (.inl rfl) ?_)
                        k_with "my same" => refine SameEnd.intro (by k_asm) (by k_asm) (Stay.out ?_)
                        k_steps
                        · exact ⟨hR2.more f1 f2 (by assumption)⟩
                        · exact ⟨hR2.same f1 f2 (by assumption)⟩
                      case pf =>
                        constructor
                        intro ys2 hR2
                        have hPI : IntsAre ys2 ((parts (bits p) (bits q) 12).map fun (j : Nat) => (j : Int)) := hR2
                        have hly2 : ys2.length ≤ 1000000 := Nat.le_trans hR2.few (by decide)
                        k_with_none
                        k_with "eval BoolOp And" => k_dflt (refine cut_val (v := .bool (decide (p % 4096 < q % 4096))) (by k_asm) (by k_asm) (Stay.out ?les) ?_)
                        k_with "subscriptTail Name Name ref int" => k_dflt (refine sub_led (by k_asm) (by k_mem) rfl rfl hvp hlv (.inl rfl) ?_)
                        k_with "subscriptTail Name BinOp ref int" => k_dflt (refine sub_led (by k_asm) (by k_mem) rfl rfl hvq hlv (by rw [hnv]; exact hjk) ?_)
                        k_with "compareOp NotEq ref ref" => k_dflt (refine ne_seven (by k_asm) (by k_mem) rfl rfl (by k_mem) rfl rfl (by ke_room) (tell1 p q) (tell2 p q) (tell3 p q) (tell4 p) (tell5 p) (tell6 p) (tell7 hp hq) ?_)
                        k_with "my list" => k_dflt (refine LCt.ListComp_T (F₀ := by k_asm) (by with_unfolding_all rfl) (by decide) (by rfl) (by decide) (by rfl) ?_)
                        k_with "CompSrcT" => k_dflt (refine LCt.CompSrcT.ledger (by rfl) (by k_asm) (by k_asm) (by k_mem) (Nat.le_of_ble_eq_true rfl) (fun g => Stay.out ?one))
                        k_steps
                        case les =>
                          constructor
                          rcases parts_open hR2 with ⟨rfl, hpq⟩ | ⟨j0, t0, r0, ns0, b0, rfl, hi0, hb0, hpq⟩
                          · k_with_none
                            k_with "my same" => k_dflt (refine SameEnd.intro (by k_asm) (cb_drop (by k_asm) (fun x hx => .tail _ hx)) (Stay.out ?_))
                            k_steps
                            exact ⟨congrArg Value.bool hpq.symm⟩
                          · obtain ⟨tb, eb⟩ := hup.get j0 _ hb0
                            k_with_none
                            k_with "my same" => k_dflt (refine SameEnd.intro (by k_asm) (cb_drop (by k_asm) (fun x hx => .tail _ hx)) (Stay.out ?_))
                            k_with "compareOp NotEq ref ref" => k_dflt (refine ne_cons_nil (by k_asm) (by k_mem) rfl rfl (by k_mem) rfl rfl hi0 (by ke_room) ?_)
                            k_with "subscriptTail Name Constant ref int" => k_dflt (refine sub_led (j := 0) (by k_asm) (by k_mem) rfl rfl rfl hly2 (.inl rfl) ?_)
                            k_with "subscriptTail Name Subscript ref int" => k_dflt (refine sub_led (by k_asm) (by k_mem) rfl rfl eb hlu (.inl rfl) ?_)
                            k_steps
                            exact ⟨congrArg Value.bool hpq⟩
                        case one =>
                          constructor
                          refine comp_sameT (fun i ys => ys = []) (.inr ⟨_, (by k_mem), rfl, _, rfl⟩) rfl (Stay.out ?ot) (Stay.out ?of)
                          case ot =>
                            constructor
                            intro i3 ys3 v3 I3 oI3 C3 oC3 D3 m3 h tk E3 hi3 hR3 hv3 hC3 hx3 F3 N3 off3 ne3
                            obtain ⟨b3, rfl⟩ := seven_at hv3
                            subst hR3
                            k_with_none
                            k_with "my same" => refine SameEnd.intro (by k_asm) (by k_asm) (Stay.out ?_)
                            k_steps
                            exact ⟨trivial⟩
                          case of =>
                            constructor
                            intro ys3 hR3
                            subst hR3
                            k_with_none
                            k_with "InvEndN" => refine Stay.out ?fin
                            k_steps
                            case fin =>
                              constructor
                              refine' turn_end ?eF ?eN ?na ?nb ?e3 ?e2 ?m1 ?m2 ?m3 ?m4 ?m5 ?m6 ?m7
                              case eF => k_asm
                              case eN => k_asm
                              case na => rfl
                              case nb => rfl
                              case m1 => k_mem
                              case m2 => k_mem
                              case m3 => k_mem
                              case m4 => k_mem
                              case m5 => k_mem
                              case m6 => k_mem
                              case e3 => assumption
                              case e2 => assumption
                              case m7 =>
                                intro x hx
                                rw [← htl0] at hx
                                simp only [List.mem_cons]
                                simp only [hx, or_true]))
end Mine
end
theorem PySem.Challenge.cw_mg0027_01_holds : PySem.Challenge.rw_mg0027_01.Holds := by
  exact Mine.t1
