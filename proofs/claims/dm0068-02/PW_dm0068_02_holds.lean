import PyProof.Rows.All
import Wide.All
import OpenK.AllK
import Wide.FinOn
import PySem.Challenge.RW_dm0068_02
set_option Elab.async false
set_option maxRecDepth 100000
set_option maxHeartbeats 8000000
namespace Mine
open PySem PySem.W PyProof.Rows PySem.Calls
open_top hd2 for PySem.Challenge.rw_dm0068_02

/-- a list's iterator standing before item i -/
abbrev liObj (l : Addr) (i : Nat) : Obj := { cls := .type "list_iterator", data := .fields #[.ref l, .int i 0] }

section
variable {prog : Program} {w : World} {A : Around} {E : Value → Shared → Prop} {s : Shared} {h₀ : Heap} {L it l : Addr} {m : Str → Option Value} {rest : List (Addr × Obj)} {i : Nat} {items : Array Value} {x : Value}

theorem news_head {h h' : Heap} {o o' : Obj} (N : News h₀ L h ((it, o) :: rest)) (hne : ∀ p ∈ rest, p.1 ≠ it) (hs : Heap.SameBut it h h') (ho : h'.get? it = some o') : News h₀ L h' ((it, o') :: rest) :=
  News.setIn (own := []) N (fun _ h => nomatch h) hne hs ho

theorem next_item {Q : Value → Shared → Prop} (F : Fr h₀ L s.heap m) (N : News h₀ L s.heap ((it, liObj l i) :: rest)) (hne : ∀ p ∈ rest, p.1 ≠ it) (hl : s.heap.IsList l items) (hx : items[i]? = some x)
    (h : ∀ h', Fr h₀ L h' m → News h₀ L h' ((it, liObj l (i + 1)) :: rest) → Q x { s with heap := h' }) :
    wpAny (model prog w) A (call (.builtin "next") [.ref it]) Q E s := by
  have hm := N _ (List.mem_cons_self)
  have ho := hm.1
  have hit : s.heap.IsListIter it l i := ⟨_, ho, rfl, rfl⟩
  obtain ⟨ol, hol, _, nl, hdl⟩ := hl
  refine call_function_entry (by decide +kernel) (by decide +kernel) kdk_entry_next (kdk_args_next _) ?_
  unfold Builtin.«next»
  refine wpAny_bind (m := someArgs "next" 1 2 _) (wpAny_of_eq (a := [Value.ref it]) (by first | rfl | kernel_rfl!) ?_)
  dsimp only
  refine wpAny_bind (wpAny_specialOf (name := Str.ofString "__next__") hit.typeIs slot_listiter_next.lookup ?_)
  refine wpAny_ite_split (fun hab => absurd hab (by decide)) (fun _ => ?_)
  refine wpAny_bind (wpAny_callSpecial?_slot (name := Str.ofString "__next__") hit.typeIs slot_listiter_next
    (wpAny_call_entry slot_listiter_next hit.typeIs entry_listiter_next ?_ (args_listiter_next _)))
  show wpAny _ _ (field (.ref it) 0 >>= _) _ _ s
  refine wpAny_bind (wpAny_field ho rfl (x := .ref l) rfl ?_)
  show wpAny _ _ (if (Value.ref l == Value.none) = true then _ else _) _ _ s
  rw [if_neg (show ¬ ((Value.ref l == Value.none) = true) from Bool.false_ne_true)]
  show wpAny _ _ (field (.ref it) 1 >>= _) _ _ s
  refine wpAny_bind (wpAny_field ho rfl (x := .int i 0) rfl ?_)
  show wpAny _ _ (seqItems? (.ref l) >>= _) _ _ s
  refine wpAny_bind (wpAny_seqItems hol hdl ?_)
  simp only [Int.toNat_natCast, hx]
  refine wpAny_bind (wpAny_setField ho rfl (by simp) (wpAny_pure ⟨x, rfl, wpAny_pure ⟨x, rfl, ?_⟩⟩))
  have hs : Heap.SameBut it s.heap (s.heap.update it (Obj.mapFields (·.setIfInBounds 1 (rawInt ((i : Int) + 1))))) := Heap.SameBut.update ..
  exact h _ (F.change hs hm.2.1 hm.2.2) (news_head N hne hs (by rw [Heap.get?_update_self _ ho rfl]; simp [Obj.mapFields, rawInt]))

theorem iter_list {news : List (Addr × Obj)} {Q : Value → Shared → Prop} (F : Fr h₀ L s.heap m) (N : News h₀ L s.heap news) (hl : s.heap.IsList l items)
    (h : ∀ I h', Fr h₀ L h' m → News h₀ L h' ((I, liObj l 0) :: news) → (∀ p ∈ news, p.1 < I) → Q (.ref I) { s with heap := h' }) :
    wpAny (model prog w) A (call (.builtin "iter") [.ref l]) Q E s := by
  refine call_function_entry (by decide +kernel) (by decide +kernel) kdk_entry_iter (kdk_args_iter _) ?_
  unfold Builtin.«iter»
  refine wpAny_bind (m := someArgs "iter" 1 2 _) (wpAny_of_eq (a := [Value.ref l]) (by first | rfl | kernel_rfl!) ?_)
  show wpAny _ _ (pyIter (.ref l) >>= _) _ _ _
  refine wpAny_bind (wpAny_pyIter_list hl ?_)
  exact wpAny_pure ⟨_, rfl, h _ _ (F.push _) (News.push F N _ rfl) (fun q hq => Heap.lt_size (N q hq).1)⟩

theorem next_end {Q : Value → Shared → Prop} (hh : A.handled = none) (F : Fr h₀ L s.heap m) (N : News h₀ L s.heap ((it, liObj l i) :: rest)) (hne : ∀ p ∈ rest, p.1 ≠ it) (hl : s.heap.IsList l items) (hx : items[i]? = none)
    (h : ∀ h₁ h' e, Fr h₀ L h₁ m → News h₀ L h₁ rest → Heap.NewExc h₁ h' e "StopIteration" → E (.ref e) { s with heap := h' }) :
    wpAny (model prog w) A (call (.builtin "next") [.ref it]) Q E s := by
  have hm := N _ (List.mem_cons_self)
  have ho := hm.1
  have hit : s.heap.IsListIter it l i := ⟨_, ho, rfl, rfl⟩
  obtain ⟨ol, hol, _, nl, hdl⟩ := hl
  refine call_function_entry (by decide +kernel) (by decide +kernel) kdk_entry_next (kdk_args_next _) ?_
  unfold Builtin.«next»
  refine wpAny_bind (m := someArgs "next" 1 2 _) (wpAny_of_eq (a := [Value.ref it]) (by first | rfl | kernel_rfl!) ?_)
  dsimp only
  refine wpAny_bind (wpAny_specialOf (name := Str.ofString "__next__") hit.typeIs slot_listiter_next.lookup ?_)
  refine wpAny_ite_split (fun hab => absurd hab (by decide)) (fun _ => ?_)
  refine wpAny_bind (wpAny_callSpecial?_slot (name := Str.ofString "__next__") hit.typeIs slot_listiter_next
    (wpAny_call_entry slot_listiter_next hit.typeIs entry_listiter_next ?_ (args_listiter_next _)))
  show wpAny _ _ (field (.ref it) 0 >>= _) _ _ s
  refine wpAny_bind (wpAny_field ho rfl (x := .ref l) rfl ?_)
  show wpAny _ _ (if (Value.ref l == Value.none) = true then _ else _) _ _ s
  rw [if_neg (show ¬ ((Value.ref l == Value.none) = true) from Bool.false_ne_true)]
  show wpAny _ _ (field (.ref it) 1 >>= _) _ _ s
  refine wpAny_bind (wpAny_field ho rfl (x := .int i 0) rfl ?_)
  show wpAny _ _ (seqItems? (.ref l) >>= _) _ _ s
  refine wpAny_bind (wpAny_seqItems hol hdl ?_)
  simp only [Int.toNat_natCast, hx]
  refine wpAny_bind (wpAny_rule (wpAny_bind (wpAny_setField ho rfl (by simp) ?_)))
  show wpAny _ _ (newExc (.type "StopIteration") [] >>= _) _ _ _
  refine wpAny_bind ?_
  simp only [newExc, newTuple]
  refine wpAny_bind (wpAny_newObj_type ?_ (by size_fits))
  refine wpAny_bind (m := firstArgMember _ _) (wpAny_of_eq (a := Value.none) (by first | rfl | (simp only [firstArgMember]; rfl)) ?_)
  refine wpAny_newObj_type ?_ (by size_fits)
  simp only [raiseNew]
  refine wpAny_bind (wpAny_handled ?_)
  rw [show A.in1.in1.handled = none from hh]
  refine wpAny_bind (wpAny_pure (wpAny_throw ?_))
  have hs : Heap.SameBut it s.heap (s.heap.update it (Obj.mapFields (·.setIfInBounds 0 Value.none))) := Heap.SameBut.update ..
  have F₁ := F.change hs hm.2.1 hm.2.2
  have N₁ : News h₀ L (s.heap.update it (Obj.mapFields (·.setIfInBounds 0 Value.none))) rest := fun p hp => by
    have q := N p (List.mem_cons_of_mem _ hp)
    exact ⟨(hs.2 p.1 (hne p hp)).trans q.1, q.2⟩
  refine h _ _ _ F₁ N₁ ⟨fun b o e => Heap.get?_push_of_some _ (Heap.get?_push_of_some _ e), ?_, ?_⟩
  · exact Heap.get?_none_of_le (by rw [Heap.size_push]; omega)
  · exact ⟨_, _, Heap.get?_push_size _ rfl, rfl, rfl⟩
end

/-- a range's iterator: the next int, how many are left -/
abbrev riObj (x left : Int) : Obj := { cls := .type "range_iterator", dict := none, data := .fields #[rawInt x, rawInt left, rawInt 1], slots := #[] }

theorem fr_ext {h₀ h h' : Heap} {L d : Addr} {m : Str → Option Value} (F : Fr h₀ L h m) (hs : Heap.ExtBut d h h') (hL : d ≠ L) (hn : h₀.get? d = none) : Fr h₀ L h' m := by
  obtain ⟨oL, a1, a2, hoL, a3⟩ := F.ns
  refine ⟨⟨oL, a1, a2, hs L oL hL.symm hoL, a3⟩, fun b x e => hs b x ?_ (F.keep b x e), F.above⟩
  rintro rfl
  rw [hn] at e; cases e
theorem news_ext {h₀ h h' : Heap} {L d : Addr} {news : List (Addr × Obj)} (N : News h₀ L h news) (hne : ∀ p ∈ news, p.1 ≠ d) (hs : Heap.ExtBut d h h') : News h₀ L h' news :=
  fun p hp => ⟨hs p.1 p.2 (hne p hp) (N p hp).1, (N p hp).2⟩
theorem fr_new {h₀ h : Heap} {L : Addr} {m : Str → Option Value} (F : Fr h₀ L h m) : h₀.get? h.objs.size = none ∧ h.objs.size ≠ L := by
  obtain ⟨oL, _, _, hL, _⟩ := F.ns
  refine ⟨?_, Nat.ne_of_gt (Heap.lt_size hL)⟩
  cases hq : h₀.get? h.objs.size with
  | none => rfl
  | some o' => exact absurd (Heap.lt_size (F.keep _ _ hq)) (Nat.lt_irrefl _)

theorem pyNext_li {prog : Program} {w : World} {A : Around} {E : Value → Shared → Prop} {s : Shared} {it l : Addr} {i : Nat} {items : Array Value} {x : Value} {Q : Option Value → Shared → Prop} (ho : s.heap.get? it = some (liObj l i))
    (hl : s.heap.IsList l items) (hx : items[i]? = some x)
    (hQ : ∀ h', h'.get? it = some (liObj l (i + 1)) → Heap.SameBut it s.heap h' → Q (some x) { s with heap := h' }) :
    wpAny (model prog w) A (pyNext (.ref it)) Q E s := by
  have hit : s.heap.IsListIter it l i := ⟨_, ho, rfl, rfl⟩
  obtain ⟨ol, hol, _, nl, hdl⟩ := hl
  unfold pyNext
  refine wpAny_bind (wpAny_attempt (wpAny_callSpecial?_slot (name := Str.ofString "__next__") hit.typeIs slot_listiter_next
    (wpAny_call_entry slot_listiter_next hit.typeIs entry_listiter_next ?_ (args_listiter_next _))))
  show wpAny _ _ (field (.ref it) 0 >>= _) _ _ s
  refine wpAny_bind (wpAny_field ho rfl (x := .ref l) rfl ?_)
  show wpAny _ _ (if (Value.ref l == Value.none) = true then _ else _) _ _ s
  rw [if_neg (show ¬ ((Value.ref l == Value.none) = true) from Bool.false_ne_true)]
  show wpAny _ _ (field (.ref it) 1 >>= _) _ _ s
  refine wpAny_bind (wpAny_field ho rfl (x := .int i 0) rfl ?_)
  show wpAny _ _ (seqItems? (.ref l) >>= _) _ _ s
  refine wpAny_bind (wpAny_seqItems hol hdl ?_)
  simp only [Int.toNat_natCast, hx]
  refine wpAny_bind (wpAny_setField ho rfl (by simp) (wpAny_pure ⟨x, rfl, wpAny_pure (hQ _ ?_ (Heap.SameBut.update ..))⟩))
  rw [Heap.get?_update_self _ ho rfl]
  simp [Obj.mapFields, rawInt]

/-- a turn's end: the loop goes on with the invariant, or leaves -/
def ForStep (h₀ : Heap) (L I : Addr) (o : Obj) (s : Shared) (J : (Str → Option Value) → List (Addr × Obj) → Prop) (Q : Flow → Shared → Prop) (f : Flow) (s₃ : Shared) : Prop :=
  match f with
  | .next | .cont => ∃ h' tk m₂ news₂, s₃ = { s with heap := h', toks := tk } ∧ Fr h₀ L h' m₂ ∧ News h₀ L h' ((I, o) :: news₂) ∧ (∀ p ∈ news₂, p.1 ≠ I) ∧ J m₂ news₂
  | .brk => Q .next s₃
  | .ret v => Q (.ret v) s₃

section
variable {prog : Program} {w : World} {A : Around} {E : Value → Shared → Prop} {Q : Flow → Shared → Prop} {s : Shared} {h₀ : Heap} {L l r a : Addr} {m : Str → Option Value} {news : List (Addr × Obj)} {items : Array Value}
  {env : Env} {target : Expr} {body : List Stmt}

theorem forListA_inv (J : Nat → (Str → Option Value) → List (Addr × Obj) → Prop) (hh : A.handled = none)
    (hl : ∀ i m₁ news₁ h, J i m₁ news₁ → Fr h₀ L h m₁ → News h₀ L h news₁ → h.IsList l items)
    (F : Fr h₀ L s.heap m) (N : News h₀ L s.heap news) (hj : J 0 m news)
    (turn : ∀ i v m₁ news₁ I h tk, items[i]? = some v → J i m₁ news₁ → (∀ p ∈ news₁, p.1 ≠ I) → Fr h₀ L h m₁ → News h₀ L h ((I, liObj l (i + 1)) :: news₁) →
      wpAny (model prog w) A (assign target env v) (fun _ s₂ => wpAny (model prog w) A (execs body env) (ForStep h₀ L I (liObj l (i + 1)) s (J (i + 1)) Q) E s₂) E { s with heap := h, toks := tk })
    (done : ∀ m₁ news₁ h tk, J items.size m₁ news₁ → Fr h₀ L h m₁ → News h₀ L h news₁ → Q .next { s with heap := h, toks := tk })
    (hE : PassesOwn (model prog w) A env E) (ht : ∀ it v, letOwnedTupleGo target it v = pure () := by intro _ _; rfl) :
    wpAny (model prog w) A (pyIter (.ref l)) (fun it s₂ => codeAny (model prog w) A (.forLoop target it body [] env)
      (fun r s' => match r with | .ok f => Q f s' | .error e => cameBackBy (model prog w) A env E e s') s₂) E s := by
  have hls := hl 0 m news _ hj F N
  refine wpAny_pyIter_list hls ?_
  have hnew := fr_new F
  have hne0 : ∀ p ∈ news, p.1 ≠ s.heap.objs.size := fun p hp => Nat.ne_of_lt (Heap.lt_size (N p hp).1)
  refine codeAny_forLoop (fun k s' => ∃ h' tk m₁ news₁ i, s' = { s with heap := h', toks := tk } ∧ Fr h₀ L h' m₁ ∧ News h₀ L h' ((s.heap.objs.size, liObj l i) :: news₁) ∧ (∀ p ∈ news₁, p.1 ≠ s.heap.objs.size) ∧ J i m₁ news₁ ∧ i ≤ items.size ∧ k = items.size + 1 - i) ?_ (items.size + 1)
    ⟨_, s.toks, m, news, 0, rfl, F.push _, News.push F N _ rfl, hne0, hj, Nat.zero_le _, rfl⟩ (ht _)
  rintro k s' ⟨h', tk, m₁, news₁, i, rfl, F₁, N₁, hne, hJ, hi, rfl⟩
  have hm := N₁ _ List.mem_cons_self
  have N₁' : News h₀ L h' news₁ := fun p hp => N₁ p (List.mem_cons_of_mem _ hp)
  have hl₁ := hl i m₁ news₁ h' hJ F₁ N₁'
  by_cases hlt : i < items.size
  · have hx' : items[i]? = some items[i] := by simp [hlt]
    refine pyNext_li (s := { s with heap := h', toks := tk }) hm.1 hl₁ hx' fun h₂ ho₂' hs₂ => ?_
    have hs₂' : Heap.SameBut s.heap.objs.size h' h₂ := hs₂
    have F₂ := F₁.change hs₂' hm.2.1 hm.2.2
    have N₂ := news_head N₁ hne hs₂' ho₂'
    refine wpAny_mono (turn i _ m₁ news₁ _ h₂ tk hx' hJ hne F₂ N₂) (fun _ s₂ q => wpAny_mono q (fun f s₃ h₃ => ?_) hE) hE
    cases f with
    | next =>
      obtain ⟨h'', tk'', m₂, news₂, rfl, F4, N4, hne4, J4⟩ := h₃
      exact ⟨items.size + 1 - (i + 1), by omega, h'', tk'', m₂, news₂, i + 1, rfl, F4, N4, hne4, J4, hlt, rfl⟩
    | cont =>
      obtain ⟨h'', tk'', m₂, news₂, rfl, F4, N4, hne4, J4⟩ := h₃
      exact ⟨items.size + 1 - (i + 1), by omega, h'', tk'', m₂, news₂, i + 1, rfl, F4, N4, hne4, J4, hlt, rfl⟩
    | brk => exact h₃
    | ret v => exact h₃
  · have hin : i = items.size := by omega
    subst hin
    refine wpAny_pyNext_list_end (s := { s with heap := h', toks := tk }) hh ⟨_, hm.1, rfl, rfl⟩ hl₁ (by simp) fun h₂ he₂ => wpAny_execs_nil ?_
    exact done m₁ news₁ h₂ tk hJ (fr_ext F₁ he₂ hm.2.1 hm.2.2) (news_ext N₁' hne he₂)

theorem forRangeA_inv {lo hi : Int} {t u v : Tok} (J : Nat → (Str → Option Value) → List (Addr × Obj) → Prop) (hh : A.handled = none) (hle : lo ≤ hi) (hlo : 0 ≤ lo) (hhi : hi < 2 ^ 31)
    (hr : IsRange s.heap r lo hi 1 t u v)
    (F : Fr h₀ L s.heap m) (N : News h₀ L s.heap news) (hj : J 0 m news)
    (turn : ∀ (i : Nat) tv m₁ news₁ I h tk, lo + i < hi → J i m₁ news₁ → (∀ p ∈ news₁, p.1 ≠ I) → Fr h₀ L h m₁ → News h₀ L h ((I, riObj (lo + i + 1) (hi - lo - i - 1)) :: news₁) →
      wpAny (model prog w) A (assign target env (.int (lo + i) tv)) (fun _ s₂ => wpAny (model prog w) A (execs body env) (ForStep h₀ L I (riObj (lo + i + 1) (hi - lo - i - 1)) s (J (i + 1)) Q) E s₂) E { s with heap := h, toks := tk })
    (done : ∀ m₁ news₁ h tk, J (hi - lo).toNat m₁ news₁ → Fr h₀ L h m₁ → News h₀ L h news₁ → Q .next { s with heap := h, toks := tk })
    (hE : PassesOwn (model prog w) A env E) (ht : ∀ it v, letOwnedTupleGo target it v = pure () := by intro _ _; rfl) :
    wpAny (model prog w) A (pyIter (.ref r)) (fun it s₂ => codeAny (model prog w) A (.forLoop target it body [] env)
      (fun r s' => match r with | .ok f => Q f s' | .error e => cameBackBy (model prog w) A env E e s') s₂) E s := by
  have hsz : Builtin.Range.rangeSize lo hi 1 = hi - lo := by
    unfold Builtin.Range.rangeSize
    rw [if_pos (by decide)]
    split <;> omega
  refine wpAny_pyIter_range hr ?_ ?_
  · unfold Builtin.Range.small
    rw [hsz]
    unfold Builtin.Range.rangeFitsLong
    have e63 : (2 : Int) ^ 63 = 9223372036854775808 := by decide
    have e31 : (2 : Int) ^ 31 = 2147483648 := by decide
    rw [e31] at hhi
    rw [e63]
    simp only [Bool.and_eq_true, decide_eq_true_eq, Bool.or_eq_true, beq_iff_eq]
    refine ⟨⟨⟨⟨⟨by omega, by omega⟩, by omega, by omega⟩, by decide⟩, by omega, by omega⟩, Or.inr ?_⟩
    rw [if_pos (by decide)]
    simp only [decide_eq_true_eq, Bool.and_eq_true]
    omega
  rw [hsz]
  have hne0 : ∀ p ∈ news, p.1 ≠ s.heap.objs.size := fun p hp => Nat.ne_of_lt (Heap.lt_size (N p hp).1)
  refine codeAny_forLoop (fun k s' => ∃ h' tk m₁ news₁ i, s' = { s with heap := h', toks := tk } ∧ Fr h₀ L h' m₁ ∧ News h₀ L h' ((s.heap.objs.size, riObj (lo + (i : Nat)) (hi - lo - (i : Nat))) :: news₁) ∧ (∀ p ∈ news₁, p.1 ≠ s.heap.objs.size) ∧ J i m₁ news₁ ∧ lo + i ≤ hi ∧ k = (hi - lo).toNat + 1 - i) ?_ ((hi - lo).toNat + 1)
    ⟨_, s.toks, m, news, 0, rfl, F.push _, ?_, hne0, hj, by simpa using hle, rfl⟩ (ht _)
  rotate_left
  · have := News.push F N (riObj lo (hi - lo)) rfl
    simpa using this
  rintro k s' ⟨h', tk, m₁, news₁, i, rfl, F₁, N₁, hne, hJ, hi', rfl⟩
  have hm := N₁ _ List.mem_cons_self
  have N₁' : News h₀ L h' news₁ := fun p hp => N₁ p (List.mem_cons_of_mem _ hp)
  by_cases hlt : lo + i < hi
  · refine wpAny_pyNext_range_item (s := { s with heap := h', toks := tk }) hm.1 (by omega) fun h₂ ho₂ hs₂ => ?_
    have hs₂' : Heap.SameBut s.heap.objs.size h' h₂ := hs₂
    have F₂ := F₁.change hs₂' hm.2.1 hm.2.2
    have N₂ := news_head N₁ hne hs₂' ho₂
    refine wpAny_mono (turn i _ m₁ news₁ _ h₂ _ hlt hJ hne F₂ N₂) (fun _ s₂ q => wpAny_mono q (fun f s₃ h₃ => ?_) hE) hE
    have e1 : lo + ((i + 1 : Nat) : Int) = lo + i + 1 := by push_cast; omega
    have e2 : hi - lo - ((i + 1 : Nat) : Int) = hi - lo - i - 1 := by push_cast; omega
    cases f with
    | next =>
      obtain ⟨h'', tk'', m₂, news₂, rfl, F4, N4, hne4, J4⟩ := h₃
      exact ⟨(hi - lo).toNat + 1 - (i + 1), by omega, h'', tk'', m₂, news₂, i + 1, rfl, F4, by rw [e1, e2]; exact N4, hne4, J4, by omega, rfl⟩
    | cont =>
      obtain ⟨h'', tk'', m₂, news₂, rfl, F4, N4, hne4, J4⟩ := h₃
      exact ⟨(hi - lo).toNat + 1 - (i + 1), by omega, h'', tk'', m₂, news₂, i + 1, rfl, F4, by rw [e1, e2]; exact N4, hne4, J4, by omega, rfl⟩
    | brk => exact h₃
    | ret v => exact h₃
  · have hin : (hi - lo).toNat = i := by omega
    refine wpAny_pyNext_range_end (s := { s with heap := h', toks := tk }) hh hm.1 (by omega) fun h₂ he₂ => wpAny_execs_nil ?_
    exact done m₁ news₁ h₂ tk (hin ▸ hJ) (fr_ext F₁ he₂ hm.2.1 hm.2.2) (news_ext N₁' hne he₂)

variable {name : Str} {scope : Scope} {cd : Value} {x : Str} {px : Pos}
theorem forList_inv (J : Nat → (Str → Option Value) → List (Addr × Obj) → Prop) (hh : A.handled = none)
    (hl : ∀ i m₁ news₁ h, J i m₁ news₁ → Fr h₀ L h m₁ → News h₀ L h news₁ → h.IsList l items)
    (F : Fr h₀ L s.heap m) (N : News h₀ L s.heap news) (hj : J 0 m news)
    (turn : ∀ i v m₁ news₁ I h tk, items[i]? = some v → J i m₁ news₁ → (∀ p ∈ news₁, p.1 ≠ I) → Fr h₀ L h (fun y => if y = x then some v else m₁ y) → News h₀ L h ((I, liObj l (i + 1)) :: news₁) →
      wpAny (model prog w) A (execs body (envOf name scope L a cd)) (ForStep h₀ L I (liObj l (i + 1)) s (J (i + 1)) Q) E { s with heap := h, toks := tk })
    (done : ∀ m₁ news₁ h tk, J items.size m₁ news₁ → Fr h₀ L h m₁ → News h₀ L h news₁ → Q .next { s with heap := h, toks := tk })
    (hE : PassesOwn (model prog w) A (envOf name scope L a cd) E := by passes_own)
    (hk : scope.kind = .function := by rfl) (hx : (envOf name scope L a cd).kindOf x = some .local := by rfl) :
    wpAny (model prog w) A (pyIter (.ref l)) (fun it s₂ => codeAny (model prog w) A (.forLoop (.Name x px) it body [] (envOf name scope L a cd))
      (fun r s' => match r with | .ok f => Q f s' | .error e => cameBackBy (model prog w) A (envOf name scope L a cd) E e s') s₂) E s :=
  forListA_inv J hh hl F N hj (fun i v m₁ news₁ I h tk hv hJ hne F₁ N₁ => wpAny_assign_Name (stN (s := { s with heap := h, toks := tk }) F₁ N₁ (fun h₂ F₂ N₂ => turn i v m₁ news₁ I h₂ _ hv hJ hne F₂ N₂) hk hx)) done hE
theorem forRange_inv {lo hi : Int} {t u v : Tok} (J : Nat → (Str → Option Value) → List (Addr × Obj) → Prop) (hh : A.handled = none) (hle : lo ≤ hi) (hlo : 0 ≤ lo) (hhi : hi < 2 ^ 31)
    (hr : IsRange s.heap r lo hi 1 t u v)
    (F : Fr h₀ L s.heap m) (N : News h₀ L s.heap news) (hj : J 0 m news)
    (turn : ∀ (i : Nat) tv m₁ news₁ I h tk, lo + i < hi → J i m₁ news₁ → (∀ p ∈ news₁, p.1 ≠ I) → Fr h₀ L h (fun y => if y = x then some (.int (lo + i) tv) else m₁ y) →
      News h₀ L h ((I, riObj (lo + i + 1) (hi - lo - i - 1)) :: news₁) →
      wpAny (model prog w) A (execs body (envOf name scope L a cd)) (ForStep h₀ L I (riObj (lo + i + 1) (hi - lo - i - 1)) s (J (i + 1)) Q) E { s with heap := h, toks := tk })
    (done : ∀ m₁ news₁ h tk, J (hi - lo).toNat m₁ news₁ → Fr h₀ L h m₁ → News h₀ L h news₁ → Q .next { s with heap := h, toks := tk })
    (hE : PassesOwn (model prog w) A (envOf name scope L a cd) E := by passes_own)
    (hk : scope.kind = .function := by rfl) (hx : (envOf name scope L a cd).kindOf x = some .local := by rfl) :
    wpAny (model prog w) A (pyIter (.ref r)) (fun it s₂ => codeAny (model prog w) A (.forLoop (.Name x px) it body [] (envOf name scope L a cd))
      (fun r s' => match r with | .ok f => Q f s' | .error e => cameBackBy (model prog w) A (envOf name scope L a cd) E e s') s₂) E s :=
  forRangeA_inv J hh hle hlo hhi hr F N hj (fun i tv m₁ news₁ I h tk hv hJ hne F₁ N₁ => wpAny_assign_Name (stN (s := { s with heap := h, toks := tk }) F₁ N₁ (fun h₂ F₂ N₂ => turn i tv m₁ news₁ I h₂ _ hv hJ hne F₂ N₂) hk hx)) done hE
end

theorem bitOr_eq (x y : Int) : Builtin.bitOr x y = x + y - Builtin.bitAnd x y := by
  have h := bitXor_and x y
  unfold Builtin.bitXor at h
  omega
theorem bitAnd_zero' (x : Int) : Builtin.bitAnd x 0 = 0 := by
  have := bitAnd_range x (y := 0) (by decide)
  omega
theorem bitAnd_even (x y : Int) (hx : x % 2 = 0) : Builtin.bitAnd x y = 2 * Builtin.bitAnd (x / 2) (y / 2) := by
  rw [kbt_halves x y, if_neg (by omega)]; omega
theorem bitAnd_shift6 (v d : Int) (h0 : 0 ≤ d) (h1 : d < 64) : Builtin.bitAnd (v * 64) d = 0 := by
  rw [bitAnd_even _ _ (by omega), show v * 64 / 2 = v * 32 from by omega]
  rw [bitAnd_even _ _ (by omega), show v * 32 / 2 = v * 16 from by omega]
  rw [bitAnd_even _ _ (by omega), show v * 16 / 2 = v * 8 from by omega]
  rw [bitAnd_even _ _ (by omega), show v * 8 / 2 = v * 4 from by omega]
  rw [bitAnd_even _ _ (by omega), show v * 4 / 2 = v * 2 from by omega]
  rw [bitAnd_even _ _ (by omega), show v * 2 / 2 = v from by omega]
  rw [show d / 2 / 2 / 2 / 2 / 2 / 2 = 0 from by omega, bitAnd_zero']
  rfl
theorem bitOr_shift6 (v c : Int) : Builtin.bitOr (v * 64) (Builtin.bitAnd c 63) = v * 64 + c % 64 := by
  rw [bitAnd_m6, bitOr_eq, bitAnd_shift6 _ _ (by omega) (by omega)]
  omega
theorem bit64 (b : Int) : Builtin.bitAnd b 64 = (b / 64 % 2) * 64 := by
  have h := kbt_bit b 6
  rw [show (2 : Int) ^ 6 = 64 from by decide] at h
  exact h
theorem bit64_true (b : Int) : (Builtin.bitAnd b 64 != 0) = decide (b / 64 % 2 = 1) := by
  rw [bit64]
  by_cases h : b / 64 % 2 = 1
  · rw [h]; decide
  · have : b / 64 % 2 = 0 := by omega
    rw [this]; decide

theorem intsAre_get : ∀ {vs : List Value} {ns : List Int}, IntsAre vs ns → ∀ {i : Nat} {x : Value}, vs[i]? = some x → ∃ b tb, x = .int b tb ∧ ns[i]? = some b
  | _, _, .nil, i, x, h => by simp at h
  | _, _, .cons n t r, 0, x, h => by simp at h; exact ⟨n, t, h.symm, rfl⟩
  | _, _, .cons n t r, i + 1, x, h => by
    rw [List.getElem?_cons_succ] at h ⊢
    exact intsAre_get r h
theorem intsAre_none {vs : List Value} {ns : List Int} (hI : IntsAre vs ns) {i : Nat} (h : vs[i]? = none) : ns[i]? = none := by
  rw [List.getElem?_eq_none_iff] at h ⊢
  rw [← hI.length]; exact h

theorem pow64_step {j : Nat} {v c : Int} (h0 : 0 ≤ v) (h : v < 64 ^ j) : 0 ≤ v * 64 + c % 64 ∧ v * 64 + c % 64 < 64 ^ (j + 1) := by
  rw [Int.pow_succ]
  omega
theorem bits_of_lt {k : Nat} {v : Int} (h0 : 0 ≤ v) (h : v < 64 ^ k) (hk : k ≤ 64) : (Builtin.Int.intBits v : Int) + 6 ≤ 2 ^ 27 := by
  have h1 : Builtin.Int.intBits v ≤ 6 * k := by
    rw [intBits_le_iff, Nat.pow_mul]
    have : ((v.natAbs : Nat) : Int) < ((64 ^ k : Nat) : Int) := by push_cast; omega
    exact_mod_cast this
  have e : (2 : Int) ^ 27 = 134217728 := by decide
  omega

/-- the rest of a number: what is read so far, the item read last, what is left -/
def pvRest (val b : Int) (xs : List Int) : Option (Int × List Int) :=
  if b / 64 % 2 = 1 then
    match xs with
    | [] => none
    | c :: r => pvRest (val * 64 + c % 64) c r
  else some (val, xs)
def pvOf : List Int → Option (Int × List Int)
  | [] => none
  | b :: r => pvRest (b % 64) b r
theorem pvRest_nil {val b : Int} (hb : b / 64 % 2 = 1) : pvRest val b [] = none := by unfold pvRest; rw [if_pos hb]
theorem pvRest_cons {val b c : Int} {r : List Int} (hb : b / 64 % 2 = 1) : pvRest val b (c :: r) = pvRest (val * 64 + c % 64) c r := by rw [pvRest, if_pos hb]
theorem pvRest_done {val b : Int} {r : List Int} (hb : ¬ b / 64 % 2 = 1) : pvRest val b r = some (val, r) := by unfold pvRest; rw [if_neg hb]
theorem drop_get {xs : List Int} {i : Nat} {b : Int} (h : xs[i]? = some b) : xs.drop i = b :: xs.drop (i + 1) := by
  obtain ⟨hlt, rfl⟩ := List.getElem?_eq_some_iff.mp h
  exact List.drop_eq_getElem_cons hlt
theorem drop_none {xs : List Int} {i : Nat} (h : xs[i]? = none) : xs.drop i = [] := List.drop_eq_nil_iff.mpr (List.getElem?_eq_none_iff.mp h)

theorem range_size {lo hi : Int} (hle : lo ≤ hi) : Builtin.Range.rangeSize lo hi 1 = hi - lo := by
  unfold Builtin.Range.rangeSize
  rw [if_pos (by decide)]
  split <;> omega
theorem range_small {lo hi : Int} (hle : lo ≤ hi) (hlo : 0 ≤ lo) (hhi : hi < 2 ^ 31) : Builtin.Range.small lo hi 1 = true := by
  unfold Builtin.Range.small
  rw [range_size hle]
  unfold Builtin.Range.rangeFitsLong
  have e63 : (2 : Int) ^ 63 = 9223372036854775808 := by decide
  have e31 : (2 : Int) ^ 31 = 2147483648 := by decide
  rw [e31] at hhi
  rw [e63]
  simp only [Bool.and_eq_true, decide_eq_true_eq, Bool.or_eq_true, beq_iff_eq]
  refine ⟨⟨⟨⟨⟨by omega, by omega⟩, by omega, by omega⟩, by decide⟩, by omega, by omega⟩, Or.inr ?_⟩
  rw [if_pos (by decide)]
  simp only [decide_eq_true_eq, Bool.and_eq_true]
  omega
theorem intsAre_of : ∀ (ys : List Value) (f : Nat → Int), (∀ i y, ys[i]? = some y → ∃ t, y = Value.int (f i) t) → IntsAre ys ((List.range ys.length).map f)
  | [], _, _ => .nil
  | y :: ys, f, h => by
    obtain ⟨t, rfl⟩ := h 0 y rfl
    rw [List.length_cons, List.range_succ_eq_map, List.map_cons, List.map_map]
    exact .cons (f 0) t (intsAre_of ys (fun i => f (i + 1)) fun i y hy => h (i + 1) y (by rw [List.getElem?_cons_succ]; exact hy))

section
variable {prog : Program} {w : World} {A : Around} {E : Value → Shared → Prop} {s : Shared} {h₀ : Heap} {L : Addr} {m : Str → Option Value} {news : List (Addr × Obj)} {env : Env} {elt : Expr} {x : Str} {scope : Scope} {cl : List (Str × Addr)}
  {S : List (Addr × Obj) → Prop} {P : Nat → Value → Prop} {Fin : List Value → List (Addr × Obj) → Prop} {n : Nat}

/-- the end of one item of a comprehension: the ledger as it was, the item as told -/
def EltEnd (h₀ : Heap) (L : Addr) (m : Str → Option Value) (s : Shared) (led : List (Addr × Obj)) (G : Value → Prop) (y : Value) (s₂ : Shared) : Prop :=
  ∃ h' tk', s₂ = { s with heap := h', toks := tk' } ∧ Fr h₀ L h' m ∧ News h₀ L h' led ∧ G y

theorem compRest_of (G : Nat → Value → Prop) (hS : S news)
    (step : ∀ i v ys I oI C oC D m₂ h tk (E' : Value → Shared → Prop), i < n → P i v → LCg.NsObj oC m₂ → m₂ x = some v → Fr h₀ L h m → News h₀ L h ((I, oI) :: (C, oC) :: (D, LCg.lst ys) :: news) →
      wpAny (model prog w) A (eval elt (compEnvC scope cl C env)) (EltEnd h₀ L m s ((I, oI) :: (C, oC) :: (D, LCg.lst ys) :: news) (G i)) E' { s with heap := h, toks := tk })
    (fin : ∀ ys : List Value, ys.length = n → (∀ i y, ys[i]? = some y → G i y) → Fin ys news) :
    LCg.CompRest prog w A h₀ L m env elt x scope cl s S P Fin n 0 [] news := by
  have all : ∀ k i ys, i + k = n → ys.length = i → (∀ j y, ys[j]? = some y → G j y) → LCg.CompRest prog w A h₀ L m env elt x scope cl s S P Fin k i ys news := by
    intro k
    induction k with
    | zero => intro i ys hk hl hG; exact fin ys (by omega) hG
    | succ k ih =>
      intro i ys hk hl hG
      refine LCg.CompRest.succ ?_
      intro v I oI C oC D m₂ h tk E' hP hC hx F N off3 _
      refine wpAny_mono (step i v ys I oI C oC D m₂ h tk E' (by omega) hP hC hx F N) (fun y s₂ q => ?_) fun _ _ e => e
      obtain ⟨h', tk', rfl, F', N', hy⟩ := q
      refine ⟨h', tk', news, rfl, F', N', off3, hS, ih (i + 1) (ys ++ [y]) (by omega) (by simp [hl]) ?_⟩
      intro j z hz
      rw [List.getElem?_append] at hz
      by_cases hj : j < ys.length
      · rw [if_pos hj] at hz; exact hG j z hz
      · rw [if_neg hj] at hz
        have e0 : j - ys.length = 0 := by
          rcases Nat.eq_zero_or_pos (j - ys.length) with h | h
          · exact h
          · rw [List.getElem?_eq_none (by simp; omega)] at hz; cases hz
        rw [e0] at hz
        simp at hz
        subst hz
        rw [show j = i from by omega]; exact hy
  exact all n 0 [] (by omega) rfl (by intro j y h; simp at h)

theorem sum_N {l : Addr} {vs : List Value} {ns : List Int} {Q : Value → Shared → Prop} (hh : A.handled = none) (F : Fr h₀ L s.heap m) (N : News h₀ L s.heap news) (hl : s.heap.IsList l vs.toArray) (hi : IntsAre vs ns)
    (h : ∀ h' tk t', Fr h₀ L h' m → News h₀ L h' news → Q (.int ns.sum t') { s with heap := h', toks := tk }) :
    wpAny (model prog w) A (call (.builtin "sum") [.ref l]) Q E s := by
  have e1 : numsOf vs.toArray.toList = ns := hi.numsOf
  obtain ⟨xs, hxs⟩ := hi.allInts.items
  rw [hxs] at hl e1
  rw [nums_intItems] at e1
  refine sum_intListG hh hl fun h' tk t' hk => ?_
  have := h h' tk t' (F.grownK hk) (fun p hp => ⟨hk _ _ (N p hp).1, (N p hp).2⟩)
  rw [preSum_eq, List.take_of_length_le (by simp), e1]
  exact this

/-- the end of a comprehension's test -/
def TestEnd (h₀ : Heap) (L : Addr) (m : Str → Option Value) (s : Shared) (led : List (Addr × Obj)) (b : Bool) (ok : Bool) (s₂ : Shared) : Prop :=
  ∃ h' tk', s₂ = { s with heap := h', toks := tk' } ∧ Fr h₀ L h' m ∧ News h₀ L h' led ∧ ok = b

theorem compRestT_of {ct : Expr} (b : Nat → Bool) (R : Nat → List Value → Prop) (hS : S news) (h0 : R 0 [])
    (test : ∀ i v ys I oI C oC D m₂ h tk (E' : Value → Shared → Prop), i < n → P i v → LCg.NsObj oC m₂ → m₂ x = some v → Fr h₀ L h m → News h₀ L h ((I, oI) :: (C, oC) :: (D, LCg.lst ys) :: news) →
      wpAny (model prog w) A (isTrue ct (compEnvC scope cl C env) (eval ct (compEnvC scope cl C env))) (TestEnd h₀ L m s ((I, oI) :: (C, oC) :: (D, LCg.lst ys) :: news) (b i)) E' { s with heap := h, toks := tk })
    (item : ∀ i v ys I oI C oC D m₂ h tk (E' : Value → Shared → Prop), i < n → b i = true → R i ys → P i v → LCg.NsObj oC m₂ → m₂ x = some v → Fr h₀ L h m → News h₀ L h ((I, oI) :: (C, oC) :: (D, LCg.lst ys) :: news) →
      wpAny (model prog w) A (eval elt (compEnvC scope cl C env)) (EltEnd h₀ L m s ((I, oI) :: (C, oC) :: (D, LCg.lst ys) :: news) (fun y => R (i + 1) (ys ++ [y]))) E' { s with heap := h, toks := tk })
    (skip : ∀ i ys, i < n → b i = false → R i ys → R (i + 1) ys)
    (fin : ∀ ys : List Value, R n ys → Fin ys news) :
    LCt.CompRestT prog w A h₀ L m env ct elt x scope cl s S P Fin n 0 [] news := by
  have all : ∀ k i ys, i + k = n → R i ys → LCt.CompRestT prog w A h₀ L m env ct elt x scope cl s S P Fin k i ys news := by
    intro k
    induction k with
    | zero => intro i ys hk hR; exact fin ys (by rw [← hk]; exact hR)
    | succ k ih =>
      intro i ys hk hR
      refine LCt.CompRestT.succ ?_
      intro v I oI C oC D m₂ h tk E' hP hC hx F N off3 _
      refine wpAny_mono (test i v ys I oI C oC D m₂ h tk E' (by omega) hP hC hx F N) (fun ok s₂ q => ?_) fun _ _ e => e
      obtain ⟨h', tk', rfl, F', N', rfl⟩ := q
      cases hb : b i with
      | true =>
        rw [if_pos rfl]
        refine wpAny_mono (item i v ys I oI C oC D m₂ h' tk' E' (by omega) hb hR hP hC hx F' N') (fun y s₂ q => ?_) fun _ _ e => e
        obtain ⟨h'', tk'', rfl, F'', N'', hy⟩ := q
        exact ⟨h'', tk'', news, rfl, F'', N'', off3, hS, ih (i + 1) (ys ++ [y]) (by omega) hy⟩
      | false =>
        rw [if_neg (by decide)]
        exact ⟨h', tk', news, rfl, F', N', off3, hS, ih (i + 1) ys (by omega) (skip i ys (by omega) hb hR)⟩
  exact all n 0 [] (by omega) h0
end

/-- a bytes' iterator standing before octet i -/
abbrev biObj (b : Array UInt8) (t : Tok) (i : Nat) : Obj := { cls := .type "bytes_iterator", data := .fields #[.bytes b t, .int i 0] }

section
variable {prog : Program} {w : World} {A : Around} {E : Value → Shared → Prop} {s : Shared} {h₀ : Heap} {L it : Addr} {m : Str → Option Value} {rest : List (Addr × Obj)} {i : Nat} {b : Array UInt8} {t : Tok}

theorem nextB_item {c : UInt8} {Q : Value → Shared → Prop} (F : Fr h₀ L s.heap m) (N : News h₀ L s.heap ((it, biObj b t i) :: rest)) (hne : ∀ p ∈ rest, p.1 ≠ it) (hx : b[i]? = some c)
    (h : ∀ h' tk, Fr h₀ L h' m → News h₀ L h' ((it, biObj b t (i + 1)) :: rest) → Q (.int (c.toNat : Int) tk) { s with heap := h', toks := s.toks + 1 }) :
    wpAny (model prog w) A (call (.builtin "next") [.ref it]) Q E s := by
  have hm := N _ (List.mem_cons_self)
  have ho := hm.1
  have hit : KBw.IsBytesIter s.heap it b t i := ⟨_, ho, rfl, rfl⟩
  refine call_function_entry (by decide +kernel) (by decide +kernel) kdk_entry_next (kdk_args_next _) ?_
  unfold Builtin.«next»
  refine wpAny_bind (m := someArgs "next" 1 2 _) (wpAny_of_eq (a := [Value.ref it]) (by first | rfl | kernel_rfl!) ?_)
  dsimp only
  refine wpAny_bind (wpAny_specialOf (name := Str.ofString "__next__") (KBw.iter_typeIs hit) KBw.slot_next.lookup ?_)
  refine wpAny_ite_split (fun hab => absurd hab (by decide)) (fun _ => ?_)
  refine wpAny_bind (wpAny_callSpecial?_slot (name := Str.ofString "__next__") (KBw.iter_typeIs hit) KBw.slot_next
    (wpAny_call_entry KBw.slot_next (KBw.iter_typeIs hit) KBw.entry_next ?_ (KBw.args_next _)))
  show wpAny _ _ (field (.ref it) 0 >>= _) _ _ s
  refine wpAny_bind (wpAny_field ho rfl (x := .bytes b t) rfl ?_)
  show wpAny _ _ (if (Value.bytes b t == Value.none) = true then _ else _) _ _ s
  rw [if_neg (show ¬ ((Value.bytes b t == Value.none) = true) from Bool.false_ne_true)]
  show wpAny _ _ (field (.ref it) 1 >>= _) _ _ s
  refine wpAny_bind (wpAny_field ho rfl (x := .int i 0) rfl ?_)
  refine wpAny_bind (wpAny_of_eq (a := b) rfl ?_)
  simp only [Int.toNat_natCast, hx]
  have hs : Heap.SameBut it s.heap (s.heap.update it (Obj.mapFields (·.setIfInBounds 1 (rawInt ((i : Int) + 1))))) := Heap.SameBut.update ..
  refine wpAny_bind (wpAny_setField ho rfl (by simp) (wpAny_bind (wpAny_mkInt (wpAny_pure ⟨_, rfl, wpAny_pure ⟨_, rfl, ?_⟩⟩))))
  exact h _ _ (F.change hs hm.2.1 hm.2.2) (news_head N hne hs (by rw [Heap.get?_update_self _ ho rfl]; simp [Obj.mapFields, rawInt]))

theorem iterB {news : List (Addr × Obj)} {Q : Value → Shared → Prop} (F : Fr h₀ L s.heap m) (N : News h₀ L s.heap news)
    (h : ∀ I h', Fr h₀ L h' m → News h₀ L h' ((I, biObj b t 0) :: news) → (∀ p ∈ news, p.1 < I) → Q (.ref I) { s with heap := h' }) :
    wpAny (model prog w) A (call (.builtin "iter") [.bytes b t]) Q E s := by
  refine call_function_entry (by decide +kernel) (by decide +kernel) kdk_entry_iter (kdk_args_iter _) ?_
  unfold Builtin.«iter»
  refine wpAny_bind (m := someArgs "iter" 1 2 _) (wpAny_of_eq (a := [Value.bytes b t]) (by first | rfl | kernel_rfl!) ?_)
  show wpAny _ _ (pyIter (.bytes b t) >>= _) _ _ _
  refine wpAny_bind (KBw.pyIter_bytes ?_)
  exact wpAny_pure ⟨_, rfl, h _ _ (F.push _) (News.push F N _ rfl) (fun q hq => Heap.lt_size (N q hq).1)⟩

theorem nextB_end {Q : Value → Shared → Prop} (hh : A.handled = none) (F : Fr h₀ L s.heap m) (N : News h₀ L s.heap ((it, biObj b t i) :: rest)) (hne : ∀ p ∈ rest, p.1 ≠ it) (hx : b[i]? = none)
    (h : ∀ h₁ h' e, Fr h₀ L h₁ m → News h₀ L h₁ rest → Heap.NewExc h₁ h' e "StopIteration" → E (.ref e) { s with heap := h' }) :
    wpAny (model prog w) A (call (.builtin "next") [.ref it]) Q E s := by
  have hm := N _ (List.mem_cons_self)
  have ho := hm.1
  have hit : KBw.IsBytesIter s.heap it b t i := ⟨_, ho, rfl, rfl⟩
  refine call_function_entry (by decide +kernel) (by decide +kernel) kdk_entry_next (kdk_args_next _) ?_
  unfold Builtin.«next»
  refine wpAny_bind (m := someArgs "next" 1 2 _) (wpAny_of_eq (a := [Value.ref it]) (by first | rfl | kernel_rfl!) ?_)
  dsimp only
  refine wpAny_bind (wpAny_specialOf (name := Str.ofString "__next__") (KBw.iter_typeIs hit) KBw.slot_next.lookup ?_)
  refine wpAny_ite_split (fun hab => absurd hab (by decide)) (fun _ => ?_)
  refine wpAny_bind (wpAny_callSpecial?_slot (name := Str.ofString "__next__") (KBw.iter_typeIs hit) KBw.slot_next
    (wpAny_call_entry KBw.slot_next (KBw.iter_typeIs hit) KBw.entry_next ?_ (KBw.args_next _)))
  show wpAny _ _ (field (.ref it) 0 >>= _) _ _ s
  refine wpAny_bind (wpAny_field ho rfl (x := .bytes b t) rfl ?_)
  show wpAny _ _ (if (Value.bytes b t == Value.none) = true then _ else _) _ _ s
  rw [if_neg (show ¬ ((Value.bytes b t == Value.none) = true) from Bool.false_ne_true)]
  show wpAny _ _ (field (.ref it) 1 >>= _) _ _ s
  refine wpAny_bind (wpAny_field ho rfl (x := .int i 0) rfl ?_)
  refine wpAny_bind (wpAny_of_eq (a := b) rfl ?_)
  simp only [Int.toNat_natCast, hx]
  refine wpAny_bind (wpAny_rule (wpAny_bind (wpAny_setField ho rfl (by simp) ?_)))
  show wpAny _ _ (newExc (.type "StopIteration") [] >>= _) _ _ _
  refine wpAny_bind ?_
  simp only [newExc, newTuple]
  refine wpAny_bind (wpAny_newObj_type ?_ (by size_fits))
  refine wpAny_bind (m := firstArgMember _ _) (wpAny_of_eq (a := Value.none) (by first | rfl | (simp only [firstArgMember]; rfl)) ?_)
  refine wpAny_newObj_type ?_ (by size_fits)
  simp only [raiseNew]
  refine wpAny_bind (wpAny_handled ?_)
  rw [show A.in1.in1.handled = none from hh]
  refine wpAny_bind (wpAny_pure (wpAny_throw ?_))
  generalize hfe : (s.heap.update it _) = H1
  have hs : Heap.SameBut it s.heap H1 := by rw [← hfe]; exact Heap.SameBut.update ..
  have F₁ := F.change hs hm.2.1 hm.2.2
  have N₁ : News h₀ L H1 rest := fun p hp => by
    have q := N p (List.mem_cons_of_mem _ hp)
    exact ⟨(hs.2 p.1 (hne p hp)).trans q.1, q.2⟩
  refine h _ _ _ F₁ N₁ ⟨fun b o e => Heap.get?_push_of_some _ (Heap.get?_push_of_some _ e), ?_, ?_⟩
  · exact Heap.get?_none_of_le (by rw [Heap.size_push]; omega)
  · exact ⟨_, _, Heap.get?_push_size _ rfl, rfl, rfl⟩
end

theorem fillK : (PySem.Challenge.rw_dm0068_02 = PySem.Challenge.rw_dm0068_02 ∧ hd2.heap_39 = hd2.heap_39) := by
  k_fill
  exact ⟨rfl, rfl⟩

local macro_rules | `(tactic| ktn_open) => `(tactic| repeat' (first | (k_unfold; (try dsimp only)) | ((fail_if_success (with_reducible show wpAny _ _ (exec (Stmt.While _ _ _ _) _) _ _ _)); (fail_if_success (with_reducible show wpAny _ _ (exec (Stmt.For _ _ _ _ _) _) _ _ _)); (fail_if_success (with_reducible show wpAny _ _ (call (Value.ref _) _) _ _ _)); first | walk1 | (dsimp only; walk1) | (leave1; (try dsimp only)))))

def pvM (it : Addr) (b : Int) (tb : Tok) (v : Int) (tv : Tok) : Str → Option Value := fun y =>
  if y = Str.ofString "val" then some (.int v tv) else if y = Str.ofString "b" then some (.int b tb) else if y = Str.ofString "iterator" then some (.ref it) else none
def pvJ (xs : List Int) (i : Nat) (it : Addr) (ob : Array UInt8) (tob : Tok) (rest : List (Addr × Obj)) (n : Nat) (m : Str → Option Value) (news : List (Addr × Obj)) : Prop :=
  ∃ v b tv tb j, m = pvM it b tb v tv ∧ news = (it, biObj ob tob j) :: rest ∧ n + j = xs.length ∧ i < j ∧ 0 ≤ v ∧ v < 64 ^ j ∧ pvOf (xs.drop i) = pvRest v b (xs.drop j)

theorem fr_of {h₀ h : Heap} {L : Addr} {m m' : Str → Option Value} (F : Fr h₀ L h m) (e : ∀ y, m y = m' y) : Fr h₀ L h m' := by
  obtain rfl : m = m' := funext e
  exact F

theorem bInts_none {ob : Array UInt8} {xs : List Int} (hxs : xs = KBw.bInts ob) {i : Nat} (h : ob[i]? = none) : xs[i]? = none := by
  rw [List.getElem?_eq_none_iff, hxs, KBw.ints_length]
  exact Array.getElem?_eq_none_iff.mp h
theorem bits_of_ltB {k : Nat} {v : Int} (h0 : 0 ≤ v) (h : v < 64 ^ k) (hk : k ≤ 1000000) : (Builtin.Int.intBits v : Int) + 6 ≤ 2 ^ 27 := by
  have h1 : Builtin.Int.intBits v ≤ 6 * k := by
    rw [intBits_le_iff, Nat.pow_mul]
    have : ((v.natAbs : Nat) : Int) < ((64 ^ k : Nat) : Int) := by push_cast; omega
    exact_mod_cast this
  have e : (2 : Int) ^ 27 = 134217728 := by decide
  omega
theorem isList_of_news {h₀ h : Heap} {L l : Addr} {items : Array Value} {n : Nat} {news : List (Addr × Obj)} (N : News h₀ L h news) (hm : (l, listOf items n) ∈ news) : h.IsList l items :=
  ⟨_, (N _ hm).1, rfl, n, rfl⟩
theorem lookup1 (x y : Str) (v : Value) : List.lookup y [(x, v)] = if y = x then some v else none := by
  by_cases h : y = x
  · subst h; simp [List.lookup]
  · have hb : (y == x) = false := beq_eq_false_iff_ne.mpr h
    simp [List.lookup, hb, h]

section
variable {prog : Program} {w : World} {A A₀ : Around} {E : Value → Shared → Prop} {s : Shared} {h₀ base : Heap} {L it l a : Addr} {m mg mb : Str → Option Value} {rest : List (Addr × Obj)} {i n : Nat} {ob : Array UInt8} {tob : Tok}
  {outer : List Env} {loose : List Str} {mean : ExcName → Option Value} {cn : Str} {cs : Scope} {ccd : Value} {Q : Value → Shared → Prop}

theorem pv_call (hA : A.frames = some (envOf cn cs L a ccd :: outer)) (hck : cs.kind = .function) (hh : A.handled = none) (hdp : A.depth < recursionLimit)
    (B : Below A₀ base outer h₀) (F : Fr h₀ L s.heap m) (X : (hd2.heap_39 w.params).In h₀) (T : Top hd2.view_39 loose mean mg mb h₀)
    (N : News h₀ L s.heap ((it, biObj ob tob i) :: rest)) (hne : ∀ p ∈ rest, p.1 ≠ it) (hlen : ob.size ≤ 100000)
    (hret : ∀ v r j h' tk tk', pvOf ((KBw.bInts ob).drop i) = some (v, r) → (KBw.bInts ob).drop j = r → i < j → j ≤ ob.size → Fr h₀ L h' m → News h₀ L h' ((it, biObj ob tob j) :: rest) → Q (.int v tk) { s with heap := h', toks := tk' })
    (hexc : ∀ g h' tk' e, pvOf ((KBw.bInts ob).drop i) = none → Fr h₀ L g m → RaisedSN base g (envOf cn cs L a ccd :: outer) e (.type "StopIteration") rest h' → g.UpToSlots h' → E (.ref e) { s with heap := h', toks := tk' }) :
    wpAny (model prog w) A (call (.ref 21) [.ref it]) Q E s := by
  refine wpAny_call ?_
  k_dflt (refine' code_def B F X N T hA rfl hck ?k6 ?k7 hdp ?k9 ?kB ?_ ?c2 ?c3 ?c4 ?c5; (case k6 => k_is); (case k7 => k_is); (case k9 => exact BindsTo.of_eq rfl); (case c5 => decide); (case kB => exact locs rfl); (case c2 => exact rfl); (case c3 => exact rfl); (case c4 => exact rfl); k_whole; intro g' L' h' FG' F' N' B' X' T'; (try dsimp only); (try k_fold))
  replace F' := fr_of (m' := fun y => if y = Str.ofString "iterator" then some (.ref it) else none) F' (fun y => lookup1 (Str.ofString "iterator") y (.ref it))
  ktn_open
  obtain ⟨xs, hxs⟩ : ∃ xs, xs = KBw.bInts ob := ⟨_, rfl⟩
  have hxl : xs.length = ob.size := by rw [hxs]; exact KBw.ints_length ob
  rw [← hxs] at hret hexc
  rcases hx : ob[i]? with _ | x
  · refine nextB_end hh F' N' hne hx ?_
    intro h₁ h₂ e F₁ N₁ R₁
    k_unfold
    refine leave_newS B' R₁ F₁ N₁ ?_
    intro h₃ RS _ U
    refine hexc _ _ _ _ ?_ FG' RS U
    rw [drop_none (bInts_none hxs hx)]
    rfl
  · refine nextB_item F' N' hne hx ?_
    intro h₁ tb F₁ N₁
    obtain ⟨b, hbe⟩ : ∃ b : Int, b = (x.toNat : Int) := ⟨_, rfl⟩
    have hb : xs[i]? = some b := by rw [hxs, hbe]; exact KBw.ints_get hx
    rw [← hbe]
    ktn_open
    rename Fr g' _ _ _ => F2
    rename News g' _ _ _ => N2
    have F3 := fr_of (m' := pvM it b tb (b % 64) _) F2 (by
      intro y
      rw [bitAnd_m6]
      rfl)
    have hilt : i < xs.length := (List.getElem?_eq_some_iff.mp hb).1
    refine While_inv2 (pvJ xs i it ob tob rest) (n₀ := xs.length - (i + 1)) F3 N2 ?_ ?_
    · refine ⟨b % 64, b, _, tb, i + 1, rfl, rfl, by omega, by omega, by omega, ?_, ?_⟩
      · have := (pow64_step (j := i) (v := 0) (c := b) (by omega) (pow_pos_of (by decide) i)).2
        simpa using this
      · rw [drop_get hb]; rfl
    · rintro n₁ m₁ news₁ h₄ tk₄ F₄ N₄ ⟨v, c, tv, tc, j, rfl, rfl, hn₁, hij, hv0, hv1, hpv⟩
      clear F2 N2 F3
      ktn_open
      · rename Builtin.bitAnd c 64 ≠ 0 => hc
        have hc1 : c / 64 % 2 = 1 := by
          rw [bit64] at hc
          omega
        refine ilshift_int (by decide) (bits_of_ltB hv0 hv1 (by omega)) ?_
        rw [show v * 2 ^ (6 : Int).toNat = v * 64 from rfl]
        ktn_open
        rename Fr g' _ _ _ => F5
        rename News g' _ _ _ => N5
        rcases hx5 : ob[j]? with _ | x
        · refine nextB_end hh F5 N5 hne hx5 ?_
          intro h₁ h₂ e F₁ N₁ R₁
          k_unfold
          refine leave_newS B' R₁ F₁ N₁ ?_
          intro h₃ RS _ U
          refine hexc _ _ _ _ ?_ FG' RS U
          rw [hpv, drop_none (bInts_none hxs hx5), pvRest_nil hc1]
        · refine nextB_item F5 N5 hne hx5 ?_
          intro h₁ td F₁ N₁
          obtain ⟨d, hde⟩ : ∃ d : Int, d = (x.toNat : Int) := ⟨_, rfl⟩
          have hd : xs[j]? = some d := by rw [hxs, hde]; exact KBw.ints_get hx5
          rw [← hde]
          ktn_open
          rename Fr g' _ _ _ => F7
          rename News g' _ _ _ => N7
          have hjlt : j < xs.length := (List.getElem?_eq_some_iff.mp hd).1
          have F8 := fr_of (m' := pvM it d td (v * 64 + d % 64) _) F7 (by
            intro y
            simp only [pvM, bitOr_shift6]
            by_cases h1 : y = Str.ofString "val"
            · simp only [h1, if_true]; rfl
            · by_cases h2 : y = Str.ofString "b"
              · simp only [h1, h2, if_true, if_false]
              · simp only [h1, h2, if_false])
          exact ⟨_, _, _, _, n₁ - 1, rfl, F8, N7, by omega, v * 64 + d % 64, d, _, td, j + 1, rfl, rfl, by omega, by omega, (pow64_step hv0 hv1).1, (pow64_step hv0 hv1).2, by rw [hpv, drop_get hd, pvRest_cons hc1]⟩
      · rename Builtin.bitAnd c 64 = 0 => hc
        rename Fr h₀ _ _ _ => F6
        rename News h₀ _ _ _ => N6
        have hc1 : ¬ c / 64 % 2 = 1 := by
          rw [bit64] at hc
          omega
        refine hret v _ j h₄ tv _ ?_ rfl hij (by omega) F6 N6
        rw [hpv, pvRest_done hc1]
end

local macro_rules | `(tactic| ktn_open) => `(tactic| repeat' (first | (k_unfold; (try dsimp only)) | ((fail_if_success (with_reducible show wpAny _ _ (exec (Stmt.While _ _ _ _) _) _ _ _)); (fail_if_success (with_reducible show wpAny _ _ (exec (Stmt.For _ _ _ _ _) _) _ _ _)); (fail_if_success (with_reducible show wpAny _ _ (call (Value.ref _) _) _ _ _)); (fail_if_success (with_reducible show wpAny _ _ (pyIter _) _ _ _)); (fail_if_success (with_reducible show wpAny _ _ (call (Value.type _) _) _ _ _)); (fail_if_success (with_reducible show wpAny _ _ (call (Value.builtin "list.append") _) _ _ _)); (fail_if_success (with_reducible show wpAny _ _ (call (Value.builtin "len") _) _ _ _)); first | walk1 | (dsimp only; walk1) | (leave1; (try dsimp only)))))

def pvAll : Nat → List Int → List Int
  | 0, _ => []
  | k + 1, xs => match pvOf xs with
    | none => []
    | some (v, r) => v :: pvAll k r

def lrM (v : Value) (t it : Addr) : Str → Option Value := fun y =>
  if y = Str.ofString "items" then some (.ref it) else if y = Str.ofString "numbers" then some (.ref t) else if y = Str.ofString "octets" then some v else none
def lrJ (xs : List Int) (ob : Array UInt8) (tob : Tok) (t it : Addr) (news₀ : List (Addr × Obj)) (n : Nat) (m : Str → Option Value) (news : List (Addr × Obj)) : Prop :=
  ∃ j vs done, m = lrM (.bytes ob tob) t it ∧ news = (it, biObj ob tob j) :: (t, listOf vs.toArray vs.length) :: news₀ ∧ IntsAre vs done ∧ done.length + n = 4 ∧ j ≤ xs.length ∧ pvAll 4 xs = done ++ pvAll n (xs.drop j)

example : (PySem.Challenge.rw_dm0068_02 = PySem.Challenge.rw_dm0068_02 ∧ hd2.heap_39 = hd2.heap_39) := by
  k_fill
  exact ⟨rfl, rfl⟩
section
variable {prog : Program} {w : World} {A A₀ : Around} {E : Value → Shared → Prop} {s : Shared} {h₀ base g₀ : Heap} {L a : Addr} {m mg mb : Str → Option Value} {news : List (Addr × Obj)} {ob : Array UInt8} {tob : Tok}
  {loose : List Str} {mean : ExcName → Option Value} {cn : Str} {cs : Scope} {ccd : Value} {Q : Value → Shared → Prop} {outer : List Env}

theorem lr_call (hA : A.frames = some (envOf cn cs L a ccd :: outer)) (hck : cs.kind = .function) (hh : A.handled = none) (hdp : A.depth + 1 < recursionLimit)
    (B : Below A₀ base outer h₀) (F : Fr h₀ L s.heap m) (X : (hd2.heap_39 w.params).In h₀) (T : Top hd2.view_39 loose mean mg mb h₀)
    (XB : (hd2.heap_39 w.params).In base) (TB : Top hd2.view_39 loose mean mg mb base) (D : KtsDicts (outer.filterMap (·.frame)) h₀) (T0 : KtsTurn (outer.filterMap (·.frame)) g₀ h₀)
    (N : News h₀ L s.heap news) (hlen : ob.size ≤ 100000)
    (hret : ∀ h₁ t vs h' tk', IntsAre vs (pvAll 4 (KBw.bInts ob)) → KtsTurn (outer.filterMap (·.frame)) g₀ h₁ → Fr h₁ L h' m → News h₁ L h' ((t, listOf vs.toArray vs.length) :: news) → (∀ p ∈ news, p.1 ≠ t) →
      Below A₀ base outer h₁ → (hd2.heap_39 w.params).In h₁ → Top hd2.view_39 loose mean mg mb h₁ → KtsDicts (outer.filterMap (·.frame)) h₁ → Q (.ref t) { s with heap := h', toks := tk' }) :
    wpAny (model prog w) A (call (.ref 35) [.bytes ob tob]) Q E s := by
  refine wpAny_call ?_
  k_dflt (refine' code_defS B F X N T XB TB D T0 hA ?k6 ?k7 ?kd ?k9 ?kB ?_ hck ?c2 ?c3 ?c4 ?c5; (case k6 => k_is); (case k7 => k_is); (case kd => omega); (case k9 => exact BindsTo.of_eq rfl); (case c5 => decide); (case kB => exact locs rfl); (case c2 => exact rfl); (case c3 => exact rfl); (case c4 => exact rfl); k_whole; intro g' L' h' FG' F' N' B' X' T' D'; (try dsimp only); (try k_fold))
  replace F' := fr_of (m' := fun y => if y = Str.ofString "octets" then some (.bytes ob tob) else none) F' (fun y => lookup1 (Str.ofString "octets") y (.bytes ob tob))
  ktn_open
  rename_i t _ ltt _ F1 N1
  refine iterB F1 N1 ?_
  intro I h1 F2 N2 lt2
  clear F1 N1
  ktn_open
  rename Fr g' _ _ _ => F3
  rename News g' _ _ _ => N3
  obtain ⟨xs, hxs⟩ : ∃ xs, xs = KBw.bInts ob := ⟨_, rfl⟩
  have hxl : xs.length = ob.size := by rw [hxs]; exact KBw.ints_length ob
  rw [← hxs] at hret
  have htI : t < I := lt2 _ (List.mem_cons_self)
  refine While_inv2 (lrJ xs ob tob t I news) (n₀ := 4) F3 N3 ⟨0, [], [], rfl, rfl, .nil, rfl, Nat.zero_le _, rfl⟩ ?_ (by with_unfolding_all passes_own)
  rintro n m₁ news₁ h5 tk5 F5 N5 ⟨j, vs, done, rfl, rfl, hvs, hdn, hjx, hall⟩
  clear F3 N3
  ktn_open
  refine len_list (isList_of_news N5 (List.mem_cons_of_mem _ List.mem_cons_self)) (by rw [List.size_toArray, hvs.length]; omega) ?_
  ktn_open
  · rename ((vs.toArray.size : Nat) : Int) < 4 => hlt
    have hvl : vs.length = done.length := hvs.length
    rw [List.size_toArray, hvl] at hlt
    have hne6 : ∀ p ∈ (t, listOf vs.toArray vs.length) :: news, p.1 ≠ I := by
      intro p hp
      simp only [List.mem_cons] at hp
      rcases hp with rfl | h
      · exact Nat.ne_of_lt htI
      · exact Nat.ne_of_lt (lt2 _ (List.mem_cons_of_mem _ h))
    refine pv_call (Around.frames_deeper hA) rfl hh (by simp only [depth_deeper]; omega) B' F5 X' T' N5 hne6 hlen ?_ ?_
    · intro v r j' h6 tv6 tk6 hpv hdrop hlt6 hle F6 N7
      rw [← hxs] at hpv hdrop
      clear F5 N5
      ktn_open
      have N8 : News g' L' h6 ((t, listOf vs.toArray vs.length) :: (I, biObj ob tob j') :: news) := fun p hp => N7 p (by
        simp only [List.mem_cons] at hp ⊢
        rcases hp with h | h | h
        · exact .inr (.inl h)
        · exact .inl h
        · exact .inr (.inr h))
      refine append_K F6 N8 (Upd.head ?_) ?_ ?_
      · intro p hp
        simp only [List.mem_cons] at hp
        rcases hp with rfl | h
        · exact Nat.ne_of_gt htI
        · exact Nat.ne_of_lt (ltt _ h)
      · intro h9 F9 N9
        clear N8 N7 F6
        ktn_open
        refine ⟨_, _, _, (I, biObj ob tob j') :: (t, listOf (vs ++ [Value.int v tv6]).toArray (vs ++ [Value.int v tv6]).length) :: news, n - 1, rfl, F9, ?_, by omega, j', vs ++ [Value.int v tv6], done ++ [v], rfl, rfl, ?_, by simp; omega, by omega, ?_⟩
        · intro p hp
          refine N9 p ?_
          simp only [List.mem_cons, List.push_toArray, List.length_append, List.length_cons, List.length_nil] at hp ⊢
          rcases hp with h | h | h
          · exact .inr (.inl h)
          · exact .inl h
          · exact .inr (.inr h)
        · exact hvs.append (.cons v tv6 .nil)
        · obtain ⟨n', rfl⟩ : ∃ n', n = n' + 1 := ⟨n - 1, by omega⟩
          rw [hall, List.append_assoc]
          congr 1
          simp only [pvAll, hpv]
          rw [hdrop]
          rfl
      · simp only [List.size_toArray, hvl, sizeLine_eq]
        omega
    · intro g6 h6 tk6 e hpv FG6 R6 U6
      rw [← hxs] at hpv
      refine caught_SN0 (KF := hd2.heap_39 w.params) (T' := "StopIteration") R6 FG6 B' U6 XB TB D' KtsTurn.refl (by k_is) PyProof.Rows.Boot.«StopIteration» (by decide) (by rw [isSubtype_type]; kernel_rfl) (by kernel_rfl) (by rw [isSubtype_type]; kernel_rfl) ?_
      intro h7 g7 T7 F7 N7 B7 X7 TT7 D7
      ktn_open
      rename_i kg kT kF kN kB kX0 kP kD kX
      refine hret kg t vs h7 _ ?_ kT kF kN (fun p hp => Nat.ne_of_lt (ltt p hp)) kB kX kP kD
      obtain ⟨n', rfl⟩ : ∃ n', n = n' + 1 := ⟨n - 1, by omega⟩
      rw [hall]
      simp only [pvAll, hpv, List.append_nil]
      exact hvs
  · rename Fr h₀ L _ _ => F10
    rename News h₀ L _ _ => N10
    rename ¬ (((vs.toArray.size : Nat) : Int) < 4) => hlt
    have hvl : vs.length = done.length := hvs.length
    rw [List.size_toArray, hvl] at hlt
    refine hret h₀ t vs h5 _ ?_ T0 F10 (fun p hp => N10 p (List.mem_cons_of_mem _ hp)) (fun p hp => Nat.ne_of_lt (ltt p hp)) B X T D
    rw [hall, show n = 0 from by omega]
    simpa [pvAll] using hvs
end

local macro_rules | `(tactic| ktn_open) => `(tactic| repeat' (first | (k_unfold; (try dsimp only)) | ((fail_if_success (with_reducible show wpAny _ _ (exec (Stmt.While _ _ _ _) _) _ _ _)); (fail_if_success (with_reducible show wpAny _ _ (exec (Stmt.For _ _ _ _ _) _) _ _ _)); (fail_if_success (with_reducible show wpAny _ _ (call (Value.ref _) _) _ _ _)); (fail_if_success (with_reducible show wpAny _ _ (pyIter _) _ _ _)); (fail_if_success (with_reducible show wpAny _ _ (call (Value.type _) _) _ _ _)); (fail_if_success (with_reducible show wpAny _ _ (call (Value.builtin "list.append") _) _ _ _)); (fail_if_success (with_reducible show wpAny _ _ (call (Value.builtin "len") _) _ _ _)); (fail_if_success (with_reducible show wpAny _ _ (call (Value.builtin "list.reverse") _) _ _ _)); first | walk1 | (dsimp only; walk1) | (leave1; (try dsimp only)))))

/-- the digits above the lowest, the highest first, 64 added to each -/
def hiD (m : Nat) : List Int := if m = 0 then [] else hiD (m / 64) ++ [((64 + m % 64 : Nat) : Int)]
termination_by m
decreasing_by exact Nat.div_lt_self (by omega) (by decide)
/-- a number as the compiler writes it -/
def writ (n : Nat) : List Int := hiD (n / 64) ++ [((n % 64 : Nat) : Int)]
theorem hiD_pos {m : Nat} (h : m ≠ 0) : hiD m = hiD (m / 64) ++ [((64 + m % 64 : Nat) : Int)] := by rw [hiD, if_neg h]
theorem hiD_zero : hiD 0 = [] := by rw [hiD, if_pos rfl]

def lwrM (t : Addr) (k : Int) (tk : Tok) : Str → Option Value := fun y =>
  if y = Str.ofString "number" then some (.int k tk) else if y = Str.ofString "octets" then some (.ref t) else none
theorem lwrM_set (t : Addr) (k k' : Int) (tk tk' : Tok) (y : Str) : (if y = Str.ofString "number" then some (Value.int k' tk') else lwrM t k tk y) = lwrM t k' tk' y := by
  simp only [lwrM]
  by_cases h1 : y = Str.ofString "number"
  · simp only [h1, if_true]
  · simp only [h1, if_false]
def lwrJ (n : Nat) (t : Addr) (news₀ : List (Addr × Obj)) (k : Nat) (m : Str → Option Value) (news : List (Addr × Obj)) : Prop :=
  ∃ tk vs c os, m = lwrM t (k : Int) tk ∧ news = (t, listOf vs.toArray c) :: news₀ ∧ IntsAre vs os ∧ os.length ≤ 40 ∧ k < 64 ^ (41 - os.length) ∧ hiD (k / 64) ++ os.reverse = writ n

example : (PySem.Challenge.rw_dm0068_02 = PySem.Challenge.rw_dm0068_02 ∧ hd2.heap_39 = hd2.heap_39) := by
  k_fill
  exact ⟨rfl, rfl⟩
section
variable {prog : Program} {w : World} {A A₀ : Around} {E : Value → Shared → Prop} {s : Shared} {h₀ base : Heap} {L a : Addr} {m mg mb : Str → Option Value} {news : List (Addr × Obj)} {env : Env} {n : Nat} {tn : Tok}
  {loose : List Str} {mean : ExcName → Option Value} {Q : Value → Shared → Prop} {outer : List Env}

theorem lwr_call (hA : A.frames = some (env :: outer)) (hf : env.frame = some L) (hck : env.scope.kind = .function) (hh : A.handled = none) (hdp : A.depth < recursionLimit)
    (B : Below A₀ base outer h₀) (F : Fr h₀ L s.heap m) (X : (hd2.heap_39 w.params).In h₀) (T : Top hd2.view_39 loose mean mg mb h₀)
    (N : News h₀ L s.heap news) (hn : n < 64 ^ 40)
    (hret : ∀ t vs c h' tk', IntsAre vs (writ n) → Fr h₀ L h' m → News h₀ L h' ((t, listOf vs.toArray c) :: news) → (∀ p ∈ news, p.1 ≠ t) → Q (.ref t) { s with heap := h', toks := tk' }) :
    wpAny (model prog w) A (call (.ref 28) [.int (n : Int) tn]) Q E s := by
  refine wpAny_call ?_
  k_dflt (refine' code_def B F X N T hA hf hck ?k6 ?k7 hdp ?k9 ?kB ?_ ?c2 ?c3 ?c4 ?c5; (case k6 => k_is); (case k7 => k_is); (case k9 => exact BindsTo.of_eq rfl); (case c5 => decide); (case kB => exact locs rfl); (case c2 => exact rfl); (case c3 => exact rfl); (case c4 => exact rfl); k_whole; intro g' L' h' FG' F' N' B' X' T'; (try dsimp only); (try k_fold))
  replace F' := fr_of (m' := fun y => if y = Str.ofString "number" then some (.int (n : Int) tn) else none) F' (fun y => lookup1 (Str.ofString "number") y (.int (n : Int) tn))
  ktn_open
  rename_i t _ ltt _ F1 N1
  have N2 : ∃ v0 tv, v0 = Value.int ((n % 64 : Nat) : Int) tv ∧ News g' L' _ ((t, listOf [v0].toArray 0) :: news) := ⟨_, _, by rw [Int.fmod_eq_emod_of_nonneg _ (by decide)]; rfl, N1⟩
  obtain ⟨v0, tv0, hv0, N2⟩ := N2
  have F2 := fr_of (m' := lwrM t (n : Int) tn) F1 (by
    intro y
    simp only [lwrM]
    by_cases h1 : y = Str.ofString "number"
    · subst h1; rfl
    · simp only [h1, if_false])
  clear F1 N1
  refine While_inv2 (lwrJ n t news) (n₀ := n) F2 N2 ?_ ?_
  · refine ⟨tn, [v0], 0, [((n % 64 : Nat) : Int)], rfl, rfl, ?_, by simp, by simpa using hn, rfl⟩
    rw [hv0]
    exact .cons _ _ .nil
  · rintro k m₁ news₁ h5 tk5 F5 N5 ⟨tk, vs, c, os, rfl, rfl, hvs, hol, hk, hall⟩
    clear F2 N2
    ktn_open
    · rename Fr g' _ _ _ => F6
      rename News g' _ _ _ => N6
      rename 63 < ((k : Nat) : Int) => hgt
      have hlt' : ∀ p ∈ news, p.1 ≠ t := fun p hp => Nat.ne_of_lt (ltt p hp)
      refine append_K F6 N6 (Upd.head hlt') ?_ (by simp only [List.size_toArray, hvs.length, sizeLine_eq]; omega)
      intro h7 F7 N7
      clear F6 N6
      ktn_open
      have ek : (k : Int).fdiv 64 = ((k / 64 : Nat) : Int) := by rw [Int.fdiv_eq_ediv_of_nonneg _ (by decide)]; rfl
      have em : 64 + ((k : Int).fdiv 64).fmod 64 = ((64 + k / 64 % 64 : Nat) : Int) := by rw [ek, Int.fmod_eq_emod_of_nonneg _ (by decide)]; omega
      have hk2 : 41 - os.length = (40 - os.length) + 1 := by omega
      have hk3 : k / 64 < 64 ^ (40 - os.length) := by
        rw [hk2, Nat.pow_succ] at hk
        exact Nat.div_lt_of_lt_mul (by rw [Nat.mul_comm]; exact hk)
      have hos : os.length ≤ 39 := by
        rcases Nat.lt_or_ge os.length 40 with h | h
        · omega
        · have : os.length = 40 := by omega
          rw [this] at hk3
          simp at hk3
          omega
      rw [em, List.push_toArray] at N7
      have F8 := fr_of F7 (fun y => lwrM_set t _ _ _ _ y)
      rw [ek] at F8
      refine ⟨_, _, _, _, k / 64, rfl, F8, N7, Nat.div_lt_self (by omega) (by decide), _, _, c + 1, os ++ [((64 + k / 64 % 64 : Nat) : Int)], rfl, rfl, hvs.append (.cons _ _ .nil), by simp; omega, ?_, ?_⟩
      · simpa [show 41 - (os.length + 1) = 40 - os.length from by omega] using hk3
      · rw [← hall, hiD_pos (m := k / 64) (by omega)]
        simp
    · rename ¬ 63 < ((k : Nat) : Int) => hgt
      have hlt' : ∀ p ∈ news, p.1 ≠ t := fun p hp => Nat.ne_of_lt (ltt p hp)
      refine kl_reverse F5 N5 rfl (Upd.head hlt') (by simp only [hvs.length, sizeLine_eq]; omega) ?_
      intro h7 F7 N7
      clear F5 N5
      ktn_open
      rename Fr h₀ L _ _ => F8
      rename News h₀ L _ _ => N8
      refine hret t vs.reverse c h7 _ ?_ F8 N8 hlt'
      rw [← hall, show k / 64 = 0 from by omega, hiD_zero, List.nil_append]
      exact hvs.reverse
end

local macro_rules | `(tactic| ktn_open) => `(tactic| repeat' (first | (k_unfold; (try dsimp only)) | ((fail_if_success (with_reducible show wpAny _ _ (exec (Stmt.While _ _ _ _) _) _ _ _)); (fail_if_success (with_reducible show wpAny _ _ (exec (Stmt.For _ _ _ _ _) _) _ _ _)); (fail_if_success (with_reducible show wpAny _ _ (call (Value.ref _) _) _ _ _)); (fail_if_success (with_reducible show wpAny _ _ (pyIter _) _ _ _)); (fail_if_success (with_reducible show wpAny _ _ (call (Value.type _) _) _ _ _)); (fail_if_success (with_reducible show wpAny _ _ (call (Value.builtin "len") _) _ _ _)); (fail_if_success (with_reducible show wpAny _ _ (compareOp CmpOp.Eq (Value.ref _) _) _ _ _)); (fail_if_success (with_reducible show wpAny _ _ (subscriptTail _ _ _ _) _ _ _)); first | walk1 | (dsimp only; walk1) | (leave1; (try dsimp only)))))

/-- what a row tells of a place -/
def heldOf : List Int → Int → Option (List Int)
  | [], _ => none
  | [b], p => if p < b then none else some []
  | b :: n :: r, p => if p < b then none else if b + n ≤ p then none else some r

theorem lookup2 (x x' y : Str) (v v' : Value) : List.lookup y [(x', v'), (x, v)] = if y = x' then some v' else if y = x then some v else none := by
  by_cases h : y = x'
  · subst h; simp [List.lookup]
  · have hb : (y == x') = false := beq_eq_false_iff_ne.mpr h
    rw [List.lookup_cons, hb, if_neg h]
    exact lookup1 x y v

example : (PySem.Challenge.rw_dm0068_02 = PySem.Challenge.rw_dm0068_02 ∧ hd2.heap_39 = hd2.heap_39) := by
  k_fill
  exact ⟨rfl, rfl⟩
section
variable {prog : Program} {w : World} {A A₀ : Around} {E : Value → Shared → Prop} {s : Shared} {h₀ base : Heap} {L l : Addr} {m mg mb : Str → Option Value} {news : List (Addr × Obj)} {env : Env} {c : Nat} {vs : List Value} {ns : List Int} {p : Int} {tp : Tok}
  {loose : List Str} {mean : ExcName → Option Value} {Q : Value → Shared → Prop} {outer : List Env}

theorem lh_call (hA : A.frames = some (env :: outer)) (hf : env.frame = some L) (hck : env.scope.kind = .function) (hh : A.handled = none) (hdp : A.depth < recursionLimit) (hun : A.units + 80 < cLine)
    (B : Below A₀ base outer h₀) (F : Fr h₀ L s.heap m) (X : (hd2.heap_39 w.params).In h₀) (T : Top hd2.view_39 loose mean mg mb h₀)
    (N : News h₀ L s.heap news) (hl : (l, listOf vs.toArray c) ∈ news) (hI : IntsAre vs ns) (hlen : ns.length ≤ 1000)
    (hnone : ∀ h' tk', heldOf ns p = none → Fr h₀ L h' m → News h₀ L h' news → Q .none { s with heap := h', toks := tk' })
    (hsome : ∀ r t ws h' tk', heldOf ns p = some r → IntsAre ws r → Fr h₀ L h' m → News h₀ L h' ((t, listOf ws.toArray 0) :: news) → (∀ q ∈ news, q.1 ≠ t) → Q (.ref t) { s with heap := h', toks := tk' }) :
    wpAny (model prog w) A (call (.ref 42) [.ref l, .int p tp]) Q E s := by
  refine wpAny_call ?_
  k_dflt (refine' code_def B F X N T hA hf hck ?k6 ?k7 hdp ?k9 ?kB ?_ ?c2 ?c3 ?c4 ?c5; (case k6 => k_is); (case k7 => k_is); (case k9 => exact BindsTo.of_eq rfl); (case c5 => decide); (case kB => exact locs rfl); (case c2 => exact rfl); (case c3 => exact rfl); (case c4 => exact rfl); k_whole; intro g' L' h' FG' F' N' B' X' T'; (try dsimp only); (try k_fold))
  replace F' := fr_of (m' := fun y => if y = Str.ofString "place" then some (.int p tp) else if y = Str.ofString "numbers" then some (.ref l) else none) F' (fun y => lookup2 (Str.ofString "numbers") (Str.ofString "place") y (.ref l) (.int p tp))
  ktn_open
  rename Fr g' _ _ _ => F1
  rename News g' _ _ _ => N1
  refine ke_eq_ints (isList_of_news N1 (List.mem_cons_of_mem _ hl)) (isList_of_news N1 List.mem_cons_self) hI .nil (by simp only [units_deeper]; omega) ?_
  ktn_open
  · rename decide (ns = []) = true => hd
    rename Fr h₀ L _ _ => F2
    rename News h₀ L _ _ => N2
    refine hnone _ _ ?_ F2 (fun q hq => N2 q (List.mem_cons_of_mem _ hq))
    rw [of_decide_eq_true hd]; rfl
  · rename decide (ns = []) = false => hd
    have hd' : ns ≠ [] := of_decide_eq_false hd
    have N2 : News g' L' _ news := fun q hq => N1 q (List.mem_cons_of_mem _ hq)
    clear N1
    have hl2 := isList_of_news N2 hl
    rcases hI with _ | ⟨b, tb, hI'⟩
    · exact absurd rfl hd'
    rename_i vs' ns'
    have hI : IntsAre (Value.int b tb :: vs') (b :: ns') := .cons b tb hI'
    refine item_list hl2 (by decide) (by decide) (x := .int b tb) rfl ?_
    ktn_open
    · rename p < b => hpb
      rename Fr h₀ L _ _ => F3
      rename News h₀ L _ _ => N3
      refine hnone _ _ ?_ F3 N3
      rcases ns' with _ | ⟨n, r⟩
      · simp only [heldOf, hpb, if_true]
      · simp only [heldOf, hpb, if_true]
    · rename ¬ p < b => hpb
      refine len_list hl2 (by simp only [List.size_toArray, hI.length]; omega) ?_
      have hsz : (Value.int b tb :: vs').toArray.size = (b :: ns').length := by rw [List.size_toArray, hI.length]
      ktn_open
      · rename 1 < (((Value.int b tb :: vs').toArray.size : Nat) : Int) => hgt
        rcases hI' with _ | ⟨n, tn, hI''⟩
        · exact absurd hgt (by simp)
        rename_i vs'' ns''
        refine item_list hl2 (by decide) (by decide) (x := .int b tb) rfl ?_
        ktn_open
        refine item_list hl2 (by decide) (by decide) (x := .int n tn) rfl ?_
        ktn_open
        · rename b + n ≤ p => hge
          rename Fr h₀ L _ _ => F3
          rename News h₀ L _ _ => N3
          refine hnone _ _ ?_ F3 N3
          simp only [heldOf, hpb, hge, if_true, if_false]
        · rename ¬ b + n ≤ p => hge
          refine kmk_slice_ints (lo := some 2) (hi := none) F1 N2 hl2 (by kmk_part) (by kmk_part) hI (slice_ints_fromW hI (by decide)) rfl ?_ (by with_unfolding_all rfl) (by kmk_pure) (by rw [hsz, sizeLine_eq]; omega)
          intro D ws h6 F6 N6 lt6 hI6 _ _
          clear F1 N2
          ktn_open
          rename Fr h₀ L _ _ => F3
          rename News h₀ L _ _ => N3
          refine hsome _ D ws _ _ ?_ hI6 F3 N3 (fun q hq => Nat.ne_of_lt (lt6 q hq))
          simp only [heldOf, hpb, hge, if_false]
          rfl
      · rename ¬ 1 < (((Value.int b tb :: vs').toArray.size : Nat) : Int) => hgt
        have hn' : ns' = [] := by
          rw [hsz] at hgt
          rcases ns' with _ | ⟨x, r⟩
          · rfl
          · simp at hgt
            omega
        subst hn'
        refine kmk_slice_ints (lo := some 2) (hi := none) F1 N2 hl2 (by kmk_part) (by kmk_part) hI (slice_ints_fromW hI (by decide)) rfl ?_ (by with_unfolding_all rfl) (by kmk_pure) (by rw [hsz, sizeLine_eq]; simp)
        intro D ws h6 F6 N6 lt6 hI6 _ _
        clear F1 N2
        ktn_open
        rename Fr h₀ L _ _ => F3
        rename News h₀ L _ _ => N3
        refine hsome _ D ws _ _ ?_ hI6 F3 N3 (fun q hq => Nat.ne_of_lt (lt6 q hq))
        simp only [heldOf, hpb, if_false]
        rfl
end

section
variable {prog : Program} {w : World} {A₀ A : Around} {s : Shared} {base h₀ : Heap} {L : Addr} {m : Str → Option Value} {env : Env} {news : List (Addr × Obj)} {K : Frag} {p : Program} {loose : List Str} {mean : ExcName → Option Value} {mg mb : Str → Option Value}
    {R : Result → Shared → Prop} {name qual : Str} {params : Arguments} {body : List Stmt} {scope : Scope} {dV kV doc pm cdv ct oc : Value} {an od : Option Addr} {osl : Array (Option Value)} {f : Addr} {args : Args} {binds : List (Str × Value)}

/-- a call, from a frame of any make that no frame lies below, of a def below which exceptions are caught: the caller's slots may turn, nothing else of the caller's -/
theorem enter_catching (B : Below A₀ base [] h₀) (F : Fr h₀ L s.heap m) (X₀ : K.In h₀) (N : News h₀ L s.heap news) (T : Top p loose mean mg mb h₀) (hA : A.frames = some [env]) (hf : env.frame = some L) (hke : env.scope.kind = .function)
    (ho : K.lookup f = some ⟨oc, od, .func (fnOf name qual params body scope dV kV doc pm an cdv ct), osl⟩) (hcd : codeIn K cdv qual = true) (hroom : A.depth < recursionLimit)
    (hbind : BindsTo s (fnOf name qual params body scope dV kV doc pm an cdv ct) args binds) (hloc : ∀ y ∈ binds, scope.names.lookup y.1 = some .local)
    (h : ∀ g L' h₁, Fr h₀ L g m → Fr g L' h₁ (fun y => binds.reverse.lookup y) → News g L' h₁ news → Below A base [env] g → K.In g → Top p loose mean mg mb g → KtsDicts ([env].filterMap (·.frame)) g →
      wpAny (model prog w) (A.deeper (envOf qual scope L' f cdv)) (execs body (envOf qual scope L' f cdv))
        (fun fl s' => LeaveS0 ([env].filterMap (·.frame)) h₀ L m g R (match fl with | .ret v => v | _ => .none) s')
        (fun e s' => wpAny (model prog w) (A.deeper (envOf qual scope L' f cdv)) (leaving (envOf qual scope L' f cdv) e) (fun _ s'' => R (.error e) s'') (fun e' s'' => R (.error e') s'') s')
        { s with heap := h₁, toks := s.toks + binds.length })
    (hco : scope.isCoroutine = false) (hgen : scope.isGenerator = false) (hk : scope.kind = .function)
    (hcell : ∀ x ∈ scope.names, x.2 ≠ .cell) : codeAny (model prog w) A (.call (.ref f) args) R s := by
  have X := X₀.keeps F.keep
  obtain ⟨FG, BG, st, -⟩ := groundX (R := R) B F N hA hf hke
  refine codeAny_call_def (fd := fnOf name qual params body scope dV kV doc pm an cdv ct) (body := body) (binds := binds) hroom (X _ _ ho) rfl (T.nolimit.keeps F.keep) (codeRec_of X hcd) rfl hbind hcell hloc (fun h₁ hns hk₁ => ?_) hco hgen hk
  obtain ⟨oL, es, ep, hLg, hLd, hLk, hLf⟩ := FG.ns
  have hmem : ∀ b, b ∈ [env].filterMap (·.frame) → b = L := fun b hb => by
    simp only [List.filterMap_cons, hf, List.filterMap_nil, List.mem_cons, List.not_mem_nil, or_false] at hb
    exact hb
  refine wpAny_mono (h _ s.heap.objs.size h₁ ⟨⟨oL, es, ep, hLg, hLd, hLk, hLf⟩, st, F.above⟩ ⟨hns, fun b o e => hk₁ b o (of_hideAll _ e), Nat.le_of_eq (hideAll_size _ _)⟩
    (fun p hp => ⟨hk₁ _ _ (N p hp).1, Nat.ne_of_lt (Heap.lt_size (N p hp).1), hideAll_none _ (List.mem_map_of_mem hp)⟩) BG (X₀.keeps st) (T.keeps st) (fun b hb => by
      rw [hmem b hb]
      exact ⟨oL, es, ep, hLg, hLd⟩)) (fun fl s' hl => ?_) fun _ _ y => y
  obtain ⟨g', L', m', news', T', F', N', k⟩ := hl
  have nL₀ : h₀.get? L = none := kts_self F
  obtain ⟨sl, hs⟩ := T'.up hLg
  refine k ⟨⟨_, es, ep, F'.keep _ _ hs, hLd, hLk, hLf⟩, fun b o e => F'.keep b o (T'.other b o (st b o e) (fun q => by
    rw [hmem b q, nL₀] at e
    cases e)), F.above⟩ fun p hp => ⟨(N' p hp).1, fun q => ?_, ?_⟩
  · have := (N' p hp).2.2; rw [q, hs] at this; cases this
  · cases q : h₀.get? p.1 with
    | none => rfl
    | some o =>
      obtain ⟨sl', hs'⟩ := T'.up (st _ _ q)
      have := (N' p hp).2.2
      rw [hs'] at this
      cases this
end

/-- a turn's end of a while whose ground may turn -/
def WhileStepG (L : Addr) (s : Shared) (J : Nat → Heap → (Str → Option Value) → List (Addr × Obj) → Prop) (Q : Flow → Shared → Prop) (n : Nat) (f : Flow) (s₃ : Shared) : Prop :=
  match f with
  | .next | .cont => ∃ g h' tk m₂ news₂ n', s₃ = { s with heap := h', toks := tk } ∧ Fr g L h' m₂ ∧ News g L h' news₂ ∧ n' < n ∧ J n' g m₂ news₂
  | .brk => Q .next s₃
  | .ret v => Q (.ret v) s₃

section
variable {prog : Program} {w : World} {A : Around} {E : Value → Shared → Prop} {Q : Flow → Shared → Prop} {s : Shared} {env : Env} {h₀ : Heap} {L : Addr}
theorem While_invG {test : Expr} {body : List Stmt} {pos : Pos} {m : Str → Option Value} {news : List (Addr × Obj)} (J : Nat → Heap → (Str → Option Value) → List (Addr × Obj) → Prop) {n₀ : Nat}
    (F : Fr h₀ L s.heap m) (N : News h₀ L s.heap news) (hJ : J n₀ h₀ m news)
    (turn : ∀ n g m₁ news₁ h₁ tk₁, Fr g L h₁ m₁ → News g L h₁ news₁ → J n g m₁ news₁ →
      wpAny (model prog w) A (isTrue test env (eval test env)) (fun b s₂ =>
        if b = true then wpAny (model prog w) A (execs body env) (WhileStepG L s J Q n) E s₂ else Q .next s₂) E { s with heap := h₁, toks := tk₁ })
    (hE : PassesOwn (model prog w) A env E := by passes_own) :
    wpAny (model prog w) A (exec (.While test body [] pos) env) Q E s := by
  refine wpAny_While (codeAny_whileLoop (fun n s' => ∃ g h₁ tk₁ m₁ news₁, s' = { s with heap := h₁, toks := tk₁ } ∧ Fr g L h₁ m₁ ∧ News g L h₁ news₁ ∧ J n g m₁ news₁) ?_ n₀ ⟨h₀, s.heap, s.toks, m, news, rfl, F, N, hJ⟩)
  rintro n s' ⟨g, h₁, tk₁, m₁, news₁, rfl, F₁, N₁, J₁⟩
  refine wpAny_mono (turn n g m₁ news₁ h₁ tk₁ F₁ N₁ J₁) (fun b s₂ h₂ => ?_) hE
  cases b with
  | false =>
    simp only [Bool.false_eq_true, if_false] at h₂ ⊢
    exact wpAny_execs_nil h₂
  | true =>
    simp only [if_true] at h₂ ⊢
    refine wpAny_mono h₂ (fun f s₃ h₃ => ?_) hE
    cases f with
    | next =>
      obtain ⟨g', h', tk, m₂, news₂, n', rfl, F₂, N₂, hn, J₂⟩ := h₃
      exact ⟨n', hn, g', h', tk, m₂, news₂, rfl, F₂, N₂, J₂⟩
    | cont =>
      obtain ⟨g', h', tk, m₂, news₂, n', rfl, F₂, N₂, hn, J₂⟩ := h₃
      exact ⟨n', hn, g', h', tk, m₂, news₂, rfl, F₂, N₂, J₂⟩
    | brk => exact h₃
    | ret v => exact h₃
end

local macro_rules | `(tactic| ktn_open) => `(tactic| repeat' (first | (k_unfold; (try dsimp only)) | ((fail_if_success (with_reducible show wpAny _ _ (exec (Stmt.While _ _ _ _) _) _ _ _)); (fail_if_success (with_reducible show wpAny _ _ (exec (Stmt.For _ _ _ _ _) _) _ _ _)); (fail_if_success (with_reducible show wpAny _ _ (call (Value.ref _) _) _ _ _)); (fail_if_success (with_reducible show wpAny _ _ (pyIter _) _ _ _)); (fail_if_success (with_reducible show wpAny _ _ (call (Value.type _) _) _ _ _)); (fail_if_success (with_reducible show wpAny _ _ (call (Value.builtin "len") _) _ _ _)); (fail_if_success (with_reducible show wpAny _ _ (subscriptTail _ _ _ _) _ _ _)); first | walk1 | (dsimp only; walk1) | (leave1; (try dsimp only)))))

/-- the row that begins at place q begins no later than p -/
def startsBy (xs : List Int) (p : Int) (q : Nat) : Prop := heldOf ((pvAll 4 (xs.drop q)).take 1) p ≠ none
/-- where a search by halves may end -/
def GoodLow (xs : List Int) (p : Int) (low : Nat) : Prop :=
  low < xs.length ∧ 128 ≤ xs.getD low 0 ∧ (low = 0 ∨ startsBy xs p low) ∧
    ∃ high, low < high ∧ high ≤ xs.length ∧ (high = xs.length ∨ (128 ≤ xs.getD high 0 ∧ ¬ startsBy xs p high)) ∧ ∀ q, low < q → q < high → xs.getD q 0 < 128

theorem cut_from {xs : List Int} {k : Nat} (h : k ≤ xs.length) : (xs.drop ((some ((k : Nat) : Int)).elim 0 (clipAt xs.length))).take ((none : Option Int).elim xs.length (clipAt xs.length) - (some ((k : Nat) : Int)).elim 0 (clipAt xs.length)) = xs.drop k := by
  simp only [Option.elim]
  rw [clipAt_nat, Nat.min_eq_left h]
  exact List.take_of_length_le (by rw [List.length_drop]; omega)
theorem pvAll_length : ∀ (k : Nat) (xs : List Int), (pvAll k xs).length ≤ k
  | 0, _ => Nat.le_refl _
  | k + 1, xs => by
    unfold pvAll
    split
    · exact Nat.zero_le _
    · rw [List.length_cons]; exact Nat.succ_le_succ (pvAll_length k _)

def fdM (tb pl : Value) (low high : Int) (tl th : Tok) (u : Option Value) : Str → Option Value := fun y =>
  if y = Str.ofString "middle" then u else if y = Str.ofString "low" then some (.int low tl) else if y = Str.ofString "high" then some (.int high th)
  else if y = Str.ofString "place" then some pl else if y = Str.ofString "table" then some tb else none
theorem fdM_mid (tb pl : Value) (low high : Int) (tl th : Tok) (u u' : Option Value) (y : Str) : (if y = Str.ofString "middle" then u' else fdM tb pl low high tl th u y) = fdM tb pl low high tl th u' y := by
  simp only [fdM]
  by_cases h1 : y = Str.ofString "middle"
  · simp only [h1, if_true]
  · simp only [h1, if_false]
theorem fdM_low (tb pl : Value) (low high low' : Int) (tl th tl' : Tok) (u : Option Value) (y : Str) : (if y = Str.ofString "low" then some (.int low' tl') else fdM tb pl low high tl th u y) = fdM tb pl low' high tl' th u y := by
  simp only [fdM]
  by_cases h1 : y = Str.ofString "low"
  · subst h1; rfl
  · simp only [h1, if_false]
theorem fdM_high (tb pl : Value) (low high high' : Int) (tl th th' : Tok) (u : Option Value) (y : Str) : (if y = Str.ofString "high" then some (.int high' th') else fdM tb pl low high tl th u y) = fdM tb pl low high' tl th' u y := by
  simp only [fdM]
  by_cases h1 : y = Str.ofString "high"
  · subst h1; rfl
  · simp only [h1, if_false]

theorem fdM_init (tb pl : Value) (low high : Int) (tl th : Tok) (y : Str) : (if y = Str.ofString "high" then some (.int high th) else if y = Str.ofString "low" then some (.int low tl) else if y = Str.ofString "place" then some pl else if y = Str.ofString "table" then some tb else none) = fdM tb pl low high tl th none y := by
  simp only [fdM]
  by_cases h1 : y = Str.ofString "middle"
  · subst h1; rfl
  · by_cases h2 : y = Str.ofString "low"
    · subst h2; rfl
    · simp only [h1, h2, if_false]

/-- the ground of a frame under which exceptions are caught -/
structure Gnd (w : World) (A : Around) (base g₀ : Heap) (outer : List Env) (loose : List Str) (mean : ExcName → Option Value) (mg mb : Str → Option Value) (g : Heap) : Prop where
  turn : KtsTurn (outer.filterMap (·.frame)) g₀ g
  below : Below A base outer g
  x : (hd2.heap_39 w.params).In g
  top : Top hd2.view_39 loose mean mg mb g
  dicts : KtsDicts (outer.filterMap (·.frame)) g

def fdJ (w : World) (A : Around) (base g₀ : Heap) (outer : List Env) (loose : List Str) (mean : ExcName → Option Value) (mg mb : Str → Option Value) (xs : List Int) (p : Int) (tb pl : Value) (news₀ : List (Addr × Obj))
    (n : Nat) (g : Heap) (m : Str → Option Value) (news : List (Addr × Obj)) : Prop :=
  Gnd w A base g₀ outer loose mean mg mb g ∧ news = news₀ ∧ ∃ (low high : Nat) (tl th : Tok) (u : Option Value), m = fdM tb pl low high tl th u ∧ n = high - low ∧ low < high ∧ high ≤ xs.length ∧ 128 ≤ xs.getD low 0 ∧ (low = 0 ∨ startsBy xs p low) ∧
    (high = xs.length ∨ (128 ≤ xs.getD high 0 ∧ ¬ startsBy xs p high))
/-- the way down to a row's first octet -/
def dnJ (xs : List Int) (tb pl : Value) (low high : Int) (tl th : Tok) (lo mid0 : Nat) (news₀ : List (Addr × Obj)) (n : Nat) (m : Str → Option Value) (news : List (Addr × Obj)) : Prop :=
  news = news₀ ∧ ∃ tm, m = fdM tb pl low high tl th (some (.int (n : Nat) tm)) ∧ lo ≤ n ∧ n ≤ mid0 ∧ ∀ q, n < q → q ≤ mid0 → xs.getD q 0 < 128
/-- the way up to the next row's first octet -/
def upJ (xs : List Int) (tb pl : Value) (low : Int) (high : Nat) (tl th : Tok) (lo : Nat) (news₀ : List (Addr × Obj)) (n : Nat) (m : Str → Option Value) (news : List (Addr × Obj)) : Prop :=
  news = news₀ ∧ ∃ (mid : Nat) (tm : Tok), m = fdM tb pl low high tl th (some (.int (mid : Nat) tm)) ∧ n + mid = high ∧ lo < mid ∧ ∀ q, lo < q → q < mid → xs.getD q 0 < 128

example : (PySem.Challenge.rw_dm0068_02 = PySem.Challenge.rw_dm0068_02 ∧ hd2.heap_39 = hd2.heap_39) := by
  k_fill
  exact ⟨rfl, rfl⟩
section
variable {prog : Program} {w : World} {A A₀ : Around} {E : Value → Shared → Prop} {s : Shared} {h₀ : Heap} {L : Addr} {m mg mb : Str → Option Value} {news : List (Addr × Obj)} {env : Env} {ob : Array UInt8} {tob : Tok} {xs : List Int} {p : Int} {tp : Tok}
  {loose : List Str} {mean : ExcName → Option Value} {Q : Value → Shared → Prop}

theorem fd_call (hA : A.frames = some [env]) (hf : env.frame = some L) (hck : env.scope.kind = .function) (hh : A.handled = none) (hdp : A.depth + 3 < recursionLimit) (hun : A.units + 100 < cLine)
    (B : Below A₀ h₀ [] h₀) (F : Fr h₀ L s.heap m) (X : (hd2.heap_39 w.params).In h₀) (T : Top hd2.view_39 loose mean mg mb h₀)
    (N : News h₀ L s.heap news) (hxs : KBw.bInts ob = xs) (hlen : xs.length ≤ 100000) (hpos : 0 < xs.length) (hfst : 128 ≤ xs.getD 0 0)
    (hnone : ∀ low h' tk', GoodLow xs p low → heldOf (pvAll 4 (xs.drop low)) p = none → Fr h₀ L h' m → News h₀ L h' news → Q .none { s with heap := h', toks := tk' })
    (hsome : ∀ low r t ws h' tk', GoodLow xs p low → heldOf (pvAll 4 (xs.drop low)) p = some r → IntsAre ws r → Fr h₀ L h' m → News h₀ L h' ((t, listOf ws.toArray 0) :: news) → (∀ q ∈ news, q.1 ≠ t) → Q (.ref t) { s with heap := h', toks := tk' }) :
    wpAny (model prog w) A (call (.ref 49) [.bytes ob tob, .int p tp]) Q E s := by
  refine wpAny_call ?_
  k_dflt (refine' enter_catching B F X N T hA hf hck ?k6 ?k7 ?kd ?k9 ?kB ?_ ?c2 ?c3 ?c4 ?c5; (case k6 => k_is); (case k7 => k_is); (case kd => omega); (case k9 => exact BindsTo.of_eq rfl); (case c5 => decide); (case kB => exact locs rfl); (case c2 => exact rfl); (case c3 => exact rfl); (case c4 => exact rfl); k_whole; intro g' L' h' FG' F' N' B' X' T' D'; (try dsimp only); (try k_fold))
  replace F' := fr_of (m' := fun y => if y = Str.ofString "place" then some (.int p tp) else if y = Str.ofString "table" then some (.bytes ob tob) else none) F' (fun y => lookup2 (Str.ofString "table") (Str.ofString "place") y (.bytes ob tob) (.int p tp))
  ktn_open
  refine KBw.len_K hxs (by omega) ?_
  ktn_open
  rename Fr g' _ _ _ => F1
  rename News g' _ _ _ => N1
  have F2 := fr_of F1 (fun y => fdM_init (.bytes ob tob) (.int p tp) _ _ _ _ y)
  clear F1
  refine While_invG (fdJ w A h₀ g' [env] loose mean mg mb xs p (.bytes ob tob) (.int p tp) news) (n₀ := xs.length) F2 N1 ⟨⟨KtsTurn.refl, B', X', T', D'⟩, rfl, 0, xs.length, _, _, none, rfl, rfl, hpos, Nat.le_refl _, hfst, .inl rfl, .inl rfl⟩ ?_
  clear F2 N1
  rintro n g m₁ news₁ h5 tk5 F5 N5 ⟨G, rfl, low, high, tl, th, u, rfl, rfl, hlh, hhx, hlo, hls, hhi⟩
  have hX := G.x
  have hT := G.top
  have hB := G.below
  ktn_open
  rename Fr g _ _ _ => F6
  rename News g _ _ _ => N6
  have e2 : ((low : Int) + high).fdiv 2 = (((low + high) / 2 : Nat) : Int) := by rw [Int.fdiv_eq_ediv_of_nonneg _ (by decide)]; omega
  have F7 := fr_of F6 (fun y => fdM_mid (.bytes ob tob) (.int p tp) _ _ _ _ _ _ y)
  rw [e2] at F7
  clear F6
  obtain ⟨mid0, hmid0⟩ : ∃ mid0, mid0 = (low + high) / 2 := ⟨_, rfl⟩
  rw [← hmid0] at F7
  refine While_inv2 (dnJ xs (.bytes ob tob) (.int p tp) low high tl th low mid0 news₁) (n₀ := mid0) F7 N6 ⟨rfl, _, rfl, by omega, Nat.le_refl _, fun q h1 h2 => absurd h1 (by omega)⟩ ?_
  clear F7 N6
  rintro mid m₂ news₂ h8 tk8 F8 N8 ⟨rfl, tm, rfl, hlm, hm0, hdn⟩
  ktn_open
  refine KBw.item_K hxs (by omega) (by omega) (by omega) ?_
  intro t9 k9 hg0 hg1
  rw [Int.toNat_natCast] at hg0 hg1 ⊢
  ktn_open
  · rename Fr g _ _ _ => F9
    rename News g _ _ _ => N9
    rename xs.getD mid 0 < 128 => hlt
    have hml : mid ≠ low := fun h => by rw [h] at hlt; omega
    have F10 := fr_of F9 (fun y => fdM_mid (.bytes ob tob) (.int p tp) _ _ _ _ _ _ y)
    rw [show ((mid : Int) - 1) = ((mid - 1 : Nat) : Int) from by omega] at F10
    refine ⟨_, _, _, _, mid - 1, rfl, F10, N9, by omega, rfl, _, rfl, by omega, by omega, fun q h1 h2 => ?_⟩
    rcases Nat.lt_or_ge mid q with h | h
    · exact hdn q h h2
    · rw [show q = mid from by omega]; exact hlt
  · rename (mid : Int) = low => hml
    rename Fr g _ _ _ => F9
    rename News g _ _ _ => N9
    have F10 := fr_of F9 (fun y => fdM_mid (.bytes ob tob) (.int p tp) _ _ _ _ _ _ y)
    rw [e2, ← hmid0, show ((mid0 : Int) + 1) = ((mid0 + 1 : Nat) : Int) from by omega] at F10
    clear F9
    refine While_inv2 (upJ xs (.bytes ob tob) (.int p tp) low high tl th low news₂) (n₀ := high - (mid0 + 1)) F10 N9 ⟨rfl, mid0 + 1, _, rfl, by omega, by omega, fun q h1 h2 => hdn q (by omega) (by omega)⟩ ?_
    clear F10 N9
    rintro n3 m₃ news₃ h20 tk20 F20 N20 ⟨rfl, mid3, tm3, rfl, hn3, hlm3, hup⟩
    ktn_open
    · rename (mid3 : Int) < high => hmh3
      refine KBw.item_K hxs (by omega) (by omega) (by omega) ?_
      intro t21 k21 hg20 hg21
      rw [Int.toNat_natCast] at hg20 hg21 ⊢
      ktn_open
      · rename Fr g _ _ _ => F22
        rename News g _ _ _ => N22
        rename xs.getD mid3 0 < 128 => hlt3
        have F23 := fr_of F22 (fun y => fdM_mid (.bytes ob tob) (.int p tp) _ _ _ _ _ _ y)
        rw [show ((mid3 : Int) + 1) = ((mid3 + 1 : Nat) : Int) from by omega] at F23
        refine ⟨_, _, _, _, n3 - 1, rfl, F23, N22, by omega, rfl, mid3 + 1, _, rfl, by omega, by omega, fun q h1 h2 => ?_⟩
        rcases Nat.lt_or_ge q mid3 with h | h
        · exact hup q h1 h
        · rw [show q = mid3 from by omega]; exact hlt3
      · exfalso
        rename (mid3 : Int) = high => h1
        omega
      · rename ¬ xs.getD mid3 0 < 128 => hge3
        refine KBc.slice_K (lo := some ((mid3 : Nat) : Int)) (hi := none) F20 N20 hxs (by kmk_part) (by kmk_part) (by omega) ?_ (by with_unfolding_all rfl) (by kmk_pure)
        intro h10 t10 k10 F10 N10 hb10
        rw [cut_from (by omega)] at hb10
        clear F20 N20
        ktn_open
        refine lr_call (Around.frames_deeper hA) rfl hh (by simp only [depth_deeper]; omega) hB F10 hX hT X T G.dicts G.turn N10 (by rw [← KBw.ints_length, hb10, List.length_drop]; omega) ?_
        intro g11 t11 vs11 h11 tk11 hvs11 KT11 F11 N11 hne11 B11 X11 T11 D11
        rw [hb10] at hvs11
        clear F10 N10
        have hvl : vs11.length ≤ 4 := by rw [hvs11.length]; exact pvAll_length 4 _
        ktn_open
        refine kba_turn (value' := PySem.Expr.Name (Str.ofString "x") ⟨0, 0, 0, 0⟩) (fun _ => rfl) ?_
        refine kmk_slice_ints (lo := none) (hi := some 1) F11 N11 (isList_of_news N11 List.mem_cons_self) (by kmk_part) (by kmk_part) hvs11 (slice_ints_uptoW hvs11 (by decide)) rfl ?_ (by with_unfolding_all rfl) (by kmk_pure) (by simp only [List.size_toArray, sizeLine_eq]; omega)
        intro D12 ws12 h12 F12 N12 lt12 hI12 _ _
        clear F11 N11
        have hI13 : IntsAre ws12 ((pvAll 4 (xs.drop mid3)).take 1) := hI12
        ktn_open
        refine lh_call (Around.frames_deeper B11.stack) rfl rfl hh (by simp only [depth_deeper]; omega) (by simp only [units_deeper]; omega) B11 F12 X11 T11 N12 List.mem_cons_self hI13 (by rw [List.length_take]; omega) ?_ ?_
        · intro h14 tk14 hheld F14 N14
          clear F12 N12
          ktn_open
          rename Fr g11 _ _ _ => F15
          rename News g11 _ _ _ => N15
          have F16 := fr_of F15 (fun y => fdM_high (.bytes ob tob) (.int p tp) _ _ _ _ _ _ _ y)
          refine ⟨g11, _, _, _, news₃, mid3 - low, rfl, F16, fun q hq => N15 q (List.mem_cons_of_mem _ (List.mem_cons_of_mem _ hq)), by omega, ⟨KT11, B11, X11, T11, D11⟩, rfl, low, mid3, _, _, _, rfl, rfl, by omega, by omega, hlo, hls, .inr ⟨by omega, fun h => h hheld⟩⟩
        · intro r14 t14 ws14 h14 tk14 hheld hws14 F14 N14 hne14
          clear F12 N12
          ktn_open
          rename Fr g11 _ _ _ => F15
          rename News g11 _ _ _ => N15
          have F16 := fr_of F15 (fun y => fdM_low (.bytes ob tob) (.int p tp) _ _ _ _ _ _ _ y)
          refine ⟨g11, _, _, _, news₃, high - mid3, rfl, F16, fun q hq => N15 q (List.mem_cons_of_mem _ (List.mem_cons_of_mem _ (List.mem_cons_of_mem _ hq))), by omega, ⟨KT11, B11, X11, T11, D11⟩, rfl, mid3, high, _, _, _, rfl, rfl, by omega, by omega, by omega, .inr (fun h => by rw [hheld] at h; cases h), hhi⟩
    · rename (mid3 : Int) = high => hmh3
      have hgood : GoodLow xs p low := ⟨by omega, hlo, hls, high, hlh, hhx, hhi, fun q h1 h2 => hup q h1 (by omega)⟩
      refine KBc.slice_K (lo := some ((low : Nat) : Int)) (hi := none) F20 N20 hxs (by kmk_part) (by kmk_part) (by omega) ?_ (by with_unfolding_all rfl) (by kmk_pure)
      intro h10 t10 k10 F10 N10 hb10
      rw [cut_from (by omega)] at hb10
      clear F20 N20
      ktn_open
      refine lr_call (Around.frames_deeper hA) rfl hh (by simp only [depth_deeper]; omega) hB F10 hX hT X T G.dicts G.turn N10 (by rw [← KBw.ints_length, hb10, List.length_drop]; omega) ?_
      intro g11 t11 vs11 h11 tk11 hvs11 KT11 F11 N11 hne11 B11 X11 T11 D11
      rw [hb10] at hvs11
      clear F10 N10
      ktn_open
      refine lh_call (Around.frames_deeper B11.stack) rfl rfl hh (by simp only [depth_deeper]; omega) (by simp only [units_deeper]; omega) B11 F11 X11 T11 N11 List.mem_cons_self hvs11 (by have := pvAll_length 4 (xs.drop low); omega) ?_ ?_
      · intro h14 tk14 hheld F14 N14
        clear F11 N11
        ktn_open
        dsimp only [WhileStepG]
        ktn_open
        rename Fr h₀ L _ _ => F15
        rename News h₀ L _ _ => N15
        exact hnone low _ _ hgood hheld F15 (fun q hq => N15 q (List.mem_cons_of_mem _ hq))
      · intro r14 t14 ws14 h14 tk14 hheld hws14 F14 N14 hne14
        clear F11 N11
        ktn_open
        dsimp only [WhileStepG]
        ktn_open
        rename Fr h₀ L _ _ => F15
        rename News h₀ L _ _ => N15
        refine hsome low r14 t14 ws14 _ _ hgood hheld hws14 F15 (fun q hq => N15 q ?_) (fun q hq => hne14 q (List.mem_cons_of_mem _ hq))
        simp only [List.mem_cons] at hq ⊢
        rcases hq with h | h
        · exact .inl h
        · exact .inr (.inr h)
    · exfalso
      rename (mid3 : Int) ≠ high => h1
      rename ¬ ((mid3 : Int) < high) => h2
      omega
  · exfalso
    rename (mid : Int) = high => h1
    omega
  · rename (mid : Int) ≠ low => hml
    rename (mid : Int) ≠ high => hmh
    rename ¬ xs.getD mid 0 < 128 => hge
    refine KBc.slice_K (lo := some ((mid : Nat) : Int)) (hi := none) F8 N8 hxs (by kmk_part) (by kmk_part) (by omega) ?_ (by with_unfolding_all rfl) (by kmk_pure)
    intro h10 t10 k10 F10 N10 hb10
    rw [cut_from (by omega)] at hb10
    clear F8 N8
    ktn_open
    refine lr_call (Around.frames_deeper hA) rfl hh (by simp only [depth_deeper]; omega) hB F10 hX hT X T G.dicts G.turn N10 (by rw [← KBw.ints_length, hb10, List.length_drop]; omega) ?_
    intro g11 t11 vs11 h11 tk11 hvs11 KT11 F11 N11 hne11 B11 X11 T11 D11
    rw [hb10] at hvs11
    clear F10 N10
    have hvl : vs11.length ≤ 4 := by rw [hvs11.length]; exact pvAll_length 4 _
    ktn_open
    refine kba_turn (value' := PySem.Expr.Name (Str.ofString "x") ⟨0, 0, 0, 0⟩) (fun _ => rfl) ?_
    refine kmk_slice_ints (lo := none) (hi := some 1) F11 N11 (isList_of_news N11 List.mem_cons_self) (by kmk_part) (by kmk_part) hvs11 (slice_ints_uptoW hvs11 (by decide)) rfl ?_ (by with_unfolding_all rfl) (by kmk_pure) (by simp only [List.size_toArray, sizeLine_eq]; omega)
    intro D12 ws12 h12 F12 N12 lt12 hI12 _ _
    clear F11 N11
    have hI13 : IntsAre ws12 ((pvAll 4 (xs.drop mid)).take 1) := hI12
    ktn_open
    refine lh_call (Around.frames_deeper B11.stack) rfl rfl hh (by simp only [depth_deeper]; omega) (by simp only [units_deeper]; omega) B11 F12 X11 T11 N12 List.mem_cons_self hI13 (by rw [List.length_take]; omega) ?_ ?_
    · intro h14 tk14 hheld F14 N14
      clear F12 N12
      ktn_open
      rename Fr g11 _ _ _ => F15
      rename News g11 _ _ _ => N15
      have F16 := fr_of F15 (fun y => fdM_high (.bytes ob tob) (.int p tp) _ _ _ _ _ _ _ y)
      refine ⟨g11, _, _, _, news₂, mid - low, rfl, F16, fun q hq => N15 q (List.mem_cons_of_mem _ (List.mem_cons_of_mem _ hq)), by omega, ⟨KT11, B11, X11, T11, D11⟩, rfl, low, mid, _, _, _, rfl, rfl, by omega, by omega, hlo, hls, .inr ⟨by omega, fun h => h hheld⟩⟩
    · intro r14 t14 ws14 h14 tk14 hheld hws14 F14 N14 hne14
      clear F12 N12
      ktn_open
      rename Fr g11 _ _ _ => F15
      rename News g11 _ _ _ => N15
      have F16 := fr_of F15 (fun y => fdM_low (.bytes ob tob) (.int p tp) _ _ _ _ _ _ _ y)
      refine ⟨g11, _, _, _, news₂, high - mid, rfl, F16, fun q hq => N15 q (List.mem_cons_of_mem _ (List.mem_cons_of_mem _ (List.mem_cons_of_mem _ hq))), by omega, ⟨KT11, B11, X11, T11, D11⟩, rfl, mid, high, _, _, _, rfl, rfl, by omega, by omega, by omega, .inr (fun h => by rw [hheld] at h; cases h), hhi⟩
end

local macro_rules | `(tactic| ktn_open) => `(tactic| repeat' (first | (k_unfold; (try dsimp only)) | ((fail_if_success (with_reducible show wpAny _ _ (exec (Stmt.While _ _ _ _) _) _ _ _)); (fail_if_success (with_reducible show wpAny _ _ (exec (Stmt.For _ _ _ _ _) _) _ _ _)); (fail_if_success (with_reducible show wpAny _ _ (call (Value.ref _) _) _ _ _)); (fail_if_success (with_reducible show wpAny _ _ (pyIter _) _ _ _)); (fail_if_success (with_reducible show wpAny _ _ (call (Value.type _) _) _ _ _)); (fail_if_success (with_reducible show wpAny _ _ (call (Value.builtin "len") _) _ _ _)); (fail_if_success (with_reducible show wpAny _ _ (subscriptTail _ _ _ _) _ _ _)); first | walk1 | (dsimp only; walk1) | (leave1; (try dsimp only)))))

/-- a value is a list of ints of the ledger's -/
def RowIn (news : List (Addr × Obj)) (v : Value) (ns : List Int) : Prop := ∃ a vs c, v = .ref a ∧ (a, listOf vs.toArray c) ∈ news ∧ IntsAre vs ns
def RowsAre (news : List (Addr × Obj)) (vs : List Value) (rs : List (List Int)) : Prop := vs.length = rs.length ∧ ∀ (i : Nat) (v : Value), vs[i]? = some v → ∃ ns, rs[i]? = some ns ∧ RowIn news v ns
theorem RowIn.mono {news news' : List (Addr × Obj)} {v : Value} {ns : List Int} (h : RowIn news v ns) (hs : ∀ p ∈ news, p ∈ news') : RowIn news' v ns :=
  let ⟨a, vs, c, e, hm, hi⟩ := h; ⟨a, vs, c, e, hs _ hm, hi⟩
theorem RowsAre.mono {news news' : List (Addr × Obj)} {vs : List Value} {rs : List (List Int)} (h : RowsAre news vs rs) (hs : ∀ p ∈ news, p ∈ news') : RowsAre news' vs rs :=
  ⟨h.1, fun i v hv => let ⟨ns, e, hr⟩ := h.2 i v hv; ⟨ns, e, hr.mono hs⟩⟩
def plainOf (rs : List (List Int)) (p : Int) : Option (List Int) := rs.findSome? fun ns => heldOf ns p

def plM (rl : Addr) (pl : Value) (u1 u2 : Option Value) : Str → Option Value := fun y =>
  if y = Str.ofString "numbers" then u1 else if y = Str.ofString "held" then u2 else if y = Str.ofString "place" then some pl else if y = Str.ofString "rows" then some (.ref rl) else none
theorem plM_init (rl : Addr) (pl : Value) (y : Str) : (if y = Str.ofString "place" then some pl else if y = Str.ofString "rows" then some (.ref rl) else none) = plM rl pl none none y := by
  simp only [plM]
  by_cases h1 : y = Str.ofString "numbers"
  · subst h1; rfl
  · by_cases h2 : y = Str.ofString "held"
    · subst h2; rfl
    · simp only [h1, h2, if_false]
theorem plM_num (rl : Addr) (pl : Value) (u1 u2 u : Option Value) (y : Str) : (if y = Str.ofString "numbers" then u else plM rl pl u1 u2 y) = plM rl pl u u2 y := by
  simp only [plM]
  by_cases h1 : y = Str.ofString "numbers"
  · simp only [h1, if_true]
  · simp only [h1, if_false]
theorem plM_held (rl : Addr) (pl : Value) (u1 u2 u : Option Value) (y : Str) : (if y = Str.ofString "held" then u else plM rl pl u1 u2 y) = plM rl pl u1 u y := by
  simp only [plM]
  by_cases h1 : y = Str.ofString "held"
  · subst h1; rfl
  · simp only [h1, if_false]
def plJ (rs : List (List Int)) (p : Int) (rl : Addr) (pl : Value) (news₀ : List (Addr × Obj)) (i : Nat) (m : Str → Option Value) (news : List (Addr × Obj)) : Prop :=
  news = news₀ ∧ ∃ u1 u2, m = plM rl pl u1 u2 ∧ plainOf rs p = plainOf (rs.drop i) p

example : (PySem.Challenge.rw_dm0068_02 = PySem.Challenge.rw_dm0068_02 ∧ hd2.heap_39 = hd2.heap_39) := by
  k_fill
  exact ⟨rfl, rfl⟩
section
variable {prog : Program} {w : World} {A A₀ : Around} {E : Value → Shared → Prop} {s : Shared} {h₀ base : Heap} {L rl : Addr} {m mg mb : Str → Option Value} {news : List (Addr × Obj)} {env : Env} {c : Nat} {rvs : List Value} {rs : List (List Int)} {p : Int} {tp : Tok}
  {loose : List Str} {mean : ExcName → Option Value} {Q : Value → Shared → Prop} {outer : List Env}

theorem pl_call (hA : A.frames = some (env :: outer)) (hf : env.frame = some L) (hck : env.scope.kind = .function) (hh : A.handled = none) (hdp : A.depth + 1 < recursionLimit) (hun : A.units + 100 < cLine)
    (B : Below A₀ base outer h₀) (F : Fr h₀ L s.heap m) (X : (hd2.heap_39 w.params).In h₀) (T : Top hd2.view_39 loose mean mg mb h₀)
    (N : News h₀ L s.heap news) (hl : (rl, listOf rvs.toArray c) ∈ news) (hR : RowsAre news rvs rs) (hlen : ∀ ns ∈ rs, ns.length ≤ 1000)
    (hnone : ∀ h' tk', plainOf rs p = none → Fr h₀ L h' m → News h₀ L h' news → Q .none { s with heap := h', toks := tk' })
    (hsome : ∀ r t ws h' tk', plainOf rs p = some r → IntsAre ws r → Fr h₀ L h' m → News h₀ L h' ((t, listOf ws.toArray 0) :: news) → (∀ q ∈ news, q.1 ≠ t) → Q (.ref t) { s with heap := h', toks := tk' }) :
    wpAny (model prog w) A (call (.ref 56) [.ref rl, .int p tp]) Q E s := by
  refine wpAny_call ?_
  k_dflt (refine' code_def B F X N T hA hf hck ?k6 ?k7 ?kd ?k9 ?kB ?_ ?c2 ?c3 ?c4 ?c5; (case k6 => k_is); (case k7 => k_is); (case kd => omega); (case k9 => exact BindsTo.of_eq rfl); (case c5 => decide); (case kB => exact locs rfl); (case c2 => exact rfl); (case c3 => exact rfl); (case c4 => exact rfl); k_whole; intro g' L' h' FG' F' N' B' X' T'; (try dsimp only); (try k_fold))
  replace F' := fr_of F' (fun y => (lookup2 (Str.ofString "rows") (Str.ofString "place") y (.ref rl) (.int p tp)).trans (plM_init rl (.int p tp) y))
  ktn_open
  refine wpAny_For ?_
  ktn_open
  refine forList_inv (plJ rs p rl (.int p tp) news) hh (fun j m₂ news₂ h hJ _ N => isList_of_news N (n := c) (by rw [hJ.1]; exact hl)) F' N' ⟨rfl, none, none, rfl, rfl⟩ ?_ ?_ (by with_unfolding_all passes_own)
  · rintro i v m₁ news₁ I h5 tk5 hv ⟨rfl, u1, u2, rfl, hpl⟩ hne5 F5 N5
    obtain ⟨ns, hns, a, vs, c', rfl, hm, hI⟩ := hR.2 i v (by simpa using hv)
    replace F5 := fr_of F5 (fun y => plM_num rl (.int p tp) u1 u2 _ y)
    clear F' N'
    have hdr : rs.drop i = ns :: rs.drop (i + 1) := by
      obtain ⟨hlt, he⟩ := List.getElem?_eq_some_iff.mp hns
      rw [← he]; exact List.drop_eq_getElem_cons hlt
    rw [hdr] at hpl
    ktn_open
    refine lh_call (Around.frames_deeper B'.stack) rfl rfl hh (by simp only [depth_deeper]; omega) (by simp only [units_deeper]; omega) B' F5 X' T' N5 (List.mem_cons_of_mem _ hm) hI (hlen ns (List.mem_of_getElem? hns)) ?_ ?_
    · intro h14 tk14 hheld F14 N14
      clear F5 N5
      ktn_open
      rename Fr g' _ _ _ => F15
      rename News g' _ _ _ => N15
      have F16 := fr_of F15 (fun y => plM_held rl (.int p tp) _ _ _ y)
      refine ⟨_, _, _, news₁, rfl, F16, N15, hne5, rfl, _, _, rfl, ?_⟩
      rw [hpl]
      simp only [plainOf, List.findSome?_cons, hheld]
    · intro r14 t14 ws14 h14 tk14 hheld hws14 F14 N14 hne14
      clear F5 N5
      ktn_open
      dsimp only [ForStep]
      ktn_open
      rename Fr h₀ L _ _ => F15
      rename News h₀ L _ _ => N15
      refine hsome r14 t14 ws14 _ _ ?_ hws14 F15 (fun q hq => N15 q ?_) (fun q hq => hne14 q (List.mem_cons_of_mem _ hq))
      · rw [hpl]
        simp only [plainOf, List.findSome?_cons, hheld]
      · simp only [List.mem_cons] at hq ⊢
        rcases hq with h | h
        · exact .inl h
        · exact .inr (.inr h)
  · rintro m₁ news₁ h5 tk5 ⟨rfl, u1, u2, rfl, hpl⟩ F5 N5
    clear F' N'
    ktn_open
    rename Fr h₀ L _ _ => F15
    rename News h₀ L _ _ => N15
    refine hnone _ _ ?_ F15 N15
    rw [hpl, List.drop_of_length_le (by rw [List.size_toArray, hR.1]; exact Nat.le_refl _)]
    rfl
end

/-- a row of the table: begin, length, handler, depth with its mark -/
structure Rec where
  b : Nat
  n : Nat
  h : Nat
  d : Nat
def Rec.nums (r : Rec) : List Nat := [r.b, r.n, r.h, r.d]
def add128 : List Int → List Int
  | [] => []
  | x :: r => (x + 128) :: r
def wrs (ns : List Nat) : List Int := ns.flatMap writ
def Rec.enc (r : Rec) : List Int := add128 (wrs r.nums)
def tabOf (rs : List Rec) : List Int := rs.flatMap Rec.enc
/-- the places behind each number's octets -/
def endsFrom (off : Nat) : List Nat → List Int
  | [] => []
  | n :: r => ((off + (writ n).length : Nat) : Int) :: endsFrom (off + (writ n).length) r
def rowsFrom (off : Nat) : List Rec → List (List Int × List Int)
  | [] => []
  | r :: rs => (r.nums.map (fun n : Nat => (n : Int)), endsFrom off r.nums) :: rowsFrom (off + r.enc.length) rs
/-- the rows rise and don't overlap -/
def Chain : Nat → List Rec → Nat → Prop
  | lo, [], hi => lo ≤ hi
  | lo, r :: rs, hi => lo ≤ r.b ∧ 1 ≤ r.n ∧ Chain (r.b + r.n) rs hi

theorem writ_ne (n : Nat) : writ n ≠ [] := by simp [writ]
theorem add128_length (l : List Int) : (add128 l).length = l.length := by cases l <;> rfl
theorem Rec.enc_length (r : Rec) : r.enc.length = (wrs r.nums).length := add128_length _
theorem wrs_append (a b : List Nat) : wrs (a ++ b) = wrs a ++ wrs b := by simp [wrs]
theorem tabOf_append (a b : List Rec) : tabOf (a ++ b) = tabOf a ++ tabOf b := by simp [tabOf]
theorem tabOf_one (r : Rec) : tabOf [r] = r.enc := by simp [tabOf]
theorem rowsFrom_snoc : ∀ (off : Nat) (rs : List Rec) (r : Rec), rowsFrom off (rs ++ [r]) = rowsFrom off rs ++ [(r.nums.map (fun n : Nat => (n : Int)), endsFrom (off + (tabOf rs).length) r.nums)]
  | off, [], r => by simp [rowsFrom, tabOf]
  | off, x :: rs, r => by
    rw [List.cons_append, rowsFrom, rowsFrom_snoc, rowsFrom, List.cons_append]
    have : (tabOf (x :: rs)).length = x.enc.length + (tabOf rs).length := by simp [tabOf]
    rw [this, Nat.add_assoc]
theorem rowsFrom_length (off : Nat) (rs : List Rec) : (rowsFrom off rs).length = rs.length := by
  induction rs generalizing off with
  | nil => rfl
  | cons r rs ih => simp [rowsFrom, ih]
theorem Chain.snoc : ∀ {lo hi hi' : Nat} {rs : List Rec} {r : Rec}, Chain lo rs hi → hi ≤ r.b → 1 ≤ r.n → r.b + r.n ≤ hi' → Chain lo (rs ++ [r]) hi'
  | lo, hi, hi', [], r, h, h1, h2, h3 => ⟨Nat.le_trans h h1, h2, h3⟩
  | lo, hi, hi', x :: rs, r, h, h1, h2, h3 => ⟨h.1, h.2.1, Chain.snoc h.2.2 h1 h2 h3⟩

/-- a value is a pair of lists of ints of the ledger's -/
def RowT (led : List (Addr × Obj)) (v : Value) (r : List Int × List Int) : Prop :=
  ∃ ta na ea nvs evs c1 c2 c3, v = .ref ta ∧ (ta, ({ cls := .type "tuple", data := .seq #[.ref na, .ref ea] c3 } : Obj)) ∈ led ∧ (na, listOf nvs.toArray c1) ∈ led ∧ (ea, listOf evs.toArray c2) ∈ led ∧ IntsAre nvs r.1 ∧ IntsAre evs r.2
def RowsT (led : List (Addr × Obj)) (vs : List Value) (rows : List (List Int × List Int)) : Prop := vs.length = rows.length ∧ ∀ (i : Nat) (v : Value), vs[i]? = some v → ∃ r, rows[i]? = some r ∧ RowT led v r
theorem RowT.mono {led led' : List (Addr × Obj)} {v : Value} {r : List Int × List Int} (h : RowT led v r) (hs : ∀ p ∈ led, p ∈ led') : RowT led' v r :=
  let ⟨ta, na, ea, nvs, evs, c1, c2, c3, e, h1, h2, h3, h4, h5⟩ := h; ⟨ta, na, ea, nvs, evs, c1, c2, c3, e, hs _ h1, hs _ h2, hs _ h3, h4, h5⟩
theorem RowsT.snoc {led led' : List (Addr × Obj)} {vs : List Value} {rows : List (List Int × List Int)} {v : Value} {r : List Int × List Int} (h : RowsT led vs rows) (hs : ∀ p ∈ led, p ∈ led') (hr : RowT led' v r) : RowsT led' (vs ++ [v]) (rows ++ [r]) := by
  refine ⟨by simp [h.1], fun i x hx => ?_⟩
  rw [List.getElem?_append] at hx
  by_cases hi : i < vs.length
  · rw [if_pos hi] at hx
    obtain ⟨r', e, hr'⟩ := h.2 i x hx
    exact ⟨r', by rw [List.getElem?_append, if_pos (by rw [← h.1]; exact hi)]; exact e, hr'.mono hs⟩
  · rw [if_neg hi] at hx
    have e0 : i - vs.length = 0 := by
      rcases Nat.eq_zero_or_pos (i - vs.length) with q | q
      · exact q
      · rw [List.getElem?_eq_none (by simp; omega)] at hx; cases hx
    rw [e0] at hx
    simp at hx
    subst hx
    refine ⟨r, ?_, hr⟩
    rw [List.getElem?_append, if_neg (by rw [← h.1]; exact hi), ← h.1, e0]
    rfl

theorem hiD_length : ∀ (j m : Nat), m < 64 ^ j → (hiD m).length ≤ j
  | 0, m, h => by
    have : m = 0 := by simpa using h
    subst this
    rw [hiD_zero]
    exact Nat.le_refl _
  | j + 1, m, h => by
    by_cases h0 : m = 0
    · subst h0; rw [hiD_zero]; exact Nat.zero_le _
    · rw [hiD_pos h0, List.length_append]
      have := hiD_length j (m / 64) (Nat.div_lt_of_lt_mul (by rw [Nat.mul_comm, ← Nat.pow_succ]; exact h))
      simp
      omega
theorem writ_length {n : Nat} (h : n < 64 ^ 40) : (writ n).length ≤ 40 := by
  unfold writ
  rw [List.length_append]
  have := hiD_length 39 (n / 64) (Nat.div_lt_of_lt_mul (by rw [show 64 * 64 ^ 39 = 64 ^ 40 from by decide]; exact h))
  simp
  omega
theorem wrs_take_succ {ns : List Nat} {k n : Nat} (h : ns[k]? = some n) : wrs (ns.take (k + 1)) = wrs (ns.take k) ++ writ n := by
  rw [List.take_succ, h, wrs_append]
  simp [wrs]
theorem wrs_length {ns : List Nat} (h : ∀ n ∈ ns, n < 64 ^ 40) : (wrs ns).length ≤ 40 * ns.length := by
  induction ns with
  | nil => exact Nat.le_refl _
  | cons n ns ih =>
    have e : wrs (n :: ns) = writ n ++ wrs ns := by simp [wrs]
    rw [e, List.length_append, List.length_cons]
    have h1 := writ_length (h n (List.mem_cons_self ..))
    have h2 := ih fun x hx => h x (List.mem_cons_of_mem _ hx)
    omega
theorem endsFrom_eq : ∀ (off : Nat) (ns : List Nat), endsFrom off ns = (List.range ns.length).map fun j => ((off + (wrs (ns.take (j + 1))).length : Nat) : Int)
  | off, [] => rfl
  | off, n :: ns => by
    rw [endsFrom, endsFrom_eq, List.length_cons, List.range_succ_eq_map, List.map_cons, List.map_map]
    congr 1
    · simp [wrs]
    · refine List.map_congr_left fun j _ => ?_
      have e : wrs ((n :: ns).take (j + 1 + 1)) = writ n ++ wrs (ns.take (j + 1)) := by simp [wrs]
      show _ = ((off + (wrs ((n :: ns).take (j + 1 + 1))).length : Nat) : Int)
      rw [e, List.length_append, Nat.add_assoc]

theorem set_add128 (base W : List Int) (h : W ≠ []) : (base ++ W).set base.length ((base ++ W).getD base.length 0 + 128) = base ++ add128 W := by
  rcases W with _ | ⟨x, W⟩
  · exact absurd rfl h
  · rw [List.set_append_right (s := base) (t := x :: W) base.length _ (Nat.le_refl _)]
    simp [add128, List.getD_eq_getElem?_getD]
theorem wrs_ne {ns : List Nat} (h : ns ≠ []) : wrs ns ≠ [] := by
  rcases ns with _ | ⟨n, ns⟩
  · exact absurd rfl h
  · simp [wrs, writ]

theorem tabOf_pos : ∀ {recs : List Rec}, 0 < recs.length → 0 < (tabOf recs).length
  | [], h => by simp at h
  | r :: rs, _ => by
    have e : tabOf (r :: rs) = r.enc ++ tabOf rs := by simp [tabOf]
    rw [e, List.length_append, Rec.enc_length]
    have := List.length_pos_iff.mpr (wrs_ne (ns := r.nums) (by simp [Rec.nums]))
    omega
theorem left_of (t : Nat) (x : Int) (ht : 0 < t) : ∃ lf : Nat, (t : Int) - x.fmod t = (lf : Int) ∧ 1 ≤ lf ∧ lf ≤ t := by
  have h1 := Int.fmod_nonneg_of_pos x (show (0 : Int) < t by omega)
  have h2 := Int.fmod_lt_of_pos x (show (0 : Int) < t by omega)
  exact ⟨((t : Int) - x.fmod t).toNat, by omega, by omega, by omega⟩

theorem hiD_in : ∀ (j m : Nat), m < 64 ^ j → ∀ x ∈ hiD m, 64 ≤ x ∧ x < 128
  | 0, m, h, x, hx => by
    have : m = 0 := by simpa using h
    subst this
    rw [hiD_zero] at hx
    simp at hx
  | j + 1, m, h, x, hx => by
    by_cases h0 : m = 0
    · subst h0; rw [hiD_zero] at hx; simp at hx
    · rw [hiD_pos h0] at hx
      rcases List.mem_append.mp hx with hx | hx
      · exact hiD_in j (m / 64) (Nat.div_lt_of_lt_mul (by rw [Nat.mul_comm, ← Nat.pow_succ]; exact h)) x hx
      · simp at hx
        omega
theorem lt_pow64 (m : Nat) : m < 64 ^ m := Nat.lt_pow_self (by decide)
theorem hiD_mem {m : Nat} {x : Int} (hx : x ∈ hiD m) : 64 ≤ x ∧ x < 128 := hiD_in m m (lt_pow64 m) x hx
theorem writ_in {n : Nat} {x : Int} (hx : x ∈ writ n) : 0 ≤ x ∧ x < 128 := by
  unfold writ at hx
  rcases List.mem_append.mp hx with hx | hx
  · have := hiD_mem hx; omega
  · simp at hx
    omega
theorem wrs_in {ns : List Nat} {x : Int} (hx : x ∈ wrs ns) : 0 ≤ x ∧ x < 128 := by
  obtain ⟨n, _, hx⟩ := List.mem_flatMap.mp hx
  exact writ_in hx
theorem add128_in {l : List Int} (h : ∀ x ∈ l, 0 ≤ x ∧ x < 128) : ∀ x ∈ add128 l, 0 ≤ x ∧ x < 256 := by
  intro x hx
  rcases l with _ | ⟨y, l⟩
  · simp [add128] at hx
  · rcases List.mem_cons.mp hx with rfl | hx
    · have := h y (List.mem_cons_self ..); omega
    · have := h x (List.mem_cons_of_mem _ hx); omega
theorem tab_in {recs : List Rec} {x : Int} (hx : x ∈ tabOf recs) : 0 ≤ x ∧ x < 256 := by
  obtain ⟨r, _, hx⟩ := List.mem_flatMap.mp hx
  exact add128_in (fun y hy => wrs_in hy) x hx

theorem endsFrom_length (off : Nat) (ns : List Nat) : (endsFrom off ns).length = ns.length := by rw [endsFrom_eq]; simp
theorem rowsFrom_four : ∀ {off : Nat} {recs : List Rec} {q : List Int × List Int}, q ∈ rowsFrom off recs → q.1.length = 4 ∧ q.2.length = 4
  | _, [], q, h => by simp [rowsFrom] at h
  | off, r :: rs, q, h => by
    rcases List.mem_cons.mp h with rfl | h
    · exact ⟨by simp [Rec.nums], by rw [endsFrom_length]; simp [Rec.nums]⟩
    · exact rowsFrom_four h
theorem enc_first (r : Rec) : 128 ≤ r.enc.getD 0 0 := by
  have h : wrs r.nums ≠ [] := wrs_ne (by simp [Rec.nums])
  unfold Rec.enc
  rcases hw : wrs r.nums with _ | ⟨x, l⟩
  · exact absurd hw h
  · have := wrs_in (ns := r.nums) (x := x) (by rw [hw]; exact List.mem_cons_self ..)
    simp only [add128, List.getD_cons_zero]
    omega
theorem take_first {recs : List Rec} {lf : Nat} (h : 0 < (tabOf recs).length) (hl : 1 ≤ lf) : 128 ≤ ((tabOf recs).take lf).getD 0 0 := by
  rcases recs with _ | ⟨r, rs⟩
  · simp [tabOf] at h
  · have e : tabOf (r :: rs) = r.enc ++ tabOf rs := by simp [tabOf]
    have hp : 0 < r.enc.length := by rw [Rec.enc_length]; exact List.length_pos_iff.mpr (wrs_ne (by simp [Rec.nums]))
    have := enc_first r
    rw [e, List.getD_eq_getElem?_getD, List.getElem?_take, if_pos (by omega), List.getElem?_append, if_pos hp, ← List.getD_eq_getElem?_getD]
    exact this

def stmtBody : Stmt → List Stmt
  | .FunctionDef _ _ b _ _ _ _ _ _ _ => b
  | .For _ _ b _ _ => b
  | _ => []
def stmtScope : Stmt → Scope
  | .FunctionDef _ _ _ _ _ _ s _ _ _ => s
  | _ => default
def lawDef2 : Stmt := PySem.Challenge.pw_dm0068_02.main.body.getD 8 (.Pass ⟨0, 0, 0, 0⟩)
def lawTail (k : Nat) : List Stmt := (stmtBody lawDef2).drop k
def loopTail (k : Nat) : List Stmt := (stmtBody ((stmtBody lawDef2).getD 5 (.Pass ⟨0, 0, 0, 0⟩))).drop k
def lawEnv (L a : Addr) (cd : Value) : Env := envOfC (Str.ofString "law") (stmtScope lawDef2) L a cd
local macro_rules | `(tactic| ktn_open) => `(tactic| repeat' (first | (k_unfold; (try dsimp only)) | ((fail_if_success (with_reducible show wpAny _ _ (exec (Stmt.While _ _ _ _) _) _ _ _)); (fail_if_success (with_reducible show wpAny _ _ (exec (Stmt.For _ _ _ _ _) _) _ _ _)); (fail_if_success (with_reducible show wpAny _ _ (call (Value.ref _) _) _ _ _)); (fail_if_success (with_reducible show wpAny _ _ (pyIter _) _ _ _)); (fail_if_success (with_reducible show wpAny _ _ (call (Value.builtin "len") _) _ _ _)); (fail_if_success (with_reducible show wpAny _ _ (call (Value.builtin "list.append") _) _ _ _)); (fail_if_success (with_reducible show wpAny _ _ (call (Value.builtin "list.extend") _) _ _ _)); (fail_if_success (with_reducible show wpAny _ _ (call (Value.type _) _) _ _ _)); (fail_if_success (with_reducible show wpAny _ _ (eval (PySem.Expr.ListComp _ _ _ _) _) _ _ _)); (fail_if_success (with_reducible show wpAny _ _ (exec (Stmt.AugAssign (Expr.Subscript _ _ _) _ _ _) _) _ _ _)); (fail_if_success (with_reducible show wpAny _ _ (getItem _ _) _ _ _)); (fail_if_success (with_reducible show wpAny _ _ (setItem _ _ _) _ _ _)); first | walk1 | (dsimp only; walk1) | (leave1; (try dsimp only)))))

/-- the law's loop over the script: what is written so far -/
def lawJ (L RL TL PL S DL : Addr) (o1 o2 o3 : Obj) (svs dvs : List Value) (i : Nat) (m : Str → Option Value) (news : List (Addr × Obj)) : Prop :=
  ∃ (pl : Nat) (tp : Tok) (rvs : List Value) (c1 : Nat) (tvs : List Value) (c2 : Nat) (pvs : List Value) (c3 : Nat) (rowLed : List (Addr × Obj)) (recs : List Rec) (pls : List Int),
    m (Str.ofString "place") = some (.int (pl : Int) tp) ∧ m (Str.ofString "places") = some (.ref PL) ∧ m (Str.ofString "script") = some (.ref S) ∧
    news = (RL, listOf rvs.toArray c1) :: (TL, listOf tvs.toArray c2) :: (PL, listOf pvs.toArray c3) :: (L + 1, o1) :: (L + 1 + 1, o2) :: (L + 1 + 1 + 1, o3) :: (S, listOf svs.toArray 0) :: (DL, listOf dvs.toArray 0) :: rowLed ∧
    RowsT rowLed rvs (rowsFrom 0 recs) ∧ IntsAre tvs (tabOf recs) ∧ IntsAre pvs pls ∧ pls.length = 4 * i ∧ recs.length = i ∧ Chain 0 recs pl ∧ pl ≤ 2 ^ 30 + i * 64 ^ 16 ∧ (tabOf recs).length ≤ 160 * i ∧ ∀ p ∈ rowLed, DL < p.1
def lawM (pl : Int) (tp : Tok) (PL S : Addr) (u : Str → Option Value) : Str → Option Value := fun y =>
  if y = Str.ofString "place" then some (.int pl tp) else if y = Str.ofString "places" then some (.ref PL) else if y = Str.ofString "script" then some (.ref S) else u y
theorem lawM_of {m : Str → Option Value} {pl : Int} {tp : Tok} {PL S : Addr} (h1 : m (Str.ofString "place") = some (.int pl tp)) (h2 : m (Str.ofString "places") = some (.ref PL)) (h3 : m (Str.ofString "script") = some (.ref S)) (y : Str) : m y = lawM pl tp PL S m y := by
  simp only [lawM]
  by_cases a : y = Str.ofString "place"
  · subst a; simp only [h1, if_true]
  · by_cases b : y = Str.ofString "places"
    · subst b; simp only [h2, a, if_true, if_false]
    · by_cases c : y = Str.ofString "script"
      · subst c; simp only [h3, a, b, if_true, if_false]
      · simp only [a, b, c, if_false]

/-- a map's first entry told -/
theorem told (x : Str) (v : Value) {m : Str → Option Value} (h : m x = some v) (y : Str) : m y = if y = x then some v else m y := by
  by_cases a : y = x
  · subst a; rw [if_pos rfl, h]
  · rw [if_neg a]

/-- the loop over a row's numbers -/
def numJ (r : Rec) (base : List Int) (fst : Value) (TL EL NL PL S : Addr) (nvs : List Value) (tb tp : Tok) (led : List (Addr × Obj)) (k : Nat) (m : Str → Option Value) (news : List (Addr × Obj)) : Prop :=
  ∃ (tvs : List Value) (c2 : Nat) (evs : List Value) (ce : Nat), m (Str.ofString "first") = some fst ∧ m (Str.ofString "numbers") = some (.ref NL) ∧ m (Str.ofString "ends") = some (.ref EL) ∧
    m (Str.ofString "begin") = some (.int (r.b : Int) tb) ∧ m (Str.ofString "place") = some (.int ((r.b + r.n : Nat) : Int) tp) ∧ m (Str.ofString "places") = some (.ref PL) ∧ m (Str.ofString "script") = some (.ref S) ∧
    news = (TL, listOf tvs.toArray c2) :: (EL, listOf evs.toArray ce) :: (NL, listOf nvs.toArray 0) :: led ∧
    IntsAre tvs (base ++ wrs (r.nums.take k)) ∧ IntsAre evs ((List.range k).map fun j => ((base.length + (wrs (r.nums.take (j + 1))).length : Nat) : Int))

example : (PySem.Challenge.rw_dm0068_02 = PySem.Challenge.rw_dm0068_02 ∧ hd2.heap_39 = hd2.heap_39) := by
  k_fill
  exact ⟨rfl, rfl⟩
section
variable {prog : Program} {w : World} {A A₀ : Around} {E : Value → Shared → Prop} {s : Shared} {h₀ : Heap} {L a : Addr} {m mg mb : Str → Option Value} {cd : Value}
  {loose : List Str} {mean : ExcName → Option Value} {Q : Flow → Shared → Prop}
  {I RL TL PL S DL : Addr} {oI o1 o2 o3 : Obj} {svs dvs rvs tvs pvs : List Value} {c1 c2 c3 i : Nat} {rowLed : List (Addr × Obj)} {recs : List Rec} {pls : List Int} {r : Rec} {R dp mk : Int} {tb tp tr td tm : Tok} {pl : Nat}

theorem turn_rest (hA : A.frames = some [lawEnv L a cd]) (hh : A.handled = none) (hdp : A.depth + 3 < recursionLimit) (hE : PassesOwn (model prog w) A (lawEnv L a cd) E)
    (B : Below A₀ h₀ [] h₀) (X : (hd2.heap_39 w.params).In h₀) (T : Top hd2.view_39 loose mean mg mb h₀) (F : Fr h₀ L s.heap m)
    (N : News h₀ L s.heap ((I, oI) :: (RL, listOf rvs.toArray c1) :: (TL, listOf tvs.toArray c2) :: (PL, listOf pvs.toArray c3) :: (L + 1, o1) :: (L + 1 + 1, o2) :: (L + 1 + 1 + 1, o3) :: (S, listOf svs.toArray 0) :: (DL, listOf dvs.toArray 0) :: rowLed))
    (hne : ∀ p ∈ (RL, listOf rvs.toArray c1) :: (TL, listOf tvs.toArray c2) :: (PL, listOf pvs.toArray c3) :: (L + 1, o1) :: (L + 1 + 1, o2) :: (L + 1 + 1 + 1, o3) :: (S, listOf svs.toArray 0) :: (DL, listOf dvs.toArray 0) :: rowLed, p.1 ≠ I)
    (hlt : L + 1 + 1 + 1 < S ∧ S < RL ∧ RL < TL ∧ TL < PL ∧ PL < DL) (d1 : o1.data = .cell (some (.ref RL))) (d2 : o2.data = .cell (some (.ref TL)))
    (m1 : m (Str.ofString "begin") = some (.int (r.b : Int) tb)) (m2 : m (Str.ofString "place") = some (.int ((r.b + r.n : Nat) : Int) tp)) (m3 : m (Str.ofString "rest") = some (.int R tr)) (m4 : m (Str.ofString "depth") = some (.int dp td)) (m5 : m (Str.ofString "mark") = some (.int mk tm))
    (m6 : m (Str.ofString "places") = some (.ref PL)) (m7 : m (Str.ofString "script") = some (.ref S))
    (hR : R.fmod (2 ^ 200) = (r.h : Int)) (hD : 2 * dp + mk = (r.d : Int)) (hdp0 : 0 ≤ dp) (hdp1 : dp < 300) (hb1 : r.b < 64 ^ 40) (hb2 : r.n < 64 ^ 40) (hb3 : r.h < 64 ^ 40) (hb4 : r.d < 64 ^ 40)
    (hrows : RowsT rowLed rvs (rowsFrom 0 recs)) (htab : IntsAre tvs (tabOf recs)) (hpls : IntsAre pvs pls) (hplen : pls.length = 4 * i) (hrlen : recs.length = i) (hch : Chain 0 recs pl) (hpl : pl ≤ r.b) (hrn : 1 ≤ r.n)
    (hplb : r.b + r.n ≤ 2 ^ 30 + (i + 1) * 64 ^ 16) (htlen : (tabOf recs).length ≤ 160 * i) (hi : i ≤ 64) (hrl : ∀ p ∈ rowLed, DL < p.1)
    (hQ : ∀ h' tk m₂ news₂, Fr h₀ L h' m₂ → News h₀ L h' ((I, oI) :: news₂) → (∀ p ∈ news₂, p.1 ≠ I) → lawJ L RL TL PL S DL o1 o2 o3 svs dvs (i + 1) m₂ news₂ → Q .next { s with heap := h', toks := tk }) :
    wpAny (model prog w) A (execs (loopTail 7) (lawEnv L a cd)) Q E s := by
  simp only [loopTail, lawEnv, lawDef2, PySem.Challenge.pw_dm0068_02, List.getD_cons_succ, List.getD_cons_zero, stmtBody, stmtScope, List.drop_succ_cons, List.drop_zero] at hA hE ⊢
  replace F := fr_of F (told _ _ m1)
  replace F := fr_of F (told (Str.ofString "place") _ m2)
  replace F := fr_of F (told (Str.ofString "rest") _ m3)
  replace F := fr_of F (told (Str.ofString "depth") _ m4)
  replace F := fr_of F (told (Str.ofString "mark") _ m5)
  replace F := fr_of F (told (Str.ofString "places") _ m6)
  replace F := fr_of F (told (Str.ofString "script") _ m7)
  ktn_open
  have htl : tvs.toArray.size = (tabOf recs).length := by rw [List.size_toArray, htab.length]
  refine len_list (isList_of_news N (List.mem_cons_of_mem _ (List.mem_cons_of_mem _ List.mem_cons_self))) (by rw [htl]; omega) ?_
  ktn_open
  refine wpAny_For ?_
  ktn_open
  rename_i _ EL _ ltE _ NL _ ltNL _ F1 N1
  rw [show (((r.b + r.n : Nat) : Int) - (r.b : Int)) = (r.n : Int) from by omega, show R.fmod (2 ^ Int.toNat 200) = (r.h : Int) from hR, hD] at N1
  obtain ⟨nvs, hnvs, N1'⟩ : ∃ nvs, IntsAre nvs (r.nums.map fun n : Nat => (n : Int)) ∧ News h₀ L _ ((NL, listOf nvs.toArray 0) :: (EL, listOf ([] : List Value).toArray 0) :: (I, oI) :: (RL, listOf rvs.toArray c1) :: (TL, listOf tvs.toArray c2) :: (PL, listOf pvs.toArray c3) :: (L + 1, o1) :: (L + 1 + 1, o2) :: (L + 1 + 1 + 1, o3) :: (S, listOf svs.toArray 0) :: (DL, listOf dvs.toArray 0) :: rowLed) :=
    ⟨[Value.int (r.b : Int) _, Value.int (r.n : Int) _, Value.int (r.h : Int) _, Value.int (r.d : Int) _], .cons _ _ (.cons _ _ (.cons _ _ (.cons _ _ .nil))), N1⟩
  clear N1
  rename News h₀ L _ _ => N1
  have N2 : News h₀ L _ ((TL, listOf tvs.toArray c2) :: (EL, listOf ([] : List Value).toArray 0) :: (NL, listOf nvs.toArray 0) :: (I, oI) :: (RL, listOf rvs.toArray c1) :: (PL, listOf pvs.toArray c3) :: (L + 1, o1) :: (L + 1 + 1, o2) :: (L + 1 + 1 + 1, o3) :: (S, listOf svs.toArray 0) :: (DL, listOf dvs.toArray 0) :: rowLed) := fun p hp => N1 p (by
    simp only [List.mem_cons] at hp ⊢
    rcases hp with h | h | h | h | h | h | h | h | h | h | h | h
    · exact .inr (.inr (.inr (.inr (.inl h))))
    · exact .inr (.inl h)
    · exact .inl h
    · exact .inr (.inr (.inl h))
    · exact .inr (.inr (.inr (.inl h)))
    · exact .inr (.inr (.inr (.inr (.inr (.inl h)))))
    · exact .inr (.inr (.inr (.inr (.inr (.inr (.inl h))))))
    · exact .inr (.inr (.inr (.inr (.inr (.inr (.inr (.inl h)))))))
    · exact .inr (.inr (.inr (.inr (.inr (.inr (.inr (.inr (.inl h))))))))
    · exact .inr (.inr (.inr (.inr (.inr (.inr (.inr (.inr (.inr (.inl h)))))))))
    · exact .inr (.inr (.inr (.inr (.inr (.inr (.inr (.inr (.inr (.inr (.inl h))))))))))
    · exact .inr (.inr (.inr (.inr (.inr (.inr (.inr (.inr (.inr (.inr (.inr h)))))))))))
  obtain ⟨led, hled⟩ : ∃ led, led = (I, oI) :: (RL, listOf rvs.toArray c1) :: (PL, listOf pvs.toArray c3) :: (L + 1, o1) :: (L + 1 + 1, o2) :: (L + 1 + 1 + 1, o3) :: (S, listOf svs.toArray 0) :: (DL, listOf dvs.toArray 0) :: rowLed := ⟨_, rfl⟩
  rw [← hled] at N2
  clear N1
  have hnums : ∀ x ∈ r.nums, x < 64 ^ 40 := by
    intro x hx
    simp only [Rec.nums, List.mem_cons, List.not_mem_nil, or_false] at hx
    rcases hx with rfl | rfl | rfl | rfl <;> assumption
  obtain ⟨q1, q2, q3, q4, q5⟩ := hlt
  have hlt' : TL < DL := Nat.lt_trans q4 q5
  replace q1 := ltN q1
  replace q2 := ltN q2
  replace q3 := ltN q3
  replace q4 := ltN q4
  replace q5 := ltN q5
  refine forListA_inv (items := nvs.toArray) (numJ r (tabOf recs) (.int (tvs.toArray.size : Int) (s.toks + 1)) TL EL NL PL S nvs tb tp led) hh (fun j m₂ news₂ h hJ _ N => ?_) F1 N2 ⟨tvs, c2, [], 0, rfl, rfl, rfl, rfl, rfl, rfl, rfl, rfl, by simpa [wrs] using htab, .nil⟩ ?_ ?_ hE
  · obtain ⟨tvs', c2', evs, ce, -, -, -, -, -, -, -, rfl, -⟩ := hJ
    exact isList_of_news N (n := 0) (by simp)
  · rintro k v m₁ news₁ I2 h5 tk5 hv ⟨tvs', c2', evs, ce, a1, a2, a3, a4, a5, a6, a7, rfl, htv, hev⟩ hne5 F5 N5
    clear F1 N2
    obtain ⟨c, tc, rfl, hc⟩ := intsAre_get hnvs (by simpa using hv)
    obtain ⟨n, hn, rfl⟩ : ∃ n, r.nums[k]? = some n ∧ c = (n : Int) := by
      rw [List.getElem?_map] at hc
      rcases hq : r.nums[k]? with _ | n
      · rw [hq] at hc; cases hc
      · rw [hq] at hc; exact ⟨n, rfl, (Option.some.inj hc).symm⟩
    replace F5 := fr_of F5 (told _ _ a1)
    replace F5 := fr_of F5 (told (Str.ofString "numbers") _ a2)
    replace F5 := fr_of F5 (told (Str.ofString "ends") _ a3)
    replace F5 := fr_of F5 (told (Str.ofString "begin") _ a4)
    replace F5 := fr_of F5 (told (Str.ofString "place") _ a5)
    replace F5 := fr_of F5 (told (Str.ofString "places") _ a6)
    replace F5 := fr_of F5 (told (Str.ofString "script") _ a7)
    have hkn : k < 4 := (List.getElem?_eq_some_iff.mp hn).1
    have hn40 : n < 64 ^ 40 := hnums n (List.mem_of_getElem? hn)
    have hwt : (wrs (r.nums.take k)).length ≤ 160 := by
      have h1 := wrs_length (ns := r.nums.take k) (fun x hx => hnums x (List.mem_of_mem_take hx))
      rw [List.length_take] at h1
      omega
    have hwn := writ_length hn40
    have htl' : tvs'.length = (tabOf recs).length + (wrs (r.nums.take k)).length := by rw [htv.length, List.length_append]
    have hT5 : TL ≠ I2 := hne5 _ List.mem_cons_self
    have hE5 : EL ≠ I2 := hne5 _ (List.mem_cons_of_mem _ List.mem_cons_self)
    have hledT : ∀ p ∈ led, p.1 ≠ TL := by
      rw [hled]
      intro p hp
      simp only [List.mem_cons] at hp
      rcases hp with rfl | rfl | rfl | rfl | rfl | rfl | rfl | rfl | h
      · exact Ne.symm (hne _ (List.mem_cons_of_mem _ List.mem_cons_self))
      all_goals first | exact Nat.ne_of_gt (Nat.lt_trans hlt' (hrl _ h)) | (refine neN ?_; dsimp only; omega)
    have hledE : ∀ p ∈ led, p.1 ≠ EL := by
      rw [hled]
      intro p hp
      simp only [List.mem_cons] at hp
      rcases hp with rfl | rfl | rfl | rfl | rfl | rfl | rfl | rfl | h
      all_goals first | exact Nat.ne_of_lt (ktn_ltOf ltE.2.2.2.2.2.2.2.2.2 _ h) | (refine neN ?_; dsimp only; omega)
    subst hled
    refine wpAny_assign_Name ?_
    ktn_open
    rename_i h6 F6 N6
    refine lwr_call hA rfl rfl hh (by omega) B F6 X T N6 hn40 ?_
    intro t wvs cw h7 tk7 hwvs F7 N7 hne7
    clear F6 N6
    ktn_open
    have N8 : News h₀ L h7 ((TL, listOf tvs'.toArray c2') :: (t, listOf wvs.toArray cw) :: (I2, liObj NL (k + 1)) :: (EL, listOf evs.toArray ce) :: (NL, listOf nvs.toArray 0) :: (I, oI) :: (RL, listOf rvs.toArray c1) :: (PL, listOf pvs.toArray c3) :: (L + 1, o1) :: (L + 1 + 1, o2) :: (L + 1 + 1 + 1, o3) :: (S, listOf svs.toArray 0) :: (DL, listOf dvs.toArray 0) :: rowLed) := fun q hq => N7 q (by
      simp only [List.mem_cons] at hq ⊢
      rcases hq with h | h | h | h | h | h | h | h | h | h | h | h | h | h <;> simp only [h, true_or, or_true])
    clear N7
    refine kl_extend F7 N8 (List.mem_cons_of_mem _ List.mem_cons_self) rfl (by rw [hwvs.length]; exact fun h => writ_ne n (List.length_eq_zero_iff.mp h)) (Upd.head ?_) ?_ (by simp only [Array.length_toList, List.size_toArray, htl', sizeLine_eq]; omega) (by simp only [List.size_toArray, htl', hwvs.length, sizeLine_eq]; omega) ?_
    · intro p hp
      rcases List.mem_cons.mp hp with rfl | hp
      · exact Ne.symm (hne7 _ (List.mem_cons_of_mem _ List.mem_cons_self))
      rcases List.mem_cons.mp hp with rfl | hp
      · exact Ne.symm hT5
      rcases List.mem_cons.mp hp with rfl | hp
      · refine neN ?_; dsimp only; omega
      rcases List.mem_cons.mp hp with rfl | hp
      · refine neN ?_; dsimp only; omega
      · exact hledT p hp
    · have hz : Builtin.List.listTooLong (tvs'.toArray.size + wvs.toArray.size) = false := by
        simp only [Builtin.List.listTooLong, List.size_toArray, htl', hwvs.length, sizeLine_eq]
        exact decide_eq_false (by omega)
      rw [hz]; simp
    · intro h9 F9 N9
      clear F7 N8
      ktn_open
      have htv9 : IntsAre (tvs'.toArray.toList ++ wvs.toArray.toList) (tabOf recs ++ wrs (r.nums.take (k + 1))) := by
        rw [wrs_take_succ hn, ← List.append_assoc]
        exact htv.append hwvs
      refine len_list (isList_of_news N9 List.mem_cons_self) (by rw [List.size_toArray, htv9.length, wrs_take_succ hn, List.length_append, List.length_append]; omega) ?_
      ktn_open
      have N10 : News h₀ L h9 ((EL, listOf evs.toArray ce) :: (TL, listOf (tvs' ++ wvs).toArray (c2' + 1)) :: (t, listOf wvs.toArray cw) :: (I2, liObj NL (k + 1)) :: (NL, listOf nvs.toArray 0) :: (I, oI) :: (RL, listOf rvs.toArray c1) :: (PL, listOf pvs.toArray c3) :: (L + 1, o1) :: (L + 1 + 1, o2) :: (L + 1 + 1 + 1, o3) :: (S, listOf svs.toArray 0) :: (DL, listOf dvs.toArray 0) :: rowLed) := fun q hq => N9 q (by
        simp only [List.mem_cons] at hq ⊢
        rcases hq with h | h | h | h | h | h | h | h | h | h | h | h | h | h <;> simp only [h, true_or, or_true])
      clear N9
      refine append_K F9 N10 (Upd.head ?_) ?_ (by simp only [List.size_toArray, hev.length, List.length_map, List.length_range, sizeLine_eq]; omega)
      · intro p hp
        rcases List.mem_cons.mp hp with rfl | hp
        · refine neN ?_; dsimp only; omega
        rcases List.mem_cons.mp hp with rfl | hp
        · exact Ne.symm (hne7 _ (List.mem_cons_of_mem _ (List.mem_cons_of_mem _ List.mem_cons_self)))
        rcases List.mem_cons.mp hp with rfl | hp
        · exact Ne.symm hE5
        rcases List.mem_cons.mp hp with rfl | hp
        · refine neN ?_; dsimp only; omega
        · exact hledE p hp
      · intro h11 F11 N11
        clear F9 N10
        ktn_open
        have e11 : (((tvs' ++ wvs).toArray.size : Nat) : Int) = (((tabOf recs).length + (wrs (r.nums.take (k + 1))).length : Nat) : Int) := by
          rw [List.size_toArray, htv9.length, List.length_append]
        rw [e11, List.push_toArray] at N11
        obtain ⟨evs', hevs', N12⟩ : ∃ evs', IntsAre evs' (((List.range k).map fun j => (((tabOf recs).length + (wrs (r.nums.take (j + 1))).length : Nat) : Int)) ++ [(((tabOf recs).length + (wrs (r.nums.take (k + 1))).length : Nat) : Int)]) ∧
            News h₀ L h11 ((EL, listOf evs'.toArray (ce + 1)) :: (TL, listOf (tvs' ++ wvs).toArray (c2' + 1)) :: (t, listOf wvs.toArray cw) :: (I2, liObj NL (k + 1)) :: (NL, listOf nvs.toArray 0) :: (I, oI) :: (RL, listOf rvs.toArray c1) :: (PL, listOf pvs.toArray c3) :: (L + 1, o1) :: (L + 1 + 1, o2) :: (L + 1 + 1 + 1, o3) :: (S, listOf svs.toArray 0) :: (DL, listOf dvs.toArray 0) :: rowLed) := ⟨_, hev.append (.cons _ _ .nil), N11⟩
        clear N11
        refine ⟨_, _, _, (TL, listOf (tvs' ++ wvs).toArray (c2' + 1)) :: (EL, listOf evs'.toArray (ce + 1)) :: (NL, listOf nvs.toArray 0) :: (I, oI) :: (RL, listOf rvs.toArray c1) :: (PL, listOf pvs.toArray c3) :: (L + 1, o1) :: (L + 1 + 1, o2) :: (L + 1 + 1 + 1, o3) :: (S, listOf svs.toArray 0) :: (DL, listOf dvs.toArray 0) :: rowLed, rfl, F11, fun q hq => N12 q ?_, ?_, tvs' ++ wvs, c2' + 1, evs', ce + 1, rfl, rfl, rfl, rfl, rfl, rfl, rfl, rfl, htv9, ?_⟩
        · simp only [List.mem_cons] at hq ⊢
          rcases hq with h | h | h | h | h | h | h | h | h | h | h | h | h <;> simp only [h, true_or, or_true]
        · intro q hq
          rcases List.mem_cons.mp hq with rfl | hq
          · exact hT5
          rcases List.mem_cons.mp hq with rfl | hq
          · exact hE5
          exact hne5 _ (List.mem_cons_of_mem _ (List.mem_cons_of_mem _ hq))
        · rw [List.range_succ, List.map_append]
          exact hevs'
  · rintro m₁ news₁ h5 tk5 ⟨tvs', c2', evs, ce, a1, a2, a3, a4, a5, a6, a7, rfl, htv, hev⟩ F5 N5
    clear F1 N2
    have hn4 : nvs.toArray.size = 4 := by rw [List.size_toArray, hnvs.length]; rfl
    rw [hn4, List.take_of_length_le (by simp [Rec.nums])] at htv
    rw [hn4] at hev
    replace hev : IntsAre evs (endsFrom (tabOf recs).length r.nums) := by
      rw [endsFrom_eq]
      exact hev
    have hwl : (wrs r.nums).length ≤ 160 := wrs_length hnums
    have hwne : wrs r.nums ≠ [] := wrs_ne (by simp [Rec.nums])
    have hwpos : 0 < (wrs r.nums).length := List.length_pos_iff.mpr hwne
    have hledT : ∀ p ∈ led, p.1 ≠ TL := by
      rw [hled]
      intro p hp
      simp only [List.mem_cons] at hp
      rcases hp with rfl | rfl | rfl | rfl | rfl | rfl | rfl | rfl | h
      · exact Ne.symm (hne _ (List.mem_cons_of_mem _ List.mem_cons_self))
      all_goals first | exact Nat.ne_of_gt (Nat.lt_trans hlt' (hrl _ h)) | (refine neN ?_; dsimp only; omega)
    replace F5 := fr_of F5 (told _ _ a1)
    replace F5 := fr_of F5 (told (Str.ofString "numbers") _ a2)
    replace F5 := fr_of F5 (told (Str.ofString "ends") _ a3)
    replace F5 := fr_of F5 (told (Str.ofString "begin") _ a4)
    replace F5 := fr_of F5 (told (Str.ofString "place") _ a5)
    replace F5 := fr_of F5 (told (Str.ofString "places") _ a6)
    replace F5 := fr_of F5 (told (Str.ofString "script") _ a7)
    subst hled
    ktn_open
    refine wpAny_AugAssign_SubscriptAny ?_
    ktn_open
    have htlz : (tvs.toArray.size : Int).toNat = (tabOf recs).length := by rw [htl]; rfl
    refine ksa_get N5 List.mem_cons_self htv (by omega) (by rw [htl, List.length_append]; omega) (by rw [htl]; omega) (fun t6 => ?_)
    ktn_open
    refine ksa_set F5 N5 (Upd.head ?_) htv (by omega) (by rw [htl, List.length_append]; omega) (by rw [htl]; omega) ?_
    · intro p hp
      rcases List.mem_cons.mp hp with rfl | hp
      · refine neN ?_; dsimp only; omega
      rcases List.mem_cons.mp hp with rfl | hp
      · refine neN ?_; dsimp only; omega
      · exact hledT p hp
    intro h7 F7 N7 hset _ _
    rw [htlz] at hset N7
    rw [set_add128 _ _ hwne] at hset
    obtain ⟨tv2, htv2, N8⟩ : ∃ tv2, IntsAre tv2 (tabOf recs ++ r.enc) ∧ News h₀ L h7 ((TL, listOf tv2.toArray c2') :: (EL, listOf evs.toArray ce) :: (NL, listOf nvs.toArray 0) :: (I, oI) :: (RL, listOf rvs.toArray c1) :: (PL, listOf pvs.toArray c3) :: (L + 1, o1) :: (L + 1 + 1, o2) :: (L + 1 + 1 + 1, o3) :: (S, listOf svs.toArray 0) :: (DL, listOf dvs.toArray 0) :: rowLed) := ⟨_, hset, N7⟩
    clear N7 F5 N5 hset
    ktn_open
    rename_i D9 _ F9 N9 lt9
    have hI1 : RL ≠ I := hne _ List.mem_cons_self
    have hI2 : TL ≠ I := hne (TL, listOf tvs.toArray c2) (List.mem_cons_of_mem _ List.mem_cons_self)
    have hI3 : PL ≠ I := hne _ (List.mem_cons_of_mem _ (List.mem_cons_of_mem _ List.mem_cons_self))
    have N10 : News h₀ L _ ((RL, listOf rvs.toArray c1) :: (D9, { cls := Value.type "tuple", data := Data.seq #[Value.ref NL, Value.ref EL] }) :: (TL, listOf tv2.toArray c2') :: (EL, listOf evs.toArray ce) :: (NL, listOf nvs.toArray 0) :: (I, oI) :: (PL, listOf pvs.toArray c3) :: (L + 1, o1) :: (L + 1 + 1, o2) :: (L + 1 + 1 + 1, o3) :: (S, listOf svs.toArray 0) :: (DL, listOf dvs.toArray 0) :: rowLed) := fun q hq => N9 q (by
      simp only [List.mem_cons] at hq ⊢
      rcases hq with h | h | h | h | h | h | h | h | h | h | h | h | h <;> simp only [h, true_or, or_true])
    clear N9
    refine append_K F9 N10 (Upd.head ?_) ?_ (by simp only [List.size_toArray, hrows.1, rowsFrom_length, hrlen, sizeLine_eq]; omega)
    · intro p hp
      simp only [List.mem_cons] at hp
      rcases hp with rfl | rfl | rfl | rfl | rfl | rfl | rfl | rfl | rfl | rfl | rfl | h
      all_goals first | exact Ne.symm hI1 | exact Nat.ne_of_gt (Nat.lt_trans (Nat.lt_trans q3 (Nat.lt_trans q4 q5)) (hrl _ h)) | (refine neN ?_; dsimp only; omega)
    intro h11 F11 N11
    rw [List.push_toArray] at N11
    clear F9 N10
    ktn_open
    rename_i XL _ F12 N12 lt12
    obtain ⟨xvs, hxvs, N12'⟩ : ∃ xvs, IntsAre xvs [(r.b : Int) - 1, (r.b : Int), ((r.b + r.n : Nat) : Int) - 1, ((r.b + r.n : Nat) : Int)] ∧ News h₀ L _ ((XL, listOf xvs.toArray 0) :: (RL, listOf (rvs ++ [Value.ref D9]).toArray (c1 + 1)) :: (D9, { cls := Value.type "tuple", data := Data.seq #[Value.ref NL, Value.ref EL] }) :: (TL, listOf tv2.toArray c2') :: (EL, listOf evs.toArray ce) :: (NL, listOf nvs.toArray 0) :: (I, oI) :: (PL, listOf pvs.toArray c3) :: (L + 1, o1) :: (L + 1 + 1, o2) :: (L + 1 + 1 + 1, o3) :: (S, listOf svs.toArray 0) :: (DL, listOf dvs.toArray 0) :: rowLed) :=
      ⟨[Value.int _ _, Value.int _ _, Value.int _ _, Value.int _ _], .cons _ _ (.cons _ _ (.cons _ _ (.cons _ _ .nil))), N12⟩
    clear N12
    have N13 : News h₀ L _ ((PL, listOf pvs.toArray c3) :: (XL, listOf xvs.toArray 0) :: (RL, listOf (rvs ++ [Value.ref D9]).toArray (c1 + 1)) :: (D9, { cls := Value.type "tuple", data := Data.seq #[Value.ref NL, Value.ref EL] }) :: (TL, listOf tv2.toArray c2') :: (EL, listOf evs.toArray ce) :: (NL, listOf nvs.toArray 0) :: (I, oI) :: (L + 1, o1) :: (L + 1 + 1, o2) :: (L + 1 + 1 + 1, o3) :: (S, listOf svs.toArray 0) :: (DL, listOf dvs.toArray 0) :: rowLed) := fun q hq => N12' q (by
      simp only [List.mem_cons] at hq ⊢
      rcases hq with h | h | h | h | h | h | h | h | h | h | h | h | h | h <;> simp only [h, true_or, or_true])
    clear N12'
    have hpvl : pvs.length = 4 * i := by rw [hpls.length, hplen]
    have hxvl : xvs.length = 4 := by rw [hxvs.length]; rfl
    refine kl_extend F12 N13 (List.mem_cons_of_mem _ List.mem_cons_self) rfl (by simp only [hxvl]; decide) (Upd.head ?_) ?_ (by simp only [Array.length_toList, List.size_toArray, hpvl, sizeLine_eq]; omega) (by simp only [List.size_toArray, hpvl, hxvl, sizeLine_eq]; omega) ?_
    · intro p hp
      simp only [List.mem_cons] at hp
      rcases hp with rfl | rfl | rfl | rfl | rfl | rfl | rfl | rfl | rfl | rfl | rfl | rfl | h
      all_goals first | exact Ne.symm hI3 | exact Nat.ne_of_gt (Nat.lt_trans q5 (hrl _ h)) | (refine neN ?_; dsimp only; omega)
    · have hz : Builtin.List.listTooLong (pvs.toArray.size + xvs.toArray.size) = false := by
        simp only [Builtin.List.listTooLong, List.size_toArray, hpvl, hxvl, sizeLine_eq]
        exact decide_eq_false (by omega)
      rw [hz]; simp
    intro h14 F14 N14
    clear F12 N13
    ktn_open
    have hnI : ∀ p ∈ (L + 1, o1) :: (L + 1 + 1, o2) :: (L + 1 + 1 + 1, o3) :: (S, listOf svs.toArray 0) :: (DL, listOf dvs.toArray 0) :: rowLed, p.1 ≠ I := fun p hp => hne p (List.mem_cons_of_mem _ (List.mem_cons_of_mem _ (List.mem_cons_of_mem _ hp)))
    refine hQ _ _ _ ((RL, listOf (rvs ++ [Value.ref D9]).toArray (c1 + 1)) :: (TL, listOf tv2.toArray c2') :: (PL, listOf (pvs ++ xvs).toArray (c3 + 1)) :: (L + 1, o1) :: (L + 1 + 1, o2) :: (L + 1 + 1 + 1, o3) :: (S, listOf svs.toArray 0) :: (DL, listOf dvs.toArray 0) :: ((D9, { cls := Value.type "tuple", data := Data.seq #[Value.ref NL, Value.ref EL] }) :: (EL, listOf evs.toArray ce) :: (NL, listOf nvs.toArray 0) :: rowLed)) F14 (fun q hq => N14 q ?_) ?_
      ⟨r.b + r.n, tp, rvs ++ [Value.ref D9], c1 + 1, tv2, c2', pvs ++ xvs, c3 + 1, (D9, { cls := Value.type "tuple", data := Data.seq #[Value.ref NL, Value.ref EL] }) :: (EL, listOf evs.toArray ce) :: (NL, listOf nvs.toArray 0) :: rowLed, recs ++ [r], pls ++ [(r.b : Int) - 1, (r.b : Int), ((r.b + r.n : Nat) : Int) - 1, ((r.b + r.n : Nat) : Int)], rfl, rfl, rfl, rfl, ?_, ?_, hpls.append hxvs, by simp [hplen]; omega, by simp [hrlen], hch.snoc hpl hrn (Nat.le_refl _), hplb, ?_, ?_⟩
    · simp only [List.mem_cons] at hq ⊢
      rcases hq with h | h | h | h | h | h | h | h | h | h | h | h | h <;> simp only [h, true_or, or_true]
    · intro p hp
      simp only [List.mem_cons] at hp
      rcases hp with rfl | rfl | rfl | rfl | rfl | rfl | rfl | rfl | rfl | rfl | rfl | h
      · exact hI1
      · exact hI2
      · exact hI3
      · exact hnI (L + 1, o1) List.mem_cons_self
      · exact hnI (L + 1 + 1, o2) (List.mem_cons_of_mem _ List.mem_cons_self)
      · exact hnI (L + 1 + 1 + 1, o3) (List.mem_cons_of_mem _ (List.mem_cons_of_mem _ List.mem_cons_self))
      · exact hnI (S, listOf svs.toArray 0) (List.mem_cons_of_mem _ (List.mem_cons_of_mem _ (List.mem_cons_of_mem _ List.mem_cons_self)))
      · exact hnI (DL, listOf dvs.toArray 0) (List.mem_cons_of_mem _ (List.mem_cons_of_mem _ (List.mem_cons_of_mem _ (List.mem_cons_of_mem _ List.mem_cons_self))))
      · refine neN ?_; dsimp only; omega
      · refine neN ?_; dsimp only; omega
      · refine neN ?_; dsimp only; omega
      · exact hnI _ (List.mem_cons_of_mem _ (List.mem_cons_of_mem _ (List.mem_cons_of_mem _ (List.mem_cons_of_mem _ (List.mem_cons_of_mem _ h)))))
    · rw [rowsFrom_snoc]
      refine hrows.snoc (fun p hp => List.mem_cons_of_mem _ (List.mem_cons_of_mem _ (List.mem_cons_of_mem _ hp))) ⟨D9, NL, EL, nvs, evs, 0, ce, 0, rfl, List.mem_cons_self, List.mem_cons_of_mem _ (List.mem_cons_of_mem _ List.mem_cons_self), List.mem_cons_of_mem _ List.mem_cons_self, hnvs, ?_⟩
      simpa using hev
    · rw [tabOf_append, tabOf_one]
      exact htv2
    · rw [tabOf_append, tabOf_one, List.length_append, Rec.enc_length]
      omega
    · intro p hp
      simp only [List.mem_cons] at hp
      rcases hp with rfl | rfl | rfl | h
      · exact lt9.2.2.2.2.2.2.2.2.2.2.1
      · exact ltE.2.2.2.2.2.2.2.2.1
      · exact ltNL.2.2.2.2.2.2.2.2.2.1
      · exact hrl _ h
end

/-- the end of one item of a comprehension that may add to the ledger -/
def EltEndG (h₀ : Heap) (L : Addr) (m : Str → Option Value) (s : Shared) (I : Addr) (oI : Obj) (C : Addr) (oC : Obj) (D : Addr) (ys : List Value) (R : Value → List (Addr × Obj) → Prop) (y : Value) (s₂ : Shared) : Prop :=
  ∃ h' tk' nw, s₂ = { s with heap := h', toks := tk' } ∧ Fr h₀ L h' m ∧ News h₀ L h' ((I, oI) :: (C, oC) :: (D, LCg.lst ys) :: nw) ∧ (∀ p ∈ nw, p.1 ≠ I ∧ p.1 ≠ C ∧ p.1 ≠ D) ∧ R y nw

section
variable {prog : Program} {w : World} {A : Around} {E : Value → Shared → Prop} {s : Shared} {h₀ : Heap} {L : Addr} {m : Str → Option Value} {news : List (Addr × Obj)} {env : Env} {elt : Expr} {x x₂ : Str} {scope : Scope} {cl : List (Str × Addr)}
  {S : List (Addr × Obj) → Prop} {P : Nat → Value → Prop} {Fin : List Value → List (Addr × Obj) → Prop} {n : Nat}

theorem compRestG_of (R : Nat → List Value → List (Addr × Obj) → Prop) (hS : ∀ i ys nw, R i ys nw → S nw) (h0 : R 0 [] news)
    (step : ∀ i v ys nw I oI C oC D m₂ h tk (E' : Value → Shared → Prop), i < n → P i v → R i ys nw → LCg.NsObj oC m₂ → m₂ x = some v → Fr h₀ L h m → News h₀ L h ((I, oI) :: (C, oC) :: (D, LCg.lst ys) :: nw) → (∀ p ∈ nw, p.1 ≠ I ∧ p.1 ≠ C ∧ p.1 ≠ D) →
      wpAny (model prog w) A (eval elt (compEnvC scope cl C env)) (EltEndG h₀ L m s I oI C oC D ys (fun y nw' => R (i + 1) (ys ++ [y]) nw')) E' { s with heap := h, toks := tk })
    (fin : ∀ ys nw, R n ys nw → Fin ys nw) :
    LCg.CompRest prog w A h₀ L m env elt x scope cl s S P Fin n 0 [] news := by
  have all : ∀ k i ys nw, i + k = n → R i ys nw → LCg.CompRest prog w A h₀ L m env elt x scope cl s S P Fin k i ys nw := by
    intro k
    induction k with
    | zero => intro i ys nw hk hR; exact fin ys nw (by rw [← hk]; exact hR)
    | succ k ih =>
      intro i ys nw hk hR
      refine LCg.CompRest.succ ?_
      intro v I oI C oC D m₂ h tk E' hP hC hx F N off3 _
      refine wpAny_mono (step i v ys nw I oI C oC D m₂ h tk E' (by omega) hP hR hC hx F N off3.mem) (fun y s₂ q => ?_) fun _ _ e => e
      obtain ⟨h', tk', nw', rfl, F', N', off', hR'⟩ := q
      exact ⟨h', tk', nw', rfl, F', N', LCg.Off3.of off', hS _ _ _ hR', ih (i + 1) (ys ++ [y]) nw' (by omega) hR'⟩
  exact all n 0 [] news (by omega) h0

theorem compRestP_of (R : Nat → List Value → List (Addr × Obj) → Prop) (hS : ∀ i ys nw, R i ys nw → S nw) (h0 : R 0 [] news)
    (step : ∀ i v ys nw, i < n → P i v → R i ys nw → ∃ (t : Addr) (ot : Obj) (v₁ v₂ : Value) (nt : Nat), v = .ref t ∧ (t, ot) ∈ nw ∧ ot.cls = .type "tuple" ∧ ot.data = .seq #[v₁, v₂] nt ∧
      ∀ I oI C oC D m₂ h tk (E' : Value → Shared → Prop), LCg.NsObj oC m₂ → m₂ x = some v₁ → m₂ x₂ = some v₂ → Fr h₀ L h m → News h₀ L h ((I, oI) :: (C, oC) :: (D, LCg.lst ys) :: nw) → (∀ p ∈ nw, p.1 ≠ I ∧ p.1 ≠ C ∧ p.1 ≠ D) →
      wpAny (model prog w) A (eval elt (compEnvC scope cl C env)) (EltEndG h₀ L m s I oI C oC D ys (fun y nw' => R (i + 1) (ys ++ [y]) nw')) E' { s with heap := h, toks := tk })
    (fin : ∀ ys nw, R n ys nw → Fin ys nw) :
    LCp.CompRestP prog w A h₀ L m env elt x x₂ scope cl s S P Fin n 0 [] news := by
  have all : ∀ k i ys nw, i + k = n → R i ys nw → LCp.CompRestP prog w A h₀ L m env elt x x₂ scope cl s S P Fin k i ys nw := by
    intro k
    induction k with
    | zero => intro i ys nw hk hR; exact fin ys nw (by rw [← hk]; exact hR)
    | succ k ih =>
      intro i ys nw hk hR
      refine LCp.CompRestP.succ ?_
      intro v hP
      obtain ⟨t, ot, v₁, v₂, nt, e1, e2, e3, e4, hst⟩ := step i v ys nw (by omega) hP hR
      refine ⟨t, ot, v₁, v₂, nt, e1, e2, e3, e4, ?_⟩
      intro I oI C oC D m₂ h tk E' hC hx hx2 F N off3 _
      refine wpAny_mono (hst I oI C oC D m₂ h tk E' hC hx hx2 F N off3.mem) (fun y s₂ q => ?_) fun _ _ e => e
      obtain ⟨h', tk', nw', rfl, F', N', off', hR'⟩ := q
      exact ⟨h', tk', nw', rfl, F', N', LCg.Off3.of off', hS _ _ _ hR', ih (i + 1) (ys ++ [y]) nw' (by omega) hR'⟩
  exact all n 0 [] news (by omega) h0
end

local macro_rules | `(tactic| ktn_open) => `(tactic| repeat' (first | (k_unfold; (try dsimp only)) | ((fail_if_success (with_reducible show wpAny _ _ (exec (Stmt.While _ _ _ _) _) _ _ _)); (fail_if_success (with_reducible show wpAny _ _ (exec (Stmt.For _ _ _ _ _) _) _ _ _)); (fail_if_success (with_reducible show wpAny _ _ (call (Value.ref _) _) _ _ _)); (fail_if_success (with_reducible show wpAny _ _ (pyIter _) _ _ _)); (fail_if_success (with_reducible show wpAny _ _ (call (Value.builtin "len") _) _ _ _)); (fail_if_success (with_reducible show wpAny _ _ (call (Value.builtin "sum") _) _ _ _)); (fail_if_success (with_reducible show wpAny _ _ (storeName _ (Str.ofString "left") _) _ _ _)); (fail_if_success (with_reducible show wpAny _ _ (storeName _ (Str.ofString "table") _) _ _ _)); (fail_if_success (with_reducible show wpAny _ _ (storeName _ (Str.ofString "rows") _) _ _ _)); (fail_if_success (with_reducible show wpAny _ _ (call (Value.type _) _) _ _ _)); (fail_if_success (with_reducible show wpAny _ _ (subscriptTail _ _ _ _) _ _ _)); (fail_if_success (with_reducible show wpAny _ _ (compareOp CmpOp.Eq (Value.ref _) (Value.ref _)) _ _ _)); (fail_if_success (with_reducible show wpAny _ _ (eval (PySem.Expr.ListComp _ _ _ _) _) _ _ _)); (fail_if_success (with_reducible show wpAny _ _ (exec (Stmt.Assign _ (PySem.Expr.ListComp _ _ _ _) _) _) _ _ _)); first | walk1 | (dsimp only; walk1) | (leave1; (try dsimp only)))))

example : (PySem.Challenge.rw_dm0068_02 = PySem.Challenge.rw_dm0068_02 ∧ hd2.heap_39 = hd2.heap_39) := by
  k_fill
  exact ⟨rfl, rfl⟩
theorem eltG {h₀ : Heap} {L : Addr} {m : Str → Option Value} {s : Shared} {I : Addr} {oI : Obj} {C : Addr} {oC : Obj} {D : Addr} {ys : List Value} {R : Value → List (Addr × Obj) → Prop} {y : Value} {h' : Heap} {tk' : Nat} {nw : List (Addr × Obj)}
    (F : Fr h₀ L h' m) (N : News h₀ L h' ((I, oI) :: (C, oC) :: (D, LCg.lst ys) :: nw)) (off : ∀ p ∈ nw, p.1 ≠ I ∧ p.1 ≠ C ∧ p.1 ≠ D) (r : R y nw) : EltEndG h₀ L m s I oI C oC D ys R y { s with heap := h', toks := tk' } :=
  ⟨h', tk', nw, rfl, F, N, off, r⟩
theorem off1_mem {D : Addr} : ∀ {l : List (Addr × Obj)}, LCg.Off1 D l → ∀ p ∈ l, p.1 ≠ D
  | [], _, p, hp => by simp at hp
  | q :: l, h, p, hp => by
    rcases List.mem_cons.mp hp with rfl | hp
    · exact h.1
    · exact off1_mem h.2 p hp
def datOf : Option (List Int) → Dat
  | none => .none
  | some r => .list (r.map Dat.int)
theorem dat_ints {news : List (Addr × Obj)} {vs : List Value} {ns : List Int} (h : IntsAre vs ns) : DatAll news vs (ns.map Dat.int) := by
  induction h with
  | nil => exact .nil
  | cons n t _ ih => exact .cons (.int n t) ih
theorem datOf_ok (x : Option (List Int)) : kqdOk 8 (datOf x) = true := by
  cases x with
  | none => rfl
  | some r => simp [datOf, kqdOk]
theorem RowsAre.snoc {led led' : List (Addr × Obj)} {vs : List Value} {rows : List (List Int)} {v : Value} {r : List Int} (h : RowsAre led vs rows) (hs : ∀ p ∈ led, p ∈ led') (hr : RowIn led' v r) : RowsAre led' (vs ++ [v]) (rows ++ [r]) := by
  refine ⟨by simp [h.1], fun i x hx => ?_⟩
  rw [List.getElem?_append] at hx
  by_cases hi : i < vs.length
  · rw [if_pos hi] at hx
    obtain ⟨r', e, hr'⟩ := h.2 i x hx
    exact ⟨r', by rw [List.getElem?_append, if_pos (by rw [← h.1]; exact hi)]; exact e, hr'.mono hs⟩
  · rw [if_neg hi] at hx
    have e0 : i - vs.length = 0 := by
      rcases Nat.eq_zero_or_pos (i - vs.length) with q | q
      · exact q
      · rw [List.getElem?_eq_none (by simp; omega)] at hx; cases hx
    rw [e0] at hx
    simp at hx
    subst hx
    refine ⟨r, ?_, hr⟩
    rw [List.getElem?_append, if_neg (by rw [← h.1]; exact hi), ← h.1, e0]
    rfl
section
variable {prog : Program} {w : World} {A A₀ : Around} {E : Value → Shared → Prop} {s : Shared} {h₀ : Heap} {L a : Addr} {m mg mb : Str → Option Value} {cd : Value}
  {loose : List Str} {mean : ExcName → Option Value} {Q : Flow → Shared → Prop}
  {RL TL PL S DL : Addr} {o1 o2 o3 : Obj} {svs dvs rvs tvs pvs : List Value} {c1 c2 c3 i : Nat} {rowLed : List (Addr × Obj)} {recs : List Rec} {pls ss : List Int} {pl : Nat}

theorem tail_rest (hA : A.frames = some [lawEnv L a cd]) (hh : A.handled = none) (hdp : A.depth + 4 < recursionLimit) (hun : A.units + 200 < cLine)
    (B : Below A₀ h₀ [] h₀) (X : (hd2.heap_39 w.params).In h₀) (T : Top hd2.view_39 loose mean mg mb h₀) (F : Fr h₀ L s.heap m)
    (N : News h₀ L s.heap ((RL, listOf rvs.toArray c1) :: (TL, listOf tvs.toArray c2) :: (PL, listOf pvs.toArray c3) :: (L + 1, o1) :: (L + 1 + 1, o2) :: (L + 1 + 1 + 1, o3) :: (S, listOf svs.toArray 0) :: (DL, listOf dvs.toArray 0) :: rowLed))
    (hlt : L + 1 + 1 + 1 < S ∧ S < RL ∧ RL < TL ∧ TL < PL ∧ PL < DL) (d1 : o1.data = .cell (some (.ref RL))) (d2 : o2.data = .cell (some (.ref TL))) (d3 : o3.data = .cell none)
    (m6 : m (Str.ofString "places") = some (.ref PL)) (m7 : m (Str.ofString "script") = some (.ref S)) (hss : IntsAre svs ss) (hsl : ss.length ≤ 64)
    (hrows : RowsT rowLed rvs (rowsFrom 0 recs)) (htab : IntsAre tvs (tabOf recs)) (hpls : IntsAre pvs pls) (hplen : pls.length = 4 * i) (hrlen : recs.length = i) (hi0 : 0 < i) (hch : Chain 0 recs pl)
    (htlen : (tabOf recs).length ≤ 160 * i) (hi : i ≤ 64) (hrl : ∀ p ∈ rowLed, DL < p.1)
    (hlaw : ∀ lf, 1 ≤ lf → lf ≤ (tabOf recs).length → ∀ p low, GoodLow ((tabOf recs).take lf) p low → heldOf (pvAll 4 (((tabOf recs).take lf).drop low)) p = plainOf ((rowsFrom 0 recs).map fun q => q.1.take (q.2.filter fun e => decide (e ≤ (lf : Int))).length) p)
    (hQ : ∀ h' tk m₂, Fr h₀ L h' m₂ → Q (.ret (.bool true)) { s with heap := h', toks := tk }) :
    wpAny (model prog w) A (execs (lawTail 6) (lawEnv L a cd)) Q E s := by
  simp only [lawTail, lawEnv, lawDef2, PySem.Challenge.pw_dm0068_02, List.getD_cons_succ, List.getD_cons_zero, stmtBody, stmtScope, List.drop_succ_cons, List.drop_zero] at hA ⊢
  replace F := fr_of F (told _ _ m6)
  replace F := fr_of F (told (Str.ofString "script") _ m7)
  obtain ⟨q1, q2, q3, q4, q5⟩ := hlt
  replace q1 := ltN q1
  replace q2 := ltN q2
  replace q3 := ltN q3
  replace q4 := ltN q4
  replace q5 := ltN q5
  ktn_open
  have htl : tvs.toArray.size = (tabOf recs).length := by rw [List.size_toArray, htab.length]
  refine len_list (isList_of_news N (List.mem_cons_of_mem _ List.mem_cons_self)) (by rw [htl]; omega) ?_
  ktn_open
  refine sum_N hh F N (isList_of_news N (n := 0) (by simp)) hss ?_
  intro h5 tk5 t5 F5 N5
  clear F N
  ktn_open
  refine len_list (isList_of_news N5 (List.mem_cons_of_mem _ List.mem_cons_self)) (by rw [htl]; omega) ?_
  ktn_open
  have htp : 0 < (tabOf recs).length := tabOf_pos (by rw [hrlen]; exact hi0)
  refine mod_int' (by rw [htl]; omega) ?_
  ktn_open
  obtain ⟨lf, hlf, hlf1, hlf2⟩ := left_of (tabOf recs).length (if ss.sum < 0 then -ss.sum else ss.sum) htp
  rw [htl, hlf]
  have N6 : News h₀ L h5 ((L + 1 + 1 + 1, o3) :: (RL, listOf rvs.toArray c1) :: (TL, listOf tvs.toArray c2) :: (PL, listOf pvs.toArray c3) :: (L + 1, o1) :: (L + 1 + 1, o2) :: (S, listOf svs.toArray 0) :: (DL, listOf dvs.toArray 0) :: rowLed) := fun q hq => N5 q (by
    simp only [List.mem_cons] at hq ⊢
    rcases hq with h | h | h | h | h | h | h | h | h <;> simp only [h, true_or, or_true])
  clear N5
  with_unfolding_all refine storeX_C F5 N6 rfl (UpdF.head ?_) d3 ?_
  · intro p hp
    simp only [List.mem_cons] at hp
    rcases hp with rfl | rfl | rfl | rfl | rfl | rfl | rfl | h
    all_goals first | (refine neN ?_; have := ltN (hrl _ h); omega) | (refine neN ?_; dsimp only; omega)
  intro h7 o3' F7 N7 d3'
  clear F5 N6
  replace N7 : News h₀ L h7 ((L + 1 + 1 + 1, o3') :: (RL, listOf rvs.toArray c1) :: (TL, listOf tvs.toArray c2) :: (PL, listOf pvs.toArray c3) :: (L + 1, o1) :: (L + 1 + 1, o2) :: (S, listOf svs.toArray 0) :: (DL, listOf dvs.toArray 0) :: rowLed) := N7
  obtain ⟨tlf, d3''⟩ : ∃ tlf, o3'.data = .cell (some (.int (lf : Int) tlf)) := ⟨_, d3'⟩
  clear d3'
  ktn_open
  refine kmk_slice_ints (lo := none) (hi := some (lf : Int)) F7 N7 (isList_of_news N7 (List.mem_cons_of_mem _ (List.mem_cons_of_mem _ List.mem_cons_self))) (by kmk_part) (by kmk_part) htab (slice_ints_uptoW htab (by omega)) rfl ?_ (by with_unfolding_all rfl) (by kmk_pure) (by rw [htl, sizeLine_eq]; omega)
  intro D8 ws8 h8 F8 N8 lt8 hI8 _ _
  clear F7 N7
  rw [Int.toNat_natCast] at hI8
  obtain ⟨xs, hxs⟩ : ∃ xs, xs = (tabOf recs).take lf := ⟨_, rfl⟩
  rw [← hxs] at hI8
  have hxl : xs.length = lf := by rw [hxs, List.length_take]; omega
  have hxin : ∀ n ∈ xs, 0 ≤ n ∧ n < 256 := fun n hn => tab_in (List.mem_of_mem_take (hxs ▸ hn))
  ktn_open
  refine KBa.make_K F8 N8 hh (isList_of_news N8 List.mem_cons_self) hI8 hxin (by omega) ?_
  intro h9 t9 k9 F9 N9 _
  have hb9 : KBw.bInts (byteArr xs) = xs := KBa.ints_make hxin
  obtain ⟨ob, hob⟩ : ∃ ob, ob = byteArr xs := ⟨_, rfl⟩
  rw [← hob] at hb9 ⊢
  clear F8 N8
  ktn_open
  have N10 : News h₀ L h9 ((L + 1 + 1, o2) :: (L + 1 + 1 + 1, o3') :: (RL, listOf rvs.toArray c1) :: (PL, listOf pvs.toArray c3) :: (L + 1, o1) :: (S, listOf svs.toArray 0) :: (DL, listOf dvs.toArray 0) :: rowLed) := fun q hq => N9 q (by
    simp only [List.mem_cons] at hq ⊢
    rcases hq with h | h | h | h | h | h | h | h <;> simp only [h, true_or, or_true])
  clear N9
  with_unfolding_all refine storeX_C F9 N10 rfl (UpdF.head ?_) d2 ?_
  · intro p hp
    simp only [List.mem_cons] at hp
    rcases hp with rfl | rfl | rfl | rfl | rfl | rfl | h
    all_goals first | (refine neN ?_; have := ltN (hrl _ h); omega) | (refine neN ?_; dsimp only; omega)
  intro h11 o2' F11 N11 d2'
  clear F9 N10
  replace N11 : News h₀ L h11 ((L + 1 + 1, o2') :: (L + 1 + 1 + 1, o3') :: (RL, listOf rvs.toArray c1) :: (PL, listOf pvs.toArray c3) :: (L + 1, o1) :: (S, listOf svs.toArray 0) :: (DL, listOf dvs.toArray 0) :: rowLed) := N11
  ktn_open
  refine wpAny_Assign_Name ?_
  refine LCp.ListComp_P F11 rfl (by decide) rfl (by decide) rfl rfl (by decide) ?_
  ktn_open
  obtain ⟨rs, hrs⟩ : ∃ rs : List (List Int), rs = (rowsFrom 0 recs).map fun q => q.1.take (q.2.filter fun e => decide (e ≤ (lf : Int))).length := ⟨_, rfl⟩
  refine LCp.SrcLP.ledger hh F11 N11 (List.mem_cons_of_mem _ (List.mem_cons_of_mem _ List.mem_cons_self)) (by rw [List.size_toArray, hrows.1, rowsFrom_length, hrlen, sizeLine_eq]; omega) ?_
  intro gg
  dsimp only
  refine compRestP_of (fun k ys nw => ∃ made, nw = made ++ ((L + 1 + 1, o2') :: (L + 1 + 1 + 1, o3') :: (RL, listOf rvs.toArray c1) :: (PL, listOf pvs.toArray c3) :: (L + 1, o1) :: (S, listOf svs.toArray 0) :: (DL, listOf dvs.toArray 0) :: rowLed) ∧ RowsAre made ys (rs.take k) ∧ ∀ p ∈ made, DL < p.1) ?_ ⟨[], rfl, ⟨rfl, fun i v hv => by simp at hv⟩, fun p hp => by simp at hp⟩ ?_ ?_
  · rintro k ys nw ⟨made, rfl, hmade, hmlt⟩
    exact .inr ⟨_, List.mem_append_right _ (List.mem_cons_of_mem _ (List.mem_cons_of_mem _ List.mem_cons_self)), rfl, _, rfl⟩
  · rintro k v ys nw hk hv ⟨made, rfl, hmade, hmlt⟩
    obtain ⟨q, hq, ta, na, ea, nvs, evs, e1, e2, e3, rfl, ht, hn, he, hnv, hev⟩ := hrows.2 k v (by simpa using hv)
    refine ⟨ta, _, .ref na, .ref ea, e3, rfl, List.mem_append_right _ (List.mem_cons_of_mem _ (List.mem_cons_of_mem _ (List.mem_cons_of_mem _ (List.mem_cons_of_mem _ (List.mem_cons_of_mem _ (List.mem_cons_of_mem _ (List.mem_cons_of_mem _ ht))))))), rfl, rfl, ?_⟩
    intro I oI C oC D m₂ h tk E' hoC hx1 hx2 F12 N12 off12
    clear F11 N11
    obtain ⟨whole, hwh⟩ : ∃ whole, whole = (I, oI) :: (C, oC) :: (D, LCg.lst ys) :: (made ++ (L + 1 + 1, o2') :: (L + 1 + 1 + 1, o3') :: (RL, listOf rvs.toArray c1) :: (PL, listOf pvs.toArray c3) :: (L + 1, o1) :: (S, listOf svs.toArray 0) :: (DL, listOf dvs.toArray 0) :: rowLed) := ⟨_, rfl⟩
    rw [← hwh] at N12
    have wC : (C, oC) ∈ whole := by rw [hwh]; simp
    have w3 : (L + 1 + 1 + 1, o3') ∈ whole := by rw [hwh]; simp
    have wE : (ea, listOf evs.toArray e2) ∈ whole := by rw [hwh]; simp [he]
    have wN : (na, listOf nvs.toArray e1) ∈ whole := by rw [hwh]; simp [hn]
    have N13 : News h₀ L h ((C, oC) :: (L + 1 + 1 + 1, o3') :: (ea, listOf evs.toArray e2) :: (na, listOf nvs.toArray e1) :: whole) := fun p hp => by
      rcases List.mem_cons.mp hp with rfl | hp
      · exact N12 _ wC
      rcases List.mem_cons.mp hp with rfl | hp
      · exact N12 _ w3
      rcases List.mem_cons.mp hp with rfl | hp
      · exact N12 _ wE
      rcases List.mem_cons.mp hp with rfl | hp
      · exact N12 _ wN
      · exact N12 _ hp
    clear N12
    have hqn : q ∈ rowsFrom 0 recs := List.mem_of_getElem? hq
    have hql : q.1.length = 4 ∧ q.2.length = 4 := rowsFrom_four hqn
    ktn_open
    refine LCt.ListComp_T F12 rfl (by decide) rfl (by decide) rfl ?_
    ktn_open
    refine LCt.CompSrcT.ledger hh F12 N13 (List.mem_cons_of_mem _ (List.mem_cons_of_mem _ List.mem_cons_self)) (by rw [List.size_toArray, hev.length, sizeLine_eq]; omega) ?_
    intro gg2
    dsimp only
    refine compRestT_of (fun k => decide (q.2.getD k 0 ≤ (lf : Int))) (fun k ys' => IntsAre ys' ((q.2.take k).filter fun e => decide (e ≤ (lf : Int)))) (.inr ⟨_, List.mem_cons_of_mem _ (List.mem_cons_of_mem _ List.mem_cons_self), rfl, _, rfl⟩) .nil ?_ ?_ ?_ ?_
    · intro k2 v2 zs I2 oI2 C2 oC2 D2 m₃ h14 tk14 E2 hk2 hP2 hoC2 hmx2 F14 N14
      obtain ⟨c, tc, rfl, hc⟩ := intsAre_get hev (by simpa using hP2)
      clear F12 N13
      ktn_open
      exact ⟨h14, _, rfl, F14, N14, by rw [List.getD_eq_getElem?_getD, hc]; rfl⟩
    · intro k2 v2 zs I2 oI2 C2 oC2 D2 m₃ h14 tk14 E2 hk2 hb2 hR2 hP2 hoC2 hmx2 F14 N14
      obtain ⟨c, tc, rfl, hc⟩ := intsAre_get hev (by simpa using hP2)
      clear F12 N13
      ktn_open
      refine ⟨h14, _, rfl, F14, N14, ?_⟩
      rw [List.getD_eq_getElem?_getD, hc] at hb2
      rw [List.take_succ, hc, List.filter_append]
      have e1 : List.filter (fun e => decide (e ≤ (lf : Int))) (some c).toList = [c] := by
        simp only [Option.toList, List.filter_cons, List.filter_nil]
        exact if_pos hb2
      rw [e1]
      exact hR2.append (.cons c tc .nil)
    · intro k2 zs hk2 hb2 hR2
      rw [List.size_toArray, hev.length] at hk2
      rw [List.getD_eq_getElem?_getD, List.getElem?_eq_getElem hk2] at hb2
      rw [List.take_succ, List.getElem?_eq_getElem hk2, List.filter_append]
      have e1 : List.filter (fun e => decide (e ≤ (lf : Int))) (some (q.2[k2]'hk2)).toList = [] := by
        simp only [Option.toList, List.filter_cons, List.filter_nil]
        rw [if_neg (by intro h; rw [show decide (q.2[k2] ≤ (lf : Int)) = false from hb2] at h; cases h)]
      rw [e1, List.append_nil]
      exact hR2
    · intro zs hzs D2 h14 tk14 F14 N14 off14
      clear F12 N13
      rw [List.size_toArray, hev.length, List.take_length] at hzs
      obtain ⟨cnt, hcnt⟩ : ∃ cnt, cnt = (q.2.filter fun e => decide (e ≤ (lf : Int))).length := ⟨_, rfl⟩
      have hcl : cnt ≤ 4 := by rw [hcnt, ← hql.2]; exact List.length_filter_le ..
      have hzl : zs.length = cnt := by rw [hzs.length, hcnt]
      ktn_open
      refine len_list (isList_of_news N14 List.mem_cons_self) (by rw [List.size_toArray, hzl]; omega) ?_
      have N15 : News h₀ L h14 ((na, listOf nvs.toArray e1) :: (C, oC) :: (L + 1 + 1 + 1, o3') :: whole) := fun p hp => N14 p (by
        simp only [List.mem_cons] at hp ⊢
        rcases hp with h | h | h | h <;> simp only [h, true_or, or_true])
      clear N14
      rw [List.size_toArray, hzl]
      ktn_open
      refine kmk_slice_ints (lo := none) (hi := some (cnt : Int)) F14 N15 (isList_of_news N15 List.mem_cons_self) (by kmk_part) (by kmk_part) hnv (slice_ints_uptoW hnv (by omega)) rfl ?_ (by with_unfolding_all rfl) (by kmk_pure) (by rw [List.size_toArray, hnv.length, hql.1, sizeLine_eq]; omega)
      intro D16 ws16 h16 F16 N16 lt16 hI16 ne16 hx16
      clear F14 N15
      rw [Int.toNat_natCast] at hI16
      have hrk : rs[k]? = some (q.1.take cnt) := by rw [hrs, List.getElem?_map, hq, hcnt]; rfl
      have hDD : DL < D16 := lt16 (DL, listOf dvs.toArray 0) (by rw [hwh]; simp)
      refine ⟨h16, _, (D16, listOf ws16.toArray 0) :: (made ++ (L + 1 + 1, o2') :: (L + 1 + 1 + 1, o3') :: (RL, listOf rvs.toArray c1) :: (PL, listOf pvs.toArray c3) :: (L + 1, o1) :: (S, listOf svs.toArray 0) :: (DL, listOf dvs.toArray 0) :: rowLed), rfl, F16, ?_, ?_, (D16, listOf ws16.toArray 0) :: made, rfl, ?_, ?_⟩
      · intro p hp
        simp only [List.mem_cons] at hp
        rcases hp with h | h | h | h | h
        · exact N16 _ (by rw [hwh, h]; simp)
        · exact N16 _ (by rw [hwh, h]; simp)
        · exact N16 _ (by rw [hwh, h]; simp)
        · exact N16 _ (by rw [h]; simp)
        · exact N16 _ (by rw [hwh]; simp only [List.mem_cons]; simp only [h, or_true])
      · intro p hp
        rcases List.mem_cons.mp hp with rfl | hp
        · exact ⟨fun e => absurd (lt16 (I, oI) (by rw [hwh]; simp)) (by rw [← e]; exact Nat.lt_irrefl _), fun e => absurd (lt16 (C, oC) (by simp)) (by rw [← e]; exact Nat.lt_irrefl _), fun e => absurd (lt16 (D, LCg.lst ys) (by rw [hwh]; simp)) (by rw [← e]; exact Nat.lt_irrefl _)⟩
        · exact off12 p hp
      · rw [List.take_succ, hrk]
        exact hmade.snoc (fun p hp => List.mem_cons_of_mem _ hp) ⟨D16, ws16, 0, rfl, List.mem_cons_self, hI16⟩
      · intro p hp
        rcases List.mem_cons.mp hp with rfl | hp
        · exact hDD
        · exact hmlt p hp
  · rintro ys nw ⟨made, rfl, hmade, hmlt⟩ D h12 tk12 F12 N12 off12
    clear F11 N11
    ktn_open
    have hrlen2 : rs.length = rvs.toArray.size := by rw [hrs, List.length_map, List.size_toArray, hrows.1]
    rw [← hrlen2, List.take_length] at hmade
    have hD1 : L + 1 ≠ D := off1_mem off12 (L + 1, o1) (by simp)
    replace N12 : News h₀ L h12 ((D, listOf ys.toArray ys.length) :: (made ++ (L + 1 + 1, o2') :: (L + 1 + 1 + 1, o3') :: (RL, listOf rvs.toArray c1) :: (PL, listOf pvs.toArray c3) :: (L + 1, o1) :: (S, listOf svs.toArray 0) :: (DL, listOf dvs.toArray 0) :: rowLed)) := N12
    have N13 : News h₀ L h12 ((L + 1, o1) :: (D, listOf ys.toArray ys.length) :: (L + 1 + 1, o2') :: (PL, listOf pvs.toArray c3) :: made) := fun p hp => N12 p (by
      simp only [List.mem_cons, List.mem_append] at hp ⊢
      rcases hp with h | h | h | h | h <;> simp only [h, true_or, or_true])
    clear N12
    with_unfolding_all refine storeX_C F12 N13 rfl (UpdF.head ?_) d1 ?_
    · intro p hp
      simp only [List.mem_cons] at hp
      rcases hp with rfl | rfl | rfl | h
      · exact fun e => hD1 e.symm
      · refine neN ?_; dsimp only; omega
      · refine neN ?_; dsimp only; omega
      · refine neN ?_; have := ltN (hmlt _ h); omega
    intro h17 o1' F17 N17 d1'
    clear F12 N13
    replace N17 : News h₀ L h17 ((L + 1, o1') :: (D, listOf ys.toArray ys.length) :: (L + 1 + 1, o2') :: (PL, listOf pvs.toArray c3) :: made) := N17
    ktn_open
    have hxp : 0 < xs.length := by omega
    have hx0 : 128 ≤ xs.getD 0 0 := by
      rw [hxs]
      exact take_first htp hlf1
    have hlaw2 : ∀ p low, GoodLow xs p low → heldOf (pvAll 4 (xs.drop low)) p = plainOf rs p := by
      rw [hxs, hrs]
      exact hlaw lf hlf1 hlf2
    obtain ⟨base, hbase⟩ : ∃ base, base = (L + 1, o1') :: (D, listOf ys.toArray ys.length) :: (L + 1 + 1, o2') :: (PL, listOf pvs.toArray c3) :: made := ⟨_, rfl⟩
    rw [← hbase] at N17
    have b1 : (L + 1, o1') ∈ base := by rw [hbase]; simp
    have b2 : (L + 1 + 1, o2') ∈ base := by rw [hbase]; simp
    have b3 : (PL, listOf pvs.toArray c3) ∈ base := by rw [hbase]; simp
    have b4 : (D, listOf ys.toArray ys.length) ∈ base := by rw [hbase]; simp
    have b5 : RowsAre base ys rs := hmade.mono fun p hp => by rw [hbase]; simp [hp]
    refine LCg.ListComp_U F17 rfl (by decide) rfl (by decide) rfl ?_
    ktn_open
    refine LCg.CompSrc.ledger hh F17 N17 b3 (by rw [List.size_toArray, hpls.length, hplen, sizeLine_eq]; omega) ?_
    intro gg3
    dsimp only
    refine compRestG_of (fun k zs nw => ∃ made2, nw = made2 ++ base ∧ DatAll made2 zs ((pls.take k).map fun p => datOf (plainOf rs p))) ?_ ⟨[], rfl, .nil⟩ ?_ ?_
    · rintro k zs nw ⟨made2, rfl, hm2⟩
      exact .inr ⟨_, List.mem_append_right _ b3, rfl, _, rfl⟩
    · rintro k v zs nw I oI C oC D' m₂ h tk E' hk hv ⟨made2, rfl, hm2⟩ hoC hx1 F18 N18 off18
      obtain ⟨p, tp, rfl, hp⟩ := intsAre_get hpls (by simpa using hv)
      clear F17 N17
      obtain ⟨whole, hwh⟩ : ∃ whole, whole = (I, oI) :: (C, oC) :: (D', LCg.lst zs) :: (made2 ++ base) := ⟨_, rfl⟩
      rw [← hwh] at N18
      have N19 : News h₀ L h ((C, oC) :: (L + 1 + 1, o2') :: whole) := fun q hq => by
        rcases List.mem_cons.mp hq with rfl | hq
        · exact N18 _ (by rw [hwh]; simp)
        rcases List.mem_cons.mp hq with rfl | hq
        · exact N18 _ (by rw [hwh]; simp [b2])
        · exact N18 _ hq
      clear N18
      ktn_open
      have hpt : (pls.take (k + 1)).map (fun p => datOf (plainOf rs p)) = (pls.take k).map (fun p => datOf (plainOf rs p)) ++ [datOf (plainOf rs p)] := by rw [List.take_succ, hp, List.map_append]; rfl
      refine fd_call hA rfl rfl hh (by omega) (by omega) B F18 X T N19 hb9 (by omega) hxp hx0 ?_ ?_
      · intro low h' tk' hG hr F' N'
        rw [hlaw2 p low hG] at hr
        refine eltG F' (nw := made2 ++ base) (fun q hq => N' q (by rw [hwh]; exact List.mem_cons_of_mem _ (List.mem_cons_of_mem _ hq))) off18 ⟨made2, rfl, ?_⟩
        rw [hpt, hr]
        exact hm2.append (.one .none)
      · intro low r t ws h' tk' hG hr hws F' N' hne
        rw [hlaw2 p low hG] at hr
        refine eltG F' (nw := ((t, listOf ws.toArray 0) :: made2) ++ base) (fun q hq => N' q ?_) ?_ ⟨(t, listOf ws.toArray 0) :: made2, rfl, ?_⟩
        · rw [hwh]
          simp only [List.mem_cons, List.cons_append] at hq ⊢
          rcases hq with h | h | h | h | h <;> simp only [h, true_or, or_true]
        · intro q hq
          rcases List.mem_cons.mp hq with rfl | hq
          · exact ⟨fun e => hne (I, oI) (by rw [hwh]; simp) e.symm, fun e => hne (C, oC) (by simp) e.symm, fun e => hne (D', LCg.lst zs) (by rw [hwh]; simp) e.symm⟩
          · exact off18 q hq
        · rw [hpt, hr]
          exact (hm2.mono fun q hq => List.mem_cons_of_mem _ hq).append (.one (.list List.mem_cons_self (dat_ints hws)))
    · rintro zs nw ⟨made2, rfl, hm2⟩ D2 h18 tk18 F18 N18 off18
      clear F17 N17
      rw [List.size_toArray, hpls.length, List.take_length] at hm2
      obtain ⟨base2, hbase2⟩ : ∃ base2, base2 = (D2, LCg.lst zs) :: (made2 ++ base) := ⟨_, rfl⟩
      rw [← hbase2] at N18
      have k1 : (L + 1, o1') ∈ base2 := by rw [hbase2]; simp [b1]
      have k3 : (PL, listOf pvs.toArray c3) ∈ base2 := by rw [hbase2]; simp [b3]
      have k4 : (D, listOf ys.toArray ys.length) ∈ base2 := by rw [hbase2]; simp [b4]
      have k5 : RowsAre base2 ys rs := b5.mono fun p hp => by rw [hbase2]; simp [hp]
      have k6 : (D2, LCg.lst zs) ∈ base2 := by rw [hbase2]; simp
      have k7 : DatAll base2 zs (pls.map fun p => datOf (plainOf rs p)) := hm2.mono fun p hp => by rw [hbase2]; simp [hp]
      ktn_open
      refine LCg.ListComp_U F18 rfl (by decide) rfl (by decide) rfl ?_
      ktn_open
      refine LCg.CompSrc.ledger hh F18 N18 k3 (by rw [List.size_toArray, hpls.length, hplen, sizeLine_eq]; omega) ?_
      intro gg4
      dsimp only
      refine compRestG_of (fun k zs nw => ∃ made3, nw = made3 ++ base2 ∧ DatAll made3 zs ((pls.take k).map fun p => datOf (plainOf rs p))) ?_ ⟨[], rfl, .nil⟩ ?_ ?_
      · rintro k zs' nw ⟨made3, rfl, hm3⟩
        exact .inr ⟨_, List.mem_append_right _ k3, rfl, _, rfl⟩
      · rintro k v zs' nw I oI C oC D' m₂ h tk E' hk hv ⟨made3, rfl, hm3⟩ hoC hx1 F19 N19 off19
        obtain ⟨p, tp, rfl, hp⟩ := intsAre_get hpls (by simpa using hv)
        clear F18 N18
        obtain ⟨whole, hwh⟩ : ∃ whole, whole = (I, oI) :: (C, oC) :: (D', LCg.lst zs') :: (made3 ++ base2) := ⟨_, rfl⟩
        rw [← hwh] at N19
        have N20 : News h₀ L h ((C, oC) :: (L + 1, o1') :: whole) := fun q hq => by
          rcases List.mem_cons.mp hq with rfl | hq
          · exact N19 _ (by rw [hwh]; simp)
          rcases List.mem_cons.mp hq with rfl | hq
          · exact N19 _ (by rw [hwh]; simp [k1])
          · exact N19 _ hq
        clear N19
        ktn_open
        have hpt : (pls.take (k + 1)).map (fun p => datOf (plainOf rs p)) = (pls.take k).map (fun p => datOf (plainOf rs p)) ++ [datOf (plainOf rs p)] := by rw [List.take_succ, hp, List.map_append]; rfl
        have hbw : ∀ q ∈ base2, q ∈ (C, oC) :: (L + 1, o1') :: whole := fun q hq => by rw [hwh]; simp [hq]
        refine pl_call (base := h₀) (outer := []) hA rfl rfl hh (by omega) (by omega) B F19 X T N20 (hbw _ k4) (k5.mono hbw) ?_ ?_ ?_
        · intro ns hns
          rw [hrs] at hns
          obtain ⟨q, hq, rfl⟩ := List.mem_map.mp hns
          rw [List.length_take, (rowsFrom_four hq).1]
          omega
        · intro h' tk' hr F' N'
          refine eltG F' (nw := made3 ++ base2) (fun q hq => N' q (by rw [hwh]; exact List.mem_cons_of_mem _ (List.mem_cons_of_mem _ hq))) off19 ⟨made3, rfl, ?_⟩
          rw [hpt, hr]
          exact hm3.append (.one .none)
        · intro r t ws h' tk' hr hws F' N' hne
          refine eltG F' (nw := ((t, listOf ws.toArray 0) :: made3) ++ base2) (fun q hq => N' q ?_) ?_ ⟨(t, listOf ws.toArray 0) :: made3, rfl, ?_⟩
          · rw [hwh]
            simp only [List.mem_cons, List.cons_append] at hq ⊢
            rcases hq with h | h | h | h | h <;> simp only [h, true_or, or_true]
          · intro q hq
            rcases List.mem_cons.mp hq with rfl | hq
            · exact ⟨fun e => hne (I, oI) (by rw [hwh]; simp) e.symm, fun e => hne (C, oC) (by simp) e.symm, fun e => hne (D', LCg.lst zs') (by rw [hwh]; simp) e.symm⟩
            · exact off19 q hq
          · rw [hpt, hr]
            exact (hm3.mono fun q hq => List.mem_cons_of_mem _ hq).append (.one (.list List.mem_cons_self (dat_ints hws)))
      · rintro zs' nw ⟨made3, rfl, hm3⟩ D3 h20 tk20 F20 N20 off20
        clear F18 N18
        rw [List.size_toArray, hpls.length, List.take_length] at hm3
        ktn_open
        refine kqd_eq N20 (List.mem_cons_of_mem _ (List.mem_append_right _ k6)) rfl rfl k7 (fun p hp => List.mem_cons_of_mem _ (List.mem_append_right _ hp)) List.mem_cons_self rfl rfl hm3 (fun p hp => List.mem_cons_of_mem _ (List.mem_append_left _ hp)) ?_ ?_ (by omega) ?_
        · intro d hd
          obtain ⟨p, _, rfl⟩ := List.mem_map.mp hd
          exact datOf_ok _
        · intro d hd
          obtain ⟨p, _, rfl⟩ := List.mem_map.mp hd
          exact datOf_ok _
        simp only [eq_self_iff_true, decide_true]
        ktn_open
        exact hQ _ _ _ F20
end

theorem rec_of (pl i : Nat) (x : Int) (hpl : pl ≤ 2 ^ 30 + i * 64 ^ 16) (hi : i ≤ 64) : ∃ r : Rec,
    (pl : Int) + (x.fdiv 2).fmod 5 = (r.b : Int) ∧ (pl : Int) + (x.fdiv 2).fmod 5 + (((x.fdiv 2).fdiv 5).fdiv 15).fmod 100 * 64 ^ (((x.fdiv 2).fdiv 5).fmod 15).toNat + 1 = ((r.b + r.n : Nat) : Int) ∧
    (((((x.fdiv 2).fdiv 5).fdiv 15).fdiv 100).fdiv 300).fmod (2 ^ 200) = (r.h : Int) ∧ 2 * ((((x.fdiv 2).fdiv 5).fdiv 15).fdiv 100).fmod 300 + x.fmod 2 = (r.d : Int) ∧
    0 ≤ ((((x.fdiv 2).fdiv 5).fdiv 15).fdiv 100).fmod 300 ∧ ((((x.fdiv 2).fdiv 5).fdiv 15).fdiv 100).fmod 300 < 300 ∧ r.b < 64 ^ 40 ∧ r.n < 64 ^ 40 ∧ r.h < 64 ^ 40 ∧ r.d < 64 ^ 40 ∧ pl ≤ r.b ∧ 1 ≤ r.n ∧ r.b + r.n ≤ 2 ^ 30 + (i + 1) * 64 ^ 16 := by
  have g0 := Int.fmod_nonneg_of_pos (x.fdiv 2) (show (0 : Int) < 5 by decide)
  have g1 := Int.fmod_lt_of_pos (x.fdiv 2) (show (0 : Int) < 5 by decide)
  have s0 := Int.fmod_nonneg_of_pos ((x.fdiv 2).fdiv 5) (show (0 : Int) < 15 by decide)
  have s1 := Int.fmod_lt_of_pos ((x.fdiv 2).fdiv 5) (show (0 : Int) < 15 by decide)
  have m0 := Int.fmod_nonneg_of_pos (((x.fdiv 2).fdiv 5).fdiv 15) (show (0 : Int) < 100 by decide)
  have m1 := Int.fmod_lt_of_pos (((x.fdiv 2).fdiv 5).fdiv 15) (show (0 : Int) < 100 by decide)
  have d0 := Int.fmod_nonneg_of_pos ((((x.fdiv 2).fdiv 5).fdiv 15).fdiv 100) (show (0 : Int) < 300 by decide)
  have d1 := Int.fmod_lt_of_pos ((((x.fdiv 2).fdiv 5).fdiv 15).fdiv 100) (show (0 : Int) < 300 by decide)
  have h0 := Int.fmod_nonneg_of_pos (((((x.fdiv 2).fdiv 5).fdiv 15).fdiv 100).fdiv 300) (show (0 : Int) < 2 ^ 200 by decide)
  have h1 := Int.fmod_lt_of_pos (((((x.fdiv 2).fdiv 5).fdiv 15).fdiv 100).fdiv 300) (show (0 : Int) < 2 ^ 200 by decide)
  have k0 := Int.fmod_nonneg_of_pos x (show (0 : Int) < 2 by decide)
  have k1 := Int.fmod_lt_of_pos x (show (0 : Int) < 2 by decide)
  generalize (((((x.fdiv 2).fdiv 5).fdiv 15).fdiv 100).fdiv 300).fmod (2 ^ 200) = h at *
  generalize ((((x.fdiv 2).fdiv 5).fdiv 15).fdiv 100).fmod 300 = d at *
  generalize (((x.fdiv 2).fdiv 5).fdiv 15).fmod 100 = mo at *
  generalize ((x.fdiv 2).fdiv 5).fmod 15 = sh at *
  generalize (x.fdiv 2).fmod 5 = g at *
  generalize x.fmod 2 = k at *
  obtain ⟨h, rfl⟩ := Int.eq_ofNat_of_zero_le h0
  obtain ⟨d, rfl⟩ := Int.eq_ofNat_of_zero_le d0
  obtain ⟨mo, rfl⟩ := Int.eq_ofNat_of_zero_le m0
  obtain ⟨sh, rfl⟩ := Int.eq_ofNat_of_zero_le s0
  obtain ⟨g, rfl⟩ := Int.eq_ofNat_of_zero_le g0
  obtain ⟨k, rfl⟩ := Int.eq_ofNat_of_zero_le k0
  have hp : 64 ^ sh ≤ 64 ^ 14 := Nat.pow_le_pow_right (by decide) (by omega)
  have hm : mo * 64 ^ sh ≤ 99 * 64 ^ 14 := Nat.mul_le_mul (by omega) hp
  have hh : h < 2 ^ 200 := by
    have : (h : Int) < ((2 ^ 200 : Nat) : Int) := h1
    omega
  refine ⟨⟨pl + g, mo * 64 ^ sh + 1, h, 2 * d + k⟩, ?_, ?_, rfl, ?_, by omega, by omega, ?_, ?_, ?_, ?_, ?_, ?_, ?_⟩
  · simp
  · simp only [Int.toNat_natCast]
    push_cast
    omega
  · simp
  · show pl + g < 64 ^ 40
    omega
  · show mo * 64 ^ sh + 1 < 64 ^ 40
    omega
  · exact Nat.lt_trans hh (by decide)
  · show 2 * d + k < 64 ^ 40
    omega
  · show pl ≤ pl + g
    omega
  · show 1 ≤ mo * 64 ^ sh + 1
    omega
  · show pl + g + (mo * 64 ^ sh + 1) ≤ _
    omega

def stepV (v d : Int) : Int := v * 64 + d % 64
/-- octets that tell one number -/
def Good (W : List Int) (n : Int) : Prop := ∃ ds l, W = ds ++ [l] ∧ (∀ x ∈ ds, x / 64 % 2 = 1) ∧ ¬ l / 64 % 2 = 1 ∧ W.foldl stepV 0 = n

theorem rd_rest : ∀ (ds : List Int) (l : Int) (_ : ∀ x ∈ ds, x / 64 % 2 = 1) (_ : ¬ l / 64 % 2 = 1) (val b : Int) (_ : b / 64 % 2 = 1) (rest : List Int) (t : Nat),
    pvRest val b ((ds ++ l :: rest).take t) = if ds.length + 1 ≤ t then some ((ds ++ [l]).foldl stepV val, rest.take (t - (ds.length + 1))) else none
  | ds, l, hds, hl, val, b, hb, rest, 0 => by
    rw [List.take_zero, pvRest_nil hb, if_neg (by omega)]
  | [], l, hds, hl, val, b, hb, rest, t + 1 => by
    rw [List.nil_append, List.take_succ_cons, pvRest_cons hb, pvRest_done hl, if_pos (by simp)]
    simp [stepV]
  | d :: ds, l, hds, hl, val, b, hb, rest, t + 1 => by
    rw [List.cons_append, List.take_succ_cons, pvRest_cons hb, rd_rest ds l (fun x hx => hds x (List.mem_cons_of_mem _ hx)) hl _ d (hds d (List.mem_cons_self ..))]
    simp only [List.length_cons, List.cons_append, List.foldl_cons, stepV, Nat.add_sub_add_right, Nat.add_le_add_iff_right]
theorem rd_good {W : List Int} {n : Int} (h : Good W n) (rest : List Int) (t : Nat) : pvOf ((W ++ rest).take t) = if W.length ≤ t then some (n, rest.take (t - W.length)) else none := by
  obtain ⟨ds, l, rfl, hds, hl, rfl⟩ := h
  rcases t with _ | t
  · rw [List.take_zero, if_neg (by simp)]; rfl
  rcases ds with _ | ⟨d, ds⟩
  · simp [pvOf, pvRest_done hl, stepV]
  · have e : ((d :: ds ++ [l]) ++ rest) = d :: (ds ++ l :: rest) := by simp
    rw [e, List.take_succ_cons, pvOf, rd_rest ds l (fun x hx => hds x (List.mem_cons_of_mem _ hx)) hl _ d (hds d (List.mem_cons_self ..))]
    simp [stepV]
theorem fold_hiD : ∀ (j m : Nat), m < 64 ^ j → (hiD m).foldl stepV 0 = (m : Int)
  | 0, m, h => by
    have : m = 0 := by simpa using h
    subst this
    rw [hiD_zero]; rfl
  | j + 1, m, h => by
    by_cases h0 : m = 0
    · subst h0; rw [hiD_zero]; rfl
    · rw [hiD_pos h0, List.foldl_append, fold_hiD j (m / 64) (Nat.div_lt_of_lt_mul (by rw [Nat.mul_comm, ← Nat.pow_succ]; exact h))]
      simp only [List.foldl_cons, List.foldl_nil, stepV]
      omega
theorem good_writ (n : Nat) : Good (writ n) n := by
  refine ⟨hiD (n / 64), _, rfl, fun x hx => ?_, by omega, ?_⟩
  · have := hiD_mem hx; omega
  · unfold writ
    rw [List.foldl_append, fold_hiD _ _ (lt_pow64 _)]
    simp only [List.foldl_cons, List.foldl_nil, stepV]
    omega
theorem good_add {W : List Int} {n : Int} (h : Good W n) : Good (add128 W) n := by
  obtain ⟨ds, l, rfl, hds, hl, rfl⟩ := h
  rcases ds with _ | ⟨d, ds⟩
  · refine ⟨[], l + 128, rfl, fun x hx => by simp at hx, by omega, ?_⟩
    simp only [add128, List.nil_append, List.foldl_cons, List.foldl_nil, stepV]
    omega
  · refine ⟨(d + 128) :: ds, l, rfl, fun x hx => ?_, hl, ?_⟩
    · rcases List.mem_cons.mp hx with rfl | hx
      · have := hds d (List.mem_cons_self ..); omega
      · exact hds x (List.mem_cons_of_mem _ hx)
    · simp only [add128, List.cons_append, List.foldl_cons, stepV]
      rw [show (0 : Int) * 64 + (d + 128) % 64 = 0 * 64 + d % 64 by omega]

/-- the numbers whose octets are left -/
def cutNums : List Nat → Nat → List Int
  | [], _ => []
  | n :: ns, t => if (writ n).length ≤ t then (n : Int) :: cutNums ns (t - (writ n).length) else []
theorem writ_pos (n : Nat) : 0 < (writ n).length := List.length_pos_iff.mpr (writ_ne n)
theorem cutNums_zero (ns : List Nat) : cutNums ns 0 = [] := by
  rcases ns with _ | ⟨n, ns⟩
  · rfl
  · have := writ_pos n
    rw [cutNums, if_neg (by omega)]
theorem wrs_cons (n : Nat) (ns : List Nat) : wrs (n :: ns) = writ n ++ wrs ns := by simp [wrs]
theorem pvAll_wrs : ∀ (ns : List Nat) (rest : List Int) (t : Nat), pvAll ns.length ((wrs ns ++ rest).take t) = cutNums ns t
  | [], rest, t => rfl
  | n :: ns, rest, t => by
    rw [List.length_cons, pvAll, wrs_cons, List.append_assoc, rd_good (good_writ n), cutNums]
    by_cases h : (writ n).length ≤ t
    · rw [if_pos h, if_pos h]
      simp only
      rw [pvAll_wrs]
    · rw [if_neg h, if_neg h]
theorem add128_append {a b : List Int} (h : a ≠ []) : add128 (a ++ b) = add128 a ++ b := by
  rcases a with _ | ⟨x, a⟩
  · exact absurd rfl h
  · rfl
theorem pvAll_enc (r : Rec) (rest : List Int) (t : Nat) : pvAll 4 ((r.enc ++ rest).take t) = cutNums r.nums t := by
  have e : r.enc ++ rest = add128 (writ r.b) ++ (wrs [r.n, r.h, r.d] ++ rest) := by
    rw [Rec.enc, Rec.nums, wrs_cons, add128_append (writ_ne _), List.append_assoc]
  rw [e, pvAll, rd_good (good_add (good_writ r.b)), add128_length, Rec.nums, cutNums]
  by_cases h : (writ r.b).length ≤ t
  · rw [if_pos h, if_pos h]
    simp only
    rw [← pvAll_wrs [r.n, r.h, r.d] rest]
    rfl
  · rw [if_neg h, if_neg h]

theorem endsFrom_gt (lf : Nat) : ∀ (ns : List Nat) (off : Nat), lf < off → (endsFrom off ns).filter (fun e => decide (e ≤ (lf : Int))) = []
  | [], off, h => rfl
  | n :: ns, off, h => by
    rw [endsFrom, List.filter_cons, if_neg (by simp; omega), endsFrom_gt lf ns _ (by omega)]
theorem take_cut (lf : Nat) : ∀ (ns : List Nat) (off : Nat), (ns.map (fun n : Nat => (n : Int))).take ((endsFrom off ns).filter (fun e => decide (e ≤ (lf : Int)))).length = cutNums ns (lf - off)
  | [], off => rfl
  | n :: ns, off => by
    rw [endsFrom, List.filter_cons, cutNums]
    have := writ_pos n
    by_cases h : off + (writ n).length ≤ lf
    · rw [if_pos (by simp; omega), if_pos (by omega), List.length_cons, List.map_cons, List.take_succ_cons, take_cut lf ns, Nat.sub_sub]
    · rw [if_neg (by simp; omega), if_neg (by omega), endsFrom_gt lf ns _ (by omega)]
      rfl
def rsT : List Rec → Nat → List (List Int)
  | [], _ => []
  | r :: rs, t => cutNums r.nums t :: rsT rs (t - r.enc.length)
theorem rs_eq (lf : Nat) : ∀ (recs : List Rec) (off : Nat), ((rowsFrom off recs).map fun q => q.1.take (q.2.filter fun e => decide (e ≤ (lf : Int))).length) = rsT recs (lf - off)
  | [], off => rfl
  | r :: rs, off => by
    rw [rowsFrom, List.map_cons, rs_eq lf rs, rsT, take_cut, Nat.sub_sub]

theorem enc_pos (r : Rec) : 0 < r.enc.length := by rw [Rec.enc_length]; exact List.length_pos_iff.mpr (wrs_ne (by simp [Rec.nums]))
theorem enc_tail (r : Rec) {q : Nat} (h : 1 ≤ q) : r.enc.getD q 0 < 128 := by
  rw [List.getD_eq_getElem?_getD]
  rcases hq : r.enc[q]? with _ | x
  · exact (by decide : (0 : Int) < 128)
  · obtain ⟨q, rfl⟩ : ∃ q', q = q' + 1 := ⟨q - 1, by omega⟩
    show x < 128
    unfold Rec.enc at hq
    rcases hw : wrs r.nums with _ | ⟨y, l⟩
    · rw [hw] at hq; simp [add128] at hq
    · rw [hw, add128, List.getElem?_cons_succ] at hq
      exact (wrs_in (ns := r.nums) (x := x) (by rw [hw]; exact List.mem_cons_of_mem _ (List.mem_of_getElem? hq))).2
theorem tab_cons (r : Rec) (rs : List Rec) : tabOf (r :: rs) = r.enc ++ tabOf rs := by simp [tabOf]
/-- an octet of the first row's -/
theorem get_first {r : Rec} {rest : List Int} {t q : Nat} (h1 : q < ((r.enc ++ rest).take t).length) (h2 : q < r.enc.length) : ((r.enc ++ rest).take t).getD q 0 = r.enc.getD q 0 := by
  rw [List.length_take] at h1
  rw [List.getD_eq_getElem?_getD, List.getD_eq_getElem?_getD, List.getElem?_take, if_pos (by omega), List.getElem?_append, if_pos h2]
theorem start_first {r : Rec} {rest : List Int} {t q : Nat} (h1 : q < ((r.enc ++ rest).take t).length) (h2 : q < r.enc.length) (h : 128 ≤ ((r.enc ++ rest).take t).getD q 0) : q = 0 := by
  rw [get_first h1 h2] at h
  rcases Nat.eq_zero_or_pos q with h0 | h0
  · exact h0
  · have := enc_tail r h0; omega
theorem take_over {a b : List Int} {t : Nat} (h : a.length ≤ t) : (a ++ b).take t = a ++ b.take (t - a.length) := by
  rw [List.take_append, List.take_of_length_le h]
theorem getD_over {a b : List Int} {q : Nat} (h : a.length ≤ q) : (a ++ b).getD q 0 = b.getD (q - a.length) 0 := by
  rw [List.getD_eq_getElem?_getD, List.getD_eq_getElem?_getD, List.getElem?_append_right h]
theorem drop_over {a b : List Int} {q : Nat} (h : a.length ≤ q) : (a ++ b).drop q = b.drop (q - a.length) := by
  rw [List.drop_append, List.drop_eq_nil_of_le h, List.nil_append]

theorem plain_nil (p : Int) : ∀ (recs : List Rec), plainOf (rsT recs 0) p = none
  | [] => rfl
  | r :: rs => by
    rw [rsT, cutNums_zero, Nat.zero_sub]
    exact plain_nil p rs
theorem held_lt {r : Rec} {t : Nat} {p : Int} (h : p < (r.b : Int)) : heldOf (cutNums r.nums t) p = none := by
  rw [Rec.nums, cutNums]
  by_cases a : (writ r.b).length ≤ t
  · rw [if_pos a]
    rcases cutNums [r.n, r.h, r.d] (t - (writ r.b).length) with _ | ⟨x, l⟩
    · rw [heldOf, if_pos h]
    · rw [heldOf, if_pos h]
  · rw [if_neg a]; rfl
theorem plain_cons (ns : List Int) (rs : List (List Int)) (p : Int) : plainOf (ns :: rs) p = match heldOf ns p with | none => plainOf rs p | some x => some x := by
  unfold plainOf
  rw [List.findSome?_cons]
  cases heldOf ns p <;> rfl
theorem plain_lt {p : Int} : ∀ {recs : List Rec} {lo hi t : Nat}, Chain lo recs hi → p < (lo : Int) → plainOf (rsT recs t) p = none
  | [], lo, hi, t, _, _ => rfl
  | r :: rs, lo, hi, t, hc, hp => by
    rw [rsT, plain_cons, held_lt (by have := hc.1; omega)]
    exact plain_lt hc.2.2 (by have := hc.1; omega)
theorem starts_first {r : Rec} {rest : List Int} {t : Nat} {p : Int} (h : heldOf ((pvAll 4 ((r.enc ++ rest).take t)).take 1) p ≠ none) : (r.b : Int) ≤ p := by
  rw [pvAll_enc, Rec.nums, cutNums] at h
  by_cases a : (writ r.b).length ≤ t
  · rw [if_pos a, List.take_succ_cons, List.take_zero, heldOf] at h
    by_cases b : p < (r.b : Int)
    · rw [if_pos b] at h; exact absurd rfl h
    · omega
  · rw [if_neg a] at h; exact absurd rfl h
theorem starts_chain {p : Int} : ∀ {recs : List Rec} {lo hi t q : Nat}, Chain lo recs hi → q < ((tabOf recs).take t).length → 128 ≤ ((tabOf recs).take t).getD q 0 → startsBy ((tabOf recs).take t) p q → (lo : Int) ≤ p
  | [], lo, hi, t, q, _, h, _, _ => by simp [tabOf] at h
  | r :: rs, lo, hi, t, q, hc, h, h128, hs => by
    rw [tab_cons] at h h128 hs
    by_cases hq : q < r.enc.length
    · have := start_first h hq h128
      subst this
      have := starts_first (r := r) hs
      have := hc.1
      omega
    · have ht : r.enc.length ≤ t := by rw [List.length_take] at h; omega
      rw [take_over ht] at h h128 hs
      rw [getD_over (by omega)] at h128
      unfold startsBy at hs
      rw [drop_over (by omega)] at hs
      rw [List.length_append] at h
      have := starts_chain (p := p) hc.2.2 (q := q - r.enc.length) (t := t - r.enc.length) (by omega) h128 hs
      have := hc.1
      omega

theorem plain_all {p : Int} : ∀ {recs : List Rec} {lo hi t low : Nat}, Chain lo recs hi → GoodLow ((tabOf recs).take t) p low → heldOf (pvAll 4 (((tabOf recs).take t).drop low)) p = plainOf (rsT recs t) p
  | [], lo, hi, t, low, _, h => by have := h.1; simp [tabOf] at this
  | r :: rs, lo, hi, t, low, hc, h => by
    obtain ⟨g1, g2, g3, high, g4, g5, g6, g7⟩ := h
    rw [tab_cons] at g1 g2 g3 g5 g6 g7 ⊢
    have he := enc_pos r
    rw [rsT, plain_cons]
    by_cases hq : low < r.enc.length
    · have := start_first g1 hq g2
      subst this
      rw [List.drop_zero, pvAll_enc]
      rcases hh : heldOf (cutNums r.nums t) p with _ | x
      · simp only
        symm
        by_cases ht : t ≤ r.enc.length
        · rw [Nat.sub_eq_zero_of_le ht]
          exact plain_nil p rs
        rcases rs with _ | ⟨r1, rs⟩
        · rfl
        have he1 := enc_pos r1
        have ht' : r.enc.length ≤ t := by omega
        rw [take_over ht', tab_cons] at g5 g6 g7
        have hlen : r.enc.length < (r.enc ++ (r1.enc ++ tabOf rs).take (t - r.enc.length)).length := by
          rw [List.length_append, List.length_take, List.length_append]; omega
        have hfirst : 128 ≤ (r.enc ++ (r1.enc ++ tabOf rs).take (t - r.enc.length)).getD r.enc.length 0 := by
          rw [getD_over (Nat.le_refl _), Nat.sub_self, get_first (by rw [List.length_take, List.length_append]; omega) he1]
          exact enc_first r1
        have hle : high ≤ r.enc.length := by
          rcases Nat.lt_or_ge r.enc.length high with a | a
          · have := g7 r.enc.length he a; omega
          · exact a
        rcases g6 with g6 | ⟨g6, g8⟩
        · omega
        have hhe : high = r.enc.length := by
          rcases Nat.lt_or_ge high r.enc.length with a | a
          · rw [List.getD_eq_getElem?_getD, List.getElem?_append, if_pos a, ← List.getD_eq_getElem?_getD] at g6
            have := enc_tail r (q := high) (by omega)
            omega
          · omega
        subst hhe
        unfold startsBy at g8
        rw [drop_over (Nat.le_refl _), Nat.sub_self, List.drop_zero, pvAll_enc, Rec.nums, cutNums] at g8
        by_cases a : (writ r1.b).length ≤ t - r.enc.length
        · rw [if_pos a, List.take_succ_cons, List.take_zero, heldOf] at g8
          have hpb : p < (r1.b : Int) := by
            by_cases b : p < (r1.b : Int)
            · exact b
            · rw [if_neg b] at g8; exact absurd (fun h => by cases h) g8
          exact plain_lt (lo := r1.b) (recs := r1 :: rs) ⟨Nat.le_refl _, hc.2.2.2.1, hc.2.2.2.2⟩ hpb
        · rw [rsT, plain_cons, Rec.nums, cutNums, if_neg a]
          have hw : (writ r1.b).length ≤ r1.enc.length := by
            rw [Rec.enc_length, Rec.nums, wrs_cons, List.length_append]; omega
          rw [Nat.sub_eq_zero_of_le (by omega : t - r.enc.length ≤ r1.enc.length)]
          exact plain_nil p rs
      · rfl
    · have hlt : low < t := by rw [List.length_take] at g1; omega
      have ht : r.enc.length ≤ t := by omega
      rw [take_over ht] at g1 g2 g3 g5 g6 g7 ⊢
      rw [drop_over (by omega)]
      rw [getD_over (by omega)] at g2
      rw [List.length_append] at g1 g5 g6
      have hs : startsBy ((tabOf rs).take (t - r.enc.length)) p (low - r.enc.length) := by
        rcases g3 with g3 | g3
        · omega
        · unfold startsBy at g3 ⊢
          rw [drop_over (by omega)] at g3
          exact g3
      have ih := plain_all (p := p) (t := t - r.enc.length) (low := low - r.enc.length) hc.2.2 ⟨by omega, g2, .inr hs, high - r.enc.length, by omega, by omega, by
        rcases g6 with g6 | ⟨g6, g8⟩
        · exact .inl (by omega)
        · refine .inr ⟨by rw [getD_over (by omega)] at g6; exact g6, ?_⟩
          unfold startsBy at g8 ⊢
          rw [drop_over (by omega)] at g8
          exact g8, fun q q1 q2 => by
        have := g7 (q + r.enc.length) (by omega) (by omega)
        rw [getD_over (by omega), Nat.add_sub_cancel] at this
        exact this⟩
      have hp := starts_chain hc.2.2 (by omega) g2 hs
      have hnone : heldOf (cutNums r.nums t) p = none := by
        have e : (r.enc.length) = (writ r.b).length + ((writ r.n).length + ((writ r.h).length + (writ r.d).length)) := by
          rw [Rec.enc_length, Rec.nums, wrs_cons, wrs_cons, wrs_cons, wrs_cons]
          simp [wrs]
        rw [Rec.nums, cutNums, if_pos (by omega), cutNums, if_pos (by omega), heldOf]
        by_cases b : p < (r.b : Int)
        · rw [if_pos b]
        · rw [if_neg b, if_pos (by omega)]
      rw [hnone]
      exact ih

theorem plain_law {recs : List Rec} {pl lf : Nat} (hch : Chain 0 recs pl) (_ : 1 ≤ lf) (_ : lf ≤ (tabOf recs).length) {p : Int} {low : Nat} (hG : GoodLow ((tabOf recs).take lf) p low) :
    heldOf (pvAll 4 (((tabOf recs).take lf).drop low)) p = plainOf ((rowsFrom 0 recs).map fun q => q.1.take (q.2.filter fun e => decide (e ≤ (lf : Int))).length) p := by
  rw [rs_eq, Nat.sub_zero]
  exact plain_all hch hG

local macro_rules | `(tactic| ktn_open) => `(tactic| repeat' (first | (k_unfold; (try dsimp only)) | ((fail_if_success (with_reducible show wpAny _ _ (exec (Stmt.While _ _ _ _) _) _ _ _)); (fail_if_success (with_reducible show wpAny _ _ (exec (Stmt.For _ _ _ _ _) _) _ _ _)); (fail_if_success (with_reducible show wpAny _ _ (call (Value.ref _) _) _ _ _)); (fail_if_success (with_reducible show wpAny _ _ (pyIter _) _ _ _)); (fail_if_success (with_reducible show wpAny _ _ (call (Value.builtin "list.append") _) _ _ _)); (fail_if_success (with_reducible show wpAny _ _ (call (Value.builtin "list.extend") _) _ _ _)); (fail_if_success (with_reducible show wpAny _ _ (call (Value.type _) _) _ _ _)); (fail_if_success (with_reducible show wpAny _ _ (eval (PySem.Expr.ListComp _ _ _ _) _) _ _ _)); (fail_if_success (with_reducible show wpAny _ _ (execs (Stmt.Assign [Expr.Name (Str.ofString "first") _] _ _ :: _) _) _ _ _)); first | walk1 | (dsimp only; walk1) | (leave1; (try dsimp only)))))

example : (PySem.Challenge.rw_dm0068_02 = PySem.Challenge.rw_dm0068_02 ∧ hd2.heap_39 = hd2.heap_39) := by
  k_fill
  exact ⟨rfl, rfl⟩

theorem law2 : PySem.Challenge.rw_dm0068_02.Holds := hd2 (by
  k_go0
  rename_i o3 oT oR d3 dT dR N0 Y0
  replace d3 : o3.data = .cell none := d3
  replace dT : oT.data = .cell none := dT
  replace dR : oR.data = .cell none := dR
  clear Y0
  dsimp only
  try k_fold
  ktn_open
  refine wpAny_For ?_
  ktn_open
  rename_i S svs _ hIS _ _ ltS _ T1 t1v _ hI1 _ _ lt1 _ _ _ _ _ _ _ RL _ ltRL _ o1 d1 _ TL _ ltTL _ o2 d2 _ PL _ ltPL _ X1 _ ltX1 DL dvs _ FA NA hID ltDL
  rename Frag.In _ _ => KX
  rename Top _ _ _ _ _ _ => T
  rename Below _ _ _ _ => K0
  obtain ⟨ds, hds, hdl⟩ : ∃ ds, IntsAre dvs ds ∧ ds.length ≤ 64 := ⟨_, hID, by simp only [List.length_append, List.length_take, List.length_cons, List.length_nil]; omega⟩
  obtain ⟨m0, E0, T0, FB, hp0, hp1, hp2, hE0, hE1⟩ : ∃ (m0 : Str → Option Value) (E0 : Int) (T0 : Tok), Fr _ _ _ m0 ∧ m0 (Str.ofString "place") = some (.int E0 T0) ∧ m0 (Str.ofString "places") = some (.ref PL) ∧ m0 (Str.ofString "script") = some (.ref S) ∧ 0 ≤ E0 ∧ E0 < 2 ^ 30 :=
    ⟨_, _, _, FA, rfl, rfl, rfl, Int.fmod_nonneg_of_pos _ (by decide), Int.fmod_lt_of_pos _ (by decide)⟩
  clear FA
  rename Shared => s1
  have NB : News s1.heap s1.heap.objs.size _ [(RL, listOf ([] : List Value).toArray 0), (TL, listOf ([] : List Value).toArray 0), (PL, listOf ([] : List Value).toArray 0), (s1.heap.objs.size + 1, o1), (s1.heap.objs.size + 1 + 1, o2), (s1.heap.objs.size + 1 + 1 + 1, o3), (S, listOf svs.toArray 0), (DL, listOf dvs.toArray 0)] := fun p hp => NA p (by
    simp only [List.mem_cons, List.not_mem_nil, or_false] at hp ⊢
    rcases hp with h | h | h | h | h | h | h | h
    · exact .inr (.inr (.inr (.inr (.inl h))))
    · exact .inr (.inr (.inr (.inl h)))
    · exact .inr (.inr (.inl h))
    · exact .inr (.inr (.inr (.inr (.inr (.inr (.inr (.inr (.inr h))))))))
    · exact .inr (.inr (.inr (.inr (.inr (.inr (.inr (.inr (.inl h))))))))
    · exact .inr (.inr (.inr (.inr (.inr (.inr (.inr (.inl h)))))))
    · exact .inr (.inr (.inr (.inr (.inr (.inr (.inl h))))))
    · exact .inl h)
  have hE2 : ((E0.toNat : Nat) : Int) = E0 := Int.toNat_of_nonneg hE0
  rw [← hE2] at hp0
  refine forListA_inv (items := dvs.toArray) (lawJ s1.heap.objs.size RL TL PL S DL o1 o2 o3 svs dvs) rfl (fun j m₂ news₂ h hJ _ N => ?_) FB NB ⟨E0.toNat, T0, [], 0, [], 0, [], 0, [], [], [], hp0, hp1, hp2, rfl, ⟨rfl, fun i v hv => by simp at hv⟩, .nil, .nil, rfl, rfl, Nat.zero_le _, by omega, Nat.zero_le _, fun p hp => by simp at hp⟩ ?_ ?_ (by with_unfolding_all passes_own)
  · obtain ⟨pl, tp, rvs, c1, tvs, c2, pvs, c3, rowLed, recs, pls, -, -, -, rfl, -⟩ := hJ
    exact isList_of_news N (n := 0) (by simp)
  · rintro i v m₁ news₁ I h5 tk5 hv ⟨pl, tp, rvs, c1, tvs, c2, pvs, c3, rowLed, recs, pls, hm1, hm2, hm3, rfl, hrows, htab, hpls, hplen, hrlen, hch, hplb, htlen, hrl⟩ hne5 F5 N5
    clear FB NB NA
    replace F5 := fr_of F5 (lawM_of hm1 hm2 hm3)
    obtain ⟨x, tx, rfl, hx⟩ := intsAre_get hds (by simpa using hv)
    refine wpAny_assign_Name ?_
    ktn_open
    rename Fr _ _ _ _ => F6
    rename News _ _ _ _ => N6
    have hi64 : i ≤ 64 := by
      have := (List.getElem?_eq_some_iff.mp hx).1
      omega
    obtain ⟨r, r1, r2, r3, r4, r5, r6, r7, r8, r9, r10, r11, r12, r13⟩ := rec_of pl i x hplb hi64
    obtain ⟨mz, vb, tb, vp, tp', vr, tr, vd, td, vm, tm, FZ, e1, e2, e3, e4, e5, e6, e7, q1, q2, q3, q4, q5⟩ : ∃ (mz : Str → Option Value) (vb : Int) (tb : Tok) (vp : Int) (tp' : Tok) (vr : Int) (tr : Tok) (vd : Int) (td : Tok) (vm : Int) (tm : Tok), Fr _ _ _ mz ∧
        mz (Str.ofString "begin") = some (.int vb tb) ∧ mz (Str.ofString "place") = some (.int vp tp') ∧ mz (Str.ofString "rest") = some (.int vr tr) ∧ mz (Str.ofString "depth") = some (.int vd td) ∧ mz (Str.ofString "mark") = some (.int vm tm) ∧
        mz (Str.ofString "places") = some (.ref PL) ∧ mz (Str.ofString "script") = some (.ref S) ∧
        vb = (pl : Int) + (x.fdiv 2).fmod 5 ∧ vp = (pl : Int) + (x.fdiv 2).fmod 5 + (((x.fdiv 2).fdiv 5).fdiv 15).fmod 100 * 64 ^ (((x.fdiv 2).fdiv 5).fmod 15).toNat + 1 ∧ vr = ((((x.fdiv 2).fdiv 5).fdiv 15).fdiv 100).fdiv 300 ∧ vd = ((((x.fdiv 2).fdiv 5).fdiv 15).fdiv 100).fmod 300 ∧ vm = x.fmod 2 :=
      ⟨_, _, _, _, _, _, _, _, _, _, _, F6, rfl, rfl, rfl, rfl, rfl, rfl, rfl, rfl, rfl, rfl, rfl, rfl⟩
    clear F6
    rw [q1, r1] at e1
    rw [q2, r2] at e2
    have N7 := fun (p : Addr × Obj) (hp : p ∈ (I, liObj DL (i + 1)) :: (RL, listOf rvs.toArray c1) :: (TL, listOf tvs.toArray c2) :: (PL, listOf pvs.toArray c3) :: (s1.heap.objs.size + 1, o1) :: (s1.heap.objs.size + 1 + 1, o2) :: (s1.heap.objs.size + 1 + 1 + 1, o3) :: (S, listOf svs.toArray 0) :: (DL, listOf dvs.toArray 0) :: rowLed) => N6 p (List.mem_cons_of_mem _ (List.mem_cons_of_mem _ (List.mem_cons_of_mem _ (List.mem_cons_of_mem _ (List.mem_cons_of_mem _ hp)))))
    clear N6
    refine turn_rest (h₀ := s1.heap) (L := s1.heap.objs.size) (I := I) (oI := liObj DL (i + 1)) (r := r) (i := i) (dp := vd) (mk := vm) (R := vr) rfl rfl ?hd (by with_unfolding_all passes_own) K0 KX T FZ N7 hne5 ⟨ltS.1, ltRL.2.1, ltTL.1, ltPL.1, ltDL.2.1⟩ d1 d2 e1 e2 e3 e4 e5 e6 e7 (by rw [q3]; exact r3) (by rw [q4, q5]; exact r4) (by rw [q4]; exact r5) (by rw [q4]; exact r6) r7 r8 r9 r10 hrows htab hpls hplen hrlen hch r11 r12 r13 htlen hi64 hrl ?_
    · exact Nat.le_of_ble_eq_true rfl
    · intro h' tk m₂ news₂ F2 N2 ne2 J2
      exact ⟨h', tk, m₂, news₂, rfl, F2, N2, ne2, J2⟩
  · rintro m₁ news₁ h tk ⟨pl, tp, rvs, c1, tvs, c2, pvs, c3, rowLed, recs, pls, hm1, hm2, hm3, rfl, hrows, htab, hpls, hplen, hrlen, hch, hplb, htlen, hrl⟩ F5 N5
    clear FB NB NA
    have hdsz : dvs.toArray.size = ds.length := by rw [List.size_toArray, hds.length]
    refine tail_rest (h₀ := s1.heap) (L := s1.heap.objs.size) (i := dvs.toArray.size) rfl rfl (Nat.le_of_ble_eq_true rfl) (Nat.le_of_ble_eq_true rfl) K0 KX T F5 N5 ⟨ltS.1, ltRL.2.1, ltTL.1, ltPL.1, ltDL.2.1⟩ d1 d2 d3 hm2 hm3 hIS (by simp only [List.length_take]; omega) hrows htab hpls hplen hrlen ?_ hch htlen (by omega) hrl (fun lf h1 h2 p low => plain_law hch h1 h2) ?_
    · rw [List.size_toArray, hID.length]
      simp
    · intro h' tk' m₂ F'
      dsimp only
      wrow_close)
end Mine

theorem PySem.Challenge.cw_dm0068_02_holds : PySem.Challenge.rw_dm0068_02.Holds := by
  exact Mine.law2
