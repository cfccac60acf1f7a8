import PyProof.Rows.All
import Wide.All
import OpenK.AllK
import Wide.FinOn
import PySem.Challenge.RW_dm0068_01
set_option Elab.async false
set_option maxRecDepth 100000
set_option maxHeartbeats 8000000
namespace Mine
open PySem PySem.W PyProof.Rows PySem.Calls
open_top hd1 for PySem.Challenge.rw_dm0068_01

/-- a list's iterator standing before item i -/
abbrev liObj (l : Addr) (i : Nat) : Obj := { cls := .type "list_iterator", data := .fields #[.ref l, .int i 0] }

section
variable {prog : Program} {w : World} {A : Around} {E : Value → Shared → Prop} {s : Shared} {h₀ : Heap} {L it l : Addr} {m : Str → Option Value} {rest : List (Addr × Obj)} {i : Nat} {items : Array Value} {x : Value}

theorem news_head {h h' : Heap} {o o' : Obj} (N : News h₀ L h ((it, o) :: rest)) (hne : ∀ p ∈ rest, p.1 ≠ it) (hs : Heap.SameBut it h h') (ho : h'.get? it = some o') : News h₀ L h' ((it, o') :: rest) :=
  News.setIn (own := []) N (fun _ h => nomatch h) hne hs ho

theorem next_item {Q : Value → Shared → Prop} (F : Fr h₀ L s.heap m) (N : News h₀ L s.heap ((it, liObj l i) :: rest)) (hne : ∀ p ∈ rest, p.1 ≠ it) (hl : s.heap.IsList l items) (hx : items[i]? = some x)
    (h : ∀ h', Fr h₀ L h' m → News h₀ L h' ((it, liObj l (i + 1)) :: rest) → Q x { s with heap := h' }) :
    wpAny (model prog w) A (call (.builtin "next") [.ref it]) Q E s := by
  have hm := N _ (List.mem_cons_self)
  have ho := hm.1
  have hit : s.heap.IsListIter it l i := ⟨_, ho, rfl, rfl⟩
  obtain ⟨ol, hol, _, nl, hdl⟩ := hl
  refine call_function_entry (by decide +kernel) (by decide +kernel) kdk_entry_next (kdk_args_next _) ?_
  unfold Builtin.«next»
  refine wpAny_bind (m := someArgs "next" 1 2 _) (wpAny_of_eq (a := [Value.ref it]) (by first | rfl | kernel_rfl!) ?_)
  dsimp only
  refine wpAny_bind (wpAny_specialOf (name := Str.ofString "__next__") hit.typeIs slot_listiter_next.lookup ?_)
  refine wpAny_ite_split (fun hab => absurd hab (by decide)) (fun _ => ?_)
  refine wpAny_bind (wpAny_callSpecial?_slot (name := Str.ofString "__next__") hit.typeIs slot_listiter_next
    (wpAny_call_entry slot_listiter_next hit.typeIs entry_listiter_next ?_ (args_listiter_next _)))
  show wpAny _ _ (field (.ref it) 0 >>= _) _ _ s
  refine wpAny_bind (wpAny_field ho rfl (x := .ref l) rfl ?_)
  show wpAny _ _ (if (Value.ref l == Value.none) = true then _ else _) _ _ s
  rw [if_neg (show ¬ ((Value.ref l == Value.none) = true) from Bool.false_ne_true)]
  show wpAny _ _ (field (.ref it) 1 >>= _) _ _ s
  refine wpAny_bind (wpAny_field ho rfl (x := .int i 0) rfl ?_)
  show wpAny _ _ (seqItems? (.ref l) >>= _) _ _ s
  refine wpAny_bind (wpAny_seqItems hol hdl ?_)
  simp only [Int.toNat_natCast, hx]
  refine wpAny_bind (wpAny_setField ho rfl (by simp) (wpAny_pure ⟨x, rfl, wpAny_pure ⟨x, rfl, ?_⟩⟩))
  have hs : Heap.SameBut it s.heap (s.heap.update it (Obj.mapFields (·.setIfInBounds 1 (rawInt ((i : Int) + 1))))) := Heap.SameBut.update ..
  exact h _ (F.change hs hm.2.1 hm.2.2) (news_head N hne hs (by rw [Heap.get?_update_self _ ho rfl]; simp [Obj.mapFields, rawInt]))

theorem iter_list {news : List (Addr × Obj)} {Q : Value → Shared → Prop} (F : Fr h₀ L s.heap m) (N : News h₀ L s.heap news) (hl : s.heap.IsList l items)
    (h : ∀ I h', Fr h₀ L h' m → News h₀ L h' ((I, liObj l 0) :: news) → (∀ p ∈ news, p.1 < I) → Q (.ref I) { s with heap := h' }) :
    wpAny (model prog w) A (call (.builtin "iter") [.ref l]) Q E s := by
  refine call_function_entry (by decide +kernel) (by decide +kernel) kdk_entry_iter (kdk_args_iter _) ?_
  unfold Builtin.«iter»
  refine wpAny_bind (m := someArgs "iter" 1 2 _) (wpAny_of_eq (a := [Value.ref l]) (by first | rfl | kernel_rfl!) ?_)
  show wpAny _ _ (pyIter (.ref l) >>= _) _ _ _
  refine wpAny_bind (wpAny_pyIter_list hl ?_)
  exact wpAny_pure ⟨_, rfl, h _ _ (F.push _) (News.push F N _ rfl) (fun q hq => Heap.lt_size (N q hq).1)⟩

theorem next_end {Q : Value → Shared → Prop} (hh : A.handled = none) (F : Fr h₀ L s.heap m) (N : News h₀ L s.heap ((it, liObj l i) :: rest)) (hne : ∀ p ∈ rest, p.1 ≠ it) (hl : s.heap.IsList l items) (hx : items[i]? = none)
    (h : ∀ h₁ h' e, Fr h₀ L h₁ m → News h₀ L h₁ rest → Heap.NewExc h₁ h' e "StopIteration" → E (.ref e) { s with heap := h' }) :
    wpAny (model prog w) A (call (.builtin "next") [.ref it]) Q E s := by
  have hm := N _ (List.mem_cons_self)
  have ho := hm.1
  have hit : s.heap.IsListIter it l i := ⟨_, ho, rfl, rfl⟩
  obtain ⟨ol, hol, _, nl, hdl⟩ := hl
  refine call_function_entry (by decide +kernel) (by decide +kernel) kdk_entry_next (kdk_args_next _) ?_
  unfold Builtin.«next»
  refine wpAny_bind (m := someArgs "next" 1 2 _) (wpAny_of_eq (a := [Value.ref it]) (by first | rfl | kernel_rfl!) ?_)
  dsimp only
  refine wpAny_bind (wpAny_specialOf (name := Str.ofString "__next__") hit.typeIs slot_listiter_next.lookup ?_)
  refine wpAny_ite_split (fun hab => absurd hab (by decide)) (fun _ => ?_)
  refine wpAny_bind (wpAny_callSpecial?_slot (name := Str.ofString "__next__") hit.typeIs slot_listiter_next
    (wpAny_call_entry slot_listiter_next hit.typeIs entry_listiter_next ?_ (args_listiter_next _)))
  show wpAny _ _ (field (.ref it) 0 >>= _) _ _ s
  refine wpAny_bind (wpAny_field ho rfl (x := .ref l) rfl ?_)
  show wpAny _ _ (if (Value.ref l == Value.none) = true then _ else _) _ _ s
  rw [if_neg (show ¬ ((Value.ref l == Value.none) = true) from Bool.false_ne_true)]
  show wpAny _ _ (field (.ref it) 1 >>= _) _ _ s
  refine wpAny_bind (wpAny_field ho rfl (x := .int i 0) rfl ?_)
  show wpAny _ _ (seqItems? (.ref l) >>= _) _ _ s
  refine wpAny_bind (wpAny_seqItems hol hdl ?_)
  simp only [Int.toNat_natCast, hx]
  refine wpAny_bind (wpAny_rule (wpAny_bind (wpAny_setField ho rfl (by simp) ?_)))
  show wpAny _ _ (newExc (.type "StopIteration") [] >>= _) _ _ _
  refine wpAny_bind ?_
  simp only [newExc, newTuple]
  refine wpAny_bind (wpAny_newObj_type ?_ (by size_fits))
  refine wpAny_bind (m := firstArgMember _ _) (wpAny_of_eq (a := Value.none) (by first | rfl | (simp only [firstArgMember]; rfl)) ?_)
  refine wpAny_newObj_type ?_ (by size_fits)
  simp only [raiseNew]
  refine wpAny_bind (wpAny_handled ?_)
  rw [show A.in1.in1.handled = none from hh]
  refine wpAny_bind (wpAny_pure (wpAny_throw ?_))
  have hs : Heap.SameBut it s.heap (s.heap.update it (Obj.mapFields (·.setIfInBounds 0 Value.none))) := Heap.SameBut.update ..
  have F₁ := F.change hs hm.2.1 hm.2.2
  have N₁ : News h₀ L (s.heap.update it (Obj.mapFields (·.setIfInBounds 0 Value.none))) rest := fun p hp => by
    have q := N p (List.mem_cons_of_mem _ hp)
    exact ⟨(hs.2 p.1 (hne p hp)).trans q.1, q.2⟩
  refine h _ _ _ F₁ N₁ ⟨fun b o e => Heap.get?_push_of_some _ (Heap.get?_push_of_some _ e), ?_, ?_⟩
  · exact Heap.get?_none_of_le (by rw [Heap.size_push]; omega)
  · exact ⟨_, _, Heap.get?_push_size _ rfl, rfl, rfl⟩
end

/-- a range's iterator: the next int, how many are left -/
abbrev riObj (x left : Int) : Obj := { cls := .type "range_iterator", dict := none, data := .fields #[rawInt x, rawInt left, rawInt 1], slots := #[] }

theorem fr_ext {h₀ h h' : Heap} {L d : Addr} {m : Str → Option Value} (F : Fr h₀ L h m) (hs : Heap.ExtBut d h h') (hL : d ≠ L) (hn : h₀.get? d = none) : Fr h₀ L h' m := by
  obtain ⟨oL, a1, a2, hoL, a3⟩ := F.ns
  refine ⟨⟨oL, a1, a2, hs L oL hL.symm hoL, a3⟩, fun b x e => hs b x ?_ (F.keep b x e), F.above⟩
  rintro rfl
  rw [hn] at e; cases e
theorem news_ext {h₀ h h' : Heap} {L d : Addr} {news : List (Addr × Obj)} (N : News h₀ L h news) (hne : ∀ p ∈ news, p.1 ≠ d) (hs : Heap.ExtBut d h h') : News h₀ L h' news :=
  fun p hp => ⟨hs p.1 p.2 (hne p hp) (N p hp).1, (N p hp).2⟩
theorem fr_new {h₀ h : Heap} {L : Addr} {m : Str → Option Value} (F : Fr h₀ L h m) : h₀.get? h.objs.size = none ∧ h.objs.size ≠ L := by
  obtain ⟨oL, _, _, hL, _⟩ := F.ns
  refine ⟨?_, Nat.ne_of_gt (Heap.lt_size hL)⟩
  cases hq : h₀.get? h.objs.size with
  | none => rfl
  | some o' => exact absurd (Heap.lt_size (F.keep _ _ hq)) (Nat.lt_irrefl _)

theorem pyNext_li {prog : Program} {w : World} {A : Around} {E : Value → Shared → Prop} {s : Shared} {it l : Addr} {i : Nat} {items : Array Value} {x : Value} {Q : Option Value → Shared → Prop} (ho : s.heap.get? it = some (liObj l i))
    (hl : s.heap.IsList l items) (hx : items[i]? = some x)
    (hQ : ∀ h', h'.get? it = some (liObj l (i + 1)) → Heap.SameBut it s.heap h' → Q (some x) { s with heap := h' }) :
    wpAny (model prog w) A (pyNext (.ref it)) Q E s := by
  have hit : s.heap.IsListIter it l i := ⟨_, ho, rfl, rfl⟩
  obtain ⟨ol, hol, _, nl, hdl⟩ := hl
  unfold pyNext
  refine wpAny_bind (wpAny_attempt (wpAny_callSpecial?_slot (name := Str.ofString "__next__") hit.typeIs slot_listiter_next
    (wpAny_call_entry slot_listiter_next hit.typeIs entry_listiter_next ?_ (args_listiter_next _))))
  show wpAny _ _ (field (.ref it) 0 >>= _) _ _ s
  refine wpAny_bind (wpAny_field ho rfl (x := .ref l) rfl ?_)
  show wpAny _ _ (if (Value.ref l == Value.none) = true then _ else _) _ _ s
  rw [if_neg (show ¬ ((Value.ref l == Value.none) = true) from Bool.false_ne_true)]
  show wpAny _ _ (field (.ref it) 1 >>= _) _ _ s
  refine wpAny_bind (wpAny_field ho rfl (x := .int i 0) rfl ?_)
  show wpAny _ _ (seqItems? (.ref l) >>= _) _ _ s
  refine wpAny_bind (wpAny_seqItems hol hdl ?_)
  simp only [Int.toNat_natCast, hx]
  refine wpAny_bind (wpAny_setField ho rfl (by simp) (wpAny_pure ⟨x, rfl, wpAny_pure (hQ _ ?_ (Heap.SameBut.update ..))⟩))
  rw [Heap.get?_update_self _ ho rfl]
  simp [Obj.mapFields, rawInt]

/-- a turn's end: the loop goes on with the invariant, or leaves -/
def ForStep (h₀ : Heap) (L I : Addr) (o : Obj) (s : Shared) (J : (Str → Option Value) → List (Addr × Obj) → Prop) (Q : Flow → Shared → Prop) (f : Flow) (s₃ : Shared) : Prop :=
  match f with
  | .next | .cont => ∃ h' tk m₂ news₂, s₃ = { s with heap := h', toks := tk } ∧ Fr h₀ L h' m₂ ∧ News h₀ L h' ((I, o) :: news₂) ∧ (∀ p ∈ news₂, p.1 ≠ I) ∧ J m₂ news₂
  | .brk => Q .next s₃
  | .ret v => Q (.ret v) s₃

section
variable {prog : Program} {w : World} {A : Around} {E : Value → Shared → Prop} {Q : Flow → Shared → Prop} {s : Shared} {h₀ : Heap} {L l r a : Addr} {m : Str → Option Value} {news : List (Addr × Obj)} {items : Array Value}
  {env : Env} {target : Expr} {body : List Stmt}

theorem forListA_inv (J : Nat → (Str → Option Value) → List (Addr × Obj) → Prop) (hh : A.handled = none)
    (hl : ∀ i m₁ news₁ h, J i m₁ news₁ → Fr h₀ L h m₁ → News h₀ L h news₁ → h.IsList l items)
    (F : Fr h₀ L s.heap m) (N : News h₀ L s.heap news) (hj : J 0 m news)
    (turn : ∀ i v m₁ news₁ I h tk, items[i]? = some v → J i m₁ news₁ → (∀ p ∈ news₁, p.1 ≠ I) → Fr h₀ L h m₁ → News h₀ L h ((I, liObj l (i + 1)) :: news₁) →
      wpAny (model prog w) A (assign target env v) (fun _ s₂ => wpAny (model prog w) A (execs body env) (ForStep h₀ L I (liObj l (i + 1)) s (J (i + 1)) Q) E s₂) E { s with heap := h, toks := tk })
    (done : ∀ m₁ news₁ h tk, J items.size m₁ news₁ → Fr h₀ L h m₁ → News h₀ L h news₁ → Q .next { s with heap := h, toks := tk })
    (hE : PassesOwn (model prog w) A env E) (ht : ∀ it v, letOwnedTupleGo target it v = pure () := by intro _ _; rfl) :
    wpAny (model prog w) A (pyIter (.ref l)) (fun it s₂ => codeAny (model prog w) A (.forLoop target it body [] env)
      (fun r s' => match r with | .ok f => Q f s' | .error e => cameBackBy (model prog w) A env E e s') s₂) E s := by
  have hls := hl 0 m news _ hj F N
  refine wpAny_pyIter_list hls ?_
  have hnew := fr_new F
  have hne0 : ∀ p ∈ news, p.1 ≠ s.heap.objs.size := fun p hp => Nat.ne_of_lt (Heap.lt_size (N p hp).1)
  refine codeAny_forLoop (fun k s' => ∃ h' tk m₁ news₁ i, s' = { s with heap := h', toks := tk } ∧ Fr h₀ L h' m₁ ∧ News h₀ L h' ((s.heap.objs.size, liObj l i) :: news₁) ∧ (∀ p ∈ news₁, p.1 ≠ s.heap.objs.size) ∧ J i m₁ news₁ ∧ i ≤ items.size ∧ k = items.size + 1 - i) ?_ (items.size + 1)
    ⟨_, s.toks, m, news, 0, rfl, F.push _, News.push F N _ rfl, hne0, hj, Nat.zero_le _, rfl⟩ (ht _)
  rintro k s' ⟨h', tk, m₁, news₁, i, rfl, F₁, N₁, hne, hJ, hi, rfl⟩
  have hm := N₁ _ List.mem_cons_self
  have N₁' : News h₀ L h' news₁ := fun p hp => N₁ p (List.mem_cons_of_mem _ hp)
  have hl₁ := hl i m₁ news₁ h' hJ F₁ N₁'
  by_cases hlt : i < items.size
  · have hx' : items[i]? = some items[i] := by simp [hlt]
    refine pyNext_li (s := { s with heap := h', toks := tk }) hm.1 hl₁ hx' fun h₂ ho₂' hs₂ => ?_
    have hs₂' : Heap.SameBut s.heap.objs.size h' h₂ := hs₂
    have F₂ := F₁.change hs₂' hm.2.1 hm.2.2
    have N₂ := news_head N₁ hne hs₂' ho₂'
    refine wpAny_mono (turn i _ m₁ news₁ _ h₂ tk hx' hJ hne F₂ N₂) (fun _ s₂ q => wpAny_mono q (fun f s₃ h₃ => ?_) hE) hE
    cases f with
    | next =>
      obtain ⟨h'', tk'', m₂, news₂, rfl, F4, N4, hne4, J4⟩ := h₃
      exact ⟨items.size + 1 - (i + 1), by omega, h'', tk'', m₂, news₂, i + 1, rfl, F4, N4, hne4, J4, hlt, rfl⟩
    | cont =>
      obtain ⟨h'', tk'', m₂, news₂, rfl, F4, N4, hne4, J4⟩ := h₃
      exact ⟨items.size + 1 - (i + 1), by omega, h'', tk'', m₂, news₂, i + 1, rfl, F4, N4, hne4, J4, hlt, rfl⟩
    | brk => exact h₃
    | ret v => exact h₃
  · have hin : i = items.size := by omega
    subst hin
    refine wpAny_pyNext_list_end (s := { s with heap := h', toks := tk }) hh ⟨_, hm.1, rfl, rfl⟩ hl₁ (by simp) fun h₂ he₂ => wpAny_execs_nil ?_
    exact done m₁ news₁ h₂ tk hJ (fr_ext F₁ he₂ hm.2.1 hm.2.2) (news_ext N₁' hne he₂)

theorem forRangeA_inv {lo hi : Int} {t u v : Tok} (J : Nat → (Str → Option Value) → List (Addr × Obj) → Prop) (hh : A.handled = none) (hle : lo ≤ hi) (hlo : 0 ≤ lo) (hhi : hi < 2 ^ 31)
    (hr : IsRange s.heap r lo hi 1 t u v)
    (F : Fr h₀ L s.heap m) (N : News h₀ L s.heap news) (hj : J 0 m news)
    (turn : ∀ (i : Nat) tv m₁ news₁ I h tk, lo + i < hi → J i m₁ news₁ → (∀ p ∈ news₁, p.1 ≠ I) → Fr h₀ L h m₁ → News h₀ L h ((I, riObj (lo + i + 1) (hi - lo - i - 1)) :: news₁) →
      wpAny (model prog w) A (assign target env (.int (lo + i) tv)) (fun _ s₂ => wpAny (model prog w) A (execs body env) (ForStep h₀ L I (riObj (lo + i + 1) (hi - lo - i - 1)) s (J (i + 1)) Q) E s₂) E { s with heap := h, toks := tk })
    (done : ∀ m₁ news₁ h tk, J (hi - lo).toNat m₁ news₁ → Fr h₀ L h m₁ → News h₀ L h news₁ → Q .next { s with heap := h, toks := tk })
    (hE : PassesOwn (model prog w) A env E) (ht : ∀ it v, letOwnedTupleGo target it v = pure () := by intro _ _; rfl) :
    wpAny (model prog w) A (pyIter (.ref r)) (fun it s₂ => codeAny (model prog w) A (.forLoop target it body [] env)
      (fun r s' => match r with | .ok f => Q f s' | .error e => cameBackBy (model prog w) A env E e s') s₂) E s := by
  have hsz : Builtin.Range.rangeSize lo hi 1 = hi - lo := by
    unfold Builtin.Range.rangeSize
    rw [if_pos (by decide)]
    split <;> omega
  refine wpAny_pyIter_range hr ?_ ?_
  · unfold Builtin.Range.small
    rw [hsz]
    unfold Builtin.Range.rangeFitsLong
    have e63 : (2 : Int) ^ 63 = 9223372036854775808 := by decide
    have e31 : (2 : Int) ^ 31 = 2147483648 := by decide
    rw [e31] at hhi
    rw [e63]
    simp only [Bool.and_eq_true, decide_eq_true_eq, Bool.or_eq_true, beq_iff_eq]
    refine ⟨⟨⟨⟨⟨by omega, by omega⟩, by omega, by omega⟩, by decide⟩, by omega, by omega⟩, Or.inr ?_⟩
    rw [if_pos (by decide)]
    simp only [decide_eq_true_eq, Bool.and_eq_true]
    omega
  rw [hsz]
  have hne0 : ∀ p ∈ news, p.1 ≠ s.heap.objs.size := fun p hp => Nat.ne_of_lt (Heap.lt_size (N p hp).1)
  refine codeAny_forLoop (fun k s' => ∃ h' tk m₁ news₁ i, s' = { s with heap := h', toks := tk } ∧ Fr h₀ L h' m₁ ∧ News h₀ L h' ((s.heap.objs.size, riObj (lo + (i : Nat)) (hi - lo - (i : Nat))) :: news₁) ∧ (∀ p ∈ news₁, p.1 ≠ s.heap.objs.size) ∧ J i m₁ news₁ ∧ lo + i ≤ hi ∧ k = (hi - lo).toNat + 1 - i) ?_ ((hi - lo).toNat + 1)
    ⟨_, s.toks, m, news, 0, rfl, F.push _, ?_, hne0, hj, by simpa using hle, rfl⟩ (ht _)
  rotate_left
  · have := News.push F N (riObj lo (hi - lo)) rfl
    simpa using this
  rintro k s' ⟨h', tk, m₁, news₁, i, rfl, F₁, N₁, hne, hJ, hi', rfl⟩
  have hm := N₁ _ List.mem_cons_self
  have N₁' : News h₀ L h' news₁ := fun p hp => N₁ p (List.mem_cons_of_mem _ hp)
  by_cases hlt : lo + i < hi
  · refine wpAny_pyNext_range_item (s := { s with heap := h', toks := tk }) hm.1 (by omega) fun h₂ ho₂ hs₂ => ?_
    have hs₂' : Heap.SameBut s.heap.objs.size h' h₂ := hs₂
    have F₂ := F₁.change hs₂' hm.2.1 hm.2.2
    have N₂ := news_head N₁ hne hs₂' ho₂
    refine wpAny_mono (turn i _ m₁ news₁ _ h₂ _ hlt hJ hne F₂ N₂) (fun _ s₂ q => wpAny_mono q (fun f s₃ h₃ => ?_) hE) hE
    have e1 : lo + ((i + 1 : Nat) : Int) = lo + i + 1 := by push_cast; omega
    have e2 : hi - lo - ((i + 1 : Nat) : Int) = hi - lo - i - 1 := by push_cast; omega
    cases f with
    | next =>
      obtain ⟨h'', tk'', m₂, news₂, rfl, F4, N4, hne4, J4⟩ := h₃
      exact ⟨(hi - lo).toNat + 1 - (i + 1), by omega, h'', tk'', m₂, news₂, i + 1, rfl, F4, by rw [e1, e2]; exact N4, hne4, J4, by omega, rfl⟩
    | cont =>
      obtain ⟨h'', tk'', m₂, news₂, rfl, F4, N4, hne4, J4⟩ := h₃
      exact ⟨(hi - lo).toNat + 1 - (i + 1), by omega, h'', tk'', m₂, news₂, i + 1, rfl, F4, by rw [e1, e2]; exact N4, hne4, J4, by omega, rfl⟩
    | brk => exact h₃
    | ret v => exact h₃
  · have hin : (hi - lo).toNat = i := by omega
    refine wpAny_pyNext_range_end (s := { s with heap := h', toks := tk }) hh hm.1 (by omega) fun h₂ he₂ => wpAny_execs_nil ?_
    exact done m₁ news₁ h₂ tk (hin ▸ hJ) (fr_ext F₁ he₂ hm.2.1 hm.2.2) (news_ext N₁' hne he₂)

variable {name : Str} {scope : Scope} {cd : Value} {x : Str} {px : Pos}
theorem forList_inv (J : Nat → (Str → Option Value) → List (Addr × Obj) → Prop) (hh : A.handled = none)
    (hl : ∀ i m₁ news₁ h, J i m₁ news₁ → Fr h₀ L h m₁ → News h₀ L h news₁ → h.IsList l items)
    (F : Fr h₀ L s.heap m) (N : News h₀ L s.heap news) (hj : J 0 m news)
    (turn : ∀ i v m₁ news₁ I h tk, items[i]? = some v → J i m₁ news₁ → (∀ p ∈ news₁, p.1 ≠ I) → Fr h₀ L h (fun y => if y = x then some v else m₁ y) → News h₀ L h ((I, liObj l (i + 1)) :: news₁) →
      wpAny (model prog w) A (execs body (envOf name scope L a cd)) (ForStep h₀ L I (liObj l (i + 1)) s (J (i + 1)) Q) E { s with heap := h, toks := tk })
    (done : ∀ m₁ news₁ h tk, J items.size m₁ news₁ → Fr h₀ L h m₁ → News h₀ L h news₁ → Q .next { s with heap := h, toks := tk })
    (hE : PassesOwn (model prog w) A (envOf name scope L a cd) E := by passes_own)
    (hk : scope.kind = .function := by rfl) (hx : (envOf name scope L a cd).kindOf x = some .local := by rfl) :
    wpAny (model prog w) A (pyIter (.ref l)) (fun it s₂ => codeAny (model prog w) A (.forLoop (.Name x px) it body [] (envOf name scope L a cd))
      (fun r s' => match r with | .ok f => Q f s' | .error e => cameBackBy (model prog w) A (envOf name scope L a cd) E e s') s₂) E s :=
  forListA_inv J hh hl F N hj (fun i v m₁ news₁ I h tk hv hJ hne F₁ N₁ => wpAny_assign_Name (stN (s := { s with heap := h, toks := tk }) F₁ N₁ (fun h₂ F₂ N₂ => turn i v m₁ news₁ I h₂ _ hv hJ hne F₂ N₂) hk hx)) done hE
theorem forRange_inv {lo hi : Int} {t u v : Tok} (J : Nat → (Str → Option Value) → List (Addr × Obj) → Prop) (hh : A.handled = none) (hle : lo ≤ hi) (hlo : 0 ≤ lo) (hhi : hi < 2 ^ 31)
    (hr : IsRange s.heap r lo hi 1 t u v)
    (F : Fr h₀ L s.heap m) (N : News h₀ L s.heap news) (hj : J 0 m news)
    (turn : ∀ (i : Nat) tv m₁ news₁ I h tk, lo + i < hi → J i m₁ news₁ → (∀ p ∈ news₁, p.1 ≠ I) → Fr h₀ L h (fun y => if y = x then some (.int (lo + i) tv) else m₁ y) →
      News h₀ L h ((I, riObj (lo + i + 1) (hi - lo - i - 1)) :: news₁) →
      wpAny (model prog w) A (execs body (envOf name scope L a cd)) (ForStep h₀ L I (riObj (lo + i + 1) (hi - lo - i - 1)) s (J (i + 1)) Q) E { s with heap := h, toks := tk })
    (done : ∀ m₁ news₁ h tk, J (hi - lo).toNat m₁ news₁ → Fr h₀ L h m₁ → News h₀ L h news₁ → Q .next { s with heap := h, toks := tk })
    (hE : PassesOwn (model prog w) A (envOf name scope L a cd) E := by passes_own)
    (hk : scope.kind = .function := by rfl) (hx : (envOf name scope L a cd).kindOf x = some .local := by rfl) :
    wpAny (model prog w) A (pyIter (.ref r)) (fun it s₂ => codeAny (model prog w) A (.forLoop (.Name x px) it body [] (envOf name scope L a cd))
      (fun r s' => match r with | .ok f => Q f s' | .error e => cameBackBy (model prog w) A (envOf name scope L a cd) E e s') s₂) E s :=
  forRangeA_inv J hh hle hlo hhi hr F N hj (fun i tv m₁ news₁ I h tk hv hJ hne F₁ N₁ => wpAny_assign_Name (stN (s := { s with heap := h, toks := tk }) F₁ N₁ (fun h₂ F₂ N₂ => turn i tv m₁ news₁ I h₂ _ hv hJ hne F₂ N₂) hk hx)) done hE
end

theorem bitOr_eq (x y : Int) : Builtin.bitOr x y = x + y - Builtin.bitAnd x y := by
  have h := bitXor_and x y
  unfold Builtin.bitXor at h
  omega
theorem bitAnd_zero' (x : Int) : Builtin.bitAnd x 0 = 0 := by
  have := bitAnd_range x (y := 0) (by decide)
  omega
theorem bitAnd_even (x y : Int) (hx : x % 2 = 0) : Builtin.bitAnd x y = 2 * Builtin.bitAnd (x / 2) (y / 2) := by
  rw [kbt_halves x y, if_neg (by omega)]; omega
theorem bitAnd_shift6 (v d : Int) (h0 : 0 ≤ d) (h1 : d < 64) : Builtin.bitAnd (v * 64) d = 0 := by
  rw [bitAnd_even _ _ (by omega), show v * 64 / 2 = v * 32 from by omega]
  rw [bitAnd_even _ _ (by omega), show v * 32 / 2 = v * 16 from by omega]
  rw [bitAnd_even _ _ (by omega), show v * 16 / 2 = v * 8 from by omega]
  rw [bitAnd_even _ _ (by omega), show v * 8 / 2 = v * 4 from by omega]
  rw [bitAnd_even _ _ (by omega), show v * 4 / 2 = v * 2 from by omega]
  rw [bitAnd_even _ _ (by omega), show v * 2 / 2 = v from by omega]
  rw [show d / 2 / 2 / 2 / 2 / 2 / 2 = 0 from by omega, bitAnd_zero']
  rfl
theorem bitOr_shift6 (v c : Int) : Builtin.bitOr (v * 64) (Builtin.bitAnd c 63) = v * 64 + c % 64 := by
  rw [bitAnd_m6, bitOr_eq, bitAnd_shift6 _ _ (by omega) (by omega)]
  omega
theorem bit64 (b : Int) : Builtin.bitAnd b 64 = (b / 64 % 2) * 64 := by
  have h := kbt_bit b 6
  rw [show (2 : Int) ^ 6 = 64 from by decide] at h
  exact h
theorem bit64_true (b : Int) : (Builtin.bitAnd b 64 != 0) = decide (b / 64 % 2 = 1) := by
  rw [bit64]
  by_cases h : b / 64 % 2 = 1
  · rw [h]; decide
  · have : b / 64 % 2 = 0 := by omega
    rw [this]; decide

theorem intsAre_get : ∀ {vs : List Value} {ns : List Int}, IntsAre vs ns → ∀ {i : Nat} {x : Value}, vs[i]? = some x → ∃ b tb, x = .int b tb ∧ ns[i]? = some b
  | _, _, .nil, i, x, h => by simp at h
  | _, _, .cons n t r, 0, x, h => by simp at h; exact ⟨n, t, h.symm, rfl⟩
  | _, _, .cons n t r, i + 1, x, h => by
    rw [List.getElem?_cons_succ] at h ⊢
    exact intsAre_get r h
theorem intsAre_none {vs : List Value} {ns : List Int} (hI : IntsAre vs ns) {i : Nat} (h : vs[i]? = none) : ns[i]? = none := by
  rw [List.getElem?_eq_none_iff] at h ⊢
  rw [← hI.length]; exact h

theorem pow64_step {j : Nat} {v c : Int} (h0 : 0 ≤ v) (h : v < 64 ^ j) : 0 ≤ v * 64 + c % 64 ∧ v * 64 + c % 64 < 64 ^ (j + 1) := by
  rw [Int.pow_succ]
  omega
theorem bits_of_lt {k : Nat} {v : Int} (h0 : 0 ≤ v) (h : v < 64 ^ k) (hk : k ≤ 64) : (Builtin.Int.intBits v : Int) + 6 ≤ 2 ^ 27 := by
  have h1 : Builtin.Int.intBits v ≤ 6 * k := by
    rw [intBits_le_iff, Nat.pow_mul]
    have : ((v.natAbs : Nat) : Int) < ((64 ^ k : Nat) : Int) := by push_cast; omega
    exact_mod_cast this
  have e : (2 : Int) ^ 27 = 134217728 := by decide
  omega

/-- the rest of a number: what is read so far, the item read last, what is left -/
def pvRest (val b : Int) (xs : List Int) : Option (Int × List Int) :=
  if b / 64 % 2 = 1 then
    match xs with
    | [] => none
    | c :: r => pvRest (val * 64 + c % 64) c r
  else some (val, xs)
def pvOf : List Int → Option (Int × List Int)
  | [] => none
  | b :: r => pvRest (b % 64) b r
theorem pvRest_nil {val b : Int} (hb : b / 64 % 2 = 1) : pvRest val b [] = none := by unfold pvRest; rw [if_pos hb]
theorem pvRest_cons {val b c : Int} {r : List Int} (hb : b / 64 % 2 = 1) : pvRest val b (c :: r) = pvRest (val * 64 + c % 64) c r := by rw [pvRest, if_pos hb]
theorem pvRest_done {val b : Int} {r : List Int} (hb : ¬ b / 64 % 2 = 1) : pvRest val b r = some (val, r) := by unfold pvRest; rw [if_neg hb]
theorem drop_get {xs : List Int} {i : Nat} {b : Int} (h : xs[i]? = some b) : xs.drop i = b :: xs.drop (i + 1) := by
  obtain ⟨hlt, rfl⟩ := List.getElem?_eq_some_iff.mp h
  exact List.drop_eq_getElem_cons hlt
theorem drop_none {xs : List Int} {i : Nat} (h : xs[i]? = none) : xs.drop i = [] := List.drop_eq_nil_iff.mpr (List.getElem?_eq_none_iff.mp h)

theorem fillK : (PySem.Challenge.rw_dm0068_01 = PySem.Challenge.rw_dm0068_01 ∧ hd1.heap_39 = hd1.heap_39) := by
  k_fill
  exact ⟨rfl, rfl⟩

local macro_rules | `(tactic| ktn_open) => `(tactic| repeat' (first | (k_unfold; (try dsimp only)) | ((fail_if_success (with_reducible show wpAny _ _ (exec (Stmt.While _ _ _ _) _) _ _ _)); (fail_if_success (with_reducible show wpAny _ _ (exec (Stmt.For _ _ _ _ _) _) _ _ _)); (fail_if_success (with_reducible show wpAny _ _ (call (Value.ref _) _) _ _ _)); first | walk1 | (dsimp only; walk1) | (leave1; (try dsimp only)))))

def pvM (it : Addr) (b : Int) (tb : Tok) (v : Int) (tv : Tok) : Str → Option Value := fun y =>
  if y = Str.ofString "val" then some (.int v tv) else if y = Str.ofString "b" then some (.int b tb) else if y = Str.ofString "iterator" then some (.ref it) else none
def pvJ (xs : List Int) (i : Nat) (it l : Addr) (rest : List (Addr × Obj)) (n : Nat) (m : Str → Option Value) (news : List (Addr × Obj)) : Prop :=
  ∃ v b tv tb j, m = pvM it b tb v tv ∧ news = (it, liObj l j) :: rest ∧ n + j = xs.length ∧ i < j ∧ 0 ≤ v ∧ v < 64 ^ j ∧ pvOf (xs.drop i) = pvRest v b (xs.drop j)

theorem fr_of {h₀ h : Heap} {L : Addr} {m m' : Str → Option Value} (F : Fr h₀ L h m) (e : ∀ y, m y = m' y) : Fr h₀ L h m' := by
  obtain rfl : m = m' := funext e
  exact F

theorem isList_of_news {h₀ h : Heap} {L l : Addr} {items : Array Value} {n : Nat} {news : List (Addr × Obj)} (N : News h₀ L h news) (hm : (l, listOf items n) ∈ news) : h.IsList l items :=
  ⟨_, (N _ hm).1, rfl, n, rfl⟩
theorem lookup1 (x y : Str) (v : Value) : List.lookup y [(x, v)] = if y = x then some v else none := by
  by_cases h : y = x
  · subst h; simp [List.lookup]
  · have hb : (y == x) = false := beq_eq_false_iff_ne.mpr h
    simp [List.lookup, hb, h]

section
variable {prog : Program} {w : World} {A A₀ : Around} {E : Value → Shared → Prop} {s : Shared} {h₀ base : Heap} {L it l a : Addr} {m mg mb : Str → Option Value} {rest : List (Addr × Obj)} {i n : Nat} {items : Array Value} {xs : List Int} {x : Value}
  {outer : List Env} {loose : List Str} {mean : ExcName → Option Value} {cn : Str} {cs : Scope} {ccd : Value} {Q : Value → Shared → Prop}

theorem pv_call (hA : A.frames = some (envOf cn cs L a ccd :: outer)) (hck : cs.kind = .function) (hh : A.handled = none) (hdp : A.depth < recursionLimit)
    (B : Below A₀ base outer h₀) (F : Fr h₀ L s.heap m) (X : (hd1.heap_39 w.params).In h₀) (T : Top hd1.view_39 loose mean mg mb h₀)
    (N : News h₀ L s.heap ((it, liObj l i) :: rest)) (hne : ∀ p ∈ rest, p.1 ≠ it) (hl : (l, listOf items n) ∈ rest) (hI : IntsAre items.toList xs) (hlen : xs.length ≤ 64)
    (hret : ∀ v r j h' tk tk', pvOf (xs.drop i) = some (v, r) → xs.drop j = r → i < j → j ≤ xs.length → Fr h₀ L h' m → News h₀ L h' ((it, liObj l j) :: rest) → Q (.int v tk) { s with heap := h', toks := tk' })
    (hexc : ∀ g h' tk' e, pvOf (xs.drop i) = none → Fr h₀ L g m → RaisedSN base g (envOf cn cs L a ccd :: outer) e (.type "StopIteration") rest h' → g.UpToSlots h' → E (.ref e) { s with heap := h', toks := tk' }) :
    wpAny (model prog w) A (call (.ref 21) [.ref it]) Q E s := by
  refine wpAny_call ?_
  k_dflt (refine' code_def B F X N T hA rfl hck ?k6 ?k7 hdp ?k9 ?kB ?_ ?c2 ?c3 ?c4 ?c5; (case k6 => k_is); (case k7 => k_is); (case k9 => exact BindsTo.of_eq rfl); (case c5 => decide); (case kB => exact locs rfl); (case c2 => exact rfl); (case c3 => exact rfl); (case c4 => exact rfl); k_whole; intro g' L' h' FG' F' N' B' X' T'; (try dsimp only); (try k_fold))
  replace F' := fr_of (m' := fun y => if y = Str.ofString "iterator" then some (.ref it) else none) F' (fun y => lookup1 (Str.ofString "iterator") y (.ref it))
  ktn_open
  have hl' : h'.IsList l items := ⟨_, (N' _ (List.mem_cons_of_mem _ hl)).1, rfl, n, rfl⟩
  rcases hx : items[i]? with _ | x
  · refine next_end hh F' N' hne hl' hx ?_
    intro h₁ h₂ e F₁ N₁ R₁
    k_unfold
    refine leave_newS B' R₁ F₁ N₁ ?_
    intro h₃ RS _ U
    refine hexc _ _ _ _ ?_ FG' RS U
    rw [drop_none (intsAre_none hI (by simpa using hx))]
    rfl
  · refine next_item F' N' hne hl' hx ?_
    intro h₁ F₁ N₁
    obtain ⟨b, tb, rfl, hb⟩ := intsAre_get hI (by simpa using hx)
    ktn_open
    rename Fr g' _ _ _ => F2
    rename News g' _ _ _ => N2
    have F3 := fr_of (m' := pvM it b tb (b % 64) _) F2 (by
      intro y
      rw [bitAnd_m6]
      rfl)
    have hilt : i < xs.length := (List.getElem?_eq_some_iff.mp hb).1
    refine While_inv2 (pvJ xs i it l rest) (n₀ := xs.length - (i + 1)) F3 N2 ?_ ?_
    · refine ⟨b % 64, b, _, tb, i + 1, rfl, rfl, by omega, by omega, by omega, ?_, ?_⟩
      · have := (pow64_step (j := i) (v := 0) (c := b) (by omega) (pow_pos_of (by decide) i)).2
        simpa using this
      · rw [drop_get hb]; rfl
    · rintro n₁ m₁ news₁ h₄ tk₄ F₄ N₄ ⟨v, c, tv, tc, j, rfl, rfl, hn₁, hij, hv0, hv1, hpv⟩
      clear F2 N2 F3
      ktn_open
      · rename Builtin.bitAnd c 64 ≠ 0 => hc
        have hc1 : c / 64 % 2 = 1 := by
          rw [bit64] at hc
          omega
        refine ilshift_int (by decide) (bits_of_lt hv0 hv1 (by omega)) ?_
        rw [show v * 2 ^ (6 : Int).toNat = v * 64 from rfl]
        ktn_open
        rename Fr g' _ _ _ => F5
        rename News g' _ _ _ => N5
        have hl5 := isList_of_news N5 (List.mem_cons_of_mem _ hl)
        rcases hx5 : items[j]? with _ | x
        · refine next_end hh F5 N5 hne hl5 hx5 ?_
          intro h₁ h₂ e F₁ N₁ R₁
          k_unfold
          refine leave_newS B' R₁ F₁ N₁ ?_
          intro h₃ RS _ U
          refine hexc _ _ _ _ ?_ FG' RS U
          rw [hpv, drop_none (intsAre_none hI (by simpa using hx5)), pvRest_nil hc1]
        · refine next_item F5 N5 hne hl5 hx5 ?_
          intro h₁ F₁ N₁
          obtain ⟨d, td, rfl, hd⟩ := intsAre_get hI (by simpa using hx5)
          ktn_open
          rename Fr g' _ _ _ => F7
          rename News g' _ _ _ => N7
          have hjlt : j < xs.length := (List.getElem?_eq_some_iff.mp hd).1
          have F8 := fr_of (m' := pvM it d td (v * 64 + d % 64) _) F7 (by
            intro y
            simp only [pvM, bitOr_shift6]
            by_cases h1 : y = Str.ofString "val"
            · simp only [h1, if_true]; rfl
            · by_cases h2 : y = Str.ofString "b"
              · simp only [h1, h2, if_true, if_false]
              · simp only [h1, h2, if_false])
          exact ⟨_, _, _, _, n₁ - 1, rfl, F8, N7, by omega, v * 64 + d % 64, d, _, td, j + 1, rfl, rfl, by omega, by omega, (pow64_step hv0 hv1).1, (pow64_step hv0 hv1).2, by rw [hpv, drop_get hd, pvRest_cons hc1]⟩
      · rename Builtin.bitAnd c 64 = 0 => hc
        rename Fr h₀ _ _ _ => F6
        rename News h₀ _ _ _ => N6
        have hc1 : ¬ c / 64 % 2 = 1 := by
          rw [bit64] at hc
          omega
        refine hret v _ j h₄ tv _ ?_ rfl hij (by omega) F6 N6
        rw [hpv, pvRest_done hc1]
end

theorem range_size {lo hi : Int} (hle : lo ≤ hi) : Builtin.Range.rangeSize lo hi 1 = hi - lo := by
  unfold Builtin.Range.rangeSize
  rw [if_pos (by decide)]
  split <;> omega
theorem range_small {lo hi : Int} (hle : lo ≤ hi) (hlo : 0 ≤ lo) (hhi : hi < 2 ^ 31) : Builtin.Range.small lo hi 1 = true := by
  unfold Builtin.Range.small
  rw [range_size hle]
  unfold Builtin.Range.rangeFitsLong
  have e63 : (2 : Int) ^ 63 = 9223372036854775808 := by decide
  have e31 : (2 : Int) ^ 31 = 2147483648 := by decide
  rw [e31] at hhi
  rw [e63]
  simp only [Bool.and_eq_true, decide_eq_true_eq, Bool.or_eq_true, beq_iff_eq]
  refine ⟨⟨⟨⟨⟨by omega, by omega⟩, by omega, by omega⟩, by decide⟩, by omega, by omega⟩, Or.inr ?_⟩
  rw [if_pos (by decide)]
  simp only [decide_eq_true_eq, Bool.and_eq_true]
  omega
theorem intsAre_of : ∀ (ys : List Value) (f : Nat → Int), (∀ i y, ys[i]? = some y → ∃ t, y = Value.int (f i) t) → IntsAre ys ((List.range ys.length).map f)
  | [], _, _ => .nil
  | y :: ys, f, h => by
    obtain ⟨t, rfl⟩ := h 0 y rfl
    rw [List.length_cons, List.range_succ_eq_map, List.map_cons, List.map_map]
    exact .cons (f 0) t (intsAre_of ys (fun i => f (i + 1)) fun i y hy => h (i + 1) y (by rw [List.getElem?_cons_succ]; exact hy))

section
variable {prog : Program} {w : World} {A : Around} {E : Value → Shared → Prop} {s : Shared} {h₀ : Heap} {L : Addr} {m : Str → Option Value} {news : List (Addr × Obj)} {env : Env} {elt : Expr} {x : Str} {scope : Scope} {cl : List (Str × Addr)}
  {S : List (Addr × Obj) → Prop} {P : Nat → Value → Prop} {Fin : List Value → List (Addr × Obj) → Prop} {n : Nat}

/-- the end of one item of a comprehension: the ledger as it was, the item as told -/
def EltEnd (h₀ : Heap) (L : Addr) (m : Str → Option Value) (s : Shared) (led : List (Addr × Obj)) (G : Value → Prop) (y : Value) (s₂ : Shared) : Prop :=
  ∃ h' tk', s₂ = { s with heap := h', toks := tk' } ∧ Fr h₀ L h' m ∧ News h₀ L h' led ∧ G y

theorem compRest_of (G : Nat → Value → Prop) (hS : S news)
    (step : ∀ i v ys I oI C oC D m₂ h tk (E' : Value → Shared → Prop), i < n → P i v → LCg.NsObj oC m₂ → m₂ x = some v → Fr h₀ L h m → News h₀ L h ((I, oI) :: (C, oC) :: (D, LCg.lst ys) :: news) →
      wpAny (model prog w) A (eval elt (compEnvC scope cl C env)) (EltEnd h₀ L m s ((I, oI) :: (C, oC) :: (D, LCg.lst ys) :: news) (G i)) E' { s with heap := h, toks := tk })
    (fin : ∀ ys : List Value, ys.length = n → (∀ i y, ys[i]? = some y → G i y) → Fin ys news) :
    LCg.CompRest prog w A h₀ L m env elt x scope cl s S P Fin n 0 [] news := by
  have all : ∀ k i ys, i + k = n → ys.length = i → (∀ j y, ys[j]? = some y → G j y) → LCg.CompRest prog w A h₀ L m env elt x scope cl s S P Fin k i ys news := by
    intro k
    induction k with
    | zero => intro i ys hk hl hG; exact fin ys (by omega) hG
    | succ k ih =>
      intro i ys hk hl hG
      refine LCg.CompRest.succ ?_
      intro v I oI C oC D m₂ h tk E' hP hC hx F N off3 _
      refine wpAny_mono (step i v ys I oI C oC D m₂ h tk E' (by omega) hP hC hx F N) (fun y s₂ q => ?_) fun _ _ e => e
      obtain ⟨h', tk', rfl, F', N', hy⟩ := q
      refine ⟨h', tk', news, rfl, F', N', off3, hS, ih (i + 1) (ys ++ [y]) (by omega) (by simp [hl]) ?_⟩
      intro j z hz
      rw [List.getElem?_append] at hz
      by_cases hj : j < ys.length
      · rw [if_pos hj] at hz; exact hG j z hz
      · rw [if_neg hj] at hz
        have e0 : j - ys.length = 0 := by
          rcases Nat.eq_zero_or_pos (j - ys.length) with h | h
          · exact h
          · rw [List.getElem?_eq_none (by simp; omega)] at hz; cases hz
        rw [e0] at hz
        simp at hz
        subst hz
        rw [show j = i from by omega]; exact hy
  exact all n 0 [] (by omega) rfl (by intro j y h; simp at h)

theorem sum_N {l : Addr} {vs : List Value} {ns : List Int} {Q : Value → Shared → Prop} (hh : A.handled = none) (F : Fr h₀ L s.heap m) (N : News h₀ L s.heap news) (hl : s.heap.IsList l vs.toArray) (hi : IntsAre vs ns)
    (h : ∀ h' tk t', Fr h₀ L h' m → News h₀ L h' news → Q (.int ns.sum t') { s with heap := h', toks := tk }) :
    wpAny (model prog w) A (call (.builtin "sum") [.ref l]) Q E s := by
  have e1 : numsOf vs.toArray.toList = ns := hi.numsOf
  obtain ⟨xs, hxs⟩ := hi.allInts.items
  rw [hxs] at hl e1
  rw [nums_intItems] at e1
  refine sum_intListG hh hl fun h' tk t' hk => ?_
  have := h h' tk t' (F.grownK hk) (fun p hp => ⟨hk _ _ (N p hp).1, (N p hp).2⟩)
  rw [preSum_eq, List.take_of_length_le (by simp), e1]
  exact this

/-- the end of a comprehension's test -/
def TestEnd (h₀ : Heap) (L : Addr) (m : Str → Option Value) (s : Shared) (led : List (Addr × Obj)) (b : Bool) (ok : Bool) (s₂ : Shared) : Prop :=
  ∃ h' tk', s₂ = { s with heap := h', toks := tk' } ∧ Fr h₀ L h' m ∧ News h₀ L h' led ∧ ok = b

theorem compRestT_of {ct : Expr} (b : Nat → Bool) (R : Nat → List Value → Prop) (hS : S news) (h0 : R 0 [])
    (test : ∀ i v ys I oI C oC D m₂ h tk (E' : Value → Shared → Prop), i < n → P i v → LCg.NsObj oC m₂ → m₂ x = some v → Fr h₀ L h m → News h₀ L h ((I, oI) :: (C, oC) :: (D, LCg.lst ys) :: news) →
      wpAny (model prog w) A (isTrue ct (compEnvC scope cl C env) (eval ct (compEnvC scope cl C env))) (TestEnd h₀ L m s ((I, oI) :: (C, oC) :: (D, LCg.lst ys) :: news) (b i)) E' { s with heap := h, toks := tk })
    (item : ∀ i v ys I oI C oC D m₂ h tk (E' : Value → Shared → Prop), i < n → b i = true → R i ys → P i v → LCg.NsObj oC m₂ → m₂ x = some v → Fr h₀ L h m → News h₀ L h ((I, oI) :: (C, oC) :: (D, LCg.lst ys) :: news) →
      wpAny (model prog w) A (eval elt (compEnvC scope cl C env)) (EltEnd h₀ L m s ((I, oI) :: (C, oC) :: (D, LCg.lst ys) :: news) (fun y => R (i + 1) (ys ++ [y]))) E' { s with heap := h, toks := tk })
    (skip : ∀ i ys, i < n → b i = false → R i ys → R (i + 1) ys)
    (fin : ∀ ys : List Value, R n ys → Fin ys news) :
    LCt.CompRestT prog w A h₀ L m env ct elt x scope cl s S P Fin n 0 [] news := by
  have all : ∀ k i ys, i + k = n → R i ys → LCt.CompRestT prog w A h₀ L m env ct elt x scope cl s S P Fin k i ys news := by
    intro k
    induction k with
    | zero => intro i ys hk hR; exact fin ys (by rw [← hk]; exact hR)
    | succ k ih =>
      intro i ys hk hR
      refine LCt.CompRestT.succ ?_
      intro v I oI C oC D m₂ h tk E' hP hC hx F N off3 _
      refine wpAny_mono (test i v ys I oI C oC D m₂ h tk E' (by omega) hP hC hx F N) (fun ok s₂ q => ?_) fun _ _ e => e
      obtain ⟨h', tk', rfl, F', N', rfl⟩ := q
      cases hb : b i with
      | true =>
        rw [if_pos rfl]
        refine wpAny_mono (item i v ys I oI C oC D m₂ h' tk' E' (by omega) hb hR hP hC hx F' N') (fun y s₂ q => ?_) fun _ _ e => e
        obtain ⟨h'', tk'', rfl, F'', N'', hy⟩ := q
        exact ⟨h'', tk'', news, rfl, F'', N'', off3, hS, ih (i + 1) (ys ++ [y]) (by omega) hy⟩
      | false =>
        rw [if_neg (by decide)]
        exact ⟨h', tk', news, rfl, F', N', off3, hS, ih (i + 1) ys (by omega) (skip i ys (by omega) hb hR)⟩
  exact all n 0 [] (by omega) h0
end

local macro_rules | `(tactic| ktn_open) => `(tactic| repeat' (first | (k_unfold; (try dsimp only)) | ((fail_if_success (with_reducible show wpAny _ _ (exec (Stmt.While _ _ _ _) _) _ _ _)); (fail_if_success (with_reducible show wpAny _ _ (exec (Stmt.For _ _ _ _ _) _) _ _ _)); (fail_if_success (with_reducible show wpAny _ _ (call (Value.ref _) _) _ _ _)); (fail_if_success (with_reducible show wpAny _ _ (pyIter _) _ _ _)); (fail_if_success (with_reducible show wpAny _ _ (call (Value.type _) _) _ _ _)); first | walk1 | (dsimp only; walk1) | (leave1; (try dsimp only)))))

def pvAll : Nat → List Int → List Int
  | 0, _ => []
  | k + 1, xs => match pvOf xs with
    | none => []
    | some (v, r) => v :: pvAll k r

def lrM (l t it : Addr) (u : Option Value) : Str → Option Value := fun y =>
  if y = Str.ofString "_" then u else if y = Str.ofString "items" then some (.ref it) else if y = Str.ofString "told" then some (.ref t) else if y = Str.ofString "row" then some (.ref l) else none
def lrJ (xs : List Int) (l t it : Addr) (news₀ : List (Addr × Obj)) (i : Nat) (m : Str → Option Value) (news : List (Addr × Obj)) : Prop :=
  ∃ u j vs done, m = lrM l t it u ∧ news = (it, liObj l j) :: (t, listOf vs.toArray done.length) :: news₀ ∧ IntsAre vs done ∧ done.length = i ∧ i ≤ j ∧ j ≤ xs.length ∧ pvAll (xs.length + 1) xs = done ++ pvAll (xs.length + 1 - i) (xs.drop j)

example : (PySem.Challenge.rw_dm0068_01 = PySem.Challenge.rw_dm0068_01 ∧ hd1.heap_39 = hd1.heap_39) := by
  k_fill
  exact ⟨rfl, rfl⟩
section
variable {prog : Program} {w : World} {A A₀ : Around} {E : Value → Shared → Prop} {s : Shared} {h₀ : Heap} {L l a : Addr} {m mg mb : Str → Option Value} {news : List (Addr × Obj)} {n : Nat} {items : Array Value} {xs : List Int}
  {loose : List Str} {mean : ExcName → Option Value} {cn : Str} {cs : Scope} {ccd : Value} {Q : Value → Shared → Prop}

theorem lr_call (hA : A.frames = some [envOf cn cs L a ccd]) (hck : cs.kind = .function) (hh : A.handled = none) (hdp : A.depth + 1 < recursionLimit)
    (B : Below A₀ h₀ [] h₀) (F : Fr h₀ L s.heap m) (X : (hd1.heap_39 w.params).In h₀) (T : Top hd1.view_39 loose mean mg mb h₀)
    (N : News h₀ L s.heap news) (hl : (l, listOf items n) ∈ news) (hI : IntsAre items.toList xs) (hlen : xs.length ≤ 64)
    (hret : ∀ t vs k h' tk', IntsAre vs (pvAll (xs.length + 1) xs) → Fr h₀ L h' m → News h₀ L h' ((t, listOf vs.toArray k) :: news) → (∀ p ∈ news, p.1 ≠ t) → Q (.ref t) { s with heap := h', toks := tk' }) :
    wpAny (model prog w) A (call (.ref 33) [.ref l]) Q E s := by
  refine wpAny_call ?_
  k_dflt (refine' code_defS0 B F X N T hA ?k6 ?k7 ?kd ?k9 ?kB ?_ hck ?c2 ?c3 ?c4 ?c5; (case k6 => k_is); (case k7 => k_is); (case kd => omega); (case k9 => exact BindsTo.of_eq rfl); (case c5 => decide); (case kB => exact locs rfl); (case c2 => exact rfl); (case c3 => exact rfl); (case c4 => exact rfl); k_whole; intro g' L' h' FG' F' N' B' X' T' D'; (try dsimp only); (try k_fold))
  replace F' := fr_of (m' := fun y => if y = Str.ofString "row" then some (.ref l) else none) F' (fun y => lookup1 (Str.ofString "row") y (.ref l))
  ktn_open
  rename_i t _ ltt _ F1 N1
  have hl1 := isList_of_news N1 (List.mem_cons_of_mem _ hl)
  refine iter_list F1 N1 hl1 ?_
  intro I h1 F2 N2 lt2
  clear F1 N1
  ktn_open
  refine wpAny_For ?_
  ktn_open
  rename Fr g' _ _ _ => F3
  rename News g' _ _ _ => N3
  have hsz : items.size = xs.length := by have := hI.length; simpa using this
  refine len_list (isList_of_news N3 (List.mem_cons_of_mem _ (List.mem_cons_of_mem _ hl))) (by rw [hsz]; omega) ?_
  ktn_open
  refine range1_rows F3 N3 ?_
  intro h4 tk4 t4 u4 v4 hr4 F4 N4 _
  ktn_open
  refine forRange_inv (lrJ xs l t I news) hh (by omega) (by omega) (by omega) hr4 F4 N4 ?_ ?_ ?_ (by with_unfolding_all passes_own)
  · refine ⟨none, 0, [], [], ?_, rfl, .nil, rfl, Nat.le_refl _, Nat.zero_le _, rfl⟩
    funext y
    simp only [lrM]
    by_cases hy : y = Str.ofString "_"
    · subst hy; rfl
    · simp only [hy, if_false]
  · rintro i tv m₁ news₁ RI h5 tk5 hi ⟨u, j, vs, done, rfl, rfl, hvs, hdn, hij, hjx, hall⟩ hne5 F5 N5
    clear F3 N3 F4 N4
    ktn_open
    have N6 : News g' L' h5 ((I, liObj l j) :: (RI, riObj (0 + i + 1) ((items.size : Int) + 1 - 0 - i - 1)) :: (t, listOf vs.toArray done.length) :: news) := fun p hp => N5 p (by
      simp only [List.mem_cons] at hp ⊢
      rcases hp with h | h | h | h
      · exact .inr (.inl h)
      · exact .inl h
      · exact .inr (.inr (.inl h))
      · exact .inr (.inr (.inr h)))
    have hRI := hne5 _ (List.mem_cons_self)
    have htI : t < I := lt2 _ (List.mem_cons_self)
    have hne6 : ∀ p ∈ (RI, riObj (0 + i + 1) ((items.size : Int) + 1 - 0 - i - 1)) :: (t, listOf vs.toArray done.length) :: news, p.1 ≠ I := by
      intro p hp
      simp only [List.mem_cons] at hp
      rcases hp with rfl | rfl | h
      · exact Ne.symm hRI
      · exact Nat.ne_of_lt htI
      · exact Nat.ne_of_lt (lt2 _ (List.mem_cons_of_mem _ h))
    refine pv_call (Around.frames_deeper hA) rfl hh (by simp only [depth_deeper]; omega) B' F5 X' T' N6 hne6 (List.mem_cons_of_mem _ (List.mem_cons_of_mem _ hl)) hI hlen ?_ ?_
    · intro v r j' h6 tv6 tk6 hpv hdrop hlt hle F6 N7
      clear F5 N5 N6
      ktn_open
      have N8 : News g' L' h6 ((t, listOf vs.toArray done.length) :: (I, liObj l j') :: (RI, riObj (0 + i + 1) ((items.size : Int) + 1 - 0 - i - 1)) :: news) := fun p hp => N7 p (by
        simp only [List.mem_cons] at hp ⊢
        rcases hp with h | h | h | h
        · exact .inr (.inr (.inl h))
        · exact .inl h
        · exact .inr (.inl h)
        · exact .inr (.inr (.inr h)))
      have hRt := hne5 _ (List.mem_cons_of_mem _ List.mem_cons_self)
      have hlen' : vs.length = done.length := hvs.length
      refine append_K F6 N8 (Upd.head ?_) ?_ ?_
      · intro p hp
        simp only [List.mem_cons] at hp
        rcases hp with rfl | rfl | h
        · exact Nat.ne_of_gt htI
        · exact Ne.symm hRt
        · exact Nat.ne_of_lt (ltt _ h)
      · intro h9 F9 N9
        clear N8 N7 F6
        ktn_open
        refine ⟨_, _, _, (I, liObj l j') :: (t, listOf (vs ++ [Value.int v tv6]).toArray (done ++ [v]).length) :: news, rfl, F9, ?_, ?_, some (.int (0 + i) tv), j', vs ++ [Value.int v tv6], done ++ [v], ?_, rfl, ?_, by simp [hdn], by omega, hle, ?_⟩
        · intro p hp
          refine N9 p ?_
          simp only [List.mem_cons, List.push_toArray, List.length_append, List.length_cons, List.length_nil] at hp ⊢
          rcases hp with h | h | h | h
          · exact .inr (.inr (.inl h))
          · exact .inr (.inl h)
          · exact .inl h
          · exact .inr (.inr (.inr h))
        · intro p hp
          simp only [List.mem_cons] at hp
          rcases hp with rfl | rfl | h
          · exact hRI
          · exact hRt
          · exact hne5 _ (List.mem_cons_of_mem _ (List.mem_cons_of_mem _ h))
        · funext y
          simp only [lrM]
          split <;> rfl
        · exact hvs.append (.cons v tv6 .nil)
        · rw [hall, show xs.length + 1 - i = (xs.length + 1 - (i + 1)) + 1 from by omega, List.append_assoc]
          congr 1
          simp only [pvAll, hpv]
          rw [hdrop]
          rfl
      · simp only [List.size_toArray, hlen', sizeLine_eq]
        omega
    · intro g6 h6 tk6 e hpv FG6 R6 U6
      refine caught_SN0 (KF := hd1.heap_39 w.params) (T' := "StopIteration") R6 FG6 B' U6 X T D' KtsTurn.refl (by k_is) PyProof.Rows.Boot.«StopIteration» (by decide) (by rw [isSubtype_type]; kernel_rfl) (by kernel_rfl) (by rw [isSubtype_type]; kernel_rfl) ?_
      intro h7 g7 T7 F7 N7 B7 X7 TT7 D7
      ktn_open
      rename Fr h₀ L h7 _ => F10
      rename News h₀ L h7 _ => N10
      refine hret t vs done.length h7 _ ?_ F10 (fun p hp => N10 p (List.mem_cons_of_mem _ hp)) (fun p hp => Nat.ne_of_lt (ltt p hp))
      rw [hall, show xs.length + 1 - i = (xs.length - i) + 1 from by omega]
      simp only [pvAll, hpv, List.append_nil]
      exact hvs
  · rintro m₁ news₁ h5 tk5 ⟨u, j, vs, done, rfl, rfl, hvs, hdn, hij, hjx, hall⟩ F5 N5
    exfalso
    omega
end

local macro_rules | `(tactic| ktn_open) => `(tactic| repeat' (first | (k_unfold; (try dsimp only)) | ((fail_if_success (with_reducible show wpAny _ _ (exec (Stmt.While _ _ _ _) _) _ _ _)); (fail_if_success (with_reducible show wpAny _ _ (exec (Stmt.For _ _ _ _ _) _) _ _ _)); (fail_if_success (with_reducible show wpAny _ _ (call (Value.ref _) _) _ _ _)); (fail_if_success (with_reducible show wpAny _ _ (pyIter _) _ _ _)); (fail_if_success (with_reducible show wpAny _ _ (call (Value.builtin "sum") _) _ _ _)); (fail_if_success (with_reducible show wpAny _ _ (call (Value.builtin "list.append") _) _ _ _)); (fail_if_success (with_reducible show wpAny _ _ (call (Value.type _) _) _ _ _)); first | walk1 | (dsimp only; walk1) | (leave1; (try dsimp only)))))

example : (PySem.Challenge.rw_dm0068_01 = PySem.Challenge.rw_dm0068_01 ∧ hd1.heap_39 = hd1.heap_39) := by
  k_fill
  exact ⟨rfl, rfl⟩

/-- the number that ends at place e - 1 and begins at place b: to the base 64, by the items' remainders -/
def numAt (xs : List Int) (b e : Nat) : Int := ((List.range (e - b)).map fun k => xs.getD (b + k) 0 % 64 * 64 ^ (e - 1 - (b + k))).sum
/-- the numbers that end at the places e .. -/
def numsFrom (xs : List Int) : Nat → Nat → Nat → List Int
  | 0, _, _ => []
  | k + 1, b, e => if xs.getD e 0 / 64 % 2 = 0 then numAt xs b (e + 1) :: numsFrom xs k (e + 1) (e + 1) else numsFrom xs k b (e + 1)

def lnM (t : Addr) (b : Int) (tb : Tok) : Str → Option Value := fun y =>
  if y = Str.ofString "begin" then some (.int b tb) else if y = Str.ofString "numbers" then some (.ref t) else none
def lnJ (xs : List Int) (L t : Addr) (o2 : Obj) (news₀ : List (Addr × Obj)) (i : Nat) (m : Str → Option Value) (news : List (Addr × Obj)) : Prop :=
  ∃ (b : Nat) (tb : Tok) (oc : Obj) (v : Option Value) (vs : List Value) (done : List Int), m = lnM t b tb ∧ news = (L + 1 + 1, oc) :: (t, listOf vs.toArray done.length) :: (L + 1, o2) :: news₀ ∧ oc.data = .cell v ∧ IntsAre vs done ∧ done.length ≤ i ∧ b ≤ i ∧
    numsFrom xs xs.length 0 0 = done ++ numsFrom xs (xs.length - i) b i
section
variable {prog : Program} {w : World} {A A₀ : Around} {E : Value → Shared → Prop} {s : Shared} {h₀ base : Heap} {L l a : Addr} {m mg mb : Str → Option Value} {news : List (Addr × Obj)} {n : Nat} {items : Array Value} {xs : List Int}
  {loose : List Str} {mean : ExcName → Option Value} {cn : Str} {cs : Scope} {ccd : Value} {Q : Value → Shared → Prop} {outer : List Env}

theorem ln_call (hA : A.frames = some (envOf cn cs L a ccd :: outer)) (hck : cs.kind = .function) (hh : A.handled = none) (hdp : A.depth < recursionLimit)
    (B : Below A₀ base outer h₀) (F : Fr h₀ L s.heap m) (X : (hd1.heap_39 w.params).In h₀) (T : Top hd1.view_39 loose mean mg mb h₀)
    (N : News h₀ L s.heap news) (hl : (l, listOf items n) ∈ news) (hI : IntsAre items.toList xs) (hlen : xs.length ≤ 64)
    (hret : ∀ t vs k h' tk', IntsAre vs (numsFrom xs xs.length 0 0) → Fr h₀ L h' m → News h₀ L h' ((t, listOf vs.toArray k) :: news) → (∀ p ∈ news, p.1 ≠ t) → Q (.ref t) { s with heap := h', toks := tk' }) :
    wpAny (model prog w) A (call (.ref 26) [.ref l]) Q E s := by
  refine wpAny_call ?_
  k_dflt (refine' code_defC B F X N T hA rfl hck ?k6 ?k7 hdp ?k9 ?kB ?kD ?_ ?c2 ?c3 ?c4; (case k6 => k_is); (case k7 => k_is); (case k9 => exact BindsTo.of_eq rfl); (case kB => exact rfl); (case kD => decide +kernel); (case c2 => exact rfl); (case c3 => exact rfl); (case c4 => exact rfl); k_whole; intro g' L' h' tk' cells' FG' F' N' Y' B' X' T' l1; (try dsimp only); (try k_fold))
  obtain ⟨o1, o2, rfl, d1, d2⟩ := CellsAre.two Y'
  replace d1 : o1.data = .cell none := d1
  replace d2 : o2.data = .cell (some (.ref l)) := d2
  replace N' : News g' L' h' ((L' + 1 + 1, o1) :: (L' + 1, o2) :: news) := N'
  replace F' := fr_of (m' := fun y => none) F' (fun y => rfl)
  clear Y'
  ktn_open
  refine wpAny_For ?_
  ktn_open
  rename_i t _ ltt _ _ F1 N1
  obtain ⟨lt1, lt2, lt3⟩ := ltt
  have hsz : items.size = xs.length := by have := hI.length; simpa using this
  refine len_list (isList_of_news N1 (List.mem_cons_of_mem _ (List.mem_cons_of_mem _ (List.mem_cons_of_mem _ hl)))) (by rw [hsz]; omega) ?_
  ktn_open
  refine range2_rows F1 N1 ?_
  intro h4 tk4 t4 u4 v4 hr4 F4 N4 _
  ktn_open
  have N5 : News g' L' h4 ((L' + 1 + 1, o1) :: (t, listOf ([] : List Value).toArray ([] : List Int).length) :: (L' + 1, o2) :: news) := fun p hp => N4 p (by
    simp only [List.mem_cons] at hp ⊢
    rcases hp with h | h | h | h
    · exact .inr (.inl h)
    · exact .inl h
    · exact .inr (.inr (.inl h))
    · exact .inr (.inr (.inr h)))
  refine forRangeA_inv (lnJ xs L' t o2 news) hh (by omega) (by omega) (by omega) hr4 F4 N5 ?_ ?_ ?_ (by with_unfolding_all passes_own)
  · exact ⟨0, _, o1, none, [], [], rfl, rfl, d1, .nil, Nat.le_refl _, Nat.le_refl _, rfl⟩
  · rintro i tv m₁ news₁ RI h5 tk5 hi ⟨b, tb, oc, vc, vs, done, rfl, rfl, hoc, hvs, hdn, hbi, hall⟩ hne5 F5 N6
    clear F1 N1 F4 N4 N5
    have hRI := hne5 _ List.mem_cons_self
    have hRt := hne5 _ (List.mem_cons_of_mem _ List.mem_cons_self)
    have N7 : News g' L' h5 ((L' + 1 + 1, oc) :: (RI, riObj (1 + i + 1) ((items.size : Int) + 1 - 1 - i - 1)) :: (t, listOf vs.toArray done.length) :: (L' + 1, o2) :: news) := fun p hp => N6 p (by
      simp only [List.mem_cons] at hp ⊢
      rcases hp with h | h | h
      · exact .inr (.inl h)
      · exact .inl h
      · exact .inr (.inr h))
    refine wpAny_assign_Name ?_
    with_unfolding_all refine storeX_C F5 N7 rfl (UpdF.head ?_) hoc ?_
    · intro p hp
      simp only [List.mem_cons] at hp
      rcases hp with rfl | rfl | rfl | h
      · exact Ne.symm hRI
      · exact Nat.ne_of_gt lt1
      · exact Nat.ne_of_lt (Nat.lt_succ_self _)
      · exact Nat.ne_of_lt (Nat.lt_succ_of_lt (Nat.lt_succ_of_lt (l1 _ h)))
    · intro h6 oc6 F6 N8 hoc6
      clear F5 N6 N7
      ktn_open
      have hm8 : (l, listOf items n) ∈ (L' + 1 + 1, oc6) :: (RI, riObj (1 + i + 1) ((items.size : Int) + 1 - 1 - i - 1)) :: (t, listOf vs.toArray done.length) :: (L' + 1, o2) :: news :=
        List.mem_cons_of_mem _ (List.mem_cons_of_mem _ (List.mem_cons_of_mem _ (List.mem_cons_of_mem _ hl)))
      have hix : i < xs.length := by omega
      obtain ⟨x, hx⟩ : ∃ x, items[i]? = some x := ⟨items[i]'(by omega), by simp [hsz, hix]⟩
      obtain ⟨c, tc, rfl, hc⟩ := intsAre_get hI (by simpa using hx)
      refine item_list (isList_of_news N8 hm8) (by omega) (by omega) (x := .int c tc) (by rw [show (1 + (i : Int) - 1).toNat = i from by omega]; exact hx) ?_
      ktn_open
      · refine range2_rows F6 N8 ?_
        intro h9 tk9 t9 u9 v9 hr9 F9 N9 _
        refine LCg.CompSrc.range (n := i + 1 - b) hh F9 N9 hr9 ?_ ?_ ?_ ?_
        · exact range_small (by omega) (by omega) (by omega)
        · rw [range_size (by omega)]; omega
        · rw [sizeLine_eq]; omega
        · intro gg
          dsimp only
          refine compRest_of (fun j y => ∃ ty, y = .int (xs.getD (b + j) 0 % 64 * 64 ^ (i - (b + j))) ty) trivial ?_ ?_
          · rintro j v ys I oI C oC D m₂ h10 tk10 E' hj ⟨tj, rfl⟩ hoC hmk F10 N10
            clear F9 N9 F6 N8
            ktn_open
            have hjx : b + j < xs.length := by omega
            obtain ⟨x, hx10⟩ : ∃ x, items[b + j]? = some x := ⟨items[b + j]'(by omega), by simp [hsz, hjx]⟩
            obtain ⟨d, td, rfl, hd⟩ := intsAre_get hI (by simpa using hx10)
            refine item_list (isList_of_news N10 (List.mem_cons_of_mem _ (List.mem_cons_of_mem _ (List.mem_cons_of_mem _ hm8)))) (by omega) (by omega) (x := .int d td) (by rw [show ((b : Int) + j).toNat = b + j from by omega]; exact hx10) ?_
            ktn_open
            have e1 : (1 + (i : Int) - 1 - (b + j)).toNat = i - (b + j) := by omega
            have e2 : xs.getD (b + j) 0 = d := by rw [List.getD_eq_getElem?_getD, hd]; rfl
            rw [e1, Int.fmod_eq_emod_of_nonneg _ (by decide)]
            exact ⟨h10, _, rfl, F10, N10, _, by rw [e2]⟩
          · intro ys hyl hys D h11 tk11 F11 N11 off11
            have hys' : IntsAre ys ((List.range (i + 1 - b)).map fun k => xs.getD (b + k) 0 % 64 * 64 ^ (i - (b + k))) := by
              rw [← hyl]
              exact intsAre_of ys _ hys
            clear F9 N9 F6 N8
            ktn_open
            refine sum_N hh F11 N11 ⟨_, (N11 _ List.mem_cons_self).1, rfl, _, rfl⟩ hys' ?_
            intro h12 tk12 t12 F12 N12
            clear F11
            dsimp only
            ktn_open
            have N13 : News g' L' h12 ((t, listOf vs.toArray done.length) :: (L' + 1 + 1, oc6) :: (RI, riObj (1 + i + 1) ((items.size : Int) + 1 - 1 - i - 1)) :: (L' + 1, o2) :: news) := fun p hp => N12 p (by
              simp only [List.mem_cons] at hp ⊢
              rcases hp with h | h | h | h | h
              · exact .inr (.inr (.inr (.inl h)))
              · exact .inr (.inl h)
              · exact .inr (.inr (.inl h))
              · exact .inr (.inr (.inr (.inr (.inl h))))
              · exact .inr (.inr (.inr (.inr (.inr h)))))
            clear N12 N11
            refine append_K F12 N13 (Upd.head ?_) ?_ ?_
            · intro p hp
              simp only [List.mem_cons] at hp
              rcases hp with rfl | rfl | rfl | h
              · exact Nat.ne_of_lt lt1
              · exact Ne.symm hRt
              · exact Nat.ne_of_lt lt2
              · exact Nat.ne_of_lt (ktn_ltOf lt3 _ h)
            · intro h14 F14 N14
              clear F12 N13
              ktn_open
              rename_i h15 F15 N15
              have hc0 : xs.getD i 0 / 64 % 2 = 0 := by
                rw [List.getD_eq_getElem?_getD, hc]
                rename (c.fdiv 64).fmod 2 = 0 => hq
                rw [Int.fdiv_eq_ediv_of_nonneg _ (by decide), Int.fmod_eq_emod_of_nonneg _ (by decide)] at hq
                exact hq
              refine ⟨_, _, _, (L' + 1 + 1, oc6) :: (t, listOf (vs ++ [Value.int (numAt xs b (i + 1)) t12]).toArray (done ++ [numAt xs b (i + 1)]).length) :: (L' + 1, o2) :: news, rfl, F15, ?_, ?_,
                i + 1, tv, oc6, _, vs ++ [Value.int (numAt xs b (i + 1)) t12], done ++ [numAt xs b (i + 1)], ?_, rfl, hoc6, ?_, ?_, Nat.le_refl _, ?_⟩
              · intro p hp
                refine N15 p ?_
                simp only [List.mem_cons, List.push_toArray, List.length_append, List.length_cons, List.length_nil, numAt, Nat.add_sub_cancel] at hp ⊢
                rcases hp with h | h | h | h | h
                · exact .inr (.inr (.inl h))
                · exact .inr (.inl h)
                · exact .inl h
                · exact .inr (.inr (.inr (.inl h)))
                · exact .inr (.inr (.inr (.inr h)))
              · intro p hp
                simp only [List.mem_cons] at hp
                rcases hp with rfl | rfl | rfl | h
                · exact hRI
                · exact hRt
                · exact hne5 _ (List.mem_cons_of_mem _ (List.mem_cons_of_mem _ List.mem_cons_self))
                · exact hne5 _ (List.mem_cons_of_mem _ (List.mem_cons_of_mem _ (List.mem_cons_of_mem _ h)))
              · funext y
                simp only [lnM]
                rw [show ((i + 1 : Nat) : Int) = 1 + (i : Int) from by omega]
                by_cases hy : y = Str.ofString "begin"
                · simp only [hy, if_true]
                · simp only [hy, if_false]
              · exact hvs.append (.cons _ _ .nil)
              · simp; omega
              · rw [hall, show xs.length - i = (xs.length - (i + 1)) + 1 from by omega, List.append_assoc]
                congr 1
                rw [numsFrom, if_pos hc0]
                rfl
            · simp only [List.size_toArray, hvs.length, sizeLine_eq]
              omega
      · have hc0 : ¬ xs.getD i 0 / 64 % 2 = 0 := by
          rw [List.getD_eq_getElem?_getD, hc]
          rename (c.fdiv 64).fmod 2 ≠ 0 => hq
          rw [Int.fdiv_eq_ediv_of_nonneg _ (by decide), Int.fmod_eq_emod_of_nonneg _ (by decide)] at hq
          exact hq
        refine ⟨_, _, _, (L' + 1 + 1, oc6) :: (t, listOf vs.toArray done.length) :: (L' + 1, o2) :: news, rfl, F6, ?_, ?_, b, tb, oc6, _, vs, done, rfl, rfl, hoc6, hvs, by omega, by omega, ?_⟩
        · intro p hp
          refine N8 p ?_
          simp only [List.mem_cons] at hp ⊢
          rcases hp with h | h | h | h | h
          · exact .inr (.inl h)
          · exact .inl h
          · exact .inr (.inr (.inl h))
          · exact .inr (.inr (.inr (.inl h)))
          · exact .inr (.inr (.inr (.inr h)))
        · intro p hp
          simp only [List.mem_cons] at hp
          rcases hp with rfl | rfl | rfl | h
          · exact hRI
          · exact hRt
          · exact hne5 _ (List.mem_cons_of_mem _ (List.mem_cons_of_mem _ List.mem_cons_self))
          · exact hne5 _ (List.mem_cons_of_mem _ (List.mem_cons_of_mem _ (List.mem_cons_of_mem _ h)))
        · rw [hall, show xs.length - i = (xs.length - (i + 1)) + 1 from by omega]
          congr 1
          rw [numsFrom, if_neg hc0]
  · rintro m₁ news₁ h5 tk5 ⟨b, tb, oc, vc, vs, done, rfl, rfl, hoc, hvs, hdn, hbi, hall⟩ F5 N6
    clear F1 N1 F4 N4 N5
    ktn_open
    rename Fr h₀ L _ _ => F7
    rename News h₀ L _ _ => N7
    refine hret t vs done.length h5 _ ?_ F7 (fun p hp => N7 p ?_) (fun p hp => Nat.ne_of_lt (ktn_ltOf lt3 p hp))
    · rw [hall, show xs.length - ((items.size : Int) + 1 - 1).toNat = 0 from by omega]
      simpa [numsFrom] using hvs
    · simp only [List.mem_cons] at hp ⊢
      rcases hp with h | h
      · exact .inr (.inl h)
      · exact .inr (.inr (.inr h))
end

theorem numAt_self (xs : List Int) (b : Nat) : numAt xs b b = 0 := by simp [numAt]
theorem list_sum_append (a b : List Int) : (a ++ b).sum = a.sum + b.sum := by
  induction a with
  | nil => simp
  | cons x a ih => simp [ih, Int.add_assoc]
theorem sum_map_mul (f g : Nat → Int) (c : Int) : ∀ l : List Nat, (∀ k ∈ l, f k = g k * c) → (l.map f).sum = (l.map g).sum * c
  | [], _ => by simp
  | x :: l, h => by
    rw [List.map_cons, List.map_cons, List.sum_cons, List.sum_cons, h x (List.mem_cons_self ..), sum_map_mul f g c l (fun k hk => h k (List.mem_cons_of_mem _ hk)), Int.add_mul]
theorem numAt_succ (xs : List Int) {b e : Nat} (h : b ≤ e) : numAt xs b (e + 1) = numAt xs b e * 64 + xs.getD e 0 % 64 := by
  unfold numAt
  rw [show e + 1 - b = (e - b) + 1 from by omega, List.range_succ, List.map_append, list_sum_append]
  congr 1
  · refine sum_map_mul _ _ 64 _ ?_
    intro k hk
    rw [List.mem_range] at hk
    rw [show e + 1 - 1 - (b + k) = (e - 1 - (b + k)) + 1 from by omega, Int.pow_succ, Int.mul_assoc]
  · simp only [List.map_cons, List.map_nil, List.sum_cons, List.sum_nil]
    rw [show b + (e - b) = e from by omega, Nat.add_sub_cancel, Nat.sub_self]
    simp

theorem drop_getD {xs : List Int} {e : Nat} (h : e < xs.length) : xs.drop e = xs.getD e 0 :: xs.drop (e + 1) := by
  rw [drop_get (b := xs.getD e 0) (by rw [List.getD_eq_getElem?_getD, List.getElem?_eq_getElem h]; rfl)]

theorem nums_all (xs : List Int) : ∀ k e, e + k = xs.length →
    (∀ f, k + 1 ≤ f → numsFrom xs k e e = pvAll f (xs.drop e)) ∧
    (∀ b f, b < e → k ≤ f → xs.getD (e - 1) 0 / 64 % 2 = 1 → numsFrom xs k b e = (match pvRest (numAt xs b e) (xs.getD (e - 1) 0) (xs.drop e) with | none => [] | some (v, r) => v :: pvAll f r)) := by
  intro k
  induction k with
  | zero =>
    intro e he
    have hd : xs.drop e = [] := List.drop_eq_nil_iff.mpr (by omega)
    refine ⟨fun f hf => ?_, fun b f hb hf hc => ?_⟩
    · obtain ⟨f, rfl⟩ : ∃ g, f = g + 1 := ⟨f - 1, by omega⟩
      rw [hd]; rfl
    · rw [hd, pvRest_nil hc]; rfl
  | succ k ih =>
    intro e he
    have hlt : e < xs.length := by omega
    obtain ⟨ih1, ih2⟩ := ih (e + 1) (by omega)
    rw [Nat.add_sub_cancel] at ih2
    refine ⟨fun f hf => ?_, fun b f hb hf hc => ?_⟩
    · obtain ⟨f, rfl⟩ : ∃ g, f = g + 1 := ⟨f - 1, by omega⟩
      have hn : numAt xs e (e + 1) = xs.getD e 0 % 64 := by rw [numAt_succ xs (Nat.le_refl _), numAt_self]; omega
      rw [drop_getD hlt, numsFrom]
      simp only [pvAll, pvOf]
      by_cases hd : xs.getD e 0 / 64 % 2 = 0
      · rw [if_pos hd, pvRest_done (by omega), hn, ih1 f (by omega)]
      · rw [if_neg hd, ih2 e f (by omega) (by omega) (by omega), hn]
        all_goals (generalize pvRest (xs.getD e 0 % 64) (xs.getD e 0) (List.drop (e + 1) xs) = o; cases o <;> rfl)
    · have hn := numAt_succ xs (Nat.le_of_lt hb)
      rw [drop_getD hlt, numsFrom, pvRest_cons hc, ← hn]
      by_cases hd : xs.getD e 0 / 64 % 2 = 0
      · rw [if_pos hd, pvRest_done (by omega), ih1 f (by omega)]
      · rw [if_neg hd, ih2 b f (by omega) (by omega) (by omega)]

theorem read_eq_numbers (xs : List Int) : pvAll (xs.length + 1) xs = numsFrom xs xs.length 0 0 := by
  have := (nums_all xs xs.length 0 (by omega)).1 (xs.length + 1) (Nat.le_refl _)
  simpa using this.symm

local macro_rules | `(tactic| ktn_open) => `(tactic| repeat' (first | (k_unfold; (try dsimp only)) | ((fail_if_success (with_reducible show wpAny _ _ (exec (Stmt.While _ _ _ _) _) _ _ _)); (fail_if_success (with_reducible show wpAny _ _ (exec (Stmt.For _ _ _ _ _) _) _ _ _)); (fail_if_success (with_reducible show wpAny _ _ (call (Value.ref _) _) _ _ _)); (fail_if_success (with_reducible show wpAny _ _ (pyIter _) _ _ _)); (fail_if_success (with_reducible show wpAny _ _ (eval (PySem.Expr.ListComp _ _ _ _) _) _ _ _)); (fail_if_success (with_reducible show wpAny _ _ (call (Value.builtin "sum") _) _ _ _)); (fail_if_success (with_reducible show wpAny _ _ (call (Value.builtin "list.append") _) _ _ _)); (fail_if_success (with_reducible show wpAny _ _ (call (Value.type _) _) _ _ _)); (fail_if_success (with_reducible show wpAny _ _ (subscriptTail _ (PySem.Expr.Slice (some _) _ _ _) _ _) _ _ _)); (fail_if_success (with_reducible show wpAny _ _ (subscriptTail _ (PySem.Expr.Slice _ (some (PySem.Expr.Name _ _)) _ _) _ _) _ _ _)); first | walk1 | (dsimp only; walk1) | (leave1; (try dsimp only)))))

def lwJ (r : Addr) (ws : List Value) (_ : Nat) (m : Str → Option Value) (news : List (Addr × Obj)) : Prop := m (Str.ofString "row") = some (.ref r) ∧ news = [(r, listOf ws.toArray 0)]

def lwJ2 (r : Addr) (led : List (Addr × Obj)) (_ : Nat) (m : Str → Option Value) (news : List (Addr × Obj)) : Prop := m (Str.ofString "row") = some (.ref r) ∧ news = led

theorem pvAll_length : ∀ (k : Nat) (xs : List Int), (pvAll k xs).length ≤ k
  | 0, _ => Nat.le_refl _
  | k + 1, xs => by
    unfold pvAll
    split
    · exact Nat.zero_le _
    · rw [List.length_cons]; exact Nat.succ_le_succ (pvAll_length k _)

theorem law1 : PySem.Challenge.rw_dm0068_01.Holds := hd1 (by
  k_go0
  all_goals try k_fold
  ktn_open
  rename_i r ws _ hI _ _ FA NA
  rename Frag.In _ _ => KX
  rename Top _ _ _ _ _ _ => T
  rename Below _ _ _ _ => K0
  obtain ⟨xs, hxs, hxl⟩ : ∃ xs, IntsAre ws xs ∧ xs.length ≤ 64 := ⟨_, hI, by simp only [List.length_append, List.length_take, List.length_cons, List.length_nil]; omega⟩
  have hsz : ws.toArray.size = xs.length := by have := hxs.length; simpa using this
  refine wpAny_For ?_
  ktn_open
  refine range1_rows FA NA ?_
  intro h4 tk4 t4 u4 v4 hr4 F4 N4 _
  ktn_open
  refine forRange_inv (lwJ r ws) rfl (by omega) (by omega) (by omega) hr4 F4 (fun p hp => N4 p (by simp only [List.mem_cons, List.not_mem_nil, or_false] at hp ⊢; exact .inl hp)) ⟨rfl, rfl⟩ ?_ ?_ (by with_unfolding_all passes_own)
  · rintro i tv m₁ news₁ RI h5 tk5 hi ⟨hm₁, rfl⟩ hne5 F5 N5
    clear FA NA F4 N4
    replace F5 := fr_of (m' := fun y => if y = Str.ofString "cut" then some (.int (0 + i) tv) else if y = Str.ofString "row" then some (.ref r) else m₁ y) F5 (by
      intro y
      by_cases h1 : y = Str.ofString "row"
      · subst h1; simp only [if_true, hm₁]
      · simp only [h1, if_false])
    ktn_open
    refine wpAny_For ?_
    ktn_open
    have hl5 := isList_of_news N5 (List.mem_cons_of_mem _ List.mem_cons_self)
    refine kmk_slice_ints (lo := none) (hi := some (0 + (i : Int))) F5 N5 hl5 (by kmk_part) (by kmk_part) hxs (slice_ints_upto hxs (by omega) (by omega)) rfl ?_ (by with_unfolding_all rfl) (by kmk_pure) (by simp only [sizeLine_eq]; omega)
    intro P1 ws1 h6 F6 N6 lt6 hI6 _ _
    clear F5 N5
    ktn_open
    have hl6 := isList_of_news N6 (List.mem_cons_of_mem _ (List.mem_cons_of_mem _ List.mem_cons_self))
    refine kmk_slice_ints (lo := some (0 + (i : Int))) (hi := none) F6 N6 hl6 (by kmk_part) (by kmk_part) hxs (slice_ints_from hxs (by omega) (by omega)) rfl ?_ (by with_unfolding_all rfl) (by kmk_pure) (by simp only [sizeLine_eq]; omega)
    intro P2 ws2 h7 F7 N7 lt7 hI7 _ _
    clear F6 N6
    ktn_open
    rename_i l8 h8 F8 N8 lt8
    obtain ⟨led, hled⟩ : ∃ led, led = [(l8, listOf #[Value.ref P1, Value.ref P2] 0), (P2, listOf ws2.toArray 0), (P1, listOf ws1.toArray 0), (RI, riObj (0 + ↑i + 1) (↑xs.length + 1 - 0 - ↑i - 1)), (r, listOf ws.toArray 0)] := ⟨_, rfl⟩
    rw [← hled] at N8
    have hRI : (RI, riObj (0 + ↑i + 1) (↑xs.length + 1 - 0 - ↑i - 1)) ∈ led := by rw [hled]; simp
    have hr8 : (r, listOf ws.toArray 0) ∈ led := by rw [hled]; simp
    have hpart : ∀ (j : Nat) (v : Value), (#[Value.ref P1, Value.ref P2] : Array Value)[j]? = some v → ∃ P its ys, v = .ref P ∧ (P, listOf its.toArray 0) ∈ led ∧ IntsAre its ys ∧ ys.length ≤ 64 := by
      intro j v hv
      rcases j with _ | _ | j
      · simp at hv
        exact ⟨P1, ws1, _, hv.symm, by rw [hled]; simp, hI6, by rw [List.length_take]; omega⟩
      · simp at hv
        exact ⟨P2, ws2, _, hv.symm, by rw [hled]; simp, hI7, by rw [List.length_drop]; omega⟩
      · simp at hv
    refine forList_inv (lwJ2 r led) rfl (fun j m₂ news₂ h hJ _ N => isList_of_news N (n := 0) (by rw [hJ.2, hled]; exact List.mem_cons_self)) F8 N8 ⟨rfl, rfl⟩ ?_ ?_ (by with_unfolding_all passes_own)
    · rintro j v m₂ news₂ I2 h9 tk9 hv ⟨hm₂, rfl⟩ hne9 F9 N9
      obtain ⟨P, its, ys, rfl, hP, hys, hyl⟩ := hpart j v hv
      clear F8 N8
      replace F9 := fr_of (m' := fun y => if y = Str.ofString "part" then some (.ref P) else if y = Str.ofString "row" then some (.ref r) else m₂ y) F9 (by
        intro y
        by_cases h1 : y = Str.ofString "row"
        · subst h1; simp only [if_true, hm₂]
        · simp only [h1, if_false])
      ktn_open
      refine lr_call rfl rfl rfl (by simp only [depth_deeper, depth_caller]; decide) K0 F9 KX T N9 (List.mem_cons_of_mem _ hP) (by simpa using hys) hyl ?_
      intro t vs k h10 tk10 hvs F10 N10 hne10
      clear F9 N9
      ktn_open
      rename_i h11 F11 N11
      refine ln_call rfl rfl rfl (by simp only [depth_deeper, depth_caller]; decide) K0 F11 KX T N11 (List.mem_cons_of_mem _ (List.mem_cons_of_mem _ hP)) (by simpa using hys) hyl ?_
      intro t2 vs2 k2 h12 tk12 hvs2 F12 N12 hne12
      rw [← read_eq_numbers] at hvs2
      clear F11 N11
      ktn_open
      have hvz : vs.toArray.size ≤ sizeLine := by
        rw [List.size_toArray, hvs.length, sizeLine_eq]
        have := pvAll_length (ys.length + 1) ys
        omega
      refine LCt.ListComp_T F12 rfl (by decide) rfl (by decide) rfl ?_
      ktn_open
      refine LCt.CompSrcT.ledger rfl F12 N12 (List.mem_cons_of_mem _ List.mem_cons_self) hvz ?_
      intro gg
      refine compRestT_of (fun _ => false) (fun _ ys => ys = []) (.inr ⟨_, List.mem_cons_of_mem _ List.mem_cons_self, rfl, _, rfl⟩) rfl ?_ (fun _ _ _ _ _ _ _ _ _ _ _ _ _ hb => by cases hb) (fun _ _ _ _ h => h) ?_
      · intro q v zs I oI C oC D m₃ h13 tk13 E' hq hP hoC hmx F13 N13
        obtain ⟨c, tc, rfl, -⟩ := intsAre_get hvs (by simpa using hP)
        clear F12 N12
        dsimp only
        ktn_open
        exact ⟨h13, _, rfl, F13, N13, rfl⟩
      · rintro zs rfl D h14 tk14 F14 N14 off14
        clear F12 N12
        dsimp only
        ktn_open
        rename Fr _ _ _ _ => F15
        rename News _ _ _ _ => N15
        refine ⟨_, _, _, news₂, rfl, F15, fun p hp => N15 p ?_, hne9, rfl, rfl⟩
        simp only [List.mem_cons] at hp ⊢
        rcases hp with h | h
        · simp only [h, true_or, or_true]
        · simp only [h, or_true]
    · rintro m₂ news₂ h9 tk9 ⟨hm₂, rfl⟩ F9 N9
      clear F8 N8
      ktn_open
      refine ⟨_, _, _, [(r, listOf ws.toArray 0)], rfl, F9, fun p hp => N9 p ?_, hne5, hm₂, rfl⟩
      simp only [List.mem_cons, List.not_mem_nil, or_false] at hp
      rcases hp with rfl | rfl
      · exact hRI
      · exact hr8
  · rintro m₁ news₁ h5 tk5 ⟨hm₁, rfl⟩ F5 N5
    clear FA NA F4 N4
    ktn_open
    dsimp only
    wrow_close)
end Mine

theorem PySem.Challenge.cw_dm0068_01_holds : PySem.Challenge.rw_dm0068_01.Holds := by
  exact Mine.law1
