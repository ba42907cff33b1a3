import PyProof.Rows.All
import Wide.All
import OpenK.AllK
import Wide.FinOn
import PySem.Challenge.RW_dp0027_01
set_option Elab.async false
set_option maxRecDepth 100000
namespace Mine
open PySem PySem.W PySem.Calls PyProof.Rows PyProof.V PySem.Spec

/-- a list's iterator at place i; an iterator that has ended -/
def itObj (l : Addr) (i : Nat) : Obj := { cls := .type "list_iterator", data := .fields #[.ref l, .int (i : Int) 0] }
def itEnd (i : Nat) : Obj := { cls := .type "list_iterator", data := .fields #[.none, .int (i : Int) 0] }

section
variable {prog : Program} {w : World} {A : Around} {E : Value → Shared → Prop} {s : Shared} {h₀ : Heap} {L l I : Addr} {m : Str → Option Value} {news news' : List (Addr × Obj)} {vs : List Value} {i : Nat} {x : Value}

theorem it_iter {Q : Value → Shared → Prop} (F : Fr h₀ L s.heap m) (N : News h₀ L s.heap news) (hl : s.heap.IsList l vs.toArray)
    (h : ∀ (I : Addr) h', Fr h₀ L h' m → News h₀ L h' ((I, itObj l 0) :: news) → (∀ p ∈ news, p.1 < I) → Q (.ref I) { s with heap := h' }) :
    wpAny (model prog w) A (call (.builtin "iter") [.ref l]) Q E s := by
  refine call_function_entry (by decide +kernel) (by decide +kernel) kdk_entry_iter (kdk_args_iter _) ?_
  unfold Builtin.«iter»
  refine wpAny_bind (m := someArgs "iter" 1 2 _) (wpAny_of_eq (a := [Value.ref l]) (by first | rfl | kernel_rfl!) ?_)
  show wpAny _ _ (pyIter (.ref l) >>= _) _ _ _
  refine wpAny_bind (wpAny_pyIter_list hl ?_)
  exact wpAny_pure ⟨_, rfl, h _ _ (F.push _) (News.push F N _ rfl) (fun q hq => Heap.lt_size (N q hq).1)⟩

theorem it_isIter (ho : s.heap.get? I = some (itObj l i)) : s.heap.IsListIter I l i := ⟨_, ho, rfl, rfl⟩
theorem it_typeIs (ho : s.heap.get? I = some (itObj l i)) : s.TypeIs (.ref I) "list_iterator" := ⟨_, ho, rfl⟩

theorem it_iterSelf {Q : Value → Shared → Prop} (N : News h₀ L s.heap news) (hm : (I, itObj l i) ∈ news) (h : Q (.ref I) s) :
    wpAny (model prog w) A (call (.builtin "iter") [.ref I]) Q E s := by
  refine call_function_entry (by decide +kernel) (by decide +kernel) kdk_entry_iter (kdk_args_iter _) ?_
  unfold Builtin.«iter»
  refine wpAny_bind (m := someArgs "iter" 1 2 _) (wpAny_of_eq (a := [Value.ref I]) (by first | rfl | kernel_rfl!) ?_)
  show wpAny _ _ (pyIter (.ref I) >>= _) _ _ _
  refine wpAny_bind (wpAny_pyIter_listiter (it_isIter (N _ hm).1) ?_)
  exact wpAny_pure ⟨_, rfl, h⟩

theorem it_special {Q : Option Value → Shared → Prop} (ho : s.heap.get? I = some (itObj l i)) (hl : s.heap.IsList l vs.toArray) (hx : vs[i]? = some x)
    (hQ : ∀ h', h'.get? I = some (itObj l (i + 1)) → Heap.SameBut I s.heap h' → Q (some x) { s with heap := h' }) :
    wpAny (model prog w) A (callSpecial? (.ref I) (Str.ofString "__next__")) Q E s := by
  obtain ⟨ol, hol, _, nl, hdl⟩ := hl
  refine wpAny_callSpecial?_slot (name := Str.ofString "__next__") (it_typeIs ho) slot_listiter_next
    (wpAny_call_entry slot_listiter_next (it_typeIs ho) entry_listiter_next ?_ (args_listiter_next _))
  show wpAny _ _ (field (.ref I) 0 >>= _) _ _ s
  refine wpAny_bind (wpAny_field ho rfl (x := .ref l) rfl ?_)
  show wpAny _ _ (if (Value.ref l == Value.none) = true then _ else _) _ _ s
  rw [if_neg (show ¬ ((Value.ref l == Value.none) = true) from Bool.false_ne_true)]
  show wpAny _ _ (field (.ref I) 1 >>= _) _ _ s
  refine wpAny_bind (wpAny_field ho rfl (x := .int i 0) rfl ?_)
  show wpAny _ _ (seqItems? (.ref l) >>= _) _ _ s
  refine wpAny_bind (wpAny_seqItems hol hdl ?_)
  have hx' : vs.toArray[i]? = some x := by simpa using hx
  simp only [Int.toNat_natCast, hx']
  refine wpAny_bind (wpAny_setField ho rfl (by simp) (wpAny_pure ⟨x, rfl, hQ _ ?_ (Heap.SameBut.update ..)⟩))
  exact Heap.get?_update_self _ ho rfl

theorem it_next {Q : Value → Shared → Prop} (F : Fr h₀ L s.heap m) (N : News h₀ L s.heap news) (U : Upd I (itObj l i) (itObj l (i + 1)) news news') (hl : s.heap.IsList l vs.toArray) (hx : vs[i]? = some x)
    (h : ∀ h', Fr h₀ L h' m → News h₀ L h' news' → Q x { s with heap := h' }) :
    wpAny (model prog w) A (call (.builtin "next") [.ref I]) Q E s := by
  obtain ⟨pre, post, hl1, hg, a, b⟩ := U.split
  have hmem : (I, itObj l i) ∈ news := by rw [hl1]; exact List.mem_append_right _ (.head _)
  have hm := N _ hmem
  refine call_function_entry (by decide +kernel) (by decide +kernel) kdk_entry_next (kdk_args_next _) ?_
  unfold Builtin.«next»
  refine wpAny_bind (m := someArgs "next" 1 2 _) (wpAny_of_eq (a := [Value.ref I]) (by first | rfl | kernel_rfl!) ?_)
  dsimp only
  refine wpAny_bind (wpAny_specialOf (name := Str.ofString "__next__") (it_typeIs hm.1) slot_listiter_next.lookup ?_)
  refine wpAny_ite_split (fun hab => absurd hab (by decide)) (fun _ => ?_)
  refine wpAny_bind (it_special hm.1 hl hx fun h' ho' hs => ?_)
  refine wpAny_pure ⟨_, rfl, h h' (F.change hs hm.2.1 hm.2.2) ?_⟩
  rw [hg]
  exact (show News h₀ L s.heap (pre ++ (I, itObj l i) :: post) from hl1 ▸ N).setIn a b hs ho'

theorem it_pyNext {Q : Option Value → Shared → Prop} (ho : s.heap.get? I = some (itObj l i)) (hl : s.heap.IsList l vs.toArray) (hx : vs[i]? = some x)
    (hQ : ∀ h', h'.get? I = some (itObj l (i + 1)) → Heap.SameBut I s.heap h' → Q (some x) { s with heap := h' }) :
    wpAny (model prog w) A (pyNext (.ref I)) Q E s := by
  unfold pyNext
  exact wpAny_bind (wpAny_attempt (it_special ho hl hx fun h' a b => wpAny_pure (hQ h' a b)))

/-- the end of a list's iterator: it is marked as ended, StopIteration is made -/
theorem it_specialEnd {Q : Option Value → Shared → Prop} (hh : A.handled = none) (ho : s.heap.get? I = some (itObj l i)) (hl : s.heap.IsList l vs.toArray) (hx : vs[i]? = none)
    (hE : ∀ h₁ h' e, h₁.get? I = some (itEnd i) → Heap.SameBut I s.heap h₁ → Heap.NewExc h₁ h' e "StopIteration" → E (.ref e) { s with heap := h' }) :
    wpAny (model prog w) A (callSpecial? (.ref I) (Str.ofString "__next__")) Q E s := by
  obtain ⟨ol, hol, _, nl, hdl⟩ := hl
  refine wpAny_callSpecial?_slot (name := Str.ofString "__next__") (it_typeIs ho) slot_listiter_next
    (wpAny_call_entry slot_listiter_next (it_typeIs ho) entry_listiter_next ?_ (args_listiter_next _))
  show wpAny _ _ (field (.ref I) 0 >>= _) _ _ s
  refine wpAny_bind (wpAny_field ho rfl (x := .ref l) rfl ?_)
  show wpAny _ _ (if (Value.ref l == Value.none) = true then _ else _) _ _ s
  rw [if_neg (show ¬ ((Value.ref l == Value.none) = true) from Bool.false_ne_true)]
  show wpAny _ _ (field (.ref I) 1 >>= _) _ _ s
  refine wpAny_bind (wpAny_field ho rfl (x := .int i 0) rfl ?_)
  show wpAny _ _ (seqItems? (.ref l) >>= _) _ _ s
  refine wpAny_bind (wpAny_seqItems hol hdl ?_)
  have hx' : vs.toArray[i]? = none := by simpa using hx
  simp only [Int.toNat_natCast, hx']
  refine wpAny_bind (wpAny_rule (wpAny_bind (wpAny_setField ho rfl (by simp) ?_)))
  show wpAny _ _ (newExc (.type "StopIteration") [] >>= _) _ _ _
  refine wpAny_bind ?_
  simp only [newExc, newTuple]
  refine wpAny_bind (wpAny_newObj_type ?_ (by size_fits))
  refine wpAny_bind (m := firstArgMember _ _) (wpAny_of_eq (a := Value.none) (by first | rfl | (simp only [firstArgMember]; rfl)) ?_)
  refine wpAny_newObj_type ?_ (by size_fits)
  simp only [raiseNew]
  refine wpAny_bind (wpAny_handled ?_)
  rw [show A.in1.handled = none from hh]
  refine wpAny_bind (wpAny_pure (wpAny_throw ?_))
  refine hE (s.heap.update I (Obj.mapFields (·.setIfInBounds 0 .none))) _ _ (Heap.get?_update_self _ ho rfl) (Heap.SameBut.update ..) ⟨fun b o e => Heap.get?_push_of_some _ (Heap.get?_push_of_some _ e), ?_, ?_⟩
  · exact Heap.get?_none_of_le (by rw [Heap.size_push]; exact Nat.le_succ _)
  · exact ⟨_, _, Heap.get?_push_size _ rfl, rfl, rfl⟩

theorem it_pyNextEnd {Q : Option Value → Shared → Prop} (hh : A.handled = none) (ho : s.heap.get? I = some (itObj l i)) (hl : s.heap.IsList l vs.toArray) (hx : vs[i]? = none)
    (hQ : ∀ h', h'.get? I = some (itEnd i) → (∀ b o, b ≠ I → s.heap.get? b = some o → h'.get? b = some o) → Q none { s with heap := h' }) :
    wpAny (model prog w) A (pyNext (.ref I)) Q E s := by
  unfold pyNext
  refine wpAny_bind (wpAny_attempt (it_specialEnd hh ho hl hx fun h₁ h' e a b c => ?_))
  obtain ⟨ob, t, he, hc, hd⟩ := c.there
  refine wpAny_bind (wpAny_isInstance (T := "StopIteration") (b := true) ⟨_, he, hc⟩ isSubtype_stop ?_)
  exact wpAny_pure (hQ _ (c.keeps _ _ a) fun q o hq e => c.keeps _ _ (b.extBut q o hq e))

def ItTurnEnd (h₀ : Heap) (L I : Addr) (o : Obj) (J : (Str → Option Value) → List (Addr × Obj) → Prop) (s₁ s₂ : Shared) : Prop :=
  ∃ h' tk m' nx, s₂ = { s₁ with heap := h', toks := tk } ∧ Fr h₀ L h' m' ∧ News h₀ L h' ((I, o) :: nx) ∧ J m' nx
def ItPost (h₀ : Heap) (L I : Addr) (o : Obj) (J : (Str → Option Value) → List (Addr × Obj) → Prop) (s₁ : Shared) (Q : Flow → Shared → Prop) (f : Flow) (s₂ : Shared) : Prop :=
  match f with
  | .ret v => Q (.ret v) s₂
  | .brk => Q .next s₂
  | _ => ItTurnEnd h₀ L I o J s₁ s₂

/-- what stands between two turns of it_for -/
def ItInv (h₀ : Heap) (L I l : Addr) (J : Nat → (Str → Option Value) → List (Addr × Obj) → Prop) (N : Nat) (s₁ : Shared) (k : Nat) (s' : Shared) : Prop :=
  ∃ h' tk m' nx i, s' = { s₁ with heap := h', toks := tk } ∧ Fr h₀ L h' m' ∧ News h₀ L h' ((I, itObj l i) :: nx) ∧ J i m' nx ∧ i ≤ N ∧ k = N + 1 - i
theorem it_turn {h₀ : Heap} {L I l : Addr} {J : Nat → (Str → Option Value) → List (Addr × Obj) → Prop} {N i tk : Nat} {s₁ s₃ : Shared} {h₂ : Heap} (hlt : i < N) (h : ItTurnEnd h₀ L I (itObj l (i + 1)) (J (i + 1)) { s₁ with heap := h₂, toks := tk } s₃) :
    ∃ n, n < N + 1 - i ∧ ItInv h₀ L I l J N s₁ n s₃ := by
  obtain ⟨h₄, tk₄, m₄, nx₄, rfl, F₄, N₄, hJ₄⟩ := h
  exact ⟨N + 1 - (i + 1), by omega, h₄, tk₄, m₄, nx₄, i + 1, rfl, F₄, N₄, hJ₄, hlt, rfl⟩
/-- a for over a list's iterator that the ledger holds, from where it stands -/
theorem it_for {env : Env} {x : Str} {px pos : Pos} {iter : PySem.Expr} {body : List Stmt} {Q : Flow → Shared → Prop} {i₀ : Nat} {m₀ : Str → Option Value} {nx₀ : List (Addr × Obj)} (J : Nat → (Str → Option Value) → List (Addr × Obj) → Prop)
    (hh : A.handled = none) (hx : env.kindOf x = some .local) (hp : (env.scope.kind == .class || (env.scope.kind == .module && env.locals != env.globals)) = false)
    (hev : wpAny (model prog w) A (eval iter env) (fun xv s₁ => xv = .ref I ∧ s₁ = s) E s)
    (F : Fr h₀ env.locals s.heap m₀) (N : News h₀ env.locals s.heap ((I, itObj l i₀) :: nx₀))
    (hl : ∀ i m nx h, J i m nx → Fr h₀ env.locals h m → News h₀ env.locals h nx → h.IsList l vs.toArray)
    (hI : ∀ i m nx, J i m nx → ∀ p ∈ nx, p.1 ≠ I) (hi : i₀ ≤ vs.length) (hj : J i₀ m₀ nx₀)
    (turn : ∀ i v m nx h tk, vs[i]? = some v → J i m nx → Fr h₀ env.locals h (fun y => if y = x then some v else m y) → News h₀ env.locals h ((I, itObj l (i + 1)) :: nx) →
      wpAny (model prog w) A (execs body env) (ItPost h₀ env.locals I (itObj l (i + 1)) (J (i + 1)) { s with heap := h, toks := tk } Q) E { s with heap := h, toks := tk })
    (done : ∀ m nx h tk, J vs.length m nx → Fr h₀ env.locals h m → News h₀ env.locals h ((I, itEnd vs.length) :: nx) → Q .next { s with heap := h, toks := tk })
    (hs : ∀ x, foldedSetIterable iter env x = pure x := by intro _; rfl)
    (hE : PassesOwn (model prog w) A env E := by passes_own) :
    wpAny (model prog w) A (exec (.For (.Name x px) iter body [] pos) env) Q E s := by
  refine wpAny_For (wpAny_mono hev (fun xv s₁ h₁ => ?_) fun _ _ e => e) hs
  obtain ⟨rfl, rfl⟩ := h₁
  have hIL : I ≠ env.locals := (N _ (.head _)).2.1
  refine wpAny_pyIter_listiter (it_isIter (N _ (.head _)).1) ?_
  refine codeAny_forLoop (ItInv h₀ env.locals I l J vs.length s₁) ?_ (vs.length + 1 - i₀)
    ⟨s₁.heap, s₁.toks, m₀, nx₀, i₀, rfl, F, N, hj, hi, rfl⟩
  rintro k s' ⟨h', tk, m', nx, i, rfl, F', N', hJ, hi', rfl⟩
  have hIs := N' _ (.head _)
  have N₀ : News h₀ env.locals h' nx := fun p hp => N' p (.tail _ hp)
  have hli := hl i m' nx h' hJ F' N₀
  by_cases hlt : i < vs.length
  · refine it_pyNext (x := vs[i]) hIs.1 hli (by simp [hlt]) fun h₁ ho₁ hs₁ => ?_
    have F₁ := F'.change hs₁ hIs.2.1 hIs.2.2
    have N₁ : News h₀ env.locals h₁ ((I, itObj l (i + 1)) :: nx) := by
      have := (show News h₀ env.locals h' ([] ++ (I, itObj l i) :: nx) from N').setIn (fun p hp => (nomatch hp)) (hI i m' nx hJ) hs₁ ho₁
      exact this
    refine wpAny_assign_Name (wpAny_storeName_local hx F₁.ns (fun h₂ hn₂ hs₂ => ?_) hp)
    refine wpAny_passesOwn hE (wpAny_mono (turn i vs[i] m' nx h₂ _ (by simp [hlt]) hJ (F₁.set hn₂ hs₂) (N₁.set hs₂)) (fun f s₃ h₃ => ?_) fun _ _ e => e)
    cases f with
    | ret v => exact h₃
    | brk => exact h₃
    | next => exact it_turn hlt h₃
    | cont => exact it_turn hlt h₃
  · have hin : i = vs.length := by omega
    subst hin
    refine it_pyNextEnd hh hIs.1 hli (by simp) fun h₁ ho₁ hk₁ => wpAny_execs_nil ?_
    refine done m' nx h₁ tk hJ ⟨F'.ns.at' fun o e => hk₁ _ o (Ne.symm hIL) e, fun b o e => hk₁ b o (by rintro rfl; rw [hIs.2.2] at e; cases e) (F'.keep b o e), F'.above⟩ ?_
    intro p hp
    rcases List.mem_cons.mp hp with rfl | hp
    · exact ⟨ho₁, hIs.2⟩
    · exact ⟨hk₁ _ _ (hI _ m' nx hJ p hp) (N₀ p hp).1, (N₀ p hp).2⟩

end
end Mine
namespace Mine
open PySem PySem.W PySem.Calls PyProof.Rows PyProof.V PySem.Spec

/-- the powers' sum: what the law reckons for place k -/
def lessAt (sc : List Int) (k : Nat) : Int := ((rangeKs 1 k).map fun j => 2 ^ ((k : Int) - j).toNat * sc.getD j.toNat 0).sum
def valAt (sc : List Int) (k : Nat) : Int := 2 ^ k * sc.getD 0 0 - lessAt sc k
def valsTo (sc : List Int) (n : Nat) : List Int := (List.range n).map (valAt sc)
theorem valsTo_succ (sc : List Int) (n : Nat) : valsTo sc (n + 1) = valsTo sc n ++ [valAt sc n] := by
  unfold valsTo; rw [List.range_succ, List.map_append]; rfl
theorem valsTo_length (sc : List Int) (n : Nat) : (valsTo sc n).length = n := by simp [valsTo]

def KlEnd (h₀ : Heap) (L c I vl : Addr) (oI : Obj) (base : List (Addr × Obj)) (m₀ : Str → Option Value) (ns : List Int) (s₁ s₂ : Shared) : Prop :=
  ∃ h' tk m' oc' vs e, s₂ = { s₁ with heap := h', toks := tk } ∧ Fr h₀ L h' m' ∧ News h₀ L h' ((vl, W.listOf vs.toArray e) :: (c, oc') :: (I, oI) :: base) ∧ (∃ v, oc'.data = .cell v) ∧ IntsAre vs ns ∧ (∀ z, z ≠ Str.ofString "less" → m' z = m₀ z)
def KlPost (h₀ : Heap) (L c I vl : Addr) (oI : Obj) (base : List (Addr × Obj)) (m₀ : Str → Option Value) (ns : List Int) (s₁ : Shared) (Q : Flow → Shared → Prop) (f : Flow) (s₂ : Shared) : Prop :=
  match f with
  | .ret v => Q (.ret v) s₂
  | .brk => Q .next s₂
  | _ => KlEnd h₀ L c I vl oI base m₀ ns s₁ s₂
/-- the range's iterator, and what stands between two turns of kl_for -/
def rioObj (n i : Nat) : Obj := { cls := .type "range_iterator", data := .fields #[rawInt (i : Int), rawInt ((n : Int) - i), rawInt 1] }
def KlInv (h₀ : Heap) (L c I vl : Addr) (base : List (Addr × Obj)) (m₀ : Str → Option Value) (sc : List Int) (n : Nat) (s : Shared) (k : Nat) (s' : Shared) : Prop :=
  ∃ h' tk m' oc vs e i, s' = { s with heap := h', toks := tk } ∧ Fr h₀ L h' m' ∧ News h₀ L h' ((vl, W.listOf vs.toArray e) :: (c, oc) :: (I, rioObj n i) :: base) ∧ (∃ v, oc.data = .cell v) ∧ IntsAre vs (valsTo sc i) ∧ (∀ z, z ≠ Str.ofString "less" → m' z = m₀ z) ∧ i ≤ n ∧ k = n + 1 - i
theorem kl_turn {h₀ : Heap} {L c I vl : Addr} {base : List (Addr × Obj)} {m₀ : Str → Option Value} {sc : List Int} {n i tk : Nat} {s s₃ : Shared} {h₂ : Heap} (hin : i < n) (h : KlEnd h₀ L c I vl (rioObj n (i + 1)) base m₀ (valsTo sc (i + 1)) { s with heap := h₂, toks := tk } s₃) :
    ∃ k, k < n + 1 - i ∧ KlInv h₀ L c I vl base m₀ sc n s k s₃ := by
  obtain ⟨h₄, tk₄, m₄, oc₄, vs₄, e₄, rfl, F₄, N₄, hv₄, hi₄, hm₄⟩ := h
  exact ⟨n + 1 - (i + 1), by omega, h₄, tk₄, m₄, oc₄, vs₄, e₄, i + 1, rfl, F₄, N₄, hv₄, hi₄, hm₄, hin, rfl⟩

section
variable {prog : Program} {w : World} {A : Around} {E : Value → Shared → Prop} {s : Shared} {h₀ : Heap} {L a r c vl : Addr} {m₀ : Str → Option Value} {base : List (Addr × Obj)} {cn : Str} {cs : Scope} {cd : Value} {cl : List (Str × Addr)}
  {Q : Flow → Shared → Prop} {px : Pos} {body : List Stmt} {x : Str} {b₀ : Int} {t₀ u₀ v₀ : Tok} {n e₀ : Nat} {oc₀ : Obj} {sc : List Int}
theorem kl_for (hh : A.handled = none) (hr : IsRange s.heap r 0 b₀ 1 t₀ u₀ v₀) (hsmall : Builtin.Range.small 0 b₀ 1 = true) (hn : Builtin.Range.rangeSize 0 b₀ 1 = (n : Int))
    (hc : cl.lookup x = some c) (hx : (envX cn cs L a cd cl).kindOf x = some .cell)
    (F : Fr h₀ L s.heap m₀) (N : News h₀ L s.heap ((vl, W.listOf (#[] : Array Value) e₀) :: (c, oc₀) :: base)) (hoc : ∃ v, oc₀.data = .cell v) (hcb : ∀ p ∈ base, p.1 ≠ c) (hcv : vl ≠ c)
    (turn : ∀ (i : Nat) t oc vs e (u : Option Value) I oI h tk, i < n → IntsAre vs (valsTo sc i) → vs.length = i → oc.data = .cell (some (.int (i : Int) t)) → vl < I → c < I → (∀ p ∈ base, p.1 < I) →
      Fr h₀ L h (fun y => if y = Str.ofString "less" then u else m₀ y) → News h₀ L h ((vl, W.listOf vs.toArray e) :: (c, oc) :: (I, oI) :: base) →
      wpAny (model prog w) A (execs body (envX cn cs L a cd cl)) (KlPost h₀ L c I vl oI base m₀ (valsTo sc (i + 1)) { s with heap := h, toks := tk } Q) E { s with heap := h, toks := tk })
    (done : ∀ oc vs e (u : Option Value) h tk, IntsAre vs (valsTo sc n) → vs.length = n → (∃ v, oc.data = .cell v) → Fr h₀ L h (fun y => if y = Str.ofString "less" then u else m₀ y) → News h₀ L h ((vl, W.listOf vs.toArray e) :: (c, oc) :: base) → Q .next { s with heap := h, toks := tk })
    (hk : cs.kind = .function := by rfl) (hE : PassesOwn (model prog w) A (envX cn cs L a cd cl) E := by passes_own) :
    wpAny (model prog w) A (pyIter (.ref r)) (fun it s₂ => codeAny (model prog w) A (.forLoop (.Name x px) it body [] (envX cn cs L a cd cl)) (fun r s' => match r with | .ok f => Q f s' | .error e => cameBackBy (model prog w) A (envX cn cs L a cd cl) E e s') s₂) E s := by
  refine wpAny_pyIter_range hr hsmall ?_
  have hlt : ∀ p ∈ ((vl, W.listOf (#[] : Array Value) e₀) :: (c, oc₀) :: base), p.1 < s.heap.objs.size := fun p hp => Heap.lt_size (N p hp).1
  have hI0 : h₀.get? s.heap.objs.size = none := next_is_new F
  have hIL : s.heap.objs.size ≠ L := Nat.ne_of_gt F.ns.lt
  have sameM : ∀ {m : Str → Option Value}, (∀ z, z ≠ Str.ofString "less" → m z = m₀ z) → m = fun y => if y = Str.ofString "less" then m (Str.ofString "less") else m₀ y := fun {m} hm => by
    funext y
    by_cases h1 : y = Str.ofString "less"
    · rw [if_pos h1, h1]
    · rw [if_neg h1, hm y h1]
  refine codeAny_forLoop (KlInv h₀ L c s.heap.objs.size vl base m₀ sc n s) ?_ (n + 1)
    ⟨_, s.toks, m₀, oc₀, [], e₀, 0, rfl, F.push _, ?_, hoc, IntsAre.nil, fun _ _ => rfl, Nat.zero_le _, rfl⟩
  · rintro k s' ⟨h', tk, m', oc, vs, e, i, rfl, F', N', ⟨v₁, hv₁⟩, hi, hm, hin, rfl⟩
    have hIs := N' (s.heap.objs.size, rioObj n i) (.tail _ (.tail _ (.head _)))
    have hrit : IsRangeIter h' s.heap.objs.size (i : Int) ((n : Int) - i) 1 := hIs.1
    by_cases hin' : i < n
    · refine wpAny_pyNext_range_item hrit (by omega) fun h₁ hit₁ hs₁ => ?_
      have F₁ := F'.change hs₁ hIs.2.1 hIs.2.2
      have N₁ : News h₀ L h₁ ((vl, W.listOf vs.toArray e) :: (c, oc) :: (s.heap.objs.size, rioObj n (i + 1)) :: base) := by
        intro p hp
        have other : ∀ q : Addr × Obj, q ∈ ((vl, W.listOf vs.toArray e) :: (c, oc) :: (s.heap.objs.size, rioObj n i) :: base) → q.1 ≠ s.heap.objs.size → h₁.get? q.1 = some q.2 ∧ q.1 ≠ L ∧ h₀.get? q.1 = none := fun q hq hne => ⟨(hs₁.2 _ hne).trans (N' q hq).1, (N' q hq).2⟩
        rcases List.mem_cons.mp hp with rfl | hp
        · exact other _ (.head _) (Nat.ne_of_lt (hlt (vl, W.listOf (#[] : Array Value) e₀) (.head _)))
        · rcases List.mem_cons.mp hp with rfl | hp
          · exact other _ (.tail _ (.head _)) (Nat.ne_of_lt (hlt (c, oc₀) (.tail _ (.head _))))
          · rcases List.mem_cons.mp hp with rfl | hp
            · refine ⟨?_, hIs.2⟩
              have h2 : h₁.get? s.heap.objs.size = some { cls := .type "range_iterator", data := .fields #[rawInt ((i : Int) + 1), rawInt ((n : Int) - i - 1), rawInt 1] } := hit₁
              show h₁.get? s.heap.objs.size = some { cls := .type "range_iterator", data := .fields #[rawInt ((i + 1 : Nat) : Int), rawInt ((n : Int) - ((i + 1 : Nat) : Int)), rawInt 1] }
              rw [h2, show ((i + 1 : Nat) : Int) = (i : Int) + 1 from by omega, show (n : Int) - i - 1 = (n : Int) - ((i : Int) + 1) from by omega]
            · exact other _ (.tail _ (.tail _ (.tail _ hp))) (Nat.ne_of_lt (hlt p (.tail _ (.tail _ hp))))
      have hcI : s.heap.objs.size ≠ c := Nat.ne_of_gt (hlt (c, oc₀) (.tail _ (.head _)))
      refine wpAny_assign_Name (storeX_C (g := fun o' => (vl, W.listOf vs.toArray e) :: (c, o') :: (s.heap.objs.size, rioObj n (i + 1)) :: base) F₁ N₁ hc (.tail hcv (.head (fun p hp => ?_))) hv₁ (fun h₂ oc₂ F₂ N₂ hd₂ => ?_) hk hx)
      · rcases List.mem_cons.mp hp with rfl | hp
        · exact hcI
        · exact hcb p hp
      have hl := hi.length
      rw [valsTo_length] at hl
      rw [sameM hm] at F₂
      refine wpAny_passesOwn hE (wpAny_mono (turn i _ oc₂ vs e _ _ _ h₂ _ hin' hi hl hd₂ (hlt _ (.head _)) (hlt (c, oc₀) (.tail _ (.head _))) (fun p hp => hlt p (.tail _ (.tail _ hp))) F₂ N₂) (fun f s₃ h₃ => ?_) fun _ _ e => e)
      cases f with
      | ret v => exact h₃
      | brk => exact h₃
      | next => exact kl_turn hin' h₃
      | cont => exact kl_turn hin' h₃
    · obtain rfl : i = n := by omega
      refine wpAny_pyNext_range_end hh hrit (by omega) fun h₁ hk₁ => wpAny_execs_nil ?_
      have hl := hi.length
      rw [valsTo_length] at hl
      refine done oc vs e (m' (Str.ofString "less")) h₁ tk hi hl ⟨v₁, hv₁⟩ ?_ ?_
      · rw [← sameM hm]
        exact ⟨F'.ns.at' fun o e => hk₁ _ o (Ne.symm hIL) e, fun b o e => hk₁ b o (by rintro rfl; rw [hI0] at e; cases e) (F'.keep b o e), F'.above⟩
      · intro p hp
        have other : ∀ q : Addr × Obj, q ∈ ((vl, W.listOf vs.toArray e) :: (c, oc) :: (s.heap.objs.size, rioObj i i) :: base) → q.1 ≠ s.heap.objs.size → h₁.get? q.1 = some q.2 ∧ q.1 ≠ L ∧ h₀.get? q.1 = none := fun q hq hne => ⟨hk₁ _ _ hne (N' q hq).1, (N' q hq).2⟩
        rcases List.mem_cons.mp hp with rfl | hp
        · exact other _ (.head _) (Nat.ne_of_lt (hlt (vl, W.listOf (#[] : Array Value) e₀) (.head _)))
        · rcases List.mem_cons.mp hp with rfl | hp
          · exact other _ (.tail _ (.head _)) (Nat.ne_of_lt (hlt (c, oc₀) (.tail _ (.head _))))
          · exact other _ (.tail _ (.tail _ (.tail _ hp))) (Nat.ne_of_lt (hlt p (.tail _ (.tail _ hp))))
  · intro p hp
    rcases List.mem_cons.mp hp with rfl | hp
    · exact ⟨Heap.get?_push_of_some _ (N _ (.head _)).1, (N _ (.head _)).2⟩
    · rcases List.mem_cons.mp hp with rfl | hp
      · exact ⟨Heap.get?_push_of_some _ (N _ (.tail _ (.head _))).1, (N _ (.tail _ (.head _))).2⟩
      · rcases List.mem_cons.mp hp with rfl | hp
        · refine ⟨?_, hIL, hI0⟩
          show (Heap.push s.heap _).get? s.heap.objs.size = some { cls := .type "range_iterator", data := .fields #[rawInt ((0 : Nat) : Int), rawInt ((n : Int) - ((0 : Nat) : Int)), rawInt 1] }
          rw [hn, show ((0 : Nat) : Int) = 0 from rfl, Int.sub_zero]
          exact Heap.get?_push_size _ rfl
        · exact ⟨Heap.get?_push_of_some _ (N _ (.tail _ (.tail _ hp))).1, (N _ (.tail _ (.tail _ hp))).2⟩
theorem kl_for' {q : Addr × Obj} {ws : List Value} (uhsc : IntsAre ws sc) (hh : A.handled = none) (hr : IsRange s.heap r 0 b₀ 1 t₀ u₀ v₀) (F : Fr h₀ L s.heap m₀) (N : News h₀ L s.heap ((vl, W.listOf (#[] : Array Value) e₀) :: q :: (c, oc₀) :: base)) (hsmall : Builtin.Range.small 0 b₀ 1 = true) (hn : Builtin.Range.rangeSize 0 b₀ 1 = (n : Int))
    (hc : cl.lookup x = some c) (hx : (envX cn cs L a cd cl).kindOf x = some .cell)
    (hoc : ∃ v, oc₀.data = .cell v) (hcb : ∀ p ∈ q :: base, p.1 ≠ c) (hcv : vl ≠ c)
    (turn : ∀ (i : Nat) t oc vs e (u : Option Value) I oI h tk, i < n → IntsAre vs (valsTo sc i) → vs.length = i → oc.data = .cell (some (.int (i : Int) t)) → vl < I → c < I → (∀ p ∈ q :: base, p.1 < I) →
      Fr h₀ L h (fun y => if y = Str.ofString "less" then u else m₀ y) → News h₀ L h ((vl, W.listOf vs.toArray e) :: (c, oc) :: (I, oI) :: q :: base) →
      wpAny (model prog w) A (execs body (envX cn cs L a cd cl)) (KlPost h₀ L c I vl oI (q :: base) m₀ (valsTo sc (i + 1)) { s with heap := h, toks := tk } Q) E { s with heap := h, toks := tk })
    (done : ∀ oc vs e (u : Option Value) h tk, IntsAre vs (valsTo sc n) → vs.length = n → (∃ v, oc.data = .cell v) → Fr h₀ L h (fun y => if y = Str.ofString "less" then u else m₀ y) → News h₀ L h ((vl, W.listOf vs.toArray e) :: (c, oc) :: q :: base) → Q .next { s with heap := h, toks := tk })
    (hk : cs.kind = .function := by rfl) (hE : PassesOwn (model prog w) A (envX cn cs L a cd cl) E := by passes_own) :
    wpAny (model prog w) A (pyIter (.ref r)) (fun it s₂ => codeAny (model prog w) A (.forLoop (.Name x px) it body [] (envX cn cs L a cd cl)) (fun r s' => match r with | .ok f => Q f s' | .error e => cameBackBy (model prog w) A (envX cn cs L a cd cl) E e s') s₂) E s :=
  kl_for hh hr hsmall hn hc hx F (fun p hp => N p (by
    rcases List.mem_cons.mp hp with e | hp
    · rw [e]; exact .head _
    · rcases List.mem_cons.mp hp with e | hp
      · rw [e]; exact .tail _ (.tail _ (.head _))
      · rcases List.mem_cons.mp hp with e | hp
        · rw [e]; exact .tail _ (.head _)
        · exact .tail _ (.tail _ (.tail _ hp)))) hoc hcb hcv turn done hk hE
end
end Mine
namespace Mine
open PySem PySem.W PySem.Calls PyProof.Rows PyProof.V PySem.Spec

/-! A call of a def with cells and a try that calls on: the callee's ground is the caller's with the caller's frame, and nothing else. -/
structure TurnG (h₀ : Heap) (L : Addr) (oL : Obj) (g : Heap) : Prop where
  stays : h₀.StaysIn g
  frame : ∃ sl, g.get? L = some { oL with slots := sl }
  only : ∀ b o, g.get? b = some o → b ≠ L → h₀.get? b = some o
structure CallerT (h₀ : Heap) (L : Addr) (m : Str → Option Value) (oL : Obj) : Prop where
  ns : ∀ (h : Heap) sl, h.get? L = some { oL with slots := sl } → h.Ns L m
  dict : ∃ es ep, oL.data = .dict es ep
  above : h₀.objs.size ≤ L

def LeaveT (h₀ : Heap) (L : Addr) (m : Str → Option Value) (oL : Obj) (R : Result → Shared → Prop) (v : Value) (s' : Shared) : Prop :=
  ∃ g' L' m' news', TurnG h₀ L oL g' ∧ Fr g' L' s'.heap m' ∧ News g' L' s'.heap news' ∧ (Fr h₀ L s'.heap m → News h₀ L s'.heap news' → R (.ok (.ret v)) s')
theorem leaveT_ {h₀ g' : Heap} {L L' : Addr} {m m' : Str → Option Value} {oL : Obj} {news' : List (Addr × Obj)} {R : Result → Shared → Prop} {v : Value} {s' : Shared} (T : TurnG h₀ L oL g') (F' : Fr g' L' s'.heap m') (N' : News g' L' s'.heap news')
    (k : Fr h₀ L s'.heap m → News h₀ L s'.heap news' → R (.ok (.ret v)) s') : LeaveT h₀ L m oL R v s' := ⟨g', L', m', news', T, F', N', k⟩

theorem turnG_below {A : Around} {h₀ g : Heap} {L : Addr} {m : Str → Option Value} {oL : Obj} {env : Env} (C : CallerT h₀ L m oL) (T : TurnG h₀ L oL g) (hA : A.frames = some [env]) (hf : env.frame = some L) (hke : env.scope.kind = .function) : Below A h₀ [env] g := by
  obtain ⟨sl, hsl⟩ := T.frame
  obtain ⟨es, ep, hd⟩ := C.dict
  refine ⟨hA, T.stays, ?_⟩
  exact Heap.FunFrames.cons (by rw [hke]; decide) hf (C.ns _ sl hsl) (Heap.get?_none_of_le C.above) trivial

theorem leaveT_out {h₀ : Heap} {L : Addr} {m : Str → Option Value} {oL : Obj} {R : Result → Shared → Prop} {v : Value} {s' : Shared} (C : CallerT h₀ L m oL) (hl : LeaveT h₀ L m oL R v s') : R (.ok (.ret v)) s' := by
  obtain ⟨g', L', m', news', T, F', N', k⟩ := hl
  obtain ⟨sl, hsl⟩ := T.frame
  refine k ⟨C.ns _ sl (F'.keep _ _ hsl), fun b o e => F'.keep b o (T.stays b o e), C.above⟩ fun p hp => ⟨(N' p hp).1, fun q => ?_, ?_⟩
  · have := (N' p hp).2.2; rw [q, hsl] at this; cases this
  · cases q : h₀.get? p.1 with
    | none => rfl
    | some o => have := (N' p hp).2.2; rw [T.stays _ _ q] at this; cases this

section
variable {prog : Program} {w : World} {A₀ A : Around} {s : Shared} {h₀ : Heap} {L : Addr} {m mg mb : Str → Option Value} {env : Env} {news : List (Addr × Obj)} {K : Frag} {p : Program} {loose : List Str} {mean : ExcName → Option Value}
  {R : Result → Shared → Prop} {name qual : Str} {params : Arguments} {body : List Stmt} {scope : Scope} {dV kV doc pm cdv ct oc : Value} {an od : Option Addr} {osl : Array (Option Value)} {f : Addr} {args : Args} {binds : List (Str × Value)}

theorem code_told (F : Fr h₀ L s.heap m) (X₀ : K.In h₀) (N : News h₀ L s.heap news) (T : Top p loose mean mg mb h₀) (hA : A.frames = some [env]) (hf : env.frame = some L) (hke : env.scope.kind = .function)
    (ho : K.lookup f = some ⟨oc, od, .func (fnOf name qual params body scope dV kV doc pm an cdv ct), osl⟩) (hcd : codeIn K cdv qual = true) (hroom : A.depth < recursionLimit)
    (hbind : BindsTo s (fnOf name qual params body scope dV kV doc pm an cdv ct) args binds) (hkind : (binds.all fun y => scope.names.lookup y.1 == some .local || scope.names.lookup y.1 == some .cell) = true)
    (hnd : ((cellsFrom 0 scope.names []).map (·.1)).Nodup)
    (h : ∀ oL g L' h₁ tk cells, CallerT h₀ L m oL → TurnG h₀ L oL g → Fr g L' h₁ (bindL (envOfC qual scope L' f cdv).kindOf binds fun _ => none) → News g L' h₁ (cells ++ news) →
      CellsAre (bindC (envOfC qual scope L' f cdv).kindOf binds fun _ => none) (cellsFrom (L' + 1) scope.names []) cells → Below A h₀ [env] g → K.In g → Top p loose mean mg mb g → (∀ p ∈ news, p.1 < L') →
      wpAny (model prog w) (A.deeper (envOfC qual scope L' f cdv)) (execs body (envOfC qual scope L' f cdv))
        (fun fl s' => LeaveT h₀ L m oL R (match fl with | .ret v => v | _ => .none) s')
        (fun e s' => wpAny (model prog w) (A.deeper (envOfC qual scope L' f cdv)) (leaving (envOfC qual scope L' f cdv) e) (fun _ s'' => R (.error e) s'') (fun e' s'' => R (.error e') s'') s')
        { s with heap := h₁, toks := tk })
    (hco : scope.isCoroutine = false) (hgen : scope.isGenerator = false) (hk : scope.kind = .function) : codeAny (model prog w) A (.call (.ref f) args) R s := by
  obtain ⟨oL, es, ep, hL, hLd, hLk, hLf⟩ := id F.ns
  have C : CallerT h₀ L m oL := ⟨fun h' sl e => ⟨_, es, ep, e, hLd, hLk, hLf⟩, ⟨es, ep, hLd⟩, F.above⟩
  have hid : ∃ hid : List Addr, ∀ b, b ∈ hid ↔ (b < s.heap.objs.size ∧ h₀.get? b = none ∧ b ≠ L) := by
    refine ⟨(List.range s.heap.objs.size).filter fun b => (h₀.get? b).isNone && b != L, fun b => ?_⟩
    simp [List.mem_filter, and_assoc]
  obtain ⟨hid, hh⟩ := hid
  have nL : L ∉ hid := fun q => ((hh L).mp q).2.2 rfl
  have TG : TurnG h₀ L oL (hideAll s.heap hid) := by
    refine ⟨fun b o e => hideAll_get _ (F.keep b o e) fun q => ?_, ⟨oL.slots, hideAll_get _ hL nL⟩, fun b o e hne => ?_⟩
    · have := ((hh b).mp q).2.1
      rw [e] at this; cases this
    · have e1 := of_hideAll _ e
      cases q : h₀.get? b with
      | some o' =>
        have := F.keep b o' q
        rw [e1] at this
        exact this.symm
      | none =>
        have hb : b ∈ hid := (hh b).mpr ⟨Heap.lt_size e1, q, hne⟩
        rw [hideAll_none _ hb] at e
        cases e
  have X := X₀.keeps F.keep
  refine codeAny_call_function hroom (X _ _ ho) rfl hco hgen rfl (codeRec_of X hcd) (hbind _ _ _ _ ?_)
  refine wpAny_newFunctionEnv_cells hk (kindsX hkind _) fun env' he s' x => ?_
  subst he
  refine ⟨(T.nolimit.keeps F.keep).keeps x.toInCall.keep, codeAny_func ?_⟩
  obtain ⟨h₁, tk, rfl, _⟩ := x.done
  have hk₁ := x.toInCall.keep
  obtain ⟨cells, NC, Y⟩ := Cl.news (h₀ := s.heap) (Nat.le_refl _) fun n c hm => ⟨x.cell n c (lookup_of_mem_nodup (cellsFrom_names scope.names 0 (s.heap.objs.size + 1) [] [] rfl ▸ hnd) hm), x.above n c hm⟩
  refine wpAny_mono (h oL _ s.heap.objs.size h₁ tk cells C TG ⟨x.toInCall.ns, fun b o e => hk₁ b o (of_hideAll _ e), Nat.le_of_eq (hideAll_size _ _)⟩ (fun p hp => ?_) Y (turnG_below C TG hA hf hke) (X₀.keeps TG.stays) (T.keeps TG.stays) (fun p hp => Heap.lt_size (N p hp).1)) (fun fl s' hl => leaveT_out C hl) fun _ _ y => y
  rcases List.mem_append.mp hp with hp | hp
  · refine ⟨(NC p hp).1, (NC p hp).2.1, ?_⟩
    cases q : (hideAll s.heap hid).get? p.1 with
    | none => rfl
    | some o => have := of_hideAll _ q; rw [(NC p hp).2.2] at this; cases this
  · exact ⟨hk₁ _ _ (N p hp).1, Nat.ne_of_lt (Heap.lt_size (N p hp).1), hideAll_none _ ((hh p.1).mpr ⟨Heap.lt_size (N p hp).1, (N p hp).2.2, (N p hp).2.1⟩)⟩
end

section
variable {M : Model} {A : Around} {E : Value → Shared → Prop} {s' : Shared} {base g g₂ : Heap} {outer : List Env} {L a e t : Addr} {m : Str → Option Value} {name : Str} {scope : Scope} {cd : Value} {cl : List (Str × Addr)} {Q : Unit → Shared → Prop} {news : List (Addr × Obj)}
/-- an exception passes a frame with a closure -/
theorem leave_onKX {cls : Value} {vs : List Value} (K : Below A base outer g) (F : Fr g L g₂ m) (R : RaisedK base (envX name scope L a cd cl :: outer) e cls t vs news s'.heap) (hsm : g₂.UpToSlots s'.heap)
    (hQ : ∀ h', RaisedK base outer e cls t vs news h' → g.UpToSlots h' → Q () { s' with heap := h' }) :
    wpAny M (A.deeper (envX name scope L a cd cl)) (leaving (envX name scope L a cd cl) (.ref e)) Q E s' := by
  obtain ⟨⟨B, hB, hl, hfl, hnew⟩, htup⟩ := R
  exact wpAny_leaves_onW (Around.frames_deeper K.stack) rfl hfl fun h' x1 x2 => hQ h' ⟨⟨B, hB, hl, x1, hnew⟩, htup.of_slots x2⟩ ((Heap.UpToSlots.of_keeps F.keep).trans (hsm.trans x2))
end

section
variable {prog : Program} {w : World} {A : Around} {E : Value → Shared → Prop} {s' : Shared} {h₀ g G : Heap} {env : Env} {L Lt a e t : Addr} {m mt mg mb : Str → Option Value} {oL : Obj} {name : Str} {scope : Scope} {cd : Value} {cl : List (Str × Addr)}
  {vs : List Value} {b₀ : Stmt} {suite : List Stmt} {pos np : Pos} {rest : List ExceptHandler} {Q : Flow → Shared → Prop} {news : List (Addr × Obj)} {KF : Frag}
  {p : Program} {loose : List Str} {mean : ExcName → Option Value} {x : Str} {X T' : String}

theorem caught_told (C : CallerT h₀ L m oL) (TG : TurnG h₀ L oL g) (R : RaisedK h₀ [envX name scope Lt a cd cl, env] e (.type X) t vs news s'.heap) (F : Fr g Lt G mt) (K : Below A h₀ [env] g) (hsm : G.UpToSlots s'.heap) (XB : KF.In h₀) (TB : Top p loose mean mg mb h₀)
    (hf : env.frame = some L) (hke : env.scope.kind = .function)
    (ex : nsIn KF mainGlobals x = some none) (hv : bootBuiltins x = some (.type T')) (hn' : x ≠ "__name__")
    (hexc : isSubtype (.type T') (.type "BaseException") = pure true) (hnt : isSubtype (.type ((Manifest.find? T').elim "type" fun y => y.metatype)) (.type "tuple") = pure false) (hsub : isSubtype (.type X) (.type T') = pure true)
    (k : ∀ h' g', TurnG h₀ L oL g' → Fr g' Lt h' mt → News g' Lt h' news → Below A h₀ [env] g' → KF.In g' → Top p loose mean mg mb g' →
      wpAny (model prog w) ((A.deeper (envX name scope Lt a cd cl)).mark (some (.ref e))) (execs (b₀ :: suite) (envX name scope Lt a cd cl)) Q E { s' with heap := h' })
    (hk : scope.kind = .function := by rfl) (hx : (envX name scope Lt a cd cl).kindOf x = some .globalImplicit := by rfl) (hd : (x == ("__debug__" : Str)) = false := by decide)
    (hE : PassesOwnAt (model prog w) ((A.deeper (envX name scope Lt a cd cl)).mark (some (.ref e))) (A.deeper (envX name scope Lt a cd cl)) (envX name scope Lt a cd cl) E := by passes_own) :
    wpAny (model prog w) (A.deeper (envX name scope Lt a cd cl)) (noteFrame (.ref e) (envX name scope Lt a cd cl))
      (fun _ s₂ => wpAny (model prog w) (A.deeper (envX name scope Lt a cd cl)) (setFlight (.ref e) none) (fun _ s₃ =>
        wpAny (model prog w) (A.deeper (envX name scope Lt a cd cl)) (handleBy (.ref e) (envX name scope Lt a cd cl) (.ExceptHandler (some (.Name x np)) none (b₀ :: suite) pos :: rest)) Q E s₃) E s₂) E s' := by
  obtain ⟨⟨B, hB, hl, hfl, hnew⟩, htup⟩ := R
  obtain ⟨sl₀, hsl₀⟩ := TG.frame
  obtain ⟨es, ep, hdL⟩ := C.dict
  have hLt : B.get? Lt = none := by
    obtain ⟨_, ⟨L', _, hf', hn', _⟩, _⟩ := hfl.2.2.1
    obtain rfl : Lt = L' := Option.some.inj hf'
    exact hn'
  -- the ground anew, at a heap that the exception has left
  have ground : ∀ h₅ : Heap, B.StaysIn h₅ → G.UpToSlots h₅ → ∃ g', TurnG h₀ L oL g' ∧ Fr g' Lt h₅ mt ∧ ∀ b, g.get? b = none → g'.get? b = none := by
    intro h₅ hBh hs5
    have hL5 : ∃ sl, h₅.get? L = some { oL with slots := sl } := by
      obtain ⟨sl, hsl⟩ := hs5 L _ (F.keep _ _ hsl₀) (fun vs q => by rw [show ({ oL with slots := sl₀ } : Obj).data = oL.data from rfl, hdL] at q; cases q)
      exact ⟨sl, hsl⟩
    obtain ⟨sl5, hsl5⟩ := hL5
    obtain ⟨T, S⟩ := kts_turn_at (h := h₅) (fs := [L]) (g := g)
      (fun b hb => by rw [List.mem_singleton.mp hb]; exact ⟨_, hsl₀⟩)
      (fun b o e nm => hBh b o (hB b o (TG.only b o e (fun q => nm (by rw [q]; exact List.mem_singleton.mpr rfl)))))
      (fun b o e hm => by
        have hbL := List.mem_singleton.mp hm
        subst hbL
        rw [hsl₀] at e
        cases e
        exact ⟨sl5, hsl5⟩)
    refine ⟨_, ⟨fun b o e => T.other b o (TG.stays b o e) (fun q => ?_), ?_, fun b o e hne => ?_⟩, ⟨hs5.ns F.ns, S, by rw [T.size]; exact F.above⟩, T.none_⟩
    · rw [List.mem_singleton.mp q, Heap.get?_none_of_le C.above] at e
      cases e
    · obtain ⟨sl, hsl⟩ := T.frame L _ hsl₀ (List.mem_singleton.mpr rfl)
      exact ⟨sl, hsl⟩
    · rw [ktsHeap_ne [L] (fun q => hne (List.mem_singleton.mp q))] at e
      exact TG.only b o e hne
  have newsAt : ∀ (h₅ g' : Heap), B.StaysIn h₅ → TurnG h₀ L oL g' → News g' Lt h₅ news := by
    intro h₅ g' hBh TG' q hq
    refine ⟨hBh _ _ (hl q hq).1, (fun z => by have := (hl q hq).1; rw [z, hLt] at this; cases this), ?_⟩
    cases hz : g'.get? q.1 with
    | none => rfl
    | some o =>
      by_cases hqL : q.1 = L
      · -- the frame of the caller is none of the base's
        have hBL : B.get? L = none := by
          obtain ⟨_, _, ⟨_, ⟨L'', _, hf', hn', _⟩, _⟩⟩ := hfl.2.2.1
          rw [hf] at hf'
          obtain rfl : L = L'' := Option.some.inj hf'
          exact hn'
        have := (hl q hq).1
        rw [hqL, hBL] at this
        cases this
      · have := TG'.only _ _ hz hqL
        rw [(hl q hq).2] at this
        cases this
  refine wpAny_looks_onW (Around.frames_deeper K.stack) rfl hfl fun h₄ hheld₄ hsm₄ => ?_
  refine wpAny_landsW hheld₄ fun h₅ hheld hsm₅' => ?_
  have hsm₅ := hsm₄.trans hsm₅'
  obtain ⟨g₅, T₅, F₅, _⟩ := ground h₅ hheld.1 (hsm.trans hsm₅)
  have X₅ : KF.In g₅ := XB.keeps T₅.stays
  have P₅ : TopRead p loose mg mb g₅ := topRead_of (TB.keeps T₅.stays)
  obtain ⟨ob, hob, hobc⟩ := hheld.there
  refine wpAny_handleBy_builtin (X := X) (T := T') (b := true) hexc hnt hsub (nameX_B F₅ X₅ P₅ ex hv hn' ⟨rfl, ⟨ob, hob, hobc⟩, ?_⟩ hk hx hd)
  refine lands_againW hheld fun h₆ hfl₆ hsm₆ => ?_
  obtain ⟨g₆, T₆, F₆, _⟩ := ground h₆ hfl₆.1 ((hsm.trans hsm₅).trans hsm₆)
  exact wpAny_passesOwnAt hE (k h₆ g₆ T₆ F₆ (newsAt h₆ g₆ hfl₆.1 T₆) (turnG_below C T₆ K.stack hf hke) (XB.keeps T₆.stays) (TB.keeps T₆.stays))
end
end Mine
namespace Mine
open PySem PySem.W PySem.Calls PyProof.Rows PyProof.V PySem.Spec

/-- what the step has told behind place k -/
def fV (sc : List Int) : Nat → Int
  | 0 => sc.getD 0 0
  | k + 1 => 2 * fV sc k - sc.getD (k + 1) 0
def vD (sc : List Int) : Nat → Dat
  | 0 => .none
  | k + 1 => .int (fV sc k)
def callD (sc : List Int) (j : Nat) : Dat := .tuple [vD sc j, .int (sc.getD j 0)]
def callsD (sc : List Int) (i₀ c : Nat) : List Dat := (List.range c).map fun j => callD sc (i₀ + j)
theorem callsD_succ (sc : List Int) (i₀ c : Nat) : callsD sc i₀ (c + 1) = callsD sc i₀ c ++ [callD sc (i₀ + c)] := by
  unfold callsD; rw [List.range_succ, List.map_append]; rfl
theorem callsD_length (sc : List Int) (i₀ c : Nat) : (callsD sc i₀ c).length = c := by simp [callsD]
def NoStop (stop : Int) (c : Nat) : Prop := ∀ j : Nat, 0 < j → j ≤ c → (j : Int) ≠ stop
theorem noStop_zero (stop : Int) : NoStop stop 0 := fun j h1 h2 => by omega
theorem noStop_succ {stop : Int} {c : Nat} (h : NoStop stop c) (h1 : ((c + 1 : Nat) : Int) ≠ stop) : NoStop stop (c + 1) := fun j a b => by
  by_cases hj : j = c + 1
  · rw [hj]; exact h1
  · exact h j a (by omega)

def Hold (P : Prop) : Prop := P
theorem hold {P : Prop} (h : Hold P) : P := h
structure StopIs (stop : Int) : Prop where
  mark :: (one : True)
theorem stopIs (stop : Int) : StopIs stop := ⟨trivial⟩
def pairObj (v x : Value) : Obj := { cls := .type "tuple", data := .seq #[v, x] }

def Red1 (I ca : Addr) (m₀ : Str → Option Value) (base : List (Addr × Obj)) (sc : List Int) (stop : Int) (i₀ i : Nat) (m : Str → Option Value) (nx : List (Addr × Obj)) : Prop :=
  i₀ ≤ i ∧ ∃ v cs e own, m (Str.ofString "value") = some v ∧ DatIn [] v (vD sc i) ∧ (∀ z, z ≠ Str.ofString "element" → z ≠ Str.ofString "value" → m z = m₀ z) ∧
    nx = (ca, W.listOf cs.toArray e) :: (base ++ own) ∧ DatAll own cs (callsD sc i₀ (i - i₀)) ∧ OwnOff own [I, ca] ∧ NoStop stop (i - i₀)

/-- the end of a turn -/
def R1End (h₀ : Heap) (L I ca D : Addr) (m₀ : Str → Option Value) (base : List (Addr × Obj)) (sc : List Int) (stop : Int) (i₀ i : Nat) (s₁ s₂ : Shared) : Prop :=
  ∃ h' tk m' v cs e own, s₂ = { s₁ with heap := h', toks := tk } ∧ Fr h₀ L h' m' ∧ News h₀ L h' ((I, itObj D (i + 1)) :: (ca, W.listOf cs.toArray e) :: (base ++ own)) ∧ m' (Str.ofString "value") = some v ∧ DatIn [] v (vD sc (i + 1)) ∧
    (∀ z, z ≠ Str.ofString "element" → z ≠ Str.ofString "value" → m' z = m₀ z) ∧ DatAll own cs (callsD sc i₀ (i + 1 - i₀)) ∧ OwnOff own [I, ca] ∧ NoStop stop (i + 1 - i₀)
def R1Post (h₀ : Heap) (L I ca D : Addr) (m₀ : Str → Option Value) (base : List (Addr × Obj)) (sc : List Int) (stop : Int) (i₀ i : Nat) (s₁ : Shared) (Q : Flow → Shared → Prop) (f : Flow) (s₂ : Shared) : Prop :=
  match f with
  | .ret v => Q (.ret v) s₂
  | .brk => Q .next s₂
  | _ => R1End h₀ L I ca D m₀ base sc stop i₀ i s₁ s₂

section
variable {prog : Program} {w : World} {A : Around} {E : Value → Shared → Prop} {s : Shared} {h₀ : Heap} {L D I ca fa : Addr} {m₀ : Str → Option Value} {base : List (Addr × Obj)} {ws : List Value} {sc : List Int} {i₀ e₀ n : Nat} {stop : Int} {v₀ : Value}
  {name : Str} {scope : Scope} {cd : Value} {Q : Flow → Shared → Prop} {px py pos : Pos} {body : List Stmt} {lo : Obj}

theorem red1_for (hh : A.handled = none) (F : Fr h₀ L s.heap m₀) (N : News h₀ L s.heap ((I, itObj D i₀) :: (ca, W.listOf (#[] : Array Value) e₀) :: base)) (hv : m₀ (Str.ofString "value") = some v₀) (hV : DatIn [] v₀ (vD sc i₀)) (hit : m₀ (Str.ofString "it") = some (.ref I))
    (hlm : (D, lo) ∈ base) (hlc : lo.cls = .type "list") (hld : lo.data = .seq ws.toArray n) (hI : IntsAre ws sc) (hi : i₀ ≤ sc.length) (hsep : ∀ p ∈ base, p.1 ≠ I) (hca : ca ≠ I)
    (turn : ∀ (i : Nat) v x t cs e own h tk, i₀ ≤ i → i < sc.length → x = sc.getD i 0 → DatIn [] v (vD sc i) → DatAll own cs (callsD sc i₀ (i - i₀)) → cs.length = i - i₀ → OwnOff own [I, ca] → NoStop stop (i - i₀) →
      Fr h₀ L h (fun y => if y = Str.ofString "element" then some (.int x t) else if y = Str.ofString "value" then some v else m₀ y) →
      News h₀ L h ((I, itObj D (i + 1)) :: (ca, W.listOf cs.toArray e) :: (base ++ own)) →
      wpAny (model prog w) A (execs body (envOf name scope L fa cd)) (R1Post h₀ L I ca D m₀ base sc stop i₀ i { s with heap := h, toks := tk } Q) E { s with heap := h, toks := tk })
    (done : ∀ v cs e own (u : Str → Option Value) h tk, DatIn [] v (vD sc sc.length) → DatAll own cs (callsD sc i₀ (sc.length - i₀)) → cs.length = sc.length - i₀ → OwnOff own [I, ca] → NoStop stop (sc.length - i₀) →
      Fr h₀ L h (fun y => if y = Str.ofString "element" then u y else if y = Str.ofString "value" then some v else m₀ y) →
      News h₀ L h ((I, itEnd sc.length) :: (ca, W.listOf cs.toArray e) :: (base ++ own)) → Q .next { s with heap := h, toks := tk })
    (hx : (envOf name scope L fa cd).kindOf (Str.ofString "element") = some .local := by rfl) (hxi : (envOf name scope L fa cd).kindOf (Str.ofString "it") = some .local := by rfl) (hk : scope.kind = .function := by rfl)
    (hE : PassesOwn (model prog w) A (envOf name scope L fa cd) E := by passes_own) :
    wpAny (model prog w) A (exec (.For (.Name (Str.ofString "element") px) (.Name (Str.ofString "it") py) body [] pos) (envOf name scope L fa cd)) Q E s := by
  have hlen : ws.length = sc.length := hI.length
  refine it_for (env := envOf name scope L fa cd) (vs := ws) (l := D) (I := I) (i₀ := i₀) (m₀ := m₀) (nx₀ := (ca, W.listOf (#[] : Array Value) e₀) :: (base ++ [])) (Red1 I ca m₀ base sc stop i₀) hh hx (by show (scope.kind == .class || (scope.kind == .module && L != mainGlobals)) = false; rw [hk]; rfl)
    (ld F hit ⟨rfl, rfl⟩ hk hxi (by decide)) F (by rw [List.append_nil]; exact N) ?_ ?_ (by omega) ⟨Nat.le_refl _, v₀, [], e₀, [], hv, hV, fun _ _ _ => rfl, rfl, by rw [Nat.sub_self]; exact .nil, fun _ h => (nomatch h), by rw [Nat.sub_self]; exact noStop_zero _⟩ ?_ ?_ (by intro _; rfl) hE
  · rintro i m nx h ⟨_, v, cs, e, own, _, _, _, rfl, _⟩ _ N'
    exact ⟨_, (N' _ (.tail _ (List.mem_append_left _ hlm))).1, hlc, n, hld⟩
  · rintro i m nx ⟨_, v, cs, e, own, _, _, _, rfl, _, ho, _⟩ p hp
    rcases List.mem_cons.mp hp with rfl | hp
    · exact hca
    · rcases List.mem_append.mp hp with hp | hp
      · exact hsep p hp
      · exact ho p hp I (.head _)
  · rintro i w' m nx h tk hw ⟨hle, v, cs, e, own, hmv, hvd, hmz, rfl, hda, ho, hns⟩ F' N'
    have hlt : i < ws.length := by
      rcases Nat.lt_or_ge i ws.length with q | q
      · exact q
      · rw [List.getElem?_eq_none q] at hw; cases hw
    have hlt' : i < sc.length := by omega
    obtain ⟨t, ht⟩ := hI.get i sc[i] (by simp [hlt'])
    rw [hw] at ht
    obtain rfl : w' = .int sc[i] t := Option.some.inj ht
    have ex : sc[i] = sc.getD i 0 := by simp [hlt']
    have em : (fun y => if y = Str.ofString "element" then some (Value.int sc[i] t) else m y) = fun y => if y = Str.ofString "element" then some (Value.int sc[i] t) else if y = Str.ofString "value" then some v else m₀ y := by
      funext y
      by_cases h1 : y = Str.ofString "element"
      · rw [if_pos h1, if_pos h1]
      · rw [if_neg h1, if_neg h1]
        by_cases h2 : y = Str.ofString "value"
        · rw [if_pos h2, h2, hmv]
        · rw [if_neg h2, hmz y h1 h2]
    rw [em] at F'
    have hcl := hda.length
    rw [callsD_length] at hcl
    refine wpAny_mono (turn i v _ t cs e own h tk hle hlt' ex hvd hda hcl ho hns F' N') (fun f s₂ h₂ => ?_) fun _ _ e => e
    have up : R1End h₀ L I ca D m₀ base sc stop i₀ i { s with heap := h, toks := tk } s₂ → ItTurnEnd h₀ L I (itObj D (i + 1)) (Red1 I ca m₀ base sc stop i₀ (i + 1)) { s with heap := h, toks := tk } s₂ := by
      rintro ⟨h', tk', m', v', cs', e', own', q0, F'', N'', q1, q2, q3, q4, q5, q6⟩
      exact ⟨h', tk', m', _, q0, F'', N'', by omega, v', cs', e', own', q1, q2, q3, rfl, q4, q5, q6⟩
    cases f with
    | ret v => exact h₂
    | brk => exact h₂
    | next => exact up h₂
    | cont => exact up h₂
  · rintro m nx h tk ⟨_, v, cs, e, own, hmv, hvd, hmz, rfl, hda, ho, hns⟩ F' N'
    rw [hlen] at hvd hda hns N'
    have hcl := hda.length
    rw [callsD_length] at hcl
    have em : m = fun y => if y = Str.ofString "element" then m y else if y = Str.ofString "value" then some v else m₀ y := by
      funext y
      by_cases h1 : y = Str.ofString "element"
      · rw [if_pos h1]
      · rw [if_neg h1]
        by_cases h2 : y = Str.ofString "value"
        · rw [if_pos h2, h2, hmv]
        · rw [if_neg h2, hmz y h1 h2]
    refine done v cs e own m h tk hvd hda hcl ho hns ?_ N'
    rw [← em]; exact F'

/-- a turn's end where the tuple (v₁, x) is new -/
theorem ints_head {ws : List Value} {sc : List Int} (hI : IntsAre ws sc) (hne : 0 < sc.length) : ∃ t, ws[0]? = some (.int (sc.getD 0 0) t) := by
  obtain ⟨t, ht⟩ := hI.get 0 (sc.getD 0 0) (by rw [List.getD_eq_getElem?_getD, List.getElem?_eq_getElem hne]; rfl)
  exact ⟨t, ht⟩
theorem vD_zero {v : Value} {sc : List Int} (h : DatIn [] v (vD sc 0)) : v = .none := by
  cases h; rfl
theorem vD_succ {v : Value} {sc : List Int} {k : Nat} (h : DatIn [] v (vD sc (k + 1))) : ∃ t, v = .int (fV sc k) t := by
  cases h; exact ⟨_, rfl⟩
theorem vD_pos {v : Value} {sc : List Int} {i : Nat} (h : DatIn [] v (vD sc i)) (hi : 0 < i) : ∃ k t, i = k + 1 ∧ v = .int (fV sc k) t := by
  cases i with
  | zero => omega
  | succ k => obtain ⟨t, ht⟩ := vD_succ h; exact ⟨k, t, rfl, ht⟩
theorem len_snoc {news : List (Addr × Obj)} {l : Addr} {cs : List Value} {v : Value} {c k : Nat} {Q : Value → Shared → Prop} (N : News h₀ L s.heap news) (hm : (l, W.listOf (cs ++ [v]).toArray c) ∈ news) (hcl : cs.length = k) (hk : k < 2 ^ 20)
    (h : Q (.int ((k + 1 : Nat) : Int) (s.toks + 1)) { s with toks := s.toks + 1 + 1 }) : wpAny (model prog w) A (call (.builtin "len") [.ref l]) Q E s :=
  kst_len N hm (by simp [hcl]) (by omega) h
theorem vD_next {sc : List Int} {k : Nat} {x : Int} {t : Tok} (hx : x = sc.getD (k + 1) 0) : DatIn [] (.int (2 * fV sc k - x) t) (vD sc (k + 1 + 1)) := by
  rw [hx]; exact DatIn.int _ _
theorem vD_first {sc : List Int} {x : Int} {t : Tok} (hx : x = sc.getD 0 0) : DatIn [] (.int x t) (vD sc (0 + 1)) := by
  rw [hx]; exact DatIn.int _ _
theorem isExc_SI : isSubtype (.type "StopIteration") (.type "BaseException") = pure true := by rw [isSubtype_type]; kernel_rfl
theorem notTuple_SI : isSubtype (.type ((Manifest.find? "StopIteration").elim "type" fun x => x.metatype)) (.type "tuple") = pure false := by
  rw [show ((Manifest.find? "StopIteration").elim "type" fun x => x.metatype) = "type" from by kernel_rfl, isSubtype_type]; kernel_rfl
theorem isSub_SI : isSubtype (.type "StopIteration") (.type "StopIteration") = pure true := by rw [isSubtype_type]; kernel_rfl
end
end Mine
namespace Mine
open PySem PySem.W PySem.Calls PyProof.Rows PyProof.V PySem.Spec

/-- what is told, and how many calls are made -/
abbrev InRange (sc : List Int) (i₀ : Nat) (stop : Int) : Prop := 0 < stop ∧ stop ≤ ((sc.length - i₀ : Nat) : Int)
def toldRes (sc : List Int) (i₀ : Nat) (stop : Int) : List Dat := if InRange sc i₀ stop then [.str (Str.ofString "stopped")] else [.str (Str.ofString "told"), .int (fV sc (sc.length - 1))]
def toldCnt (sc : List Int) (i₀ : Nat) (stop : Int) : Nat := if InRange sc i₀ stop then stop.toNat else sc.length - i₀
def toldCalls (sc : List Int) (i₀ : Nat) (stop : Int) : List Dat := callsD sc i₀ (toldCnt sc i₀ stop)
/-- an iterator that still holds the items from place j on -/
def ItRest (oI : Obj) (D : Addr) (n j : Nat) : Prop := oI = itObj D j ∨ (∃ k, oI = itEnd k) ∧ n ≤ j

theorem inRange_of {sc : List Int} {i₀ i : Nat} {stop : Int} (hle : i₀ ≤ i) (hlt : i < sc.length) (h : ((i - i₀ + 1 : Nat) : Int) = stop) : InRange sc i₀ stop ∧ stop.toNat = i - i₀ + 1 := by
  refine ⟨⟨by omega, by omega⟩, by omega⟩
theorem notRange_of {sc : List Int} {i₀ : Nat} {stop : Int} (h : NoStop stop (sc.length - i₀)) : ¬ InRange sc i₀ stop := by
  rintro ⟨h1, h2⟩
  exact h stop.toNat (by omega) (by omega) (by omega)

def Keeps3 (news : List (Addr × Obj)) (ca I P : Addr) (g : Obj → Obj → Obj → List (Addr × Obj)) : Prop :=
  ∀ X Y Z, ∀ p ∈ g X Y Z, p = (ca, X) ∨ p = (I, Y) ∨ p = (P, Z) ∨ (p ∈ news ∧ p.1 ≠ ca ∧ p.1 ≠ I ∧ p.1 ≠ P)
def Keeps2 (news : List (Addr × Obj)) (ca P : Addr) (g : Obj → Obj → List (Addr × Obj)) : Prop :=
  ∀ X Z, ∀ p ∈ g X Z, p = (ca, X) ∨ p = (P, Z) ∨ (p ∈ news ∧ p.1 ≠ ca ∧ p.1 ≠ P)
theorem updF_mem {d : Addr} {o X : Obj} {l : List (Addr × Obj)} {g : Obj → List (Addr × Obj)} (U : UpdF d o l g) {p : Addr × Obj} (hp : p ∈ g X) : p = (d, X) ∨ (p ∈ l ∧ p.1 ≠ d) := by
  obtain ⟨pre, post, rfl, hg, a, b⟩ := U.split
  rw [hg] at hp
  rcases List.mem_append.mp hp with hp | hp
  · exact .inr ⟨List.mem_append_left _ hp, a p hp⟩
  · rcases List.mem_cons.mp hp with rfl | hp
    · exact .inl rfl
    · exact .inr ⟨List.mem_append_right _ (.tail _ hp), b p hp⟩
theorem keeps3_of {news : List (Addr × Obj)} {ca I P : Addr} {o1 o2 o3 : Obj} {g1 : Obj → List (Addr × Obj)} {g2 : Obj → Obj → List (Addr × Obj)} {g : Obj → Obj → Obj → List (Addr × Obj)}
    (U1 : UpdF ca o1 news g1) (U2 : ∀ X, UpdF I o2 (g1 X) (g2 X)) (U3 : ∀ X Y, UpdF P o3 (g2 X Y) (g X Y)) : Keeps3 news ca I P g := by
  intro X Y Z p hp
  rcases updF_mem (U3 X Y) hp with h | ⟨h, hP⟩
  · exact .inr (.inr (.inl h))
  · rcases updF_mem (U2 X) h with h | ⟨h, hI⟩
    · exact .inr (.inl h)
    · rcases updF_mem U1 h with h | ⟨h, hc⟩
      · exact .inl h
      · exact .inr (.inr (.inr ⟨h, hc, hI, hP⟩))
theorem keeps2_of {news : List (Addr × Obj)} {ca P : Addr} {o1 o3 : Obj} {g1 : Obj → List (Addr × Obj)} {g : Obj → Obj → List (Addr × Obj)}
    (U1 : UpdF ca o1 news g1) (U3 : ∀ X, UpdF P o3 (g1 X) (g X)) : Keeps2 news ca P g := by
  intro X Z p hp
  rcases updF_mem (U3 X) hp with h | ⟨h, hP⟩
  · exact .inr (.inl h)
  · rcases updF_mem U1 h with h | ⟨h, hc⟩
    · exact .inl h
    · exact .inr (.inr ⟨h, hc, hP⟩)
/-- the rest of a ledger, apart from some addresses -/
theorem rest_of (news : List (Addr × Obj)) (adr : List Addr) : ∃ rest, (∀ p, p ∈ rest ↔ p ∈ news ∧ p.1 ∉ adr) ∧ OwnOff rest adr := by
  refine ⟨news.filter fun p => decide (p.1 ∉ adr), fun p => by simp [List.mem_filter], fun p hp b hb e => ?_⟩
  have := (List.mem_filter.mp hp).2
  simp at this
  exact this (e ▸ hb)
def tab1 (c : Addr) : Obj := tabObj (#[] ++ #[rawInt ((22 : Nat) : Int), rawInt ((11 : Nat) : Int), .ref c])
def lamQual : Str := Str.ofString "_law_told" ++ Str.ofString ".<locals>." ++ Str.ofString "<lambda>"

theorem told_res_in {sc : List Int} {i₀ : Nat} {stop : Int} {t : Tok} {own : List (Addr × Obj)} (h : InRange sc i₀ stop) : DatAll own [.str (Str.ofString "stopped") t] (toldRes sc i₀ stop) := by
  unfold toldRes; rw [if_pos h]; exact .cons (.str _ _) .nil
theorem told_res_out {sc : List Int} {i₀ : Nat} {stop : Int} {t u : Tok} {own : List (Addr × Obj)} {k : Nat} (h : ¬ InRange sc i₀ stop) (hk : sc.length = k + 1) : DatAll own [.str (Str.ofString "told") t, .int (fV sc k) u] (toldRes sc i₀ stop) := by
  unfold toldRes; rw [if_neg h, show k = sc.length - 1 from by omega]; exact .cons (.str _ _) (.cons (.int _ _) .nil)
theorem told_calls_out {sc : List Int} {i₀ : Nat} {stop : Int} {own : List (Addr × Obj)} {cs : List Value} (h : ¬ InRange sc i₀ stop) (hda : DatAll own cs (callsD sc i₀ (sc.length - i₀))) : DatAll own cs (toldCalls sc i₀ stop) := by
  unfold toldCalls toldCnt; rw [if_neg h]; exact hda
theorem told_calls_in {sc : List Int} {i₀ i : Nat} {stop : Int} {own : List (Addr × Obj)} {cs : List Value} {at' : Addr} {v : Value} {x : Int} {t : Tok} (h : InRange sc i₀ stop) (hs : stop.toNat = i - i₀ + 1) (hle : i₀ ≤ i)
    (hda : DatAll own cs (callsD sc i₀ (i - i₀))) (hvd : DatIn [] v (vD sc i)) (hx : x = sc.getD i 0) : DatAll ((at', pairObj v (.int x t)) :: own) (cs ++ [Value.ref at']) (toldCalls sc i₀ stop) := by
  unfold toldCalls toldCnt
  rw [if_pos h, hs, callsD_succ]
  refine DatAll.append (hda.mono fun p hp => .tail _ hp) (.one ?_)
  rw [show i₀ + (i - i₀) = i from by omega, callD, hx.symm]
  exact DatIn.tuple (vs := [v, .int x t]) (n := 0) (.head _) (.cons (hvd.mono (fun _ h => by cases h)) (.cons (.int _ _) .nil))

theorem updF_iff {d : Addr} {o X : Obj} {l : List (Addr × Obj)} {g : Obj → List (Addr × Obj)} (U : UpdF d o l g) (p : Addr × Obj) : p ∈ g X ↔ p = (d, X) ∨ (p ∈ l ∧ p.1 ≠ d) := by
  refine ⟨updF_mem U, ?_⟩
  obtain ⟨pre, post, rfl, hg, a, b⟩ := U.split
  rw [hg]
  rintro (rfl | ⟨h, hd⟩)
  · exact List.mem_append_right _ (.head _)
  · rcases List.mem_append.mp h with h | h
    · exact List.mem_append_left _ h
    · rcases List.mem_cons.mp h with rfl | h
      · exact absurd rfl hd
      · exact List.mem_append_right _ (.tail _ h)

def R1EndV (h₀ : Heap) (L I D : Addr) (m₀ : Str → Option Value) (g : Obj → Obj → List (Addr × Obj)) (ca : Addr) (sc : List Int) (stop : Int) (i₀ i : Nat) (s₁ s₂ : Shared) : Prop :=
  ∃ h' tk m' v cs e own, s₂ = { s₁ with heap := h', toks := tk } ∧ Fr h₀ L h' m' ∧ News h₀ L h' (g (itObj D (i + 1)) (W.listOf cs.toArray e) ++ own) ∧ m' (Str.ofString "value") = some v ∧ DatIn [] v (vD sc (i + 1)) ∧
    (∀ z, z ≠ Str.ofString "element" → z ≠ Str.ofString "value" → m' z = m₀ z) ∧ DatAll own cs (callsD sc i₀ (i + 1 - i₀)) ∧ OwnOff own [I, ca] ∧ NoStop stop (i + 1 - i₀)
def R1PostV (h₀ : Heap) (L I D : Addr) (m₀ : Str → Option Value) (g : Obj → Obj → List (Addr × Obj)) (ca : Addr) (sc : List Int) (stop : Int) (i₀ i : Nat) (s₁ : Shared) (Q : Flow → Shared → Prop) (f : Flow) (s₂ : Shared) : Prop :=
  match f with
  | .ret v => Q (.ret v) s₂
  | .brk => Q .next s₂
  | _ => R1EndV h₀ L I D m₀ g ca sc stop i₀ i s₁ s₂
section
variable {prog : Program} {w : World} {A : Around} {E : Value → Shared → Prop} {s : Shared} {h₀ : Heap} {L D I ca fa : Addr} {m₀ : Str → Option Value} {ws : List Value} {sc : List Int} {i₀ e₀ n : Nat} {stop : Int} {v₀ : Value}
  {name : Str} {scope : Scope} {cd : Value} {Q : Flow → Shared → Prop} {px py pos : Pos} {body : List Stmt} {lo : Obj}
theorem red1_forV {nx₀ : List (Addr × Obj)} {g1 : Obj → List (Addr × Obj)} {g : Obj → Obj → List (Addr × Obj)} (hh : A.handled = none) (F : Fr h₀ L s.heap m₀) (uhst : StopIs stop) (N : News h₀ L s.heap nx₀) (hit : m₀ (Str.ofString "it") = some (.ref I)) (hIm : (I, itObj D i₀) ∈ nx₀) (hcm : (ca, W.listOf (#[] : Array Value) e₀) ∈ nx₀)
    (U1 : UpdF I (itObj D i₀) nx₀ g1) (U2 : ∀ X, UpdF ca (W.listOf (#[] : Array Value) e₀) (g1 X) (g X)) (hv : m₀ (Str.ofString "value") = some v₀) (hV : DatIn [] v₀ (vD sc i₀))
    (hlm : (D, lo) ∈ nx₀) (hDc : D ≠ ca) (hDI : D ≠ I) (hcI : ca ≠ I) (hlc : lo.cls = .type "list") (hld : lo.data = .seq ws.toArray n) (hI : IntsAre ws sc) (hi : i₀ ≤ sc.length)
    (turn : ∀ (i : Nat) v x t cs e own h tk, i₀ ≤ i → i < sc.length → x = sc.getD i 0 → DatIn [] v (vD sc i) → DatAll own cs (callsD sc i₀ (i - i₀)) → cs.length = i - i₀ → OwnOff own [I, ca] → NoStop stop (i - i₀) →
      Fr h₀ L h (fun y => if y = Str.ofString "element" then some (.int x t) else if y = Str.ofString "value" then some v else m₀ y) →
      News h₀ L h (g (itObj D (i + 1)) (W.listOf cs.toArray e) ++ own) →
      wpAny (model prog w) A (execs body (envOf name scope L fa cd)) (R1PostV h₀ L I D m₀ g ca sc stop i₀ i { s with heap := h, toks := tk } Q) E { s with heap := h, toks := tk })
    (done : ∀ v cs e own (u : Str → Option Value) h tk, DatIn [] v (vD sc sc.length) → DatAll own cs (callsD sc i₀ (sc.length - i₀)) → cs.length = sc.length - i₀ → OwnOff own [I, ca] → NoStop stop (sc.length - i₀) →
      Fr h₀ L h (fun y => if y = Str.ofString "element" then u y else if y = Str.ofString "value" then some v else m₀ y) →
      News h₀ L h (g (itEnd sc.length) (W.listOf cs.toArray e) ++ own) → Q .next { s with heap := h, toks := tk })
    (hx : (envOf name scope L fa cd).kindOf (Str.ofString "element") = some .local := by rfl) (hxi : (envOf name scope L fa cd).kindOf (Str.ofString "it") = some .local := by rfl) (hk : scope.kind = .function := by rfl)
    (hE : PassesOwn (model prog w) A (envOf name scope L fa cd) E := by passes_own) :
    wpAny (model prog w) A (exec (.For (.Name (Str.ofString "element") px) (.Name (Str.ofString "it") py) body [] pos) (envOf name scope L fa cd)) Q E s := by
  obtain ⟨base, hb, hO⟩ := rest_of nx₀ [I, ca]
  have hb' : ∀ p, p ∈ base ↔ p ∈ nx₀ ∧ p.1 ≠ I ∧ p.1 ≠ ca := fun p => by rw [hb]; simp
  have perm : ∀ (X Y : Obj) (own : List (Addr × Obj)) (p : Addr × Obj), p ∈ (I, X) :: (ca, Y) :: (base ++ own) ↔ p ∈ g X Y ++ own := by
    intro X Y own p
    rw [List.mem_append, updF_iff (U2 X), updF_iff U1, List.mem_cons, List.mem_cons, List.mem_append, hb']
    constructor
    · rintro (h | h | ⟨h1, h2, h3⟩ | h)
      · exact .inl (.inr ⟨.inl h, by rw [h]; exact Ne.symm hcI⟩)
      · exact .inl (.inl h)
      · exact .inl (.inr ⟨.inr ⟨h1, h2⟩, h3⟩)
      · exact .inr h
    · rintro ((h | ⟨h | ⟨h1, h2⟩, h3⟩) | h)
      · exact .inr (.inl h)
      · exact .inl h
      · exact .inr (.inr (.inl ⟨h1, h2, h3⟩))
      · exact .inr (.inr (.inr h))
  refine red1_for (D := D) (ca := ca) (base := base) (e₀ := e₀) (i₀ := i₀) (lo := lo) (n := n) (ws := ws) (stop := stop) hh F (fun p hp => ?_) hv hV hit ((hb' _).mpr ⟨hlm, hDI, hDc⟩) hlc hld hI hi (fun p hp => ((hb' p).mp hp).2.1) hcI ?_ ?_ hx hxi hk hE
  · rcases List.mem_cons.mp hp with rfl | hp
    · exact N _ hIm
    · rcases List.mem_cons.mp hp with rfl | hp
      · exact N _ hcm
      · exact N _ ((hb' p).mp hp).1
  · intro i v x t cs e own h tk a1 a2 a3 a4 a5 a6 a7 a8 F' N'
    refine wpAny_mono (turn i v x t cs e own h tk a1 a2 a3 a4 a5 a6 a7 a8 F' (fun p hp => N' p ((perm _ _ _ p).mpr hp))) (fun f s₂ h₂ => ?_) fun _ _ e => e
    have up : R1EndV h₀ L I D m₀ g ca sc stop i₀ i { s with heap := h, toks := tk } s₂ → R1End h₀ L I ca D m₀ base sc stop i₀ i { s with heap := h, toks := tk } s₂ := by
      rintro ⟨h', tk', m', v', cs', e', own', q0, F'', N'', r⟩
      exact ⟨h', tk', m', v', cs', e', own', q0, F'', (fun p hp => N'' p ((perm _ _ _ p).mp hp)), r⟩
    cases f with
    | ret v => exact h₂
    | brk => exact h₂
    | next => exact up h₂
    | cont => exact up h₂
  · intro v cs e own u h tk a1 a2 a3 a4 a5 F' N'
    exact done v cs e own u h tk a1 a2 a3 a4 a5 F' (fun p hp => N' p ((perm _ _ _ p).mpr hp))
theorem red1_endV {g : Obj → Obj → List (Addr × Obj)} {s₁ : Shared} {h' : Heap} {tk : Nat} {m' : Str → Option Value} {news' own : List (Addr × Obj)} {cs : List Value} {e i : Nat} {at' : Addr} {v v' : Value} {x : Int} {t : Tok}
    (F : Fr h₀ L h' m') (N : News h₀ L h' news') (hv : m' (Str.ofString "value") = some v') (hm : ∀ z, z ≠ Str.ofString "element" → z ≠ Str.ofString "value" → m' z = m₀ z)
    (uhcm : (ca, W.listOf (cs ++ [Value.ref at']).toArray e) ∈ news') (hb : ∀ p ∈ g (itObj D (i + 1)) (W.listOf (cs ++ [Value.ref at']).toArray e), p ∈ news') (ht : (at', pairObj v (.int x t)) ∈ news') (ho : ∀ p ∈ own, p ∈ news')
    (hvd : DatIn [] v (vD sc i)) (hx : x = sc.getD i 0) (hvd' : DatIn [] v' (vD sc (i + 1))) (hda : DatAll own cs (callsD sc i₀ (i - i₀))) (hle : i₀ ≤ i) (hoff : OwnOff own [I, ca]) (h1 : at' ≠ I) (h2 : at' ≠ ca) (hns : NoStop stop (i - i₀)) (hst : ((i - i₀ + 1 : Nat) : Int) ≠ stop) :
    R1EndV h₀ L I D m₀ g ca sc stop i₀ i s₁ { s₁ with heap := h', toks := tk } := by
  have e1 : i + 1 - i₀ = i - i₀ + 1 := by omega
  refine ⟨h', tk, m', v', cs ++ [Value.ref at'], e, (at', pairObj v (.int x t)) :: own, rfl, F, fun p hp => N p ?_, hv, hvd', hm, ?_, ?_, ?_⟩
  · rcases List.mem_append.mp hp with hp | hp
    · exact hb p hp
    · rcases List.mem_cons.mp hp with rfl | hp
      · exact ht
      · exact ho p hp
  · rw [e1, callsD_succ]
    refine DatAll.append (hda.mono fun p hp => .tail _ hp) (.one ?_)
    rw [show i₀ + (i - i₀) = i from by omega, callD, hx.symm]
    exact DatIn.tuple (vs := [v, .int x t]) (n := 0) (.head _) (.cons (hvd.mono (fun _ h => by cases h)) (.cons (.int _ _) .nil))
  · intro p hp b hb'
    rcases List.mem_cons.mp hp with rfl | hp
    · rcases List.mem_cons.mp hb' with rfl | hb'
      · exact h1
      · rw [List.mem_singleton.mp hb']; exact h2
    · exact hoff p hp b hb'
  · rw [e1]; exact noStop_succ hns hst
end
end Mine
namespace Mine
open PySem PySem.W PySem.Calls PyProof.Rows PyProof.V PySem.Spec

def ToldQ3 (h₀ : Heap) (L : Addr) (m : Str → Option Value) (g : Obj → Obj → Obj → List (Addr × Obj)) (D I : Addr) (sc : List Int) (i₀ : Nat) (stop : Int) (Q : Value → Shared → Prop) (s : Shared) : Prop :=
  ∀ r c' oc vs tq rs cs e oI own h' tk, Fr h₀ L h' m → News h₀ L h' ((r, W.listOf rs.toArray 0) :: (c', oc) :: (g (W.listOf cs.toArray e) oI (tab1 c') ++ own)) → oc.data = .fields vs → vs[1]? = some (.str lamQual tq) → LT.lt (α := Nat) I r → LT.lt (α := Nat) I c' → OwnOff own [I] →
    ItRest oI D sc.length (i₀ + toldCnt sc i₀ stop) → DatAll own rs (toldRes sc i₀ stop) → DatAll own cs (toldCalls sc i₀ stop) → Q (.ref r) { s with heap := h', toks := tk }
def ToldQ2 (h₀ : Heap) (L : Addr) (m : Str → Option Value) (g : Obj → Obj → List (Addr × Obj)) (D I : Addr) (sc : List Int) (i₀ : Nat) (stop : Int) (Q : Value → Shared → Prop) (s : Shared) : Prop :=
  ∀ r rs cs e oI own h' tk, Fr h₀ L h' m → News h₀ L h' ((r, W.listOf rs.toArray 0) :: (g (W.listOf cs.toArray e) oI ++ own)) → LT.lt (α := Nat) I r → OwnOff own [I] →
    ItRest oI D sc.length (i₀ + toldCnt sc i₀ stop) → DatAll own rs (toldRes sc i₀ stop) → DatAll own cs (toldCalls sc i₀ stop) → Q (.ref r) { s with heap := h', toks := tk }
def ToldQ1 (h₀ : Heap) (L : Addr) (m : Str → Option Value) (g : Obj → List (Addr × Obj)) (sc : List Int) (i₀ : Nat) (stop : Int) (Q : Value → Shared → Prop) (s : Shared) : Prop :=
  ∀ r rs cs e own h' tk, Fr h₀ L h' m → News h₀ L h' ((r, W.listOf rs.toArray 0) :: (g (W.listOf cs.toArray e) ++ own)) →
    DatAll own rs (toldRes sc i₀ stop) → DatAll own cs (toldCalls sc i₀ stop) → Q (.ref r) { s with heap := h', toks := tk }
def Keeps1 (news : List (Addr × Obj)) (ca : Addr) (g : Obj → List (Addr × Obj)) : Prop :=
  ∀ X, ∀ p ∈ g X, p = (ca, X) ∨ (p ∈ news ∧ p.1 ≠ ca)
theorem keeps1_of {news : List (Addr × Obj)} {ca : Addr} {o1 : Obj} {g : Obj → List (Addr × Obj)} (U1 : UpdF ca o1 news g) : Keeps1 news ca g := fun _ _ hp => updF_mem U1 hp

section
variable {h₀ : Heap} {L D I ca r c' at' : Addr} {m : Str → Option Value} {sc : List Int} {i₀ i e tk k : Nat} {stop x : Int} {Q : Value → Shared → Prop} {s : Shared} {h' : Heap} {news rest nK own : List (Addr × Obj)} {cs : List Value} {oc : Obj} {vs : Array Value} {tq t1 t2 t : Tok} {v : Value}

theorem itRest_in (hle : i₀ ≤ i) (hlt : i < sc.length) (hst : ((i - i₀ + 1 : Nat) : Int) = stop) : ItRest (itObj D (i + 1)) D sc.length (i₀ + toldCnt sc i₀ stop) := by
  obtain ⟨a, b⟩ := inRange_of hle hlt hst
  refine .inl ?_
  unfold toldCnt
  rw [if_pos a, b, show i₀ + (i - i₀ + 1) = i + 1 from by omega]
theorem itRest_out {j : Nat} (hns : NoStop stop (sc.length - i₀)) (h : i₀ ≤ sc.length) : ItRest (itEnd j) D sc.length (i₀ + toldCnt sc i₀ stop) := by
  refine .inr ⟨⟨_, rfl⟩, ?_⟩
  unfold toldCnt
  rw [if_neg (notRange_of hns)]
  omega
theorem off_cons (hoff : OwnOff own [I, ca]) (h : at' ≠ I) (o : Obj) : OwnOff ((at', o) :: own) [I] := by
  intro p hp b hb
  rw [List.mem_singleton.mp hb]
  rcases List.mem_cons.mp hp with rfl | hp
  · exact h
  · exact hoff p hp I (.head _)
theorem off_head (hoff : OwnOff own [I, ca]) : OwnOff own [I] := by
  intro p hp b hb
  rw [List.mem_singleton.mp hb]
  exact hoff p hp I (.head _)

theorem told3_in {g : Obj → Obj → Obj → List (Addr × Obj)} (hQ : ToldQ3 h₀ L m g D I sc i₀ stop Q s) (hKp : Keeps3 news ca I 32 g) (hr : ∀ p, p ∈ rest ↔ p ∈ news ∧ p.1 ∉ [ca, I, 32]) (kF : Fr h₀ L h' m) (kN : News h₀ L h' nK)
    (h1 : (r, W.listOf #[Value.str (Str.ofString "stopped") t1] 0) ∈ nK) (h2 : (32, tab1 c') ∈ nK) (h3 : (c', oc) ∈ nK) (hoc : oc.data = .fields vs) (hvs : vs[1]? = some (.str lamQual tq))
    (h4 : (ca, W.listOf (cs ++ [Value.ref at']).toArray e) ∈ nK) (h5 : (at', pairObj v (.int x t)) ∈ nK) (h6 : (I, itObj D (i + 1)) ∈ nK) (hda : DatAll own cs (callsD sc i₀ (i - i₀))) (h7 : ∀ p ∈ rest, p ∈ nK) (h8 : ∀ p ∈ own, p ∈ nK)
    (hoff : OwnOff own [I, ca]) (hle : i₀ ≤ i) (hlt : i < sc.length) (hst : ((i - i₀ + 1 : Nat) : Int) = stop) (hvd : DatIn [] v (vD sc i)) (hx : x = sc.getD i 0) (l1 : LT.lt (α := Nat) I r) (l2 : LT.lt (α := Nat) I c') (l3 : LT.lt (α := Nat) I at') :
    Q (.ref r) { s with heap := h', toks := tk } := by
  obtain ⟨a, b⟩ := inRange_of hle hlt hst
  refine hQ r c' oc vs tq [Value.str (Str.ofString "stopped") t1] (cs ++ [Value.ref at']) e (itObj D (i + 1)) ((at', pairObj v (.int x t)) :: own) h' tk kF (fun p hp => kN p ?_) hoc hvs l1 l2 (off_cons hoff (Nat.ne_of_gt l3) _) (itRest_in hle hlt hst) (told_res_in a) (told_calls_in a b hle hda hvd hx)
  rcases List.mem_cons.mp hp with rfl | hp
  · exact h1
  · rcases List.mem_cons.mp hp with rfl | hp
    · exact h3
    · rcases List.mem_append.mp hp with hp | hp
      · rcases hKp _ _ _ p hp with rfl | rfl | rfl | ⟨q1, q2, q3, q4⟩
        · exact h4
        · exact h6
        · exact h2
        · exact h7 p ((hr p).mpr ⟨q1, by simp [q2, q3, q4]⟩)
      · rcases List.mem_cons.mp hp with rfl | hp
        · exact h5
        · exact h8 p hp
theorem told3_out {g : Obj → Obj → Obj → List (Addr × Obj)} (hQ : ToldQ3 h₀ L m g D I sc i₀ stop Q s) (hKp : Keeps3 news ca I 32 g) (hr : ∀ p, p ∈ rest ↔ p ∈ news ∧ p.1 ∉ [ca, I, 32]) (kF : Fr h₀ L h' m) (kN : News h₀ L h' nK)
    (h1 : (r, W.listOf #[Value.str (Str.ofString "told") t1, Value.int (fV sc k) t2] 0) ∈ nK) (h2 : (32, tab1 c') ∈ nK) (h3 : (c', oc) ∈ nK) (hoc : oc.data = .fields vs) (hvs : vs[1]? = some (.str lamQual tq))
    (h4 : (ca, W.listOf cs.toArray e) ∈ nK) (h6 : (I, itEnd sc.length) ∈ nK) (hda : DatAll own cs (callsD sc i₀ (sc.length - i₀))) (h7 : ∀ p ∈ rest, p ∈ nK) (h8 : ∀ p ∈ own, p ∈ nK)
    (hoff : OwnOff own [I, ca]) (hle : i₀ ≤ sc.length) (hns : NoStop stop (sc.length - i₀)) (hk : sc.length = k + 1) (l1 : LT.lt (α := Nat) I r) (l2 : LT.lt (α := Nat) I c') :
    Q (.ref r) { s with heap := h', toks := tk } := by
  refine hQ r c' oc vs tq [Value.str (Str.ofString "told") t1, Value.int (fV sc k) t2] cs e (itEnd sc.length) own h' tk kF (fun p hp => kN p ?_) hoc hvs l1 l2 (off_head hoff) (itRest_out hns hle) (told_res_out (notRange_of hns) hk) (told_calls_out (notRange_of hns) hda)
  rcases List.mem_cons.mp hp with rfl | hp
  · exact h1
  · rcases List.mem_cons.mp hp with rfl | hp
    · exact h3
    · rcases List.mem_append.mp hp with hp | hp
      · rcases hKp _ _ _ p hp with rfl | rfl | rfl | ⟨q1, q2, q3, q4⟩
        · exact h4
        · exact h6
        · exact h2
        · exact h7 p ((hr p).mpr ⟨q1, by simp [q2, q3, q4]⟩)
      · exact h8 p hp
theorem told2_in {g : Obj → Obj → List (Addr × Obj)} (hQ : ToldQ2 h₀ L m g D I sc i₀ stop Q s) (hKp : Keeps2 news ca I g) (hr : ∀ p, p ∈ rest ↔ p ∈ news ∧ p.1 ∉ [ca, I]) (kF : Fr h₀ L h' m) (kN : News h₀ L h' nK)
    (h1 : (r, W.listOf #[Value.str (Str.ofString "stopped") t1] 0) ∈ nK) (h4 : (ca, W.listOf (cs ++ [Value.ref at']).toArray e) ∈ nK) (h5 : (at', pairObj v (.int x t)) ∈ nK) (h6 : (I, itObj D (i + 1)) ∈ nK) (hda : DatAll own cs (callsD sc i₀ (i - i₀))) (h7 : ∀ p ∈ rest, p ∈ nK) (h8 : ∀ p ∈ own, p ∈ nK)
    (hoff : OwnOff own [I, ca]) (hle : i₀ ≤ i) (hlt : i < sc.length) (hst : ((i - i₀ + 1 : Nat) : Int) = stop) (hvd : DatIn [] v (vD sc i)) (hx : x = sc.getD i 0) (l1 : LT.lt (α := Nat) I r) (l3 : LT.lt (α := Nat) I at') :
    Q (.ref r) { s with heap := h', toks := tk } := by
  obtain ⟨a, b⟩ := inRange_of hle hlt hst
  refine hQ r [Value.str (Str.ofString "stopped") t1] (cs ++ [Value.ref at']) e (itObj D (i + 1)) ((at', pairObj v (.int x t)) :: own) h' tk kF (fun p hp => kN p ?_) l1 (off_cons hoff (Nat.ne_of_gt l3) _) (itRest_in hle hlt hst) (told_res_in a) (told_calls_in a b hle hda hvd hx)
  rcases List.mem_cons.mp hp with rfl | hp
  · exact h1
  · rcases List.mem_append.mp hp with hp | hp
    · rcases hKp _ _ p hp with rfl | rfl | ⟨q1, q2, q3⟩
      · exact h4
      · exact h6
      · exact h7 p ((hr p).mpr ⟨q1, by simp [q2, q3]⟩)
    · rcases List.mem_cons.mp hp with rfl | hp
      · exact h5
      · exact h8 p hp
theorem told2_out {g : Obj → Obj → List (Addr × Obj)} (hQ : ToldQ2 h₀ L m g D I sc i₀ stop Q s) (hKp : Keeps2 news ca I g) (hr : ∀ p, p ∈ rest ↔ p ∈ news ∧ p.1 ∉ [ca, I]) (kF : Fr h₀ L h' m) (kN : News h₀ L h' nK)
    (h1 : (r, W.listOf #[Value.str (Str.ofString "told") t1, Value.int (fV sc k) t2] 0) ∈ nK) (h4 : (ca, W.listOf cs.toArray e) ∈ nK) (h6 : (I, itEnd sc.length) ∈ nK) (hda : DatAll own cs (callsD sc i₀ (sc.length - i₀))) (h7 : ∀ p ∈ rest, p ∈ nK) (h8 : ∀ p ∈ own, p ∈ nK)
    (hoff : OwnOff own [I, ca]) (hle : i₀ ≤ sc.length) (hns : NoStop stop (sc.length - i₀)) (hk : sc.length = k + 1) (l1 : LT.lt (α := Nat) I r) :
    Q (.ref r) { s with heap := h', toks := tk } := by
  refine hQ r [Value.str (Str.ofString "told") t1, Value.int (fV sc k) t2] cs e (itEnd sc.length) own h' tk kF (fun p hp => kN p ?_) l1 (off_head hoff) (itRest_out hns hle) (told_res_out (notRange_of hns) hk) (told_calls_out (notRange_of hns) hda)
  rcases List.mem_cons.mp hp with rfl | hp
  · exact h1
  · rcases List.mem_append.mp hp with hp | hp
    · rcases hKp _ _ p hp with rfl | rfl | ⟨q1, q2, q3⟩
      · exact h4
      · exact h6
      · exact h7 p ((hr p).mpr ⟨q1, by simp [q2, q3]⟩)
    · exact h8 p hp
theorem told1_in {g : Obj → List (Addr × Obj)} (hQ : ToldQ1 h₀ L m g sc i₀ stop Q s) (hKp : Keeps1 news ca g) (hr : ∀ p, p ∈ rest ↔ p ∈ news ∧ p.1 ∉ [ca]) (kF : Fr h₀ L h' m) (kN : News h₀ L h' nK)
    (h1 : (r, W.listOf #[Value.str (Str.ofString "stopped") t1] 0) ∈ nK) (h4 : (ca, W.listOf (cs ++ [Value.ref at']).toArray e) ∈ nK) (h5 : (at', pairObj v (.int x t)) ∈ nK) (hda : DatAll own cs (callsD sc i₀ (i - i₀))) (h7 : ∀ p ∈ rest, p ∈ nK) (h8 : ∀ p ∈ own, p ∈ nK)
    (hle : i₀ ≤ i) (hlt : i < sc.length) (hst : ((i - i₀ + 1 : Nat) : Int) = stop) (hvd : DatIn [] v (vD sc i)) (hx : x = sc.getD i 0) : Q (.ref r) { s with heap := h', toks := tk } := by
  obtain ⟨a, b⟩ := inRange_of hle hlt hst
  refine hQ r [Value.str (Str.ofString "stopped") t1] (cs ++ [Value.ref at']) e ((at', pairObj v (.int x t)) :: own) h' tk kF (fun p hp => kN p ?_) (told_res_in a) (told_calls_in a b hle hda hvd hx)
  rcases List.mem_cons.mp hp with rfl | hp
  · exact h1
  · rcases List.mem_append.mp hp with hp | hp
    · rcases hKp _ p hp with rfl | ⟨q1, q2⟩
      · exact h4
      · exact h7 p ((hr p).mpr ⟨q1, by simp [q2]⟩)
    · rcases List.mem_cons.mp hp with rfl | hp
      · exact h5
      · exact h8 p hp
theorem told1_out {g : Obj → List (Addr × Obj)} (hQ : ToldQ1 h₀ L m g sc i₀ stop Q s) (hKp : Keeps1 news ca g) (hr : ∀ p, p ∈ rest ↔ p ∈ news ∧ p.1 ∉ [ca]) (kF : Fr h₀ L h' m) (kN : News h₀ L h' nK)
    (h1 : (r, W.listOf #[Value.str (Str.ofString "told") t1, Value.int (fV sc k) t2] 0) ∈ nK) (h4 : (ca, W.listOf cs.toArray e) ∈ nK) (hda : DatAll own cs (callsD sc i₀ (sc.length - i₀))) (h7 : ∀ p ∈ rest, p ∈ nK) (h8 : ∀ p ∈ own, p ∈ nK)
    (hns : NoStop stop (sc.length - i₀)) (hk : sc.length = k + 1) : Q (.ref r) { s with heap := h', toks := tk } := by
  refine hQ r [Value.str (Str.ofString "told") t1, Value.int (fV sc k) t2] cs e own h' tk kF (fun p hp => kN p ?_) (told_res_out (notRange_of hns) hk) (told_calls_out (notRange_of hns) hda)
  rcases List.mem_cons.mp hp with rfl | hp
  · exact h1
  · rcases List.mem_append.mp hp with hp | hp
    · rcases hKp _ p hp with rfl | ⟨q1, q2⟩
      · exact h4
      · exact h7 p ((hr p).mpr ⟨q1, by simp [q2]⟩)
    · exact h8 p hp
end
theorem vD_cases {v : Value} {sc : List Int} {i : Nat} (h : DatIn [] v (vD sc i)) : (i = 0 ∧ v = .none) ∨ ∃ k t, i = k + 1 ∧ v = .int (fV sc k) t := by
  rcases Nat.eq_zero_or_pos i with rfl | hi
  · exact .inl ⟨rfl, vD_zero h⟩
  · exact .inr (vD_pos h hi)
end Mine
namespace Mine
open PySem PySem.W PySem.Calls PyProof.Rows PyProof.V PySem.Spec

theorem pow_bits {n : Int} (h : n ≤ 63) : Builtin.Int.intBits ((2 : Int) ^ n.toNat) ≤ 64 := by
  refine intBits_le_iff.mpr ?_
  rw [Int.natAbs_pow]
  exact Nat.pow_lt_pow_right (by decide) (by omega)
theorem pow_mul {n x : Int} (h : n ≤ 63) : IntMulOk ((2 : Int) ^ n.toNat) x := .of_left (pow_bits h)
theorem take_le {ws : List Value} (ns : List Int) (_ : IntsAre ws (List.take 63 ns)) : (List.take 63 ns).length ≤ 63 := by simp; omega
theorem take_pos {ws : List Value} (ns : List Int) (_ : IntsAre ws (List.take 63 ns)) (h : 0 < ns.length) : 0 < (List.take 63 ns).length := by simp; omega
theorem fr_stop {h₀ h : Heap} {L : Addr} {m : Str → Option Value} {X : Int} {t : Tok} (F : Fr h₀ L h (fun y => if y = Str.ofString "stop" then some (.int X t) else m y)) (hm : m = fun _ => none) :
    ∃ t', Fr h₀ L h (fun y => if y = Str.ofString "stop" then some (.int X t') else none) := by
  subst hm; exact ⟨t, F⟩
section
variable {h₀ : Heap} {L c I vl : Addr} {oI oc : Obj} {base news' : List (Addr × Obj)} {m₀ m' : Str → Option Value} {sc : List Int} {i n tk e : Nat} {s₁ : Shared} {h' : Heap} {vs : List Value} {x : Int} {t : Tok}
theorem valAt_eq {k x : Int} (hk : k = (i : Int)) (hn : n = i) (hx : x = 2 ^ k.toNat * sc.getD (0 : Int).toNat 0 - ((rangeKs 1 n).map fun j => 2 ^ (k - j).toNat * sc.getD j.toNat 0).sum) : x = valAt sc i := by
  subst hk hn hx; rfl
theorem kl_end (F : Fr h₀ L h' m') (N : News h₀ L h' news') (hv : (vl, W.listOf (vs ++ [Value.int x t]).toArray e) ∈ news') (hc : (c, oc) ∈ news') (hoc : ∃ v, oc.data = .cell v) (hI : (I, oI) ∈ news') (hb : ∀ p ∈ base, p ∈ news')
    (hm : ∀ z, z ≠ Str.ofString "less" → m' z = m₀ z) (hi : IntsAre vs (valsTo sc i)) (hx : x = valAt sc i) : KlEnd h₀ L c I vl oI base m₀ (valsTo sc (i + 1)) s₁ { s₁ with heap := h', toks := tk } := by
  refine ⟨h', tk, m', oc, vs ++ [Value.int x t], e, rfl, F, fun p hp => N p ?_, hoc, ?_, hm⟩
  · rcases List.mem_cons.mp hp with rfl | hp
    · exact hv
    · rcases List.mem_cons.mp hp with rfl | hp
      · exact hc
      · rcases List.mem_cons.mp hp with rfl | hp
        · exact hI
        · exact hb p hp
  · rw [valsTo_succ, ← hx]
    exact hi.append (.cons _ _ .nil)
end
end Mine
namespace Mine
open PySem PySem.W PySem.Calls PyProof.Rows PyProof.V PySem.Spec

/-! the loop over [False, True] -/
def tlist : Obj := W.listOf #[Value.bool false, Value.bool true] 0
def T1End (h₀ : Heap) (L I l : Addr) (q1 q2 q3 q4 q5 : Addr × Obj) (v : Value) (s₁ s₂ : Shared) : Prop :=
  ∃ h' tk m' c oc vs tq, s₂ = { s₁ with heap := h', toks := tk } ∧ Fr h₀ L h' m' ∧ News h₀ L h' [(I, itObj l 1), (c, oc), (l, tlist), q1, q2, q3, q4, q5, (32, tab1 c)] ∧ oc.data = .fields vs ∧ vs[1]? = some (.str lamQual tq) ∧ LT.lt (α := Nat) I c ∧ m' (Str.ofString "stop") = some v
def T2End (h₀ : Heap) (L I l c : Addr) (s₁ s₂ : Shared) : Prop :=
  ∃ h' tk m', s₂ = { s₁ with heap := h', toks := tk } ∧ Fr h₀ L h' m' ∧ News h₀ L h' [(I, itObj l 2), (l, tlist), (32, tab1 c)]
def T1Post (h₀ : Heap) (L I l : Addr) (q1 q2 q3 q4 q5 : Addr × Obj) (v : Value) (s₁ : Shared) (Q : Flow → Shared → Prop) (f : Flow) (s₂ : Shared) : Prop :=
  match f with
  | .ret v => Q (.ret v) s₂
  | .brk => Q .next s₂
  | _ => T1End h₀ L I l q1 q2 q3 q4 q5 v s₁ s₂
def T2Post (h₀ : Heap) (L I l c : Addr) (s₁ : Shared) (Q : Flow → Shared → Prop) (f : Flow) (s₂ : Shared) : Prop :=
  match f with
  | .ret v => Q (.ret v) s₂
  | .brk => Q .next s₂
  | _ => T2End h₀ L I l c s₁ s₂

section
variable {prog : Program} {w : World} {A : Around} {E : Value → Shared → Prop} {s : Shared} {h₀ : Heap} {L a l : Addr} {m₀ : Str → Option Value} {q1 q2 q3 q4 q5 : Addr × Obj} {cn : Str} {cs : Scope} {cd : Value} {cl : List (Str × Addr)}
  {Q : Flow → Shared → Prop} {px : Pos} {body : List Stmt} {v : Value}
/-- the ledger's iterator moves on by one -/
theorem it_move {h h' : Heap} {I : Addr} {o o' : Obj} {r : List (Addr × Obj)} {m : Str → Option Value} (F : Fr h₀ L h m) (N : News h₀ L h ((I, o) :: r)) (ho : h'.get? I = some o') (hs : Heap.SameBut I h h') (hr : ∀ p ∈ r, p.1 ≠ I) : Fr h₀ L h' m ∧ News h₀ L h' ((I, o') :: r) := by
  have hI := N _ (.head _)
  refine ⟨F.change hs hI.2.1 hI.2.2, ?_⟩
  exact (show News h₀ L h ([] ++ (I, o) :: r) from N).setIn (fun p hp => (nomatch hp)) hr hs ho

/-- what stands between two turns of two_for -/
def TwoInv (h₀ : Heap) (L I l : Addr) (q1 q2 q3 q4 q5 : Addr × Obj) (v : Value) (m₀ : Str → Option Value) (s : Shared) (k : Nat) (s' : Shared) : Prop :=
  ∃ h' tk m', s' = { s with heap := h', toks := tk } ∧ Fr h₀ L h' m' ∧
      ((k = 2 ∧ m' = m₀ ∧ News h₀ L h' ((I, itObj l 0) :: [(l, tlist), q1, q2, q3, q4, q5, (32, tabObj #[])])) ∨
       (k = 1 ∧ ∃ c oc vs tq, News h₀ L h' [(I, itObj l 1), (c, oc), (l, tlist), q1, q2, q3, q4, q5, (32, tab1 c)] ∧ oc.data = .fields vs ∧ vs[1]? = some (.str lamQual tq) ∧ LT.lt (α := Nat) I c ∧ m' (Str.ofString "stop") = some v) ∨
       (k = 0 ∧ ∃ c, News h₀ L h' [(I, itObj l 2), (l, tlist), (32, tab1 c)]))
theorem two_turn1 {I : Addr} {h₂ : Heap} {tk : Nat} {s₃ : Shared} (h : T1End h₀ L I l q1 q2 q3 q4 q5 v { s with heap := h₂, toks := tk } s₃) : ∃ n, n < 2 ∧ TwoInv h₀ L I l q1 q2 q3 q4 q5 v m₀ s n s₃ := by
  obtain ⟨h₄, tk₄, m₄, c, oc, vs, tq, rfl, F₄, N₄, a1, a2, a3, a4⟩ := h
  exact ⟨1, by decide, h₄, tk₄, m₄, rfl, F₄, .inr (.inl ⟨rfl, c, oc, vs, tq, N₄, a1, a2, a3, a4⟩)⟩
theorem two_turn2 {I c : Addr} {h₂ : Heap} {tk : Nat} {s₃ : Shared} (h : T2End h₀ L I l c { s with heap := h₂, toks := tk } s₃) : ∃ n, n < 1 ∧ TwoInv h₀ L I l q1 q2 q3 q4 q5 v m₀ s n s₃ := by
  obtain ⟨h₄, tk₄, m₄, rfl, F₄, N₄⟩ := h
  exact ⟨0, by decide, h₄, tk₄, m₄, rfl, F₄, .inr (.inr ⟨rfl, c, N₄⟩)⟩
theorem two_off {l I c : Addr} {q1 q2 q3 q4 q5 : Addr × Obj} {oc : Obj} (hcI : c ≠ I) (hne : ∀ p ∈ [(l, tlist), q1, q2, q3, q4, q5, (32, tabObj #[])], p.1 ≠ I) : ∀ p ∈ [(c, oc), (l, tlist), q1, q2, q3, q4, q5, (32, tab1 c)], p.1 ≠ I :=
  List.forall_mem_cons.mpr ⟨hcI, List.forall_mem_cons.mpr ⟨hne _ (.head _), List.forall_mem_cons.mpr ⟨hne _ (.tail _ (.head _)), List.forall_mem_cons.mpr ⟨hne _ (.tail _ (.tail _ (.head _))), List.forall_mem_cons.mpr ⟨hne _ (.tail _ (.tail _ (.tail _ (.head _)))),
    List.forall_mem_cons.mpr ⟨hne _ (.tail _ (.tail _ (.tail _ (.tail _ (.head _))))), List.forall_mem_cons.mpr ⟨hne _ (.tail _ (.tail _ (.tail _ (.tail _ (.tail _ (.head _)))))), List.forall_mem_cons.mpr ⟨hne (32, tabObj #[]) (.tail _ (.tail _ (.tail _ (.tail _ (.tail _ (.tail _ (.head _))))))), List.forall_mem_nil _⟩⟩⟩⟩⟩⟩⟩⟩
theorem two_map {m' : Str → Option Value} {v : Value} (hst : m' (Str.ofString "stop") = some v) : (fun y => if y = Str.ofString "started" then some (Value.bool true) else m' y) = fun y => if y = Str.ofString "started" then some (Value.bool true) else if y = Str.ofString "stop" then some v else m' y := by
  funext y
  by_cases h1 : y = Str.ofString "started"
  · rw [if_pos h1, if_pos h1]
  · rw [if_neg h1, if_neg h1]
    by_cases h2 : y = Str.ofString "stop"
    · rw [if_pos h2, h2, hst]
    · rw [if_neg h2]
theorem two_for (hh : A.handled = none) (F : Fr h₀ L s.heap m₀) (N : News h₀ L s.heap [(l, tlist), q1, q2, q3, q4, q5, (32, tabObj #[])]) (hst : m₀ (Str.ofString "stop") = some v)
    (hx : (envX cn cs L a cd cl).kindOf (Str.ofString "started") = some .local)
    (turn1 : ∀ I h tk, (∀ p ∈ [(l, tlist), q1, q2, q3, q4, q5, (32, tabObj #[])], p.1 < I) → Fr h₀ L h (fun y => if y = Str.ofString "started" then some (.bool false) else m₀ y) → News h₀ L h [(I, itObj l 1), (l, tlist), q1, q2, q3, q4, q5, (32, tabObj #[])] →
      wpAny (model prog w) A (execs body (envX cn cs L a cd cl)) (T1Post h₀ L I l q1 q2 q3 q4 q5 v { s with heap := h, toks := tk } Q) E { s with heap := h, toks := tk })
    (turn2 : ∀ I c oc vs tq (u : Str → Option Value) h tk, (∀ p ∈ [(l, tlist), q1, q2, q3, q4, q5, (32, tabObj #[])], p.1 < I) → LT.lt (α := Nat) I c → oc.data = .fields vs → vs[1]? = some (.str lamQual tq) →
      Fr h₀ L h (fun y => if y = Str.ofString "started" then some (.bool true) else if y = Str.ofString "stop" then some v else u y) → News h₀ L h [(I, itObj l 2), (c, oc), (l, tlist), q1, q2, q3, q4, q5, (32, tab1 c)] →
      wpAny (model prog w) A (execs body (envX cn cs L a cd cl)) (T2Post h₀ L I l c { s with heap := h, toks := tk } Q) E { s with heap := h, toks := tk })
    (done : ∀ m' c h tk, Fr h₀ L h m' → News h₀ L h [(32, tab1 c)] → Q .next { s with heap := h, toks := tk })
    (hk : cs.kind = .function := by rfl) (hE : PassesOwn (model prog w) A (envX cn cs L a cd cl) E := by passes_own) :
    wpAny (model prog w) A (pyIter (.ref l)) (fun it s₂ => codeAny (model prog w) A (.forLoop (.Name (Str.ofString "started") px) it body [] (envX cn cs L a cd cl)) (fun r s' => match r with | .ok f => Q f s' | .error e => cameBackBy (model prog w) A (envX cn cs L a cd cl) E e s') s₂) E s := by
  have hlt : ∀ p ∈ [(l, tlist), q1, q2, q3, q4, q5, (32, tabObj #[])], p.1 < s.heap.objs.size := fun p hp => Heap.lt_size (N p hp).1
  have hli : ∀ {h : Heap} {r : List (Addr × Obj)}, News h₀ L h r → (l, tlist) ∈ r → h.IsList l ([Value.bool false, Value.bool true]).toArray := fun {h r} N hm => ⟨_, (N _ hm).1, rfl, 0, rfl⟩
  refine wpAny_pyIter_list (hli N (.head _)) ?_
  have hp : ((envX cn cs L a cd cl).scope.kind == .class || ((envX cn cs L a cd cl).scope.kind == .module && (envX cn cs L a cd cl).locals != (envX cn cs L a cd cl).globals)) = false := by
    show (cs.kind == .class || (cs.kind == .module && _)) = false
    rw [hk]; rfl
  generalize hIe : s.heap.objs.size = I at hlt ⊢
  have hlI : l ≠ I := Nat.ne_of_lt (hlt (l, tlist) (.head _))
  have F0 : Fr h₀ L (s.heap.push (itObj l 0)) m₀ := F.push _
  have N0 : News h₀ L (s.heap.push (itObj l 0)) ((I, itObj l 0) :: [(l, tlist), q1, q2, q3, q4, q5, (32, tabObj #[])]) := by rw [← hIe]; exact News.push F N _ rfl
  have hne : ∀ p ∈ [(l, tlist), q1, q2, q3, q4, q5, (32, tabObj #[])], p.1 ≠ I := fun p hp => Nat.ne_of_lt (hlt p hp)
  refine codeAny_forLoop (TwoInv h₀ L I l q1 q2 q3 q4 q5 v m₀ s) ?_ 2
    ⟨_, s.toks, m₀, rfl, F0, .inl ⟨rfl, rfl, N0⟩⟩
  rintro k s' ⟨h', tk, m', rfl, F', ⟨rfl, hmm, N'⟩ | ⟨rfl, c, oc, vs, tq, N', hoc, hvs, hIc, hst'⟩ | ⟨rfl, c, N'⟩⟩
  · rw [hmm] at F'
    refine it_pyNext (x := .bool false) (N' _ (.head _)).1 (hli N' (.tail _ (.head _))) (by rfl) fun h₁ ho₁ hs₁ => ?_
    obtain ⟨F₁, N₁⟩ := it_move F' N' ho₁ hs₁ hne
    refine wpAny_assign_Name (wpAny_storeName_local hx F₁.ns (fun h₂ hn₂ hs₂ => ?_) hp)
    refine wpAny_passesOwn hE (wpAny_mono (turn1 I h₂ _ hlt (F₁.set hn₂ hs₂) (N₁.set hs₂)) (fun f s₃ h₃ => ?_) fun _ _ e => e)
    cases f with
    | ret v => exact h₃
    | brk => exact h₃
    | next => exact two_turn1 h₃
    | cont => exact two_turn1 h₃
  · have hcI : c ≠ I := Nat.ne_of_gt hIc
    have hne2 := two_off (oc := oc) hcI hne
    refine it_pyNext (x := .bool true) (N' _ (.head _)).1 (hli N' (.tail _ (.tail _ (.head _)))) (by rfl) fun h₁ ho₁ hs₁ => ?_
    obtain ⟨F₁, N₁⟩ := it_move F' N' ho₁ hs₁ hne2
    refine wpAny_assign_Name (wpAny_storeName_local hx F₁.ns (fun h₂ hn₂ hs₂ => ?_) hp)
    have em := two_map hst'
    have F₂ := F₁.set hn₂ hs₂
    rw [em] at F₂
    refine wpAny_passesOwn hE (wpAny_mono (turn2 I c oc vs tq m' h₂ _ hlt hIc hoc hvs F₂ (N₁.set hs₂)) (fun f s₃ h₃ => ?_) fun _ _ e => e)
    cases f with
    | ret v => exact h₃
    | brk => exact h₃
    | next => exact two_turn2 h₃
    | cont => exact two_turn2 h₃
  · have hIs := N' _ (.head _)
    refine it_pyNextEnd hh hIs.1 (hli N' (.tail _ (.head _))) (by rfl) fun h₁ ho₁ hk₁ => wpAny_execs_nil ?_
    refine done m' c h₁ tk ⟨F'.ns.at' fun o e => hk₁ _ o (Ne.symm hIs.2.1) e, fun b o e => hk₁ b o (by rintro rfl; rw [hIs.2.2] at e; cases e) (F'.keep b o e), F'.above⟩ ?_
    intro p hp
    have e := List.mem_singleton.mp hp
    subst e
    have z := N' (32, tab1 c) (.tail _ (.tail _ (.head _)))
    exact ⟨hk₁ _ _ (hne (32, tabObj #[]) (by simp)) z.1, z.2⟩
end
end Mine
namespace Mine
open PySem PySem.W PySem.Calls PyProof.Rows PyProof.V PySem.Spec

/-! the plain law: what the law reckons is what the step tells -/
theorem lessAt_succ (sc : List Int) (k : Nat) : lessAt sc (k + 1) = 2 * lessAt sc k + sc.getD (k + 1) 0 := by
  unfold lessAt rangeKs
  rw [List.range_succ, List.map_append, List.map_append, List.sum_append]
  have e1 : ∀ (l : List Nat), (∀ i ∈ l, i < k) → ((l.map fun (i : Nat) => (1 : Int) + (i : Int)).map fun j => 2 ^ (((k + 1 : Nat) : Int) - j).toNat * sc.getD j.toNat 0).sum = 2 * ((l.map fun (i : Nat) => (1 : Int) + (i : Int)).map fun j => 2 ^ ((k : Int) - j).toNat * sc.getD j.toNat 0).sum := by
    intro l
    induction l with
    | nil => intro _; rfl
    | cons i l ih =>
      intro h
      have hi := h i (.head _)
      simp only [List.map_cons, List.sum_cons]
      rw [ih fun j hj => h j (.tail _ hj), Int.mul_add]
      congr 1
      rw [show (((k + 1 : Nat) : Int) - (1 + (i : Int))).toNat = ((k : Int) - (1 + (i : Int))).toNat + 1 from by omega, Int.pow_succ]
      rw [Int.mul_comm _ (2 : Int), Int.mul_assoc]
  rw [e1 (List.range k) fun i hi => List.mem_range.mp hi]
  congr 1
  simp only [List.map_cons, List.map_nil, List.sum_cons, List.sum_nil, Int.add_zero]
  rw [show (((k + 1 : Nat) : Int) - (1 + (k : Int))).toNat = 0 from by omega, show ((1 : Int) + (k : Int)).toNat = k + 1 from by omega]
  simp
theorem valAt_fV (sc : List Int) : ∀ k : Nat, valAt sc k = fV sc k
  | 0 => by simp [valAt, lessAt, rangeKs, fV]
  | k + 1 => by
    have ih := valAt_fV sc k
    unfold valAt at ih ⊢
    rw [fV, ← ih, lessAt_succ, Int.pow_succ]
    have e : (2 : Int) ^ k * 2 * sc.getD 0 0 = 2 * (2 ^ k * sc.getD 0 0) := by rw [Int.mul_comm _ (2 : Int), Int.mul_assoc]
    rw [e]
    omega
theorem valsTo_getD (sc : List Int) {n i : Nat} (h : i < n) : (valsTo sc n).getD i 0 = fV sc i := by
  unfold valsTo
  rw [List.getD_eq_getElem?_getD, List.getElem?_map, List.getElem?_range h]
  exact valAt_fV sc i
theorem vals_norm {vs : List Value} {sc : List Int} (h : IntsAre vs (valsTo sc ((sc.length : Int) - 0).toNat)) : IntsAre vs (valsTo sc sc.length) := by
  rw [show ((sc.length : Int) - 0).toNat = sc.length from by omega] at h; exact h

/-! the comprehension of pairs -/
def DEl (base own : List (Addr × Obj)) (sc : List Int) (k : Int) (y : Value) (news' : List (Addr × Obj)) : Prop :=
  ∃ at' a ta b tb, y = .ref at' ∧ LT.lt (α := Nat) 32 at' ∧ a = (valsTo sc sc.length).getD (k - 1).toNat 0 ∧ b = sc.getD k.toNat 0 ∧ news' = base ++ ((at', pairObj (.int a ta) (.int b tb)) :: own)
section
variable {prog : Program} {w : World} {A : Around} {h₀ : Heap} {L : Addr} {m : Str → Option Value} {env : Env} {elt : Expr} {x : Str} {scope : Scope} {cl : List (Str × Addr)} {s : Shared} {Fin : List Value → List (Addr × Obj) → Prop} {base : List (Addr × Obj)} {sc : List Int} {ws : List Value}
theorem off3_split {I C D : Addr} {own : List (Addr × Obj)} : ∀ {base : List (Addr × Obj)}, LCg.Off3 I C D (base ++ own) → LCg.Off3 I C D base ∧ OwnOff own [I, C, D] := by
  intro base h
  have q := h.mem
  refine ⟨LCg.Off3.of fun p hp => q p (List.mem_append_left _ hp), fun p hp b hb => ?_⟩
  have z := q p (List.mem_append_right _ hp)
  simp only [List.mem_cons, List.not_mem_nil, or_false] at hb
  rcases hb with rfl | rfl | rfl
  · exact z.1
  · exact z.2.1
  · exact z.2.2
theorem dat_due {n : Nat} (uhsc : IntsAre ws sc) (hn : n = sc.length - 1)
    (turn : ∀ k t I oI C oC D m₂ ys own h tk (E' : Value → Shared → Prop), 1 ≤ k → k < (sc.length : Int) → LCg.NsObj oC m₂ → m₂ x = some (.int k t) → Fr h₀ L h m → News h₀ L h ((I, oI) :: (C, oC) :: (D, LCg.lst ys) :: (base ++ own)) → LCg.Off3 I C D base → OwnOff own [I, C, D] → ((@Ne Nat I C) ∧ (@Ne Nat I D) ∧ (@Ne Nat C D)) →
      wpAny (model prog w) A (eval elt (compEnvC scope cl C env)) (LCg.CompEnd h₀ L m { s with heap := h, toks := tk } I oI C oC D (LCg.lst ys) (fun _ => True) (fun y news' => DEl base own sc k y news')) E' { s with heap := h, toks := tk })
    (fin : ∀ ys own, OwnOff own [32] → ys.length = sc.length - 1 → DatAll own ys (callsD sc 1 (sc.length - 1)) → Fin ys (base ++ own)) :
    LCg.CompRest prog w A h₀ L m env elt x scope cl s (fun _ => True) (fun i v => ∃ t, v = .int (1 + (i : Int)) t) Fin n 0 [] base := by
  subst hn
  have key : ∀ (j i : Nat) (ys : List Value) (own : List (Addr × Obj)), i + j = sc.length - 1 → OwnOff own [32] → DatAll own ys (callsD sc 1 i) → LCg.CompRest prog w A h₀ L m env elt x scope cl s (fun _ => True) (fun i v => ∃ t, v = .int (1 + (i : Int)) t) Fin j i ys (base ++ own) := by
    intro j
    induction j with
    | zero =>
      intro i ys own hi ho hd
      obtain rfl : i = sc.length - 1 := by omega
      refine LCg.CompRest.zero (fin ys own ho ?_ hd)
      rw [hd.length, callsD_length]
    | succ j ih =>
      intro i ys own hi ho hd
      refine LCg.CompRest.succ ?_
      intro v I oI C oC D m₂ h tk E' hv hC hx F N off ne
      obtain ⟨t, rfl⟩ := hv
      obtain ⟨o1, o2⟩ := off3_split off
      refine wpAny_mono (turn (1 + (i : Int)) t I oI C oC D m₂ ys own h tk E' (by omega) (by omega) hC hx F N o1 o2 ne) (fun y s₂ hq => ?_) fun _ _ e => e
      obtain ⟨h', tk', nw, e, F', N', off', hS, at', a, ta, b, tb, rfl, h32, ha, hb, rfl⟩ := hq
      refine ⟨h', tk', _, e, F', N', off', hS, ih (i + 1) _ _ (by omega) ?_ ?_⟩
      · intro p hp q hq
        rw [List.mem_singleton.mp hq]
        rcases List.mem_cons.mp hp with rfl | hp
        · exact Nat.ne_of_gt h32
        · exact ho p hp 32 (.head _)
      · rw [callsD_succ]
        refine DatAll.append (hd.mono fun p hp => .tail _ hp) (.one ?_)
        have e1 : callD sc (1 + i) = .tuple [.int a, .int b] := by
          rw [callD, ha, hb, show (1 + (i : Int)).toNat = 1 + i from by omega, show (1 + (i : Int) - 1).toNat = i from by omega, valsTo_getD sc (by omega), show 1 + i = i + 1 from by omega, vD]
        rw [e1]
        exact DatIn.tuple (vs := [.int a ta, .int b tb]) (n := 0) (.head _) (.cons (.int _ _) (.cons (.int _ _) .nil))
  have := key (sc.length - 1) 0 [] [] (by omega) (fun _ h => (nomatch h)) (by simp only [callsD, List.range_zero, List.map_nil]; exact .nil)
  rw [List.append_nil] at this
  exact this
theorem dat_end {I C D at' : Addr} {oI oC oD : Obj} {all own : List (Addr × Obj)} {h' : Heap} {tk : Nat} {s₁ : Shared} {a b k : Int} {ta tb : Tok} (F : Fr h₀ L h' m) (N : News h₀ L h' all) (hI : (I, oI) ∈ all) (hC : (C, oC) ∈ all) (hD : (D, oD) ∈ all) (hb : ∀ p ∈ base, p ∈ all) (ho : ∀ p ∈ own, p ∈ all)
    (hat : (at', pairObj (.int a ta) (.int b tb)) ∈ all) (off : LCg.Off3 I C D base) (oo : OwnOff own [I, C, D]) (n1 : at' ≠ I) (n2 : at' ≠ C) (n3 : at' ≠ D) (h32 : LT.lt (α := Nat) 32 at') (ha : a = (valsTo sc sc.length).getD (k - 1).toNat 0) (hb' : b = sc.getD k.toNat 0) :
    LCg.CompEnd h₀ L m s₁ I oI C oC D oD (fun _ => True) (fun y news' => DEl base own sc k y news') (.ref at') { s₁ with heap := h', toks := tk } := by
  refine LCg.CompEnd.intro F N (base ++ ((at', pairObj (.int a ta) (.int b tb)) :: own)) ?_ (LCg.Off3.of ?_) trivial ⟨at', a, ta, b, tb, rfl, h32, ha, hb', rfl⟩
  · intro p hp
    rcases List.mem_cons.mp hp with rfl | hp
    · exact hI
    · rcases List.mem_cons.mp hp with rfl | hp
      · exact hC
      · rcases List.mem_cons.mp hp with rfl | hp
        · exact hD
        · rcases List.mem_append.mp hp with hp | hp
          · exact hb p hp
          · rcases List.mem_cons.mp hp with rfl | hp
            · exact hat
            · exact ho p hp
  · intro p hp
    rcases List.mem_append.mp hp with hp | hp
    · exact off.mem p hp
    · rcases List.mem_cons.mp hp with rfl | hp
      · exact ⟨n1, n2, n3⟩
      · exact ⟨oo p hp _ (by simp), oo p hp _ (by simp), oo p hp _ (by simp)⟩
end

section
variable {prog : Program} {w : World} {A : Around} {E : Value → Shared → Prop} {s : Shared} {h₀ : Heap} {L D l : Addr} {m : Str → Option Value} {news : List (Addr × Obj)} {ws vs : List Value} {sc : List Int} {n k : Nat} {Q : Value → Shared → Prop}
theorem ints_dat {ws : List Value} {sc : List Int} (h : IntsAre ws sc) : DatAll [] ws (sc.map Dat.int) := by
  induction h with
  | nil => exact .nil
  | cons i t _ ih => exact .cons (.int i t) ih
theorem ne_nil (N : News h₀ L s.heap news) (hI : IntsAre ws sc) (hpos : 0 < sc.length) (h1 : (D, W.listOf ws.toArray n) ∈ news) (h2 : (l, W.listOf (#[] : Array Value) k) ∈ news) (hu : A.units + 64 < cLine) (h : Q (.bool true) s) : wpAny (model prog w) A (compareOp .NotEq (.ref D) (.ref l)) Q E s := by
  refine kqd_ne (n₁ := []) (n₂ := []) (ys := []) (es := []) N h1 rfl rfl (ints_dat hI) (List.forall_mem_nil _) h2 rfl rfl .nil (List.forall_mem_nil _) ?_ (List.forall_mem_nil _) hu ?_
  · intro d hd
    obtain ⟨i, _, rfl⟩ := List.mem_map.mp hd
    rfl
  · have : ¬ (sc.map Dat.int = []) := by
      intro e
      rw [List.map_eq_nil_iff] at e
      rw [e] at hpos
      simp at hpos
    rw [decide_eq_false this]
    exact h
theorem vals_last {value slice : PySem.Expr} {u : Tok} (hI : IntsAre vs (valsTo sc sc.length)) (hpos : 0 < sc.length) (h63 : sc.length ≤ 63) (hl : s.heap.IsList l vs.toArray) (h : ∀ t, Q (.int (fV sc (sc.length - 1)) t) s)
    (hs : subscripted slice false (.ref l) (.int (-1) u) = operate [.ref l, .int (-1) u] (getItem (.ref l) (.int (-1) u)) := by with_unfolding_all rfl) :
    wpAny (model prog w) A (subscriptTail value slice (.ref l) (.int (-1) u)) Q E s := by
  refine item_list_ints_negR hl hI (by decide) (by rw [valsTo_length]; omega) (by decide) (fun t => ?_) hs
  rw [valsTo_length, show (-1 + (sc.length : Int)).toNat = sc.length - 1 from by omega, valsTo_getD sc (by omega)]
  exact h t
end
end Mine
namespace Mine
open PySem PySem.W PySem.Calls PyProof.Rows PyProof.V PySem.Spec

/-! list(it), it a list's iterator that has been read in part, or to its end -/
section
variable {prog : Program} {w : World} {A : Around} {E : Value → Shared → Prop} {s : Shared}
theorem itEnd_typeIs {I : Addr} {k : Nat} (ho : s.heap.get? I = some (itEnd k)) : s.TypeIs (.ref I) "list_iterator" := ⟨_, ho, rfl⟩
theorem it_pySelf {I : Addr} {Q : Value → Shared → Prop} (hT : s.TypeIs (.ref I) "list_iterator") (h : Q (.ref I) s) : wpAny (model prog w) A (pyIter (.ref I)) Q E s := by
  refine wpAny_pyIter_slot hT slot_listiter_iter (wpAny_call_entry slot_listiter_iter hT entry_listiter_iter ?_ (args_listiter_iter _))
  show wpAny _ _ (ret (.ref I)) _ _ s
  exact wpAny_pure ⟨_, rfl, "list_iterator", _, hT, slot_listiter_next.lookup, h⟩
theorem it_pyNextDead {I : Addr} {k : Nat} {Q : Option Value → Shared → Prop} (hh : A.handled = none) (ho : s.heap.get? I = some (itEnd k))
    (hQ : ∀ h', (∀ b o, s.heap.get? b = some o → h'.get? b = some o) → Q none { s with heap := h' }) : wpAny (model prog w) A (pyNext (.ref I)) Q E s := by
  unfold pyNext
  refine wpAny_bind (wpAny_attempt (wpAny_callSpecial?_slot (name := Str.ofString "__next__") (itEnd_typeIs ho) slot_listiter_next
    (wpAny_call_entry slot_listiter_next (itEnd_typeIs ho) entry_listiter_next ?_ (args_listiter_next _))))
  show wpAny _ _ (field (.ref I) 0 >>= _) _ _ s
  refine wpAny_bind (wpAny_field ho rfl (x := .none) rfl ?_)
  show wpAny _ _ (if (Value.none == Value.none) = true then _ else _) _ _ s
  rw [if_pos (show (Value.none == Value.none) = true from rfl)]
  refine wpAny_bind (wpAny_rule ?_)
  refine wpAny_bind ?_
  show wpAny _ _ (newExc (.type "StopIteration") [] >>= _) _ _ _
  refine wpAny_bind ?_
  simp only [newExc, newTuple]
  refine wpAny_bind (wpAny_newObj_type ?_ (by size_fits))
  refine wpAny_bind (m := firstArgMember _ _) (wpAny_of_eq (a := Value.none) (by first | rfl | (simp only [firstArgMember]; rfl)) ?_)
  refine wpAny_newObj_type ?_ (by size_fits)
  simp only [raiseNew]
  refine wpAny_bind (wpAny_handled ?_)
  rw [show A.in1.handled = none from hh]
  refine wpAny_bind (wpAny_pure (wpAny_throw ?_))
  refine wpAny_bind (wpAny_isInstance (T := "StopIteration") (b := true) ⟨_, Heap.get?_push_size _ rfl, rfl⟩ isSubtype_stop ?_)
  exact wpAny_pure (hQ _ fun b o e => Heap.get?_push_of_some _ (Heap.get?_push_of_some _ e))
end

theorem walks_from {prog : Program} {w : World} {A : Around} (hh : A.handled = none) (I ax : Addr) (hne : ax ≠ I) (vs : List Value) (j : Nat) :
    Walks prog w A I [I, ax] [I] (vs.length - j) (fun i v => vs[j + i]? = some v) (fun i h => j + i ≤ max j vs.length ∧ h.get? I = some (itObj ax (j + i)) ∧ h.IsList ax vs.toArray) where
  sub := fun b hb => by simp at hb; simp [hb]
  frame := fun _ _ _ x hk => ⟨x.1, hk I (by simp) _ x.2.1, x.2.2.at fun o e => hk ax (by simp) o e⟩
  item := fun i s Q E hi x hQ => by
    have hlt : j + i < vs.length := by omega
    have hx : vs[j + i]? = some vs[j + i] := List.getElem?_eq_getElem hlt
    exact it_pyNext x.2.1 x.2.2 hx fun h' ho' hs' => hQ _ h' s.toks hx ⟨by omega, ho', x.2.2.extBut hs'.extBut hne⟩ fun b o hb e => hs'.extBut b o (fun h => hb (by simp [h])) e
  done := fun s Q E x hQ => by
    refine it_pyNextEnd hh x.2.1 x.2.2 (List.getElem?_eq_none (by omega)) fun h' _ hk => hQ h' s.toks fun b o hb e => hk b o (fun h => hb (by simp [h])) e
  self := fun _ _ _ _ x hQ => it_pySelf (it_typeIs x.2.1) hQ
theorem walks_dead {prog : Program} {w : World} {A : Around} (hh : A.handled = none) (I : Addr) (k : Nat) :
    Walks prog w A I [I] [I] 0 (fun _ _ => True) (fun _ h => h.get? I = some (itEnd k)) where
  sub := fun b hb => hb
  frame := fun _ _ _ x hk => hk I (by simp) _ x
  item := fun i s Q E hi x hQ => absurd hi (Nat.not_lt_zero i)
  done := fun s Q E x hQ => it_pyNextDead hh x fun h' hk => hQ h' s.toks fun b o _ e => hk b o e
  self := fun _ _ _ _ x hQ => it_pySelf (itEnd_typeIs x) hQ

section
variable {prog : Program} {w : World} {A : Around} {s : Shared} {I : Addr} {fp wr : List Addr} {G : Array GenState → Array GenState → Prop} {n : Nat} {P : Nat → Value → Prop} {St : Nat → Shared → Prop} {R : Result → Shared → Prop}
theorem it_extend (W : WalksS prog w A.in1 I fp wr G n P St) (hT : ∀ i s, St i s → s.TypeIs (.ref I) "list_iterator") (S : Addr) (res : Value) (c₀ : Nat) (hst : St 0 s) (hSf : S ∉ fp) (hI : I ∈ fp)
    (hS : s.heap.get? S = some { cls := .type "list", data := .seq #[] c₀ })
    (hR : ∀ s' acc' c', Moved (S :: wr) G s s' → s'.heap.get? S = some { cls := .type "list", dict := none, data := .seq acc' c', slots := #[] } → ItemsOf P acc' n → R (.ok (.ret res)) s') (hn : n ≤ sizeLine) :
    wpAny (model prog w) A.in1 (Builtin.List.listExtendWith (.ref S) (.ref I) res)
      (fun fin s' => match fin with | .done f => R (.ok f) s' | .again c' => c'.quiet = true ∧ codeAny (model prog w) A c' R s') (fun e s' => R (.error e) s') s := by
  have hSI : S ≠ I := fun e => hSf (e ▸ hI)
  have h1 : Builtin.List.listSameRef (.ref S) (.ref I) = false := by simp [Builtin.List.listSameRef, hSI]
  unfold Builtin.List.listExtendWith
  refine wpAny_bind (wpAny_typeOf (hT 0 _ hst) ?_)
  rw [if_neg (by rw [h1]; decide)]
  refine wpAny_bind (W.self 0 _ _ _ hst ?_)
  refine wpAny_bind (wpAny_holding ?_)
  unfold Builtin.List.listLengthHint
  refine wpAny_bind (wpAny_specialOf (hT 0 _ hst) F.nolen_li ?_)
  show wpAny _ A.in1 (specialOf (Value.ref I) (Str.ofString "__length_hint__") >>= _) _ _ _
  refine wpAny_bind (wpAny_specialOf (hT 0 _ hst) F.hint_li ?_)
  generalize hid : ("list_iterator.__length_hint__" : String) = id0
  wp_delta
  rw [show splitId id0 = some ("list_iterator", "__length_hint__") from by subst hid; decide +kernel]
  subst hid
  refine wpAny_bind (wpAny_isInstance (b := true) (hT 0 _ hst) (by rw [isSubtype_type]; kernel_rfl) ?_)
  refine wpAny_pure ?_
  rw [if_neg (by decide)]
  exact wpAny_pure ⟨plainId_quiet F.plain_extend_loop _, codeAny_extend_loopS W hn _ hSf _ n 0 _ _ _ rfl (Nat.zero_le _) hst hS (ItemsOf.nil P) fun s' acc' c' hm hS' hacc => hR s' acc' c' hm hS' hacc⟩
theorem it_init (W : WalksS prog w A.in1 I fp wr G n P St) (hT : ∀ i s, St i s → s.TypeIs (.ref I) "list_iterator") (S : Addr) (hst : St 0 s) (hSf : S ∉ fp) (hI : I ∈ fp)
    (hS : s.heap.get? S = some { cls := .type "list", data := .seq #[] })
    (hR : ∀ s' acc' c', Moved (S :: wr) G s s' → s'.heap.get? S = some { cls := .type "list", dict := none, data := .seq acc' c', slots := #[] } → ItemsOf P acc' n → R (.ok (.ret .none)) s') (hn : n ≤ sizeLine) :
    wpAny (model prog w) A.in1 (Builtin.«list.__init__» ⟨[.ref S, .ref I], []⟩)
      (fun fin s' => match fin with | .done f => R (.ok f) s' | .again c' => c'.quiet = true ∧ codeAny (model prog w) A c' R s') (fun e s' => R (.error e) s') s := by
  show wpAny _ A.in1 (do let old ← Builtin.List.listItems (.ref S); Builtin.List.listUpdate (.ref S) (fun _ => #[]); letGo old.toList.reverse; Builtin.List.listExtendWith (.ref S) (.ref I) .none) _ _ s
  refine wpAny_bind ?_
  unfold Builtin.List.listItems
  refine wpAny_bind (wpAny_seqItems hS rfl (wpAny_pure ?_))
  show wpAny _ A.in1 (updateSeq S (fun _ => #[]) >>= fun _ => letGo (#[] : Array Value).toList.reverse >>= fun _ => Builtin.List.listExtendWith (.ref S) (.ref I) .none) _ _ s
  refine wpAny_bind (wpAny_updateSeq hS rfl ?_)
  have hS₂ := Heap.get?_update_self (Obj.mapSeq (fun _ => (#[] : Array Value))) hS rfl
  have oth : ∀ b o, b ≠ S → s.heap.get? b = some o → (s.heap.update S (Obj.mapSeq (fun _ => (#[] : Array Value)))).get? b = some o := fun b o hb e => (Heap.get?_update_other _ _ (Ne.symm hb)).trans e
  refine wpAny_bind (wpAny_letGo ?_)
  refine it_extend (hn := hn) W hT S .none _ (W.frame 0 s _ s.toks hst (Nat.le_refl _) fun b hb o e => oth b o (fun h => hSf (h ▸ hb)) e) hSf hI hS₂ fun s' acc' c' hm hS' hacc => ?_
  exact hR s' acc' c' (Moved.trans W.gtrans ((Moved.refl W.grefl).then_heap (Nat.le_refl _) fun b o hb e => oth b o (fun h => hb (h ▸ List.mem_cons_self)) e) hm) hS' hacc
end
section
variable {prog : Program} {w : World} {A : Around} {E : Value → Shared → Prop} {s : Shared} {I : Addr} {fp : List Addr} {n : Nat} {P : Nat → Value → Prop} {St : Nat → Heap → Prop} {Q : Value → Shared → Prop}
theorem it_listW (W : Walks prog w A.in1.in1 I fp [I] n P St) (hT : ∀ i (s : Shared), St i s.heap → s.TypeIs (.ref I) "list_iterator") (hst : St 0 s.heap) (hfp : ∀ b ∈ fp, b < s.heap.objs.size) (hI : I ∈ fp)
    (hQ : ∀ h' tk acc' c', (∀ b o, b ≠ I → s.heap.get? b = some o → h'.get? b = some o) → h'.get? s.heap.objs.size = some { cls := .type "list", dict := none, data := .seq acc' c', slots := #[] } → ItemsOf P acc' n → Q (.ref s.heap.objs.size) { s with heap := h', toks := tk }) (hn : n ≤ sizeLine) :
    wpAny (model prog w) A (call (.type "list") [.ref I]) Q E s := by
  have hSf : s.heap.objs.size ∉ fp := fun hm => Nat.lt_irrefl _ (hfp _ hm)
  refine callType_codes (Q₁ := fun obj s₁ => obj = .ref s.heap.objs.size ∧ s₁ = { s with heap := s.heap.push { cls := .type "list", data := .seq #[] } }) F.called_list (F.typeCall_list_1 _) F.entry_list_init
    (code_list_new _ ⟨rfl, rfl⟩) fun obj s₁ h₁ => ?_
  obtain ⟨rfl, rfl⟩ := h₁
  have hS : (s.heap.push { cls := .type "list", data := .seq #[] }).get? s.heap.objs.size = some { cls := .type "list", data := .seq #[] } := Heap.get?_push_size _ rfl
  refine ⟨⟨_, hS, rfl⟩, F.args_list_init_2 _ _, it_init (hn := hn) W.toS hT _ (W.toS.frame 0 s _ s.toks hst (Nat.le_refl _) fun b _ o e => Heap.get?_push_of_some _ e) hSf hI hS fun s' acc' c' hm hS' hacc => ?_⟩
  refine ⟨rfl, ?_⟩
  rw [Moved.eq_with hm]
  refine hQ s'.heap s'.toks acc' c' (fun b o hb e => hm.heap b o (fun hmem => ?_) (Heap.get?_push_of_some _ e)) hS' hacc
  rcases List.mem_cons.mp hmem with e' | hmem
  · rw [e'] at e; exact absurd (Heap.lt_size e) (Nat.lt_irrefl _)
  · exact hb (List.mem_singleton.mp hmem)
end

theorem ints_drop {ws : List Value} {sc : List Int} (hI : IntsAre ws sc) : ∀ j : Nat, IntsAre (ws.drop j) (sc.drop j) := by
  induction hI with
  | nil => intro j; simp; exact .nil
  | cons i t h ih =>
    intro j
    cases j with
    | zero => exact .cons i t h
    | succ j => exact ih j
theorem items_from {ws : List Value} {j : Nat} {acc : Array Value} (h : ItemsOf (fun i v => ws[j + i]? = some v) acc (ws.length - j)) : acc.toList = ws.drop j := by
  refine List.ext_getElem? fun i => ?_
  rw [Array.getElem?_toList, List.getElem?_drop]
  by_cases hi : i < acc.size
  · have e : acc[i]? = some acc[i] := Array.getElem?_eq_getElem hi
    rw [h.2 i _ e, e]
  · rw [Array.getElem?_eq_none (by omega), List.getElem?_eq_none (by have := h.1; omega)]

section
variable {prog : Program} {w : World} {A : Around} {E : Value → Shared → Prop} {s : Shared} {h₀ : Heap} {L I D : Addr} {m : Str → Option Value} {news rest : List (Addr × Obj)} {ws : List Value} {sc : List Int} {oI : Obj} {j : Nat} {Q : Value → Shared → Prop}
/-- the rest of the source: the iterator itself leaves the ledger -/
theorem it_list (hh : A.handled = none) (F : Fr h₀ L s.heap m) (N : News h₀ L s.heap news) (hI : IntsAre ws sc) (hr : ItRest oI D sc.length j) (h63 : sc.length ≤ 63) (hDm : (D, W.listOf ws.toArray 0) ∈ news) (hIm : (I, oI) ∈ news) (hDI : D ≠ I) (hsub : ∀ p ∈ rest, p ∈ news ∧ p.1 ≠ I)
    (h : ∀ S us c h' tk, Fr h₀ L h' m → News h₀ L h' ((S, W.listOf (List.toArray us) c) :: rest) → (∀ p ∈ rest, p.1 < S) → IntsAre us (sc.drop j) → Q (.ref S) { s with heap := h', toks := tk }) :
    wpAny (model prog w) A (call (.type "list") [.ref I]) Q E s := by
  have hlen : ws.length = sc.length := hI.length
  have zI := N _ hIm
  have fin : ∀ h' tk (acc' : Array Value) c', (∀ b o, b ≠ I → s.heap.get? b = some o → h'.get? b = some o) → h'.get? s.heap.objs.size = some { cls := .type "list", dict := none, data := .seq acc' c', slots := #[] } → acc'.toList = ws.drop j → Q (.ref s.heap.objs.size) { s with heap := h', toks := tk } := by
    intro h' tk acc' c' hk hS e
    have F' : Fr h₀ L h' m := ⟨F.ns.at' fun o e => hk _ o (Ne.symm zI.2.1) e, fun b o e => hk b o (by rintro rfl; rw [zI.2.2] at e; cases e) (F.keep b o e), F.above⟩
    refine h _ acc'.toList c' h' tk F' (fun p hp => ?_) (fun p hp => Heap.lt_size (N p (hsub p hp).1).1) (by rw [e]; exact ints_drop hI j)
    rcases List.mem_cons.mp hp with rfl | hp
    · refine ⟨?_, Nat.ne_of_gt F.ns.lt, none_at_size F⟩
      show h'.get? s.heap.objs.size = some (W.listOf acc'.toList.toArray c')
      rw [Array.toArray_toList]; exact hS
    · have z := N p (hsub p hp).1
      exact ⟨hk _ _ (hsub p hp).2 z.1, z.2⟩
  rcases hr with rfl | ⟨⟨k, rfl⟩, hle⟩
  · refine it_listW (walks_from (A := A.in1.in1) hh I D hDI ws j) (fun i s x => it_typeIs x.2.1) ⟨by omega, zI.1, ⟨_, (N _ hDm).1, rfl, 0, rfl⟩⟩ (fun b hb => ?_) (by simp) (fun h' tk acc' c' hk hS hacc => fin h' tk acc' c' hk hS (items_from hacc)) (by rw [PySem.sizeLine_eq]; omega)
    simp only [List.mem_cons, List.not_mem_nil, or_false] at hb
    rcases hb with rfl | rfl
    · exact Heap.lt_size zI.1
    · exact Heap.lt_size (N _ hDm).1
  · refine it_listW (walks_dead (A := A.in1.in1) hh I k) (fun i s x => itEnd_typeIs x) zI.1 (fun b hb => ?_) (by simp) (fun h' tk acc' c' hk hS hacc => fin h' tk acc' c' hk hS ?_) (by rw [PySem.sizeLine_eq]; omega)
    · rw [List.mem_singleton.mp hb]; exact Heap.lt_size zI.1
    · rw [List.drop_eq_nil_of_le (by omega)]
      have e := hacc.1
      rw [← Array.length_toList] at e
      exact List.length_eq_zero_iff.mp e
end
end Mine
namespace Mine
open PySem PySem.W PySem.Calls PyProof.Rows PyProof.V PySem.Spec

theorem inR {sc : List Int} {i₀ : Nat} {stop : Int} (h : 0 < stop) (h2 : stop ≤ ((sc.length - i₀ : Nat) : Int)) : InRange sc i₀ stop := ⟨h, h2⟩
theorem outR {sc : List Int} {i₀ : Nat} {stop : Int} (h : stop ≤ 0 ∨ ((sc.length - i₀ : Nat) : Int) < stop) : ¬ InRange sc i₀ stop := by
  rintro ⟨h1, h2⟩
  omega
theorem res_in {sc : List Int} {i₀ : Nat} {stop : Int} (h : InRange sc i₀ stop) : toldRes sc i₀ stop = [.str (Str.ofString "stopped")] := by unfold toldRes; rw [if_pos h]
theorem res_out {sc : List Int} {i₀ : Nat} {stop : Int} (h : ¬ InRange sc i₀ stop) : toldRes sc i₀ stop = [.str (Str.ofString "told"), .int (fV sc (sc.length - 1))] := by unfold toldRes; rw [if_neg h]
theorem callsD_take (sc : List Int) (i₀ n k : Nat) : (callsD sc i₀ n).take k = callsD sc i₀ (min k n) := by
  unfold callsD; rw [← List.map_take, List.take_range]
theorem calls_in {sc : List Int} {i₀ : Nat} {stop : Int} (h : InRange sc i₀ stop) : toldCalls sc i₀ stop = (callsD sc i₀ (sc.length - i₀)).take stop.toNat := by
  rw [callsD_take]; unfold toldCalls toldCnt; rw [if_pos h]
  obtain ⟨h1, h2⟩ := h
  congr 1; omega
theorem calls_out {sc : List Int} {i₀ : Nat} {stop : Int} (h : ¬ InRange sc i₀ stop) : toldCalls sc i₀ stop = callsD sc i₀ (sc.length - i₀) := by unfold toldCalls toldCnt; rw [if_neg h]
theorem rest_in {sc : List Int} {i₀ : Nat} {stop : Int} {r : Nat} (h : InRange sc i₀ stop) (hr : (r : Int) = i₀ + stop) : sc.drop (i₀ + toldCnt sc i₀ stop) = sc.drop r := by
  unfold toldCnt; rw [if_pos h]
  obtain ⟨h1, h2⟩ := h
  congr 1; omega
theorem rest_out {sc : List Int} {i₀ : Nat} {stop : Int} {r : Nat} (h : ¬ InRange sc i₀ stop) (h0 : i₀ ≤ sc.length) (hr : r = sc.length) : sc.drop (i₀ + toldCnt sc i₀ stop) = sc.drop r := by
  unfold toldCnt; rw [if_neg h]
  congr 1; omega
theorem callsD_ok (sc : List Int) (i₀ n : Nat) : ∀ d ∈ callsD sc i₀ n, kqdOk 8 d = true := by
  intro d hd
  obtain ⟨j, _, rfl⟩ := List.mem_map.mp hd
  rw [callD]
  cases (i₀ + j) with
  | zero => rfl
  | succ k => rfl
theorem toldRes_ok (sc : List Int) (i₀ : Nat) (stop : Int) : ∀ d ∈ toldRes sc i₀ stop, kqdOk 8 d = true := by
  intro d hd
  by_cases h : InRange sc i₀ stop
  · rw [res_in h, List.mem_singleton] at hd
    rw [hd]; decide +kernel
  · rw [res_out h] at hd
    rcases List.mem_cons.mp hd with rfl | hd
    · decide +kernel
    · rw [List.mem_singleton.mp hd]; rfl
section
variable {prog : Program} {w : World} {A : Around} {E : Value → Shared → Prop} {s : Shared} {h₀ : Heap} {L a b l : Addr} {m : Str → Option Value} {news o1 o2 own : List (Addr × Obj)} {rs es cs ys xs : List Value} {sc as bs : List Int} {i₀ k1 k2 : Nat} {stop : Int} {ds : List Dat} {Q : Value → Shared → Prop}
open Classical in
theorem ne_same {ds₁ : List Dat} (N : News h₀ L s.heap news) (h1 : (a, W.listOf xs.toArray k1) ∈ news) (D1 : DatAll o1 xs ds₁) (h2 : (b, W.listOf ys.toArray k2) ∈ news) (D2 : DatAll o2 ys ds) (e : ds₁ = ds) (hok : ∀ d ∈ ds₁, kqdOk 8 d = true) (s1 : ∀ p ∈ o1, p ∈ news) (s2 : ∀ p ∈ o2, p ∈ news)
    (hu : A.units + 64 < cLine) (h : Q (.bool false) s) : wpAny (model prog w) A (compareOp .NotEq (.ref a) (.ref b)) Q E s := by
  refine kqd_ne N h1 rfl rfl D1 s1 h2 rfl rfl D2 s2 hok (e ▸ hok) hu ?_
  rw [decide_eq_true e]
  exact h
theorem res_ne (N : News h₀ L s.heap news) (h1 : (a, W.listOf rs.toArray k1) ∈ news) (D1 : DatAll o1 rs (toldRes sc i₀ stop)) (h2 : (b, W.listOf es.toArray k2) ∈ news) (D2 : DatAll [] es ds) (e : toldRes sc i₀ stop = ds) (s1 : ∀ p ∈ o1, p ∈ news)
    (hu : A.units + 64 < cLine) (h : Q (.bool false) s) : wpAny (model prog w) A (compareOp .NotEq (.ref a) (.ref b)) Q E s := ne_same N h1 D1 h2 D2 e (toldRes_ok _ _ _) s1 (List.forall_mem_nil _) hu h
theorem calls_ne (N : News h₀ L s.heap news) (h1 : (a, W.listOf cs.toArray k1) ∈ news) (D1 : DatAll o1 cs (toldCalls sc i₀ stop)) (h2 : (b, W.listOf ys.toArray k2) ∈ news) (D2 : DatAll o2 ys ds) (e : toldCalls sc i₀ stop = ds) (s1 : ∀ p ∈ o1, p ∈ news) (s2 : ∀ p ∈ o2, p ∈ news)
    (hu : A.units + 64 < cLine) (h : Q (.bool false) s) : wpAny (model prog w) A (compareOp .NotEq (.ref a) (.ref b)) Q E s := ne_same N h1 D1 h2 D2 e (callsD_ok _ _ _) s1 s2 hu h
theorem ints_ne (N : News h₀ L s.heap news) (h1 : (a, W.listOf xs.toArray k1) ∈ news) (I1 : IntsAre xs as) (h2 : (b, W.listOf ys.toArray k2) ∈ news) (I2 : IntsAre ys bs) (e : as = bs)
    (hu : A.units + 64 < cLine) (h : Q (.bool false) s) : wpAny (model prog w) A (compareOp .NotEq (.ref a) (.ref b)) Q E s :=
  ne_same N h1 (ints_dat I1) h2 (ints_dat I2) (by rw [e]) (fun d hd => by obtain ⟨i, _, rfl⟩ := List.mem_map.mp hd; rfl) (List.forall_mem_nil _) (List.forall_mem_nil _) hu h

theorem dat_take {own : List (Addr × Obj)} {ys : List Value} {ds : List Dat} (h : DatAll own ys ds) : ∀ k : Nat, DatAll own (ys.take k) (ds.take k) := by
  induction ys generalizing ds with
  | nil => cases h; intro k; simp; exact .nil
  | cons v ys ih =>
    cases h with
    | cons hd r =>
      intro k
      cases k with
      | zero => exact .nil
      | succ k => exact .cons hd (ih r k)
theorem due_cut {value slice : PySem.Expr} {vl vu : Value} {y : Int} (F : Fr h₀ L s.heap m) (N : News h₀ L s.heap news) (hl : s.heap.IsList l ys.toArray) (hd : DatAll own ys ds) (pl : IsPart vl none) (pu : IsPart vu (some y)) (h0 : 0 ≤ y) (h63 : ys.length ≤ 63)
    (h : ∀ D h', Fr h₀ L h' m → News h₀ L h' ((D, W.listOf (ys.take y.toNat).toArray 0) :: news) → (∀ p ∈ news, p.1 < D) → DatAll own (ys.take y.toNat) (ds.take y.toNat) → Q (.ref D) { s with heap := h' })
    (hs : subscripted slice false (.ref l) (.ref s.heap.objs.size) = operate [.ref s.heap.objs.size, .ref l] (getItem (.ref l) (.ref s.heap.objs.size))) (ht : ∀ r, letTemporaryGo value (.ref l) r = pure ()) :
    wpAny (model prog w) A (subscriptTail value slice (.ref l) (.ref s.heap.objs.size)) Q E { s with heap := s.heap.push { cls := .type "slice", data := .fields #[vl, vu, .none] } } := by
  refine kms_slice_lit F N hl pl pu (zs := ys.take y.toNat) ?_ (fun D h' F' N' l1 => h D h' F' N' l1 (dat_take hd _)) hs ht (by rw [PySem.sizeLine_eq, List.size_toArray]; omega)
  unfold kms_pick kms_lo kms_hi
  simp only [List.drop_zero, Nat.sub_zero]
  rw [if_neg (by omega)]
  exact kmk_take_min _ _
theorem callsD_cons (sc : List Int) (n : Nat) : callsD sc 0 (n + 1) = callD sc 0 :: callsD sc 1 n := by
  unfold callsD
  rw [List.range_succ_eq_map, List.map_cons, List.map_map]
  congr 1
  refine List.map_congr_left fun j _ => ?_
  show callD sc (0 + (j + 1)) = callD sc (1 + j)
  congr 1; omega
theorem due_cat {tp : Addr} {x : Int} {t : Tok} (F : Fr h₀ L s.heap m) (N : News h₀ L s.heap news) (hd : DatAll own ys (callsD sc 1 (sc.length - 1))) (hb : s.heap.IsList b ys.toArray) (ha : (a, W.listOf #[Value.ref tp] k1) ∈ news) (uhtp : (tp, pairObj .none (.int x t)) ∈ news) (hx : x = sc.getD 0 0) (hpos : 0 < sc.length) (h63 : sc.length ≤ 63)
    (h : ∀ D zs h', Fr h₀ L h' m → News h₀ L h' ((D, W.listOf (List.toArray zs) 0) :: news) → (∀ p ∈ news, p.1 < D) → zs.length = sc.length → DatAll ((tp, pairObj .none (.int x t)) :: own) zs (callsD sc 0 sc.length) → Q (.ref D) { s with heap := h' }) :
    wpAny (model prog w) A (binaryOp .Add (.ref a) (.ref b)) Q E s := by
  have hl := hd.length
  rw [callsD_length] at hl
  refine kmk_add_lit F N (its := #[Value.ref tp]) (its2 := ys.toArray) ⟨_, (N _ ha).1, rfl, k1, rfl⟩ hb (zs := Value.ref tp :: ys) (by simp) (fun D h' F' N' l1 => h D _ h' F' N' l1 (by rw [List.length_cons]; omega) ?_) (by rw [PySem.sizeLine_eq]; simp; omega)
  obtain ⟨n, hn⟩ : ∃ n, sc.length = n + 1 := ⟨sc.length - 1, by omega⟩
  rw [hn] at hd ⊢
  rw [callsD_cons]
  refine .cons ?_ (hd.mono fun p hp => .tail _ hp)
  rw [callD, vD, ← hx]
  exact DatIn.tuple (vs := [.none, .int x t]) (n := 0) (.head _) (.cons .none (.cons (.int _ _) .nil))
end

/-- a ledger without one of its objects -/
inductive Drop (d : Addr) : List (Addr × Obj) → List (Addr × Obj) → Prop
  | head {o : Obj} {r : List (Addr × Obj)} : (∀ p ∈ r, p.1 ≠ d) → Drop d ((d, o) :: r) r
  | tail {p : Addr × Obj} {r r' : List (Addr × Obj)} : p.1 ≠ d → Drop d r r' → Drop d (p :: r) (p :: r')
theorem Drop.sub {d : Addr} {l l' : List (Addr × Obj)} (h : Drop d l l') : ∀ p ∈ l', p ∈ l ∧ p.1 ≠ d := by
  induction h with
  | head h => exact fun p hp => ⟨.tail _ hp, h p hp⟩
  | tail hp _ ih =>
    intro p hm
    rcases List.mem_cons.mp hm with rfl | hm
    · exact ⟨.head _, hp⟩
    · exact ⟨.tail _ (ih p hm).1, (ih p hm).2⟩
section
variable {h₀ : Heap} {L I l c : Addr} {q1 q2 q3 q4 q5 : Addr × Obj} {v : Value} {s₁ : Shared} {h' : Heap} {tk : Nat} {m' : Str → Option Value} {all : List (Addr × Obj)} {oc : Obj} {vs : Array Value} {tq : Tok}
theorem t1_end (F : Fr h₀ L h' m') (N : News h₀ L h' all) (hI : (I, itObj l 1) ∈ all) (h32 : (32, tab1 c) ∈ all) (hc : (c, oc) ∈ all) (hl : (l, tlist) ∈ all) (h1 : q1 ∈ all) (h2 : q2 ∈ all) (h3 : q3 ∈ all) (h4 : q4 ∈ all) (h5 : q5 ∈ all) (hoc : oc.data = .fields vs) (hvs : vs[1]? = some (.str lamQual tq)) (hlt : LT.lt (α := Nat) I c) (hst : m' (Str.ofString "stop") = some v) :
    T1End h₀ L I l q1 q2 q3 q4 q5 v s₁ { s₁ with heap := h', toks := tk } := by
  refine ⟨h', tk, m', c, oc, vs, tq, rfl, F, fun p hp => N p ?_, hoc, hvs, hlt, hst⟩
  simp only [List.mem_cons, List.not_mem_nil, or_false] at hp
  rcases hp with rfl | rfl | rfl | rfl | rfl | rfl | rfl | rfl | rfl <;> assumption
theorem t2_end (F : Fr h₀ L h' m') (N : News h₀ L h' all) (hI : (I, itObj l 2) ∈ all) (h32 : (32, tab1 c) ∈ all) (hl : (l, tlist) ∈ all) : T2End h₀ L I l c s₁ { s₁ with heap := h', toks := tk } := by
  refine ⟨h', tk, m', rfl, F, fun p hp => N p ?_⟩
  simp only [List.mem_cons, List.not_mem_nil, or_false] at hp
  rcases hp with rfl | rfl | rfl <;> assumption
end
end Mine
namespace Mine
open PySem PySem.W PySem.Calls PyProof.Rows PyProof.V PySem.Spec
section
variable {prog : Program} {w : World} {A : Around} {E : Value → Shared → Prop} {s : Shared} {h₀ : Heap} {L l : Addr} {m : Str → Option Value} {news : List (Addr × Obj)} {ws : List Value} {sc : List Int} {Q : Value → Shared → Prop}
theorem tail_cut {value slice : PySem.Expr} {vl vu : Value} {y : Int} {k : Nat} (F : Fr h₀ L s.heap m) (N : News h₀ L s.heap news) (hI : IntsAre ws sc) (hl : (l, W.listOf ws.toArray k) ∈ news) (pl : IsPart vl (some y)) (pu : IsPart vu none) (h0 : 0 ≤ y) (h63 : sc.length ≤ 63)
    (h : ∀ D us h', Fr h₀ L h' m → News h₀ L h' ((D, W.listOf (List.toArray us) 0) :: news) → (∀ p ∈ news, p.1 < D) → IntsAre us (sc.drop y.toNat) → Q (.ref D) { s with heap := h' })
    (hs : subscripted slice false (.ref l) (.ref s.heap.objs.size) = operate [.ref s.heap.objs.size, .ref l] (getItem (.ref l) (.ref s.heap.objs.size))) (ht : ∀ r, letTemporaryGo value (.ref l) r = pure ()) :
    wpAny (model prog w) A (subscriptTail value slice (.ref l) (.ref s.heap.objs.size)) Q E { s with heap := s.heap.push { cls := .type "slice", data := .fields #[vl, vu, .none] } } := by
  have hlen : ws.length = sc.length := hI.length
  refine kms_slice_lit F N (its := ws.toArray) ⟨_, (N _ hl).1, rfl, k, rfl⟩ pl pu (zs := ws.drop y.toNat) ?_ (fun D h' F' N' l1 => h D _ h' F' N' l1 (ints_drop hI _)) hs ht (by rw [PySem.sizeLine_eq, List.size_toArray]; omega)
  unfold kms_pick kms_lo kms_hi
  simp only
  rw [if_neg (by omega), kmk_drop_min]
  refine List.take_of_length_le ?_
  rw [List.length_drop]
  omega
end
section
variable {α : Type} {own l r : List α} {a : α}
theorem sub_self : ∀ p ∈ own, p ∈ own := fun _ h => h
theorem sub_right : ∀ p ∈ own, p ∈ l ++ own := fun _ h => List.mem_append_right _ h
theorem sub_left (h : ∀ p ∈ own, p ∈ l) : ∀ p ∈ own, p ∈ l ++ r := fun p hp => List.mem_append_left _ (h p hp)
theorem sub_tail (h : ∀ p ∈ own, p ∈ l) : ∀ p ∈ own, p ∈ a :: l := fun p hp => .tail _ (h p hp)
theorem sub_cons (h1 : a ∈ l) (h : ∀ p ∈ own, p ∈ l) : ∀ p ∈ a :: own, p ∈ l := List.forall_mem_cons.mpr ⟨h1, h⟩
theorem sub_nil : ∀ p ∈ ([] : List α), p ∈ l := List.forall_mem_nil _
end
end Mine
namespace Mine
open PySem PySem.W PySem.Calls PyProof.Rows PyProof.V PySem.Spec

structure TurnMark : Prop where
  ok : True
theorem turnMark : TurnMark := ⟨trivial⟩
structure JMark : Prop where
  ok : True
/-- the ways of a turn meet behind the test of stop -/
def JEnd (h₀ : Heap) (L : Addr) (nx₀ : List (Addr × Obj)) (m₀ : Str → Option Value) (own : List (Addr × Obj)) (sc : List Int) (i₀ : Nat) (stop : Int) (s₁ s₂ : Shared) : Prop :=
  ∃ h' tk m' D De ys es k1 k2 r t, s₂ = { s₁ with heap := h', toks := tk } ∧ Fr h₀ L h' m' ∧ News h₀ L h' ((D, W.listOf (List.toArray ys) k1) :: (De, W.listOf (List.toArray es) k2) :: nx₀) ∧ DatAll own ys (toldCalls sc i₀ stop) ∧ DatAll [] es (toldRes sc i₀ stop) ∧
    r = ((i₀ + toldCnt sc i₀ stop : Nat) : Int) ∧ ((@Ne Nat 32 D) ∧ (@Ne Nat 32 De)) ∧ m' (Str.ofString "read") = some (.int r t) ∧ m' (Str.ofString "end") = some (.ref De) ∧ m' (Str.ofString "due") = some (.ref D) ∧
    ∀ z, z ≠ Str.ofString "read" → z ≠ Str.ofString "end" → z ≠ Str.ofString "due" → m' z = m₀ z
def JPost (h₀ : Heap) (L : Addr) (nx₀ : List (Addr × Obj)) (m₀ : Str → Option Value) (own : List (Addr × Obj)) (sc : List Int) (i₀ : Nat) (stop : Int) (s₁ : Shared) (Q : Flow → Shared → Prop) (f : Flow) (s₂ : Shared) : Prop :=
  match f with
  | .ret v => Q (.ret v) s₂
  | .brk => Q .brk s₂
  | .cont => Q .cont s₂
  | .next => JEnd h₀ L nx₀ m₀ own sc i₀ stop s₁ s₂
section
variable {prog : Program} {w : World} {A : Around} {E : Value → Shared → Prop} {s : Shared} {h₀ : Heap} {L : Addr} {m₀ : Str → Option Value} {nx₀ own : List (Addr × Obj)} {sc : List Int} {i₀ n : Nat} {stop : Int} {ts : Tok} {ys₀ : List Value} {st : Stmt} {env : Env} {Q : Flow → Shared → Prop}
theorem join_if (uF : Fr h₀ L s.heap m₀) (uN : News h₀ L s.heap nx₀) (uhd : DatAll own ys₀ (callsD sc i₀ n)) (uhst : m₀ (Str.ofString "stop") = some (.int stop ts))
    (h1 : JMark → wpAny (model prog w) A (exec st env) (JPost h₀ L nx₀ m₀ own sc i₀ stop s Q) E s)
    (h2 : ∀ D De ys es k1 k2 r t h' tk, Fr h₀ L h' (fun y => if y = Str.ofString "read" then some (.int r t) else if y = Str.ofString "end" then some (.ref De) else if y = Str.ofString "due" then some (.ref D) else m₀ y) →
      News h₀ L h' ((D, W.listOf (List.toArray ys) k1) :: (De, W.listOf (List.toArray es) k2) :: nx₀) → DatAll own ys (toldCalls sc i₀ stop) → DatAll [] es (toldRes sc i₀ stop) → r = ((i₀ + toldCnt sc i₀ stop : Nat) : Int) → ((@Ne Nat 32 D) ∧ (@Ne Nat 32 De)) → Q .next { s with heap := h', toks := tk }) :
    wpAny (model prog w) A (exec st env) Q E s := by
  refine wpAny_mono (h1 ⟨trivial⟩) (fun f s₂ hp => ?_) fun _ _ e => e
  cases f with
  | ret v => exact hp
  | brk => exact hp
  | cont => exact hp
  | next =>
    obtain ⟨h', tk, m', D, De, ys, es, k1, k2, r, t, rfl, F, N, d1, d2, hr, hne, e1, e2, e3, e4⟩ := hp
    refine h2 D De ys es k1 k2 r t h' tk ?_ N d1 d2 hr hne
    have em : m' = fun y => if y = Str.ofString "read" then some (.int r t) else if y = Str.ofString "end" then some (.ref De) else if y = Str.ofString "due" then some (.ref D) else m₀ y := by
      funext y
      by_cases a1 : y = Str.ofString "read"
      · rw [if_pos a1, a1, e1]
      · rw [if_neg a1]
        by_cases a2 : y = Str.ofString "end"
        · rw [if_pos a2, a2, e2]
        · rw [if_neg a2]
          by_cases a3 : y = Str.ofString "due"
          · rw [if_pos a3, a3, e3]
          · rw [if_neg a3, e4 y a1 a2 a3]
    rw [← em]; exact F
end
section
variable {h₀ : Heap} {L D De : Addr} {m₀ m' : Str → Option Value} {nx₀ own all : List (Addr × Obj)} {sc : List Int} {i₀ n k1 k2 tk : Nat} {stop r v : Int} {t t1 t2 : Tok} {ys : List Value} {s₁ : Shared} {h' : Heap}
theorem j_mem {e : Obj} (N : News h₀ L h' all) (hD : (D, W.listOf (List.toArray ys) k1) ∈ all) (hE : (De, e) ∈ all) (hb : ∀ p ∈ nx₀, p ∈ all) : News h₀ L h' ((D, W.listOf (List.toArray ys) k1) :: (De, e) :: nx₀) := fun p hp => N p (by
  rcases List.mem_cons.mp hp with rfl | hp
  · exact hD
  · rcases List.mem_cons.mp hp with rfl | hp
    · exact hE
    · exact hb p hp)
theorem j_out (F : Fr h₀ L h' m') (N : News h₀ L h' all) (h1 : m' (Str.ofString "read") = some (.int r t)) (h2 : m' (Str.ofString "end") = some (.ref De)) (h3 : m' (Str.ofString "due") = some (.ref D))
    (hD : (D, W.listOf ys.toArray k1) ∈ all) (hE : (De, W.listOf #[Value.str (Str.ofString "told") t1, Value.int (fV sc (sc.length - 1)) t2] k2) ∈ all) (hd : DatAll own ys (callsD sc i₀ n)) (hb : ∀ p ∈ nx₀, p ∈ all)
    (hns : ¬ InRange sc i₀ stop) (hn : n = sc.length - i₀) (h0 : i₀ ≤ sc.length) (hr : r = (sc.length : Int)) (n1 : @Ne Nat 32 D) (n2 : @Ne Nat 32 De) (hm : ∀ z, z ≠ Str.ofString "read" → z ≠ Str.ofString "end" → z ≠ Str.ofString "due" → m' z = m₀ z) :
    JEnd h₀ L nx₀ m₀ own sc i₀ stop s₁ { s₁ with heap := h', toks := tk } := by
  refine ⟨h', tk, m', D, De, ys, [Value.str (Str.ofString "told") t1, Value.int (fV sc (sc.length - 1)) t2], k1, k2, r, t, rfl, F, j_mem N hD hE hb, ?_, ?_, ?_, ⟨n1, n2⟩, h1, h2, h3, hm⟩
  · rw [calls_out hns, ← hn]; exact hd
  · rw [res_out hns]; exact .cons (.str _ _) (.cons (.int _ _) .nil)
  · unfold toldCnt; rw [if_neg hns, hr]; omega
theorem j_in (F : Fr h₀ L h' m') (N : News h₀ L h' all) (h1 : m' (Str.ofString "read") = some (.int r t)) (h2 : m' (Str.ofString "end") = some (.ref De)) (h3 : m' (Str.ofString "due") = some (.ref D))
    (hD : (D, W.listOf ys.toArray k1) ∈ all) (hE : (De, W.listOf #[Value.str (Str.ofString "stopped") t1] k2) ∈ all) (hd : DatAll own ys ((callsD sc i₀ n).take stop.toNat)) (hb : ∀ p ∈ nx₀, p ∈ all)
    (hin : InRange sc i₀ stop) (hn : n = sc.length - i₀) (hr : r = i₀ + stop) (n1 : @Ne Nat 32 D) (n2 : @Ne Nat 32 De) (hm : ∀ z, z ≠ Str.ofString "read" → z ≠ Str.ofString "end" → z ≠ Str.ofString "due" → m' z = m₀ z) :
    JEnd h₀ L nx₀ m₀ own sc i₀ stop s₁ { s₁ with heap := h', toks := tk } := by
  refine ⟨h', tk, m', D, De, ys, [Value.str (Str.ofString "stopped") t1], k1, k2, r, t, rfl, F, j_mem N hD hE hb, ?_, ?_, ?_, ⟨n1, n2⟩, h1, h2, h3, hm⟩
  · rw [calls_in hin, ← hn]; exact hd
  · rw [res_in hin]; exact .cons (.str _ _) .nil
  · unfold toldCnt; rw [if_pos hin, hr]; have := hin.1; omega
theorem rest_j {r : Int} {k : Nat} (hr : r = (k : Int)) : sc.drop k = sc.drop r.toNat := by rw [hr]; rfl
end
end Mine
section
open PySem PySem.W PyProof.Rows
namespace Mine
section
/-- the head's own look alone: it writes the frozen part of the heap out as a constant; the head itself is run in the main theorem -/
local macro_rules | `(tactic| o_head $_) => `(tactic| assumption)
set_option maxRecDepth 100000 in
set_option maxHeartbeats 8000000 in
theorem hd (h : (PySem.Challenge.rw_dp0027_01.row).Holds) : (PySem.Challenge.rw_dp0027_01.row).Holds := by
  k_head
end
end Mine
end
section
open PySem PySem.W PyProof.Rows
namespace Mine
local macro_rules | `(tactic| walk_at "call ref") => `(tactic| k_extra "my call ref")
local macro_rules | `(tactic| walk_at "call builtin:iter") => `(tactic| k_extra "my call builtin:iter")
local macro_rules | `(tactic| walk_at "call builtin:next") => `(tactic| k_extra "my call builtin:next")
local macro_rules | `(tactic| walk_at "exec For Name Name cons nil") => `(tactic| k_extra "my exec For Name Name cons nil")
local macro_rules | `(tactic| walk_at "call builtin:list.append") => `(tactic| k_extra "my call builtin:list.append")
local macro_rules | `(tactic| walk_at "call builtin:len") => `(tactic| k_extra "my call builtin:len")
local macro_rules | `(tactic| walk_at "R1EndV") => `(tactic| k_extra "my R1EndV")
local macro_rules | `(tactic| walk_at "LeaveT") => `(tactic| k_extra "my LeaveT")
local macro_rules | `(tactic| walk_at "R1PostV") => `(tactic| k_extra "my R1PostV")
local macro_rules | `(tactic| walk_at "leaving ref") => `(tactic| k_extra "my leaving ref")
local macro_rules | `(tactic| walk_at "noteFrame ref") => `(tactic| k_extra "my noteFrame ref")
set_option maxRecDepth 100000 in
set_option maxHeartbeats 8000000 in
theorem toldA {w : World} {h₀ : Heap} {L : Addr} {m mg mb : Str → Option Value} {s : Shared} {env : Env} {p : Program} {loose : List Str} {mean : ExcName → Option Value} {news : List (Addr × Obj)} {g : Obj → Obj → Obj → List (Addr × Obj)}
    {ca D I : Addr} {stop : Int} {ts : Tok} {ws : List Value} {sc : List Int} {Q : Value → Shared → Prop} {E : Value → Shared → Prop}
    (hf : env.frame = some L) (hke : env.scope.kind = .function) (KX : (hd.heap_1 w.params).In h₀) (T : Top p loose mean mg mb h₀) (K0 : Below callerA h₀ [] h₀) (cH : CodeHd h₀ 36 32)
    (F : Fr h₀ L s.heap m) (N : News h₀ L s.heap news) (hca : (ca, W.listOf (#[] : Array Value) 0) ∈ news) (hD : (D, W.listOf ws.toArray 0) ∈ news) (hIm : (I, itObj D 0) ∈ news) (htb : (32, tabObj #[]) ∈ news) (hKp : Keeps3 news ca I 32 g)
    (hI : IntsAre ws sc) (hpos : 0 < sc.length) (h63 : sc.length ≤ 63) (l1 : LT.lt (α := Nat) 32 D) (l2 : LT.lt (α := Nat) D ca) (l3 : LT.lt (α := Nat) ca I)
    (hQ : ToldQ3 h₀ L m g D I sc 1 stop Q s) :
    wpAny (model PySem.Challenge.rw_dp0027_01.row.prog w) (callerA.deeper env) (call (.ref 37) [.ref ca, .int stop ts, .ref I, .bool false]) Q E s := by
  k_with_none
  k_with "my call ref" => (k_here; (with_reducible show wpAny _ _ (call (Value.ref 37) _) _ _ _); k_dflt (refine wpAny_call ?_; (refine' code_told ?zw1k2 ?zw1k3 ?zw1k4 ?zw1k5 ?zw1kA ?zw1kF ?zw1kK ?zw1k6 ?zw1k7 ?zw1k8 ?zw1k9 ?zw1kB ?zw1kD ?_ ?zw1c2 ?zw1c3 ?zw1c4; (case zw1kA => exact rfl); (case zw1kF => first | assumption | exact rfl); (case zw1kK => first | assumption | exact rfl); (case zw1k2 => k_asm); (case zw1k3 => k_asm); (case zw1k4 => k_asm); (case zw1k5 => k_asm); (case zw1k6 => k_is); (case zw1k7 => k_is); (case zw1k8 => k_room); (case zw1k9 => first | exact BindsTo.of_eq rfl | exact binds_K (by k_in) rfl (by k_is) rfl rfl rfl); (case zw1kB => exact rfl); (case zw1kD => decide +kernel); (case zw1c2 => exact rfl); (case zw1c3 => exact rfl); (case zw1c4 => exact rfl); k_whole; intro oL' g' L' h' tk' cells' C' TG' F' N' Y' B' X' T' l1; (try k_lt l1); k_cells Y'; (try simp only [List.cons_append, List.nil_append] at N'); (try dsimp only); (try k_lift B'); (try k_fold))))
  k_with "my call builtin:iter" => (k_here; (with_reducible show wpAny _ _ (call (Value.builtin "iter") [Value.ref _]) _ _ _); (with_unfolding_all refine' it_iter ?zw2k1 ?zw2k2 ?zw2k3 ?_; (case zw2k1 => k_asm); (case zw2k2 => k_asm); (case zw2k3 => kso_list); k_whole); intro I' h' F' N' l1; (try k_lt l1); (try k_sweep))
  k_with "my call builtin:iter" => (k_here; (with_reducible show wpAny _ _ (call (Value.builtin "iter") [Value.ref _]) _ _ _); k_dflt (refine' it_iterSelf ?zw3k1 ?zw3k2 ?_; (case zw3k1 => k_asm); (case zw3k2 => k_mem); k_whole))
  k_with "my call builtin:next" => (k_here; (with_reducible show wpAny _ _ (call (Value.builtin "next") [Value.ref _]) _ _ _); k_dflt (refine' it_next ?zw4F ?zw4N ?zw4U ?zw4l ?zw4x ?_; (case zw4F => k_asm); (case zw4N => k_asm); (case zw4U => k_upd); (case zw4l => kso_list); (case zw4x => first | assumption | rfl); k_whole); intro h' F' N'; (try k_sweep))
  k_with "my exec For Name Name cons nil" => (k_here; (with_reducible show wpAny _ _ (exec (Stmt.For (Expr.Name (PySem.Str.ofString "element") _) (Expr.Name (PySem.Str.ofString "it") _) _ _ _) _) _ _ _); (rename Fr _ _ _ _ => lF'); (rename News _ _ _ _ => lN'); (with_unfolding_all refine' red1_forV ?zw5hh lF' ?zw5hst lN' ?zw5hit ?zw5hIm ?zw5hcm ?zw5U1 ?zw5U2 ?zw5hv ?zw5hV ?zw5hlm ?zw5hDc ?zw5hDI ?zw5hcI ?zw5hlc ?zw5hld ?zw5hI ?zw5hi (fun i' v' x' t' cs' e' own' h' tk' hle' hlt' hx' hV' hda' hcl' hoff' hns' F' N' => ?_) (fun v' cs' e' own' u' h' tk' hV' hda' hcl' hoff' hns' F' N' => ?_); (case zw5hh => with_unfolding_all rfl); (case zw5hst => assumption); (case zw5hit => with_unfolding_all rfl); (case zw5hIm => k_mem); (case zw5hcm => k_mem); (case zw5U1 => k_updF); (case zw5U2 => (intro X9; k_updF)); (case zw5hv => with_unfolding_all rfl); (case zw5hlm => k_mem); (case zw5hDc => k_ne); (case zw5hDI => k_ne); (case zw5hcI => k_ne); (case zw5hlc => rfl); (case zw5hld => rfl); (case zw5hI => assumption); (case zw5hV => first | exact DatIn.int _ _ | exact DatIn.none); (case zw5hi => omega)); (all_goals (try clear lF' lN')); (all_goals (try simp only [List.cons_append, List.nil_append, List.append_assoc] at N')); (all_goals (rcases vD_cases hV' with ⟨z9, v9⟩ | ⟨k9, t9, z9, v9⟩)); (all_goals (try (exfalso; omega))); (all_goals ((try subst z9); subst v9)); (all_goals (try dsimp only)); (all_goals (try k_fold)))
  k_with "my call builtin:list.append" => (k_here; (rename StopIs _ => sI'); k_dflt (refine' append_K ?zw6k1 ?zw6k2 ?zw6k3 ?_ ?zw6z; (case zw6k1 => k_asm); (case zw6k2 => k_asm); (case zw6k3 => k_upd); (case zw6z => size_fits); k_whole); intro h' F' N'; (try simp only [List.push_toArray] at N'); (try k_sweep))
  k_with "my call builtin:len" => (k_here; (rename StopIs _ => sI'); k_dflt (refine' len_snoc ?zw7k1 ?zw7k2 ?zw7k3 ?zw7k4 ?_; (case zw7k1 => k_asm); (case zw7k2 => k_memK); (case zw7k3 => assumption); (case zw7k4 => omega); k_whole))
  k_with "my R1EndV" => ((rename Fr _ _ _ _ => lF'); (rename News _ _ _ _ => lN'); (with_unfolding_all refine' red1_endV lF' lN' ?zw8hv ?zw8hm ?zw8hcm ?zw8hb ?zw8ht ?zw8ho ?zw8hvd ?zw8hx ?zw8hvd' ?zw8hda ?zw8hle ?zw8hoff ?zw8h1 ?zw8h2 ?zw8hns ?zw8hst); (case zw8hv => with_unfolding_all rfl); (case zw8hcm => k_mem); (case zw8ht => with_unfolding_all k_mem); (case zw8hb => kst_inAny); (case zw8hda => assumption); (case zw8ho => first | kst_anyIn | (intro p hp; kst_mem)); (case zw8hm => (intro z h1 h2; (simp [h1, h2]; done))); (case zw8hvd => first | exact DatIn.int _ _ | exact DatIn.none); (case zw8hx => assumption); (case zw8hvd' => first | exact vD_next (by assumption) | exact vD_first (by assumption)); (case zw8hle => first | omega | assumption); (case zw8hoff => assumption); (case zw8h1 => k_ne); (case zw8h2 => k_ne); (case zw8hns => assumption); (case zw8hst => assumption))
  k_with "my LeaveT" => (k_dflt (refine' leaveT_ ?zw9T ?zw9F ?zw9N ?_; (case zw9T => assumption); (case zw9F => k_asm); (case zw9N => k_asm); k_whole); intro kF kN; (try dsimp only))
  k_with "my R1PostV" => (dsimp only [R1PostV])
  k_with "my leaving ref" => (k_here; (with_reducible show wpAny _ _ (leaving (envX _ _ _ _ _ _) _) _ _ _); (refine' leave_onKX ?zw11k1 ?zw11k2 ?zw11k3 ?zw11k4 ?_; (case zw11k3 => assumption); (case zw11k1 => assumption); (case zw11k4 => assumption); (case zw11k2 => assumption); k_whole; intro h' R' U'; (try dsimp only at R' U' ⊢)))
  k_with "my noteFrame ref" => (k_here; (rename RaisedK _ _ _ _ _ _ _ _ => rkX); (with_reducible show wpAny _ _ (noteFrame _ _) (fun _ s₂ => wpAny _ _ (setFlight _ none) (fun _ s₃ => wpAny _ _ (handleBy _ _ (ExceptHandler.ExceptHandler (some (Expr.Name ("StopIteration" : Str) _)) none _ _ :: _)) _ _ s₃) _ s₂) _ _); (refine' caught_told (T' := "StopIteration") ?zw12C ?zw12TG rkX ?zw12F ?zw12K ?zw12U ?zw12XB ?zw12TB ?zw12hf ?zw12hke ?zw12ex PyProof.Rows.Boot.«StopIteration» ?zw12hn isExc_SI notTuple_SI isSub_SI ?_; (case zw12C => assumption); (case zw12TG => assumption); (case zw12F => assumption); (case zw12K => assumption); (case zw12U => assumption); (case zw12XB => assumption); (case zw12TB => assumption); (case zw12hf => assumption); (case zw12hke => assumption); (case zw12ex => k_is); (case zw12hn => decide); k_whole); intro h' g' TG' F' N' K' X' P'; (try k_lift K'); (try k_sweep))
  revert KX
  k_fill
  intro KX
  w_on
  obtain ⟨t0, h0⟩ := ints_head hI hpos
  obtain ⟨rest, hr, hO⟩ := rest_of news [ca, I, 32]
  replace N : News h₀ L s.heap ((I, itObj D 0) :: (ca, W.listOf #[] 0) :: (D, W.listOf ws.toArray 0) :: (32, tabObj #[]) :: rest) := fun q hq => by
    rcases List.mem_cons.mp hq with e | hq
    · rw [e]; exact N _ hIm
    · skip
      rcases List.mem_cons.mp hq with e | hq
      · rw [e]; exact N _ hca
      · skip
        rcases List.mem_cons.mp hq with e | hq
        · rw [e]; exact N _ hD
        · skip
          rcases List.mem_cons.mp hq with e | hq
          · rw [e]; exact N _ htb
          · exact N _ ((hr q).mp hq).1
  have kMark := kstMark
  have hSt := stopIs stop
  w_strict (k_steps; all_goals (first | (refine' told3_in hQ hKp hr ?f1 ?f2 ?h1 ?h2 ?h3 ?hoc ?hvs ?h4 ?h5 ?h6 ?hda ?h7 ?h8 ?hoff ?hle ?hlt ?hst ?hvd ?hx ?l1 ?l2 ?l3; (case f1 => assumption); (case f2 => assumption); (case h1 => k_mem); (case h2 => with_unfolding_all k_mem); (case h3 => k_mem); (case hoc => assumption); (case hvs => assumption); (case h4 => k_mem); (case h5 => with_unfolding_all k_mem); (case h6 => k_mem); (case hda => assumption); (case h7 => (intro p9 h9; kst_mem)); (case h8 => (intro p9 h9; kst_mem)); (case hoff => assumption); (case hle => first | assumption | omega); (case hlt => assumption); (case hst => assumption); (case hvd => first | exact DatIn.int _ _ | exact DatIn.none); (case hx => assumption); (case l1 => omega); (case l2 => omega); (case l3 => omega)) | (refine' told3_out hQ hKp hr ?f1 ?f2 ?h1 ?h2 ?h3 ?hoc ?hvs ?h4 ?h6 ?hda ?h7 ?h8 ?hoff ?hle ?hns ?hk ?l1 ?l2; (case f1 => assumption); (case f2 => assumption); (case h1 => k_mem); (case h2 => with_unfolding_all k_mem); (case h3 => k_mem); (case hoc => assumption); (case hvs => assumption); (case h4 => k_mem); (case h6 => k_mem); (case hda => assumption); (case h7 => (intro p9 h9; kst_mem)); (case h8 => (intro p9 h9; kst_mem)); (case hoff => assumption); (case hle => omega); (case hns => assumption); (case hk => assumption); (case l1 => omega); (case l2 => omega))))
set_option maxRecDepth 100000 in
set_option maxHeartbeats 8000000 in
theorem toldB {w : World} {h₀ : Heap} {L : Addr} {m mg mb : Str → Option Value} {s : Shared} {env : Env} {p : Program} {loose : List Str} {mean : ExcName → Option Value} {news : List (Addr × Obj)} {g : Obj → List (Addr × Obj)} {c9 : Addr} {oc9 : Obj} {vs9 : Array Value} {tq9 : Tok}
    {ca D : Addr} {stop : Int} {ts : Tok} {ws : List Value} {sc : List Int} {Q : Value → Shared → Prop} {E : Value → Shared → Prop}
    (hf : env.frame = some L) (hke : env.scope.kind = .function) (KX : (hd.heap_1 w.params).In h₀) (T : Top p loose mean mg mb h₀) (K0 : Below callerA h₀ [] h₀) (cH : CodeHd h₀ 36 32)
    (F : Fr h₀ L s.heap m) (N : News h₀ L s.heap news) (hca : (ca, W.listOf (#[] : Array Value) 0) ∈ news) (hD : (D, W.listOf ws.toArray 0) ∈ news) (htb : (32, tab1 c9) ∈ news) (hcc : (c9, oc9) ∈ news) (hoc : oc9.data = .fields vs9) (hvs : vs9[1]? = some (.str lamQual tq9)) (hKp : Keeps1 news ca g)
    (hI : IntsAre ws sc) (hpos : 0 < sc.length) (h63 : sc.length ≤ 63) (l1 : LT.lt (α := Nat) 32 D) (l2 : LT.lt (α := Nat) D ca) (l4 : LT.lt (α := Nat) 32 c9) (l5 : LT.lt (α := Nat) c9 ca)
    (hQ : ToldQ1 h₀ L m g sc 1 stop Q s) :
    wpAny (model PySem.Challenge.rw_dp0027_01.row.prog w) (callerA.deeper env) (call (.ref 37) [.ref ca, .int stop ts, .ref D, .bool false]) Q E s := by
  k_with_none
  k_with "my call ref" => (k_here; (with_reducible show wpAny _ _ (call (Value.ref 37) _) _ _ _); k_dflt (refine wpAny_call ?_; (refine' code_told ?zw13k2 ?zw13k3 ?zw13k4 ?zw13k5 ?zw13kA ?zw13kF ?zw13kK ?zw13k6 ?zw13k7 ?zw13k8 ?zw13k9 ?zw13kB ?zw13kD ?_ ?zw13c2 ?zw13c3 ?zw13c4; (case zw13kA => exact rfl); (case zw13kF => first | assumption | exact rfl); (case zw13kK => first | assumption | exact rfl); (case zw13k2 => k_asm); (case zw13k3 => k_asm); (case zw13k4 => k_asm); (case zw13k5 => k_asm); (case zw13k6 => k_is); (case zw13k7 => k_is); (case zw13k8 => k_room); (case zw13k9 => first | exact BindsTo.of_eq rfl | exact binds_K (by k_in) rfl (by k_is) rfl rfl rfl); (case zw13kB => exact rfl); (case zw13kD => decide +kernel); (case zw13c2 => exact rfl); (case zw13c3 => exact rfl); (case zw13c4 => exact rfl); k_whole; intro oL' g' L' h' tk' cells' C' TG' F' N' Y' B' X' T' l1; (try k_lt l1); k_cells Y'; (try simp only [List.cons_append, List.nil_append] at N'); (try dsimp only); (try k_lift B'); (try k_fold))))
  k_with "my call builtin:iter" => (k_here; (with_reducible show wpAny _ _ (call (Value.builtin "iter") [Value.ref _]) _ _ _); (with_unfolding_all refine' it_iter ?zw14k1 ?zw14k2 ?zw14k3 ?_; (case zw14k1 => k_asm); (case zw14k2 => k_asm); (case zw14k3 => kso_list); k_whole); intro I' h' F' N' l1; (try k_lt l1); (try k_sweep))
  k_with "my call builtin:iter" => (k_here; (with_reducible show wpAny _ _ (call (Value.builtin "iter") [Value.ref _]) _ _ _); k_dflt (refine' it_iterSelf ?zw15k1 ?zw15k2 ?_; (case zw15k1 => k_asm); (case zw15k2 => k_mem); k_whole))
  k_with "my call builtin:next" => (k_here; (with_reducible show wpAny _ _ (call (Value.builtin "next") [Value.ref _]) _ _ _); k_dflt (refine' it_next ?zw16F ?zw16N ?zw16U ?zw16l ?zw16x ?_; (case zw16F => k_asm); (case zw16N => k_asm); (case zw16U => k_upd); (case zw16l => kso_list); (case zw16x => first | assumption | rfl); k_whole); intro h' F' N'; (try k_sweep))
  k_with "my exec For Name Name cons nil" => (k_here; (with_reducible show wpAny _ _ (exec (Stmt.For (Expr.Name (PySem.Str.ofString "element") _) (Expr.Name (PySem.Str.ofString "it") _) _ _ _) _) _ _ _); (rename Fr _ _ _ _ => lF'); (rename News _ _ _ _ => lN'); (with_unfolding_all refine' red1_forV ?zw17hh lF' ?zw17hst lN' ?zw17hit ?zw17hIm ?zw17hcm ?zw17U1 ?zw17U2 ?zw17hv ?zw17hV ?zw17hlm ?zw17hDc ?zw17hDI ?zw17hcI ?zw17hlc ?zw17hld ?zw17hI ?zw17hi (fun i' v' x' t' cs' e' own' h' tk' hle' hlt' hx' hV' hda' hcl' hoff' hns' F' N' => ?_) (fun v' cs' e' own' u' h' tk' hV' hda' hcl' hoff' hns' F' N' => ?_); (case zw17hh => with_unfolding_all rfl); (case zw17hst => assumption); (case zw17hit => with_unfolding_all rfl); (case zw17hIm => k_mem); (case zw17hcm => k_mem); (case zw17U1 => k_updF); (case zw17U2 => (intro X9; k_updF)); (case zw17hv => with_unfolding_all rfl); (case zw17hlm => k_mem); (case zw17hDc => k_ne); (case zw17hDI => k_ne); (case zw17hcI => k_ne); (case zw17hlc => rfl); (case zw17hld => rfl); (case zw17hI => assumption); (case zw17hV => first | exact DatIn.int _ _ | exact DatIn.none); (case zw17hi => omega)); (all_goals (try clear lF' lN')); (all_goals (try simp only [List.cons_append, List.nil_append, List.append_assoc] at N')); (all_goals (rcases vD_cases hV' with ⟨z9, v9⟩ | ⟨k9, t9, z9, v9⟩)); (all_goals (try (exfalso; omega))); (all_goals ((try subst z9); subst v9)); (all_goals (try dsimp only)); (all_goals (try k_fold)))
  k_with "my call builtin:list.append" => (k_here; (rename StopIs _ => sI'); k_dflt (refine' append_K ?zw18k1 ?zw18k2 ?zw18k3 ?_ ?zw18z; (case zw18k1 => k_asm); (case zw18k2 => k_asm); (case zw18k3 => k_upd); (case zw18z => size_fits); k_whole); intro h' F' N'; (try simp only [List.push_toArray] at N'); (try k_sweep))
  k_with "my call builtin:len" => (k_here; (rename StopIs _ => sI'); k_dflt (refine' len_snoc ?zw19k1 ?zw19k2 ?zw19k3 ?zw19k4 ?_; (case zw19k1 => k_asm); (case zw19k2 => k_memK); (case zw19k3 => assumption); (case zw19k4 => omega); k_whole))
  k_with "my R1EndV" => ((rename Fr _ _ _ _ => lF'); (rename News _ _ _ _ => lN'); (with_unfolding_all refine' red1_endV lF' lN' ?zw20hv ?zw20hm ?zw20hcm ?zw20hb ?zw20ht ?zw20ho ?zw20hvd ?zw20hx ?zw20hvd' ?zw20hda ?zw20hle ?zw20hoff ?zw20h1 ?zw20h2 ?zw20hns ?zw20hst); (case zw20hv => with_unfolding_all rfl); (case zw20hcm => k_mem); (case zw20ht => with_unfolding_all k_mem); (case zw20hb => kst_inAny); (case zw20hda => assumption); (case zw20ho => first | kst_anyIn | (intro p hp; kst_mem)); (case zw20hm => (intro z h1 h2; (simp [h1, h2]; done))); (case zw20hvd => first | exact DatIn.int _ _ | exact DatIn.none); (case zw20hx => assumption); (case zw20hvd' => first | exact vD_next (by assumption) | exact vD_first (by assumption)); (case zw20hle => first | omega | assumption); (case zw20hoff => assumption); (case zw20h1 => k_ne); (case zw20h2 => k_ne); (case zw20hns => assumption); (case zw20hst => assumption))
  k_with "my LeaveT" => (k_dflt (refine' leaveT_ ?zw21T ?zw21F ?zw21N ?_; (case zw21T => assumption); (case zw21F => k_asm); (case zw21N => k_asm); k_whole); intro kF kN; (try dsimp only))
  k_with "my R1PostV" => (dsimp only [R1PostV])
  k_with "my leaving ref" => (k_here; (with_reducible show wpAny _ _ (leaving (envX _ _ _ _ _ _) _) _ _ _); (refine' leave_onKX ?zw23k1 ?zw23k2 ?zw23k3 ?zw23k4 ?_; (case zw23k3 => assumption); (case zw23k1 => assumption); (case zw23k4 => assumption); (case zw23k2 => assumption); k_whole; intro h' R' U'; (try dsimp only at R' U' ⊢)))
  k_with "my noteFrame ref" => (k_here; (rename RaisedK _ _ _ _ _ _ _ _ => rkX); (with_reducible show wpAny _ _ (noteFrame _ _) (fun _ s₂ => wpAny _ _ (setFlight _ none) (fun _ s₃ => wpAny _ _ (handleBy _ _ (ExceptHandler.ExceptHandler (some (Expr.Name ("StopIteration" : Str) _)) none _ _ :: _)) _ _ s₃) _ s₂) _ _); (refine' caught_told (T' := "StopIteration") ?zw24C ?zw24TG rkX ?zw24F ?zw24K ?zw24U ?zw24XB ?zw24TB ?zw24hf ?zw24hke ?zw24ex PyProof.Rows.Boot.«StopIteration» ?zw24hn isExc_SI notTuple_SI isSub_SI ?_; (case zw24C => assumption); (case zw24TG => assumption); (case zw24F => assumption); (case zw24K => assumption); (case zw24U => assumption); (case zw24XB => assumption); (case zw24TB => assumption); (case zw24hf => assumption); (case zw24hke => assumption); (case zw24ex => k_is); (case zw24hn => decide); k_whole); intro h' g' TG' F' N' K' X' P'; (try k_lift K'); (try k_sweep))
  revert KX
  k_fill
  intro KX
  w_on
  obtain ⟨t0, h0⟩ := ints_head hI hpos
  obtain ⟨rest, hr, hO⟩ := rest_of news [ca]
  replace N : News h₀ L s.heap ((ca, W.listOf #[] 0) :: (D, W.listOf ws.toArray 0) :: (32, tab1 c9) :: (c9, oc9) :: rest) := fun q hq => by
    rcases List.mem_cons.mp hq with e | hq
    · rw [e]; exact N _ hca
    · skip
      rcases List.mem_cons.mp hq with e | hq
      · rw [e]; exact N _ hD
      · skip
        rcases List.mem_cons.mp hq with e | hq
        · rw [e]; exact N _ htb
        · skip
          rcases List.mem_cons.mp hq with e | hq
          · rw [e]; exact N _ hcc
          · exact N _ ((hr q).mp hq).1
  have kMark := kstMark
  have hSt := stopIs stop
  w_strict (k_steps; all_goals (first | (refine' told1_in hQ hKp hr ?f1 ?f2 ?h1 ?h4 ?h5 ?hda ?h7 ?h8 ?hle ?hlt ?hst ?hvd ?hx; (case f1 => assumption); (case f2 => assumption); (case h1 => k_mem); (case h4 => k_mem); (case h5 => with_unfolding_all k_mem); (case hda => assumption); (case h7 => (intro p9 h9; kst_mem)); (case h8 => (intro p9 h9; kst_mem)); (case hle => first | assumption | omega); (case hlt => assumption); (case hst => assumption); (case hvd => first | exact DatIn.int _ _ | exact DatIn.none); (case hx => assumption)) | (refine' told1_out hQ hKp hr ?f1 ?f2 ?h1 ?h4 ?hda ?h7 ?h8 ?hns ?hk; (case f1 => assumption); (case f2 => assumption); (case h1 => k_mem); (case h4 => k_mem); (case hda => assumption); (case h7 => (intro p9 h9; kst_mem)); (case h8 => (intro p9 h9; kst_mem)); (case hns => assumption); (case hk => assumption))))
set_option maxRecDepth 100000 in
set_option maxHeartbeats 8000000 in
theorem toldC {w : World} {h₀ : Heap} {L : Addr} {m mg mb : Str → Option Value} {s : Shared} {env : Env} {p : Program} {loose : List Str} {mean : ExcName → Option Value} {news : List (Addr × Obj)} {g : Obj → Obj → List (Addr × Obj)} {c9 : Addr} {oc9 : Obj} {vs9 : Array Value} {tq9 : Tok}
    {ca D I : Addr} {stop : Int} {ts : Tok} {ws : List Value} {sc : List Int} {Q : Value → Shared → Prop} {E : Value → Shared → Prop}
    (hf : env.frame = some L) (hke : env.scope.kind = .function) (KX : (hd.heap_1 w.params).In h₀) (T : Top p loose mean mg mb h₀) (K0 : Below callerA h₀ [] h₀) (cH : CodeHd h₀ 36 32)
    (F : Fr h₀ L s.heap m) (N : News h₀ L s.heap news) (hca : (ca, W.listOf (#[] : Array Value) 0) ∈ news) (hD : (D, W.listOf ws.toArray 0) ∈ news) (hIm : (I, itObj D 0) ∈ news) (htb : (32, tab1 c9) ∈ news) (hcc : (c9, oc9) ∈ news) (hoc : oc9.data = .fields vs9) (hvs : vs9[1]? = some (.str lamQual tq9)) (hKp : Keeps2 news ca I g)
    (hI : IntsAre ws sc) (hpos : 0 < sc.length) (h63 : sc.length ≤ 63) (l1 : LT.lt (α := Nat) 32 D) (l2 : LT.lt (α := Nat) D ca) (l3 : LT.lt (α := Nat) ca I) (l4 : LT.lt (α := Nat) 32 c9) (l5 : LT.lt (α := Nat) c9 ca)
    (hQ : ToldQ2 h₀ L m g D I sc 0 stop Q s) :
    wpAny (model PySem.Challenge.rw_dp0027_01.row.prog w) (callerA.deeper env) (call (.ref 37) [.ref ca, .int stop ts, .ref I, .bool true]) Q E s := by
  k_with_none
  k_with "my call ref" => (k_here; (with_reducible show wpAny _ _ (call (Value.ref 37) _) _ _ _); k_dflt (refine wpAny_call ?_; (refine' code_told ?zw25k2 ?zw25k3 ?zw25k4 ?zw25k5 ?zw25kA ?zw25kF ?zw25kK ?zw25k6 ?zw25k7 ?zw25k8 ?zw25k9 ?zw25kB ?zw25kD ?_ ?zw25c2 ?zw25c3 ?zw25c4; (case zw25kA => exact rfl); (case zw25kF => first | assumption | exact rfl); (case zw25kK => first | assumption | exact rfl); (case zw25k2 => k_asm); (case zw25k3 => k_asm); (case zw25k4 => k_asm); (case zw25k5 => k_asm); (case zw25k6 => k_is); (case zw25k7 => k_is); (case zw25k8 => k_room); (case zw25k9 => first | exact BindsTo.of_eq rfl | exact binds_K (by k_in) rfl (by k_is) rfl rfl rfl); (case zw25kB => exact rfl); (case zw25kD => decide +kernel); (case zw25c2 => exact rfl); (case zw25c3 => exact rfl); (case zw25c4 => exact rfl); k_whole; intro oL' g' L' h' tk' cells' C' TG' F' N' Y' B' X' T' l1; (try k_lt l1); k_cells Y'; (try simp only [List.cons_append, List.nil_append] at N'); (try dsimp only); (try k_lift B'); (try k_fold))))
  k_with "my call builtin:iter" => (k_here; (with_reducible show wpAny _ _ (call (Value.builtin "iter") [Value.ref _]) _ _ _); (with_unfolding_all refine' it_iter ?zw26k1 ?zw26k2 ?zw26k3 ?_; (case zw26k1 => k_asm); (case zw26k2 => k_asm); (case zw26k3 => kso_list); k_whole); intro I' h' F' N' l1; (try k_lt l1); (try k_sweep))
  k_with "my call builtin:iter" => (k_here; (with_reducible show wpAny _ _ (call (Value.builtin "iter") [Value.ref _]) _ _ _); k_dflt (refine' it_iterSelf ?zw27k1 ?zw27k2 ?_; (case zw27k1 => k_asm); (case zw27k2 => k_mem); k_whole))
  k_with "my call builtin:next" => (k_here; (with_reducible show wpAny _ _ (call (Value.builtin "next") [Value.ref _]) _ _ _); k_dflt (refine' it_next ?zw28F ?zw28N ?zw28U ?zw28l ?zw28x ?_; (case zw28F => k_asm); (case zw28N => k_asm); (case zw28U => k_upd); (case zw28l => kso_list); (case zw28x => first | assumption | rfl); k_whole); intro h' F' N'; (try k_sweep))
  k_with "my exec For Name Name cons nil" => (k_here; (with_reducible show wpAny _ _ (exec (Stmt.For (Expr.Name (PySem.Str.ofString "element") _) (Expr.Name (PySem.Str.ofString "it") _) _ _ _) _) _ _ _); (rename Fr _ _ _ _ => lF'); (rename News _ _ _ _ => lN'); (with_unfolding_all refine' red1_forV ?zw29hh lF' ?zw29hst lN' ?zw29hit ?zw29hIm ?zw29hcm ?zw29U1 ?zw29U2 ?zw29hv ?zw29hV ?zw29hlm ?zw29hDc ?zw29hDI ?zw29hcI ?zw29hlc ?zw29hld ?zw29hI ?zw29hi (fun i' v' x' t' cs' e' own' h' tk' hle' hlt' hx' hV' hda' hcl' hoff' hns' F' N' => ?_) (fun v' cs' e' own' u' h' tk' hV' hda' hcl' hoff' hns' F' N' => ?_); (case zw29hh => with_unfolding_all rfl); (case zw29hst => assumption); (case zw29hit => with_unfolding_all rfl); (case zw29hIm => k_mem); (case zw29hcm => k_mem); (case zw29U1 => k_updF); (case zw29U2 => (intro X9; k_updF)); (case zw29hv => with_unfolding_all rfl); (case zw29hlm => k_mem); (case zw29hDc => k_ne); (case zw29hDI => k_ne); (case zw29hcI => k_ne); (case zw29hlc => rfl); (case zw29hld => rfl); (case zw29hI => assumption); (case zw29hV => first | exact DatIn.int _ _ | exact DatIn.none); (case zw29hi => omega)); (all_goals (try clear lF' lN')); (all_goals (try simp only [List.cons_append, List.nil_append, List.append_assoc] at N')); (all_goals (rcases vD_cases hV' with ⟨z9, v9⟩ | ⟨k9, t9, z9, v9⟩)); (all_goals (try (exfalso; omega))); (all_goals ((try subst z9); subst v9)); (all_goals (try dsimp only)); (all_goals (try k_fold)))
  k_with "my call builtin:list.append" => (k_here; (rename StopIs _ => sI'); k_dflt (refine' append_K ?zw30k1 ?zw30k2 ?zw30k3 ?_ ?zw30z; (case zw30k1 => k_asm); (case zw30k2 => k_asm); (case zw30k3 => k_upd); (case zw30z => size_fits); k_whole); intro h' F' N'; (try simp only [List.push_toArray] at N'); (try k_sweep))
  k_with "my call builtin:len" => (k_here; (rename StopIs _ => sI'); k_dflt (refine' len_snoc ?zw31k1 ?zw31k2 ?zw31k3 ?zw31k4 ?_; (case zw31k1 => k_asm); (case zw31k2 => k_memK); (case zw31k3 => assumption); (case zw31k4 => omega); k_whole))
  k_with "my R1EndV" => ((rename Fr _ _ _ _ => lF'); (rename News _ _ _ _ => lN'); (with_unfolding_all refine' red1_endV lF' lN' ?zw32hv ?zw32hm ?zw32hcm ?zw32hb ?zw32ht ?zw32ho ?zw32hvd ?zw32hx ?zw32hvd' ?zw32hda ?zw32hle ?zw32hoff ?zw32h1 ?zw32h2 ?zw32hns ?zw32hst); (case zw32hv => with_unfolding_all rfl); (case zw32hcm => k_mem); (case zw32ht => with_unfolding_all k_mem); (case zw32hb => kst_inAny); (case zw32hda => assumption); (case zw32ho => first | kst_anyIn | (intro p hp; kst_mem)); (case zw32hm => (intro z h1 h2; (simp [h1, h2]; done))); (case zw32hvd => first | exact DatIn.int _ _ | exact DatIn.none); (case zw32hx => assumption); (case zw32hvd' => first | exact vD_next (by assumption) | exact vD_first (by assumption)); (case zw32hle => first | omega | assumption); (case zw32hoff => assumption); (case zw32h1 => k_ne); (case zw32h2 => k_ne); (case zw32hns => assumption); (case zw32hst => assumption))
  k_with "my LeaveT" => (k_dflt (refine' leaveT_ ?zw33T ?zw33F ?zw33N ?_; (case zw33T => assumption); (case zw33F => k_asm); (case zw33N => k_asm); k_whole); intro kF kN; (try dsimp only))
  k_with "my R1PostV" => (dsimp only [R1PostV])
  k_with "my leaving ref" => (k_here; (with_reducible show wpAny _ _ (leaving (envX _ _ _ _ _ _) _) _ _ _); (refine' leave_onKX ?zw35k1 ?zw35k2 ?zw35k3 ?zw35k4 ?_; (case zw35k3 => assumption); (case zw35k1 => assumption); (case zw35k4 => assumption); (case zw35k2 => assumption); k_whole; intro h' R' U'; (try dsimp only at R' U' ⊢)))
  k_with "my noteFrame ref" => (k_here; (rename RaisedK _ _ _ _ _ _ _ _ => rkX); (with_reducible show wpAny _ _ (noteFrame _ _) (fun _ s₂ => wpAny _ _ (setFlight _ none) (fun _ s₃ => wpAny _ _ (handleBy _ _ (ExceptHandler.ExceptHandler (some (Expr.Name ("StopIteration" : Str) _)) none _ _ :: _)) _ _ s₃) _ s₂) _ _); (refine' caught_told (T' := "StopIteration") ?zw36C ?zw36TG rkX ?zw36F ?zw36K ?zw36U ?zw36XB ?zw36TB ?zw36hf ?zw36hke ?zw36ex PyProof.Rows.Boot.«StopIteration» ?zw36hn isExc_SI notTuple_SI isSub_SI ?_; (case zw36C => assumption); (case zw36TG => assumption); (case zw36F => assumption); (case zw36K => assumption); (case zw36U => assumption); (case zw36XB => assumption); (case zw36TB => assumption); (case zw36hf => assumption); (case zw36hke => assumption); (case zw36ex => k_is); (case zw36hn => decide); k_whole); intro h' g' TG' F' N' K' X' P'; (try k_lift K'); (try k_sweep))
  revert KX
  k_fill
  intro KX
  w_on
  obtain ⟨t0, h0⟩ := ints_head hI hpos
  obtain ⟨rest, hr, hO⟩ := rest_of news [ca, I]
  replace N : News h₀ L s.heap ((I, itObj D 0) :: (ca, W.listOf #[] 0) :: (D, W.listOf ws.toArray 0) :: (32, tab1 c9) :: (c9, oc9) :: rest) := fun q hq => by
    rcases List.mem_cons.mp hq with e | hq
    · rw [e]; exact N _ hIm
    · skip
      rcases List.mem_cons.mp hq with e | hq
      · rw [e]; exact N _ hca
      · skip
        rcases List.mem_cons.mp hq with e | hq
        · rw [e]; exact N _ hD
        · skip
          rcases List.mem_cons.mp hq with e | hq
          · rw [e]; exact N _ htb
          · skip
            rcases List.mem_cons.mp hq with e | hq
            · rw [e]; exact N _ hcc
            · exact N _ ((hr q).mp hq).1
  have kMark := kstMark
  have hSt := stopIs stop
  w_strict (k_steps; all_goals (first | (refine' told2_in hQ hKp hr ?f1 ?f2 ?h1 ?h4 ?h5 ?h6 ?hda ?h7 ?h8 ?hoff ?hle ?hlt ?hst ?hvd ?hx ?l1 ?l3; (case f1 => assumption); (case f2 => assumption); (case h1 => k_mem); (case h4 => k_mem); (case h5 => with_unfolding_all k_mem); (case h6 => k_mem); (case hda => assumption); (case h7 => (intro p9 h9; kst_mem)); (case h8 => (intro p9 h9; kst_mem)); (case hoff => assumption); (case hle => first | assumption | omega); (case hlt => assumption); (case hst => assumption); (case hvd => first | exact DatIn.int _ _ | exact DatIn.none); (case hx => assumption); (case l1 => omega); (case l3 => omega)) | (refine' told2_out hQ hKp hr ?f1 ?f2 ?h1 ?h4 ?h6 ?hda ?h7 ?h8 ?hoff ?hle ?hns ?hk ?l1; (case f1 => assumption); (case f2 => assumption); (case h1 => k_mem); (case h4 => k_mem); (case h6 => k_mem); (case hda => assumption); (case h7 => (intro p9 h9; kst_mem)); (case h8 => (intro p9 h9; kst_mem)); (case hoff => assumption); (case hle => omega); (case hns => assumption); (case hk => assumption); (case l1 => omega))))
set_option maxRecDepth 100000 in
set_option maxHeartbeats 8000000 in
theorem toldD {w : World} {h₀ : Heap} {L : Addr} {m mg mb : Str → Option Value} {s : Shared} {env : Env} {p : Program} {loose : List Str} {mean : ExcName → Option Value} {news : List (Addr × Obj)} {g : Obj → List (Addr × Obj)} {c9 : Addr} {oc9 : Obj} {vs9 : Array Value} {tq9 : Tok}
    {ca D : Addr} {stop : Int} {ts : Tok} {ws : List Value} {sc : List Int} {Q : Value → Shared → Prop} {E : Value → Shared → Prop}
    (hf : env.frame = some L) (hke : env.scope.kind = .function) (KX : (hd.heap_1 w.params).In h₀) (T : Top p loose mean mg mb h₀) (K0 : Below callerA h₀ [] h₀) (cH : CodeHd h₀ 36 32)
    (F : Fr h₀ L s.heap m) (N : News h₀ L s.heap news) (hca : (ca, W.listOf (#[] : Array Value) 0) ∈ news) (hD : (D, W.listOf ws.toArray 0) ∈ news) (htb : (32, tab1 c9) ∈ news) (hcc : (c9, oc9) ∈ news) (hoc : oc9.data = .fields vs9) (hvs : vs9[1]? = some (.str lamQual tq9)) (hKp : Keeps1 news ca g)
    (hI : IntsAre ws sc) (hpos : 0 < sc.length) (h63 : sc.length ≤ 63) (l1 : LT.lt (α := Nat) 32 D) (l2 : LT.lt (α := Nat) D ca) (l4 : LT.lt (α := Nat) 32 c9) (l5 : LT.lt (α := Nat) c9 ca)
    (hQ : ToldQ1 h₀ L m g sc 0 stop Q s) :
    wpAny (model PySem.Challenge.rw_dp0027_01.row.prog w) (callerA.deeper env) (call (.ref 37) [.ref ca, .int stop ts, .ref D, .bool true]) Q E s := by
  k_with_none
  k_with "my call ref" => (k_here; (with_reducible show wpAny _ _ (call (Value.ref 37) _) _ _ _); k_dflt (refine wpAny_call ?_; (refine' code_told ?zw37k2 ?zw37k3 ?zw37k4 ?zw37k5 ?zw37kA ?zw37kF ?zw37kK ?zw37k6 ?zw37k7 ?zw37k8 ?zw37k9 ?zw37kB ?zw37kD ?_ ?zw37c2 ?zw37c3 ?zw37c4; (case zw37kA => exact rfl); (case zw37kF => first | assumption | exact rfl); (case zw37kK => first | assumption | exact rfl); (case zw37k2 => k_asm); (case zw37k3 => k_asm); (case zw37k4 => k_asm); (case zw37k5 => k_asm); (case zw37k6 => k_is); (case zw37k7 => k_is); (case zw37k8 => k_room); (case zw37k9 => first | exact BindsTo.of_eq rfl | exact binds_K (by k_in) rfl (by k_is) rfl rfl rfl); (case zw37kB => exact rfl); (case zw37kD => decide +kernel); (case zw37c2 => exact rfl); (case zw37c3 => exact rfl); (case zw37c4 => exact rfl); k_whole; intro oL' g' L' h' tk' cells' C' TG' F' N' Y' B' X' T' l1; (try k_lt l1); k_cells Y'; (try simp only [List.cons_append, List.nil_append] at N'); (try dsimp only); (try k_lift B'); (try k_fold))))
  k_with "my call builtin:iter" => (k_here; (with_reducible show wpAny _ _ (call (Value.builtin "iter") [Value.ref _]) _ _ _); (with_unfolding_all refine' it_iter ?zw38k1 ?zw38k2 ?zw38k3 ?_; (case zw38k1 => k_asm); (case zw38k2 => k_asm); (case zw38k3 => kso_list); k_whole); intro I' h' F' N' l1; (try k_lt l1); (try k_sweep))
  k_with "my call builtin:iter" => (k_here; (with_reducible show wpAny _ _ (call (Value.builtin "iter") [Value.ref _]) _ _ _); k_dflt (refine' it_iterSelf ?zw39k1 ?zw39k2 ?_; (case zw39k1 => k_asm); (case zw39k2 => k_mem); k_whole))
  k_with "my call builtin:next" => (k_here; (with_reducible show wpAny _ _ (call (Value.builtin "next") [Value.ref _]) _ _ _); k_dflt (refine' it_next ?zw40F ?zw40N ?zw40U ?zw40l ?zw40x ?_; (case zw40F => k_asm); (case zw40N => k_asm); (case zw40U => k_upd); (case zw40l => kso_list); (case zw40x => first | assumption | rfl); k_whole); intro h' F' N'; (try k_sweep))
  k_with "my exec For Name Name cons nil" => (k_here; (with_reducible show wpAny _ _ (exec (Stmt.For (Expr.Name (PySem.Str.ofString "element") _) (Expr.Name (PySem.Str.ofString "it") _) _ _ _) _) _ _ _); (rename Fr _ _ _ _ => lF'); (rename News _ _ _ _ => lN'); (with_unfolding_all refine' red1_forV ?zw41hh lF' ?zw41hst lN' ?zw41hit ?zw41hIm ?zw41hcm ?zw41U1 ?zw41U2 ?zw41hv ?zw41hV ?zw41hlm ?zw41hDc ?zw41hDI ?zw41hcI ?zw41hlc ?zw41hld ?zw41hI ?zw41hi (fun i' v' x' t' cs' e' own' h' tk' hle' hlt' hx' hV' hda' hcl' hoff' hns' F' N' => ?_) (fun v' cs' e' own' u' h' tk' hV' hda' hcl' hoff' hns' F' N' => ?_); (case zw41hh => with_unfolding_all rfl); (case zw41hst => assumption); (case zw41hit => with_unfolding_all rfl); (case zw41hIm => k_mem); (case zw41hcm => k_mem); (case zw41U1 => k_updF); (case zw41U2 => (intro X9; k_updF)); (case zw41hv => with_unfolding_all rfl); (case zw41hlm => k_mem); (case zw41hDc => k_ne); (case zw41hDI => k_ne); (case zw41hcI => k_ne); (case zw41hlc => rfl); (case zw41hld => rfl); (case zw41hI => assumption); (case zw41hV => first | exact DatIn.int _ _ | exact DatIn.none); (case zw41hi => omega)); (all_goals (try clear lF' lN')); (all_goals (try simp only [List.cons_append, List.nil_append, List.append_assoc] at N')); (all_goals (rcases vD_cases hV' with ⟨z9, v9⟩ | ⟨k9, t9, z9, v9⟩)); (all_goals (try (exfalso; omega))); (all_goals ((try subst z9); subst v9)); (all_goals (try dsimp only)); (all_goals (try k_fold)))
  k_with "my call builtin:list.append" => (k_here; (rename StopIs _ => sI'); k_dflt (refine' append_K ?zw42k1 ?zw42k2 ?zw42k3 ?_ ?zw42z; (case zw42k1 => k_asm); (case zw42k2 => k_asm); (case zw42k3 => k_upd); (case zw42z => size_fits); k_whole); intro h' F' N'; (try simp only [List.push_toArray] at N'); (try k_sweep))
  k_with "my call builtin:len" => (k_here; (rename StopIs _ => sI'); k_dflt (refine' len_snoc ?zw43k1 ?zw43k2 ?zw43k3 ?zw43k4 ?_; (case zw43k1 => k_asm); (case zw43k2 => k_memK); (case zw43k3 => assumption); (case zw43k4 => omega); k_whole))
  k_with "my R1EndV" => ((rename Fr _ _ _ _ => lF'); (rename News _ _ _ _ => lN'); (with_unfolding_all refine' red1_endV lF' lN' ?zw44hv ?zw44hm ?zw44hcm ?zw44hb ?zw44ht ?zw44ho ?zw44hvd ?zw44hx ?zw44hvd' ?zw44hda ?zw44hle ?zw44hoff ?zw44h1 ?zw44h2 ?zw44hns ?zw44hst); (case zw44hv => with_unfolding_all rfl); (case zw44hcm => k_mem); (case zw44ht => with_unfolding_all k_mem); (case zw44hb => kst_inAny); (case zw44hda => assumption); (case zw44ho => first | kst_anyIn | (intro p hp; kst_mem)); (case zw44hm => (intro z h1 h2; (simp [h1, h2]; done))); (case zw44hvd => first | exact DatIn.int _ _ | exact DatIn.none); (case zw44hx => assumption); (case zw44hvd' => first | exact vD_next (by assumption) | exact vD_first (by assumption)); (case zw44hle => first | omega | assumption); (case zw44hoff => assumption); (case zw44h1 => k_ne); (case zw44h2 => k_ne); (case zw44hns => assumption); (case zw44hst => assumption))
  k_with "my LeaveT" => (k_dflt (refine' leaveT_ ?zw45T ?zw45F ?zw45N ?_; (case zw45T => assumption); (case zw45F => k_asm); (case zw45N => k_asm); k_whole); intro kF kN; (try dsimp only))
  k_with "my R1PostV" => (dsimp only [R1PostV])
  k_with "my leaving ref" => (k_here; (with_reducible show wpAny _ _ (leaving (envX _ _ _ _ _ _) _) _ _ _); (refine' leave_onKX ?zw47k1 ?zw47k2 ?zw47k3 ?zw47k4 ?_; (case zw47k3 => assumption); (case zw47k1 => assumption); (case zw47k4 => assumption); (case zw47k2 => assumption); k_whole; intro h' R' U'; (try dsimp only at R' U' ⊢)))
  k_with "my noteFrame ref" => (k_here; (rename RaisedK _ _ _ _ _ _ _ _ => rkX); (with_reducible show wpAny _ _ (noteFrame _ _) (fun _ s₂ => wpAny _ _ (setFlight _ none) (fun _ s₃ => wpAny _ _ (handleBy _ _ (ExceptHandler.ExceptHandler (some (Expr.Name ("StopIteration" : Str) _)) none _ _ :: _)) _ _ s₃) _ s₂) _ _); (refine' caught_told (T' := "StopIteration") ?zw48C ?zw48TG rkX ?zw48F ?zw48K ?zw48U ?zw48XB ?zw48TB ?zw48hf ?zw48hke ?zw48ex PyProof.Rows.Boot.«StopIteration» ?zw48hn isExc_SI notTuple_SI isSub_SI ?_; (case zw48C => assumption); (case zw48TG => assumption); (case zw48F => assumption); (case zw48K => assumption); (case zw48U => assumption); (case zw48XB => assumption); (case zw48TB => assumption); (case zw48hf => assumption); (case zw48hke => assumption); (case zw48ex => k_is); (case zw48hn => decide); k_whole); intro h' g' TG' F' N' K' X' P'; (try k_lift K'); (try k_sweep))
  revert KX
  k_fill
  intro KX
  w_on
  obtain ⟨t0, h0⟩ := ints_head hI hpos
  obtain ⟨rest, hr, hO⟩ := rest_of news [ca]
  replace N : News h₀ L s.heap ((ca, W.listOf #[] 0) :: (D, W.listOf ws.toArray 0) :: (32, tab1 c9) :: (c9, oc9) :: rest) := fun q hq => by
    rcases List.mem_cons.mp hq with e | hq
    · rw [e]; exact N _ hca
    · skip
      rcases List.mem_cons.mp hq with e | hq
      · rw [e]; exact N _ hD
      · skip
        rcases List.mem_cons.mp hq with e | hq
        · rw [e]; exact N _ htb
        · skip
          rcases List.mem_cons.mp hq with e | hq
          · rw [e]; exact N _ hcc
          · exact N _ ((hr q).mp hq).1
  have kMark := kstMark
  have hSt := stopIs stop
  w_strict (k_steps; all_goals (first | (refine' told1_in hQ hKp hr ?f1 ?f2 ?h1 ?h4 ?h5 ?hda ?h7 ?h8 ?hle ?hlt ?hst ?hvd ?hx; (case f1 => assumption); (case f2 => assumption); (case h1 => k_mem); (case h4 => k_mem); (case h5 => with_unfolding_all k_mem); (case hda => assumption); (case h7 => (intro p9 h9; kst_mem)); (case h8 => (intro p9 h9; kst_mem)); (case hle => first | assumption | omega); (case hlt => assumption); (case hst => assumption); (case hvd => first | exact DatIn.int _ _ | exact DatIn.none); (case hx => assumption)) | (refine' told1_out hQ hKp hr ?f1 ?f2 ?h1 ?h4 ?hda ?h7 ?h8 ?hns ?hk; (case f1 => assumption); (case f2 => assumption); (case h1 => k_mem); (case h4 => k_mem); (case hda => assumption); (case h7 => (intro p9 h9; kst_mem)); (case h8 => (intro p9 h9; kst_mem)); (case hns => assumption); (case hk => assumption))))
end Mine
end
section
open PySem PySem.W PyProof.Rows
namespace Mine
theorem args_ne {ns : List Int} (h : ¬ ([ofPy (PyData.list (List.map PyData.int ns))] : List WData) = [ofPy (PyData.list [])]) : ns ≠ [] := by
  rintro rfl
  exact h rfl
theorem args_eq {n : Int} {ns : List Int} (h : ([ofPy (PyData.list (List.map PyData.int (n :: ns)))] : List WData) = [ofPy (PyData.list [])]) : False := by
  simp [ofPy, ofPys] at h
theorem frag_mem {a : Addr} {o : Obj} : ∀ {K : Frag}, K.lookup a = some o → (a, o) ∈ K
  | [], e => by cases e
  | (b, p) :: r, e => by
    rw [List.lookup_cons] at e
    by_cases q : (a == b) = true
    · rw [q] at e
      have h1 := Option.some.inj e
      have h2 : a = b := by simpa using q
      subst h1 h2
      exact .head _
    · have q' : (a == b) = false := by simpa using q
      rw [q'] at e
      exact .tail _ (frag_mem e)
theorem frag_sub {K K' : Frag} {h : Heap} (X : K.In h) (hs : ∀ p ∈ K', K.lookup p.1 = some p.2) : K'.In h := fun a o e => X a o (hs (a, o) (frag_mem e))
end Mine
end
open PySem PySem.W PySem.W.X PySem.W.ZRun PyProof.Rows Mine
local macro_rules | `(tactic| walk_at "exec For Name Call cons nil") => `(tactic| k_extra "my exec For Name Call cons nil")
local macro_rules | `(tactic| walk_at "pyIter ref") => `(tactic| k_extra "my pyIter ref")
local macro_rules | `(tactic| walk_at "binaryOp Mult int int") => `(tactic| k_extra "my binaryOp Mult int int")
local macro_rules | `(tactic| walk_at "KlPost") => `(tactic| k_extra "my KlPost")
local macro_rules | `(tactic| walk_at "call builtin:list.append") => `(tactic| k_extra "my call builtin:list.append")
local macro_rules | `(tactic| walk_at "KlEnd") => `(tactic| k_extra "my KlEnd")
local macro_rules | `(tactic| walk_at "binaryOp Pow int int") => `(tactic| k_extra "my binaryOp Pow int int")
local macro_rules | `(tactic| walk_at "subscriptTail Name Name ref int") => `(tactic| k_extra "my subscriptTail Name Name ref int")
local macro_rules | `(tactic| walk_at "exec For Name List cons nil") => `(tactic| k_extra "my exec For Name List cons nil")
local macro_rules | `(tactic| walk_at "subscriptTail") => `(tactic| k_extra "my subscriptTail")
local macro_rules | `(tactic| walk_at "subscriptTail Name UnaryOp ref int") => `(tactic| k_extra "my subscriptTail Name UnaryOp ref int")
local macro_rules | `(tactic| walk_at "CompSrc") => `(tactic| k_extra "my CompSrc")
local macro_rules | `(tactic| walk_at "CompEnd") => `(tactic| k_extra "my CompEnd")
local macro_rules | `(tactic| walk_at "call builtin:len") => `(tactic| k_extra "my call builtin:len")
local macro_rules | `(tactic| walk_at "call builtin:iter") => `(tactic| k_extra "my call builtin:iter")
local macro_rules | `(tactic| walk_at "FinA") => `(tactic| k_extra "my FinA")
local macro_rules | `(tactic| walk_at "subscriptTail Name Slice ref ref") => `(tactic| k_extra "my subscriptTail Name Slice ref ref")
local macro_rules | `(tactic| walk_at "compareOp NotEq ref ref") => `(tactic| k_extra "my compareOp NotEq ref ref")
local macro_rules | `(tactic| walk_at "call type:list") => `(tactic| k_extra "my call type:list")
local macro_rules | `(tactic| walk_at "T1Post") => `(tactic| k_extra "my T1Post")
local macro_rules | `(tactic| walk_at "T1End") => `(tactic| k_extra "my T1End")
local macro_rules | `(tactic| walk_at "call ref") => `(tactic| k_extra "my call ref")
local macro_rules | `(tactic| walk_at "binaryOp Add ref ref") => `(tactic| k_extra "my binaryOp Add ref ref")
local macro_rules | `(tactic| walk_at "T2Post") => `(tactic| k_extra "my T2Post")
local macro_rules | `(tactic| walk_at "T2End") => `(tactic| k_extra "my T2End")
local macro_rules | `(tactic| walk_at "exec If") => `(tactic| k_extra "my exec If")
local macro_rules | `(tactic| walk_at "JPost") => `(tactic| k_extra "my JPost")
local macro_rules | `(tactic| walk_at "JEnd") => `(tactic| k_extra "my JEnd")
set_option maxRecDepth 100000 in
set_option maxHeartbeats 0 in
theorem PySem.Challenge.cw_dp0027_01_holds : PySem.Challenge.rw_dp0027_01.Holds := by
  k_with_none
  k_with "my exec For Name Call cons nil" => (k_here; (with_reducible show wpAny _ _ (exec (Stmt.For (Expr.Name (PySem.Str.ofString "k") _) _ _ _ _) _) _ _ _); refine wpAny_For ?_ (by intro _; rfl))
  k_with "my pyIter ref" => (k_here; (with_reducible show wpAny _ _ (pyIter (Value.ref _)) (fun it s₂ => codeAny _ _ _ _ _) _ _); (rename Fr _ _ _ _ => lF0'); (obtain ⟨tS', lF'⟩ := fr_stop lF0' (by with_unfolding_all rfl)); clear lF0'; (rename News _ _ _ _ => lN'); (rename IsRange _ _ _ _ _ _ _ _ => rgX); (rename IntsAre _ (List.take 63 _) => isX); (have h63 := take_le _ isX); (have hpos := take_pos _ isX (by assumption)); (repeat ((rename CellsAre _ _ _ => zX); clear zX)); (with_unfolding_all refine' kl_for' (x := PySem.Str.ofString "k") isX ?zw50hh rgX lF' lN' ?zw50hsm ?zw50hn ?zw50hc ?zw50hx ?zw50hoc ?zw50hcb ?zw50hcv (fun i' t' oc' vs' e' u' I' oI' h' tk' hi' hI' hl' hd' lv' lc' lb' F' N' => ?_) (fun oc' vs' e' u' h' tk' hI' hl' hd' F' N' => ?_); (case zw50hh => with_unfolding_all rfl); (case zw50hsm => first | exact small_one (by omega) (by omega) (by omega) (by omega) | exact small_one (by l_bnd) (by l_bnd) (by l_bnd) (by l_bnd)); (case zw50hn => exact rangeSize_nat _ _); (case zw50hc => rfl); (case zw50hx => rfl); (case zw50hoc => exact ⟨_, by assumption⟩); (case zw50hcb => k_all); (case zw50hcv => k_ne)); (all_goals (try clear lF' lN' rgX)); (all_goals (repeat ((rename Obj.data _ = Data.cell (bindC _ _ _ _) => zX); clear zX))); (all_goals (repeat ((rename Dflts _ _ _ => zX); clear zX))); (all_goals (try k_lt lb')); (all_goals (try k_lt2 lv')); (all_goals (try k_lt2 lc')); (all_goals (try k_fold)); (all_goals (try refine hold ?_)))
  k_with "my binaryOp Mult int int" => (k_here; (with_reducible refine mul_int ?_ (pow_mul (by (first | ((repeat ((rename And _ _ => zX); clear zX)); omega) | omega)))))
  k_with "my KlPost" => (dsimp only [KlPost])
  k_with "my call builtin:list.append" => (k_here; k_dflt (refine' append_K ?zw54k1 ?zw54k2 ?zw54k3 ?_ ?zw54z; (case zw54k1 => k_asm); (case zw54k2 => k_asm); (case zw54k3 => k_upd); (case zw54z => first | size_fits | (rw [PySem.sizeLine_eq]; simp only [List.size_toArray]; omega)); k_whole); intro h' F' N'; (try simp only [List.push_toArray] at N'); (try k_sweep))
  k_with "my KlEnd" => ((rename Fr _ _ _ _ => lF'); (rename News _ _ _ _ => lN'); (with_unfolding_all refine' kl_end lF' lN' ?zw55hv ?zw55hc ?zw55hoc ?zw55hI ?zw55hb ?zw55hm ?zw55hi ?zw55hx); (case zw55hv => k_mem); (case zw55hc => k_mem); (case zw55hoc => exact ⟨_, by assumption⟩); (case zw55hI => k_mem); (case zw55hb => kst_inAny); (case zw55hm => (intro z h1; (simp [h1]; done))); (case zw55hi => assumption); (case zw55hx => exact valAt_eq rfl (by omega) rfl))
  k_with "my binaryOp Pow int int" => (k_here; (with_reducible refine pow_int_small ?zw56kb1 ?zw56kb2 ?zw56kb3 ?_); (case zw56kb1 => (first | ((repeat ((rename And _ _ => zX); clear zX)); omega) | omega)); (case zw56kb2 => (first | ((repeat ((rename And _ _ => zX); clear zX)); omega) | omega)); (case zw56kb3 => decide))
  k_with "my subscriptTail Name Name ref int" => (k_here; (rename IntsAre _ (List.take 63 _) => isX); (with_reducible show wpAny _ _ (subscriptTail (Expr.Name (PySem.Str.ofString "script") _) _ (Value.ref _) (Value.int _ _)) _ _ _); (with_unfolding_all refine' item_anyK ?zw57k1 isX ?zw57k3 ?zw57k4 ?zw57k5 ?_ ?zw57k6; (case zw57k1 => kso_list); (case zw57k3 => (first | ((repeat ((rename And _ _ => zX); clear zX)); omega) | omega)); (case zw57k4 => (first | ((repeat ((rename And _ _ => zX); clear zX)); omega) | omega)); (case zw57k5 => (first | ((repeat ((rename And _ _ => zX); clear zX)); omega) | omega)); (case zw57k6 => with_unfolding_all rfl); k_whole); intro _)
  k_with "my exec For Name List cons nil" => (k_here; (with_reducible show wpAny _ _ (exec (Stmt.For (Expr.Name (PySem.Str.ofString "started") _) _ _ _ _) _) _ _ _); k_dflt (refine wpAny_For ?_ (by intro _; rfl)))
  k_with "my pyIter ref" => (k_here; (with_reducible show wpAny _ _ (pyIter (Value.ref _)) (fun it s₂ => codeAny _ _ (Code.forLoop (Expr.Name (PySem.Str.ofString "started") _) _ _ _ _) _ _) _ _); (rename Fr _ _ _ _ => lF'); (rename News _ _ _ _ => lN'); (with_unfolding_all refine' two_for ?zw59hh lF' lN' ?zw59hst ?zw59hx (fun I' h' tk' lI' F' N' => ?_) (fun I' c' oc' vs' tq' u' h' tk' lI' lc' hoc' hvs' F' N' => ?_) (fun m' c' h' tk' F' N' => ?_); (case zw59hh => with_unfolding_all rfl); (case zw59hst => with_unfolding_all rfl); (case zw59hx => rfl)); (all_goals (try clear lF' lN')); (all_goals (try k_lt lI')); (all_goals (try k_fold)); (all_goals (try refine hold ?_)))
  k_with "my Sub" => (with_reducible first | exact sub_self | exact sub_nil | exact sub_right | (refine sub_left ?_; k_extra "my Sub") | (refine' sub_cons ?zw60a ?zw60b; (case zw60a => with_unfolding_all k_mem); (case zw60b => k_extra "my Sub")) | (refine sub_tail ?_; k_extra "my Sub"))
  k_with "my subscriptTail" => (k_here; (rename IntsAre _ (List.take 63 _) => isX); (with_reducible show wpAny _ _ (subscriptTail (Expr.Name (PySem.Str.ofString "script") _) _ (Value.ref _) (Value.int _ _)) _ _ _); (with_unfolding_all refine' item_anyK ?zw61k1 isX ?zw61k3 ?zw61k4 ?zw61k5 ?_ ?zw61k6; (case zw61k1 => kso_list); (case zw61k3 => omega); (case zw61k4 => omega); (case zw61k5 => omega); (case zw61k6 => with_unfolding_all rfl); k_whole); intro _)
  k_with "my subscriptTail" => (k_here; (rename IntsAre _ (valsTo _ _) => vX); (with_reducible show wpAny _ _ (subscriptTail (Expr.Name (PySem.Str.ofString "values") _) _ (Value.ref _) (Value.int _ _)) _ _ _); (with_unfolding_all refine' item_anyK ?zw62k1 vX ?zw62k3 ?zw62k4 ?zw62k5 ?_ ?zw62k6; (case zw62k1 => kso_list); (case zw62k3 => omega); (case zw62k4 => (rw [valsTo_length]; omega)); (case zw62k5 => omega); (case zw62k6 => with_unfolding_all rfl); k_whole); intro _)
  k_with "my subscriptTail Name UnaryOp ref int" => (k_here; (rename IntsAre _ (valsTo _ _) => vX); (with_reducible show wpAny _ _ (subscriptTail (Expr.Name (PySem.Str.ofString "values") _) _ (Value.ref _) (Value.int (-1) _)) _ _ _); (with_unfolding_all refine' vals_last vX ?zw63k3 ?zw63k4 ?zw63k1 ?_ ?zw63k6; (case zw63k1 => kso_list); (case zw63k3 => omega); (case zw63k4 => omega); (case zw63k6 => with_unfolding_all rfl); k_whole); intro _)
  k_with "my CompSrc" => (k_here; (with_reducible show LCg.CompSrc _ _ _ _ _ _ _ (Expr.Tuple _ _ _) _ _ _ _ _ _); (rename IntsAre _ (List.take 63 _) => isX); k_dflt (refine LCg.CompSrc.range (by rfl) (by k_asm) (by k_asm) (by assumption) (by exact small_one (by omega) (by omega) (by omega) (by omega)) (by exact rangeSize_nat _ _) (by (rw [PySem.sizeLine_eq]; omega)) ?_); intro g'; (refine' dat_due isX (by omega) (fun k' t' I' oI' C' oC' D' m' ys' own' h' tk' E' hlo' hhi' hC' hx' F' N' off' oo' ne' => ?_) (fun ys' own' oo' hl' hd' => ?_)); (all_goals (try simp only [List.cons_append, List.nil_append] at N')); (all_goals (try simp only [LCg.Off3, and_true] at off')); kcf_last)
  k_with "my CompEnd" => ((with_reducible show LCg.CompEnd _ _ _ _ _ _ _ _ _ _ _ (fun y news' => DEl _ _ _ _ y news') _ _); (rename Fr _ _ _ _ => lF'); (rename News _ _ _ _ => lN'); (with_unfolding_all refine' dat_end lF' lN' ?zw65hI ?zw65hC ?zw65hD ?zw65hb ?zw65ho ?zw65hat ?zw65off ?zw65oo ?zw65n1 ?zw65n2 ?zw65n3 ?zw65h32 ?zw65ha ?zw65hb'); (case zw65hI => k_mem); (case zw65hC => k_mem); (case zw65hD => k_mem); (case zw65hat => with_unfolding_all k_mem); (case zw65hb => kst_inAny); (case zw65ho => first | kst_anyIn | (intro p hp; kst_mem)); (case zw65off => first | assumption | (simp only [LCg.Off3, and_true]; assumption)); (case zw65oo => assumption); (case zw65n1 => k_ne); (case zw65n2 => k_ne); (case zw65n3 => k_ne); (case zw65h32 => omega); (case zw65ha => rfl); (case zw65hb' => rfl))
  k_with "my call builtin:len" => ((rename TurnMark => zM); k_here; (with_reducible show wpAny _ _ (call (Value.builtin "len") [Value.ref _]) _ _ _); k_dflt (refine' kst_len ?zw66k1 ?zw66k2 ?zw66k3 ?zw66k4 ?_; (case zw66k1 => k_asm); (case zw66k2 => with_unfolding_all k_memK); (case zw66k3 => assumption); (case zw66k4 => omega); k_whole))
  k_with "my call builtin:iter" => (k_here; (with_reducible show wpAny _ _ (call (Value.builtin "iter") [Value.ref _]) _ _ _); (with_unfolding_all refine' it_iter ?zw67k1 ?zw67k2 ?zw67k3 ?_; (case zw67k1 => k_asm); (case zw67k2 => k_asm); (case zw67k3 => kso_list); k_whole); intro I' h' F' N' l1; (try k_lt l1); (try k_sweep))
  k_with "my FinA" => ((rename TurnMark => zM); (unfold LCg.FinA); intro D' h' tk' F' N' o1'; (try simp only [List.nil_append, List.cons_append] at N' o1'); (try simp only [LCg.Off1, and_true] at o1'); (try dsimp only))
  k_with "my subscriptTail Name Slice ref ref" => (k_here; (with_reducible show wpAny _ _ (subscriptTail (Expr.Name (PySem.Str.ofString "due") _) (PySem.Expr.Slice _ _ none _) (Value.ref _) (Value.ref _)) _ _ _); (rename DatAll _ _ (callsD _ _ _) => dX); k_dflt (refine' due_cut ?zw69F ?zw69N ?zw69l dX ?zw69p ?zw69q ?zw69h0 ?zw69h6 ?_ ?zw69s ?zw69t; (case zw69F => k_asm); (case zw69N => k_asm); (case zw69l => kmk_list); (case zw69p => kmk_part); (case zw69q => kmk_part); (case zw69s => with_unfolding_all rfl); (case zw69t => kmk_pure); (case zw69h0 => omega); (case zw69h6 => omega)); intro D' h' F' N' l1 hd'; (try k_lt l1); (try k_sweep))
  k_with "my subscriptTail Name Slice ref ref" => (k_here; (with_reducible show wpAny _ _ (subscriptTail (Expr.Name (PySem.Str.ofString "script") _) (PySem.Expr.Slice _ _ none _) (Value.ref _) (Value.ref _)) _ _ _); (rename IntsAre _ (List.take 63 _) => isX); k_dflt (refine' tail_cut ?zw70F ?zw70N isX ?zw70l ?zw70p ?zw70q ?zw70h0 ?zw70h6 ?_ ?zw70s ?zw70t; (case zw70F => k_asm); (case zw70N => k_asm); (case zw70l => k_mem); (case zw70p => kmk_part); (case zw70q => kmk_part); (case zw70s => with_unfolding_all rfl); (case zw70t => kmk_pure); (case zw70h0 => omega); (case zw70h6 => omega)); intro D' us' h' F' N' l1 hI'; (try k_lt l1); (try k_sweep))
  k_with "my compareOp NotEq ref ref" => (k_here; (with_reducible show wpAny _ _ (compareOp CmpOp.NotEq (Value.ref _) (Value.ref _)) _ _ _); (rename IntsAre _ (List.take 63 _) => isX); k_dflt (first | (refine' ne_nil ?zw71N isX ?zw71p ?zw71a ?zw71b ?zw71n ?_; (case zw71N => k_asm); (case zw71p => assumption); (case zw71a => k_mem); (case zw71b => k_mem); (case zw71n => ke_room); k_whole) | (refine' res_ne ?zw71N ?zw71a ?zw71d1 ?zw71b ?zw71d2 ?zw71e ?zw71s1 ?zw71n ?_; (case zw71N => k_asm); (case zw71a => k_mem); (case zw71d1 => assumption); (case zw71b => k_mem); (case zw71d2 => first | assumption | kqd_all); (case zw71e => first | exact rfl | exact res_in (inR (by omega) (by omega)) | exact res_out (outR (by omega))); (case zw71s1 => k_extra "my Sub"); (case zw71n => ke_room); k_whole) | (refine' calls_ne ?zw71N ?zw71a ?zw71d1 ?zw71b ?zw71d2 ?zw71e ?zw71s1 ?zw71s2 ?zw71n ?_; (case zw71N => k_asm); (case zw71a => k_mem); (case zw71d1 => assumption); (case zw71b => with_unfolding_all k_mem); (case zw71d2 => assumption); (case zw71e => first | exact rfl | exact calls_in (inR (by omega) (by omega)) | exact calls_out (outR (by omega))); (case zw71s1 => k_extra "my Sub"); (case zw71s2 => k_extra "my Sub"); (case zw71n => ke_room); k_whole) | (refine' ints_ne ?zw71N ?zw71a ?zw71d1 ?zw71b ?zw71d2 ?zw71e ?zw71n ?_; (case zw71N => k_asm); (case zw71a => k_mem); (case zw71d1 => assumption); (case zw71b => k_mem); (case zw71d2 => assumption); (case zw71e => first | exact rest_j (by assumption) | exact rest_in (inR (by omega) (by omega)) (by omega) | exact rest_out (outR (by omega)) (by omega) (by omega)); (case zw71n => ke_room); k_whole)))
  k_with "my Drop" => (first | (refine' Drop.head ?zw72a; (case zw72a => k_all)) | (refine' Drop.tail ?zw72a ?zw72b; (case zw72a => k_ne); (case zw72b => k_extra "my Drop")))
  k_with "my call type:list" => (k_here; (with_reducible show wpAny _ _ (call (Value.type "list") [Value.ref _]) _ _ _); (rename ItRest _ _ _ _ => itX); (rename Fr _ _ _ _ => lF'); (rename News _ _ _ _ => lN'); (rename IntsAre _ (List.take 63 _) => isX); k_dflt (refine' it_list ?zw73hh lF' lN' isX itX ?zw73h63 ?zw73hDm ?zw73hIm ?zw73hDI (Drop.sub ?zw73hsub) ?_; (case zw73hh => with_unfolding_all rfl); (case zw73h63 => assumption); (case zw73hDm => k_mem); (case zw73hIm => k_mem); (case zw73hDI => k_ne); (case zw73hsub => (k_extra "my Drop"))); clear lF' lN' itX; intro S' us' c' h' tk' F' N' l1 hI'; (try k_lt l1); (try k_sweep))
  k_with "my T1Post" => (dsimp only [T1Post])
  k_with "my T1End" => ((rename Fr _ _ _ _ => lF'); (rename News _ _ _ _ => lN'); (with_unfolding_all refine' t1_end lF' lN' ?zw75hI ?zw75h32 ?zw75hc ?zw75hl ?zw75h1 ?zw75h2 ?zw75h3 ?zw75h4 ?zw75h5 ?zw75hoc ?zw75hvs ?zw75hlt ?zw75hst); (case zw75hI => k_mem); (case zw75h32 => with_unfolding_all k_mem); (case zw75hc => k_mem); (case zw75hl => k_mem); (case zw75h1 => k_mem); (case zw75h2 => k_mem); (case zw75h3 => k_mem); (case zw75h4 => k_mem); (case zw75h5 => k_mem); (case zw75hoc => assumption); (case zw75hvs => assumption); (case zw75hlt => omega); (case zw75hst => with_unfolding_all rfl))
  k_with "my call ref" => (k_here; (with_reducible show wpAny _ _ (call (Value.ref _) _) _ _ _); refine hold ?_)
  k_with "my toldA" => ((with_reducible show wpAny _ _ (call (Value.ref 37) [Value.ref _, Value.int _ _, Value.ref _, Value.bool false]) _ _ _); (rename Fr _ _ _ _ => lF'); (rename News _ _ _ _ => lN'); (rename IntsAre _ (List.take 63 _) => isX); refine' toldA ?zw77hf ?zw77hke ?zw77KX ?zw77T ?zw77K0 ?zw77cH lF' lN' ?zw77hca ?zw77hD ?zw77hIm ?zw77htb ?zw77hKp isX ?zw77hpos ?zw77h63 ?zw77l1 ?zw77l2 ?zw77l3 ?_; (case zw77hf => exact rfl); (case zw77hke => exact rfl); (case zw77KX => assumption); (case zw77T => assumption); (case zw77K0 => assumption); (case zw77cH => assumption); (case zw77hca => k_mem); (case zw77hD => k_mem); (case zw77hIm => k_mem); (case zw77htb => k_mem); (case zw77hKp => exact keeps3_of (by k_updF) (fun _ => by k_updF) (fun _ _ => by k_updF)); (case zw77hpos => assumption); (case zw77h63 => assumption); (case zw77l1 => omega); (case zw77l2 => omega); (case zw77l3 => omega); (unfold ToldQ3; intro r' c' oc' vs' tq' rs' cs' e' oI' own' h' tk' F' N' hoc' hvs' lr' lc' oo' hit' hrs' hcs'); clear lF' lN'; (try simp only [List.cons_append, List.nil_append] at N'))
  k_with "my toldB" => ((with_reducible show wpAny _ _ (call (Value.ref 37) [Value.ref _, Value.int _ _, Value.ref _, Value.bool false]) _ _ _); (rename Fr _ _ _ _ => lF'); (rename News _ _ _ _ => lN'); (rename IntsAre _ (List.take 63 _) => isX); refine' toldB ?zw78hf ?zw78hke ?zw78KX ?zw78T ?zw78K0 ?zw78cH lF' lN' ?zw78hca ?zw78hD ?zw78htb ?zw78hcc ?zw78hoc ?zw78hvs ?zw78hKp isX ?zw78hpos ?zw78h63 ?zw78l1 ?zw78l2 ?zw78l4 ?zw78l5 ?_; (case zw78hf => exact rfl); (case zw78hke => exact rfl); (case zw78KX => assumption); (case zw78T => assumption); (case zw78K0 => assumption); (case zw78cH => assumption); (case zw78hca => k_mem); (case zw78hD => k_mem); (case zw78htb => k_mem); (case zw78hcc => k_mem); (case zw78hoc => assumption); (case zw78hvs => assumption); (case zw78hKp => exact keeps1_of (by k_updF)); (case zw78hpos => assumption); (case zw78h63 => assumption); (case zw78l1 => omega); (case zw78l2 => omega); (case zw78l4 => omega); (case zw78l5 => omega); (unfold ToldQ1; intro r' rs' cs' e' own' h' tk' F' N' hrs' hcs'); clear lF' lN'; (try simp only [List.cons_append, List.nil_append] at N'))
  k_with "my binaryOp Add ref ref" => (k_here; (with_reducible show wpAny _ _ (binaryOp _ (Value.ref _) (Value.ref _)) _ _ _); (rename DatAll _ _ (callsD _ _ _) => dX); k_dflt (refine' due_cat ?zw79F ?zw79N dX ?zw79b ?zw79a ?zw79t ?zw79x ?zw79p ?zw79h6 ?_; (case zw79F => k_asm); (case zw79N => k_asm); (case zw79b => kmk_list); (case zw79a => k_mem); (case zw79t => with_unfolding_all k_mem); (case zw79x => first | rfl | simp); (case zw79p => assumption); (case zw79h6 => assumption)); intro D' zs' h' F' N' l1 hl' hd'; (try k_lt l1); (try k_sweep))
  k_with "my T2Post" => (dsimp only [T2Post])
  k_with "my T2End" => ((rename Fr _ _ _ _ => lF'); (rename News _ _ _ _ => lN'); (with_unfolding_all refine' t2_end lF' lN' ?zw81hI ?zw81h32 ?zw81hl); (case zw81hI => k_mem); (case zw81h32 => with_unfolding_all k_mem); (case zw81hl => k_mem))
  k_with "my toldC" => ((with_reducible show wpAny _ _ (call (Value.ref 37) [Value.ref _, Value.int _ _, Value.ref _, Value.bool true]) _ _ _); (rename Fr _ _ _ _ => lF'); (rename News _ _ _ _ => lN'); (rename IntsAre _ (List.take 63 _) => isX); refine' toldC ?zw82hf ?zw82hke ?zw82KX ?zw82T ?zw82K0 ?zw82cH lF' lN' ?zw82hca ?zw82hD ?zw82hIm ?zw82htb ?zw82hcc ?zw82hoc ?zw82hvs ?zw82hKp isX ?zw82hpos ?zw82h63 ?zw82l1 ?zw82l2 ?zw82l3 ?zw82l4 ?zw82l5 ?_; (case zw82hf => exact rfl); (case zw82hke => exact rfl); (case zw82KX => assumption); (case zw82T => assumption); (case zw82K0 => assumption); (case zw82cH => assumption); (case zw82hca => k_mem); (case zw82hD => k_mem); (case zw82hIm => k_mem); (case zw82htb => k_mem); (case zw82hcc => k_mem); (case zw82hoc => assumption); (case zw82hvs => assumption); (case zw82hKp => exact keeps2_of (by k_updF) (fun _ => by k_updF)); (case zw82hpos => assumption); (case zw82h63 => assumption); (case zw82l1 => omega); (case zw82l2 => omega); (case zw82l3 => omega); (case zw82l4 => omega); (case zw82l5 => omega); (unfold ToldQ2; intro r' rs' cs' e' oI' own' h' tk' F' N' lr' oo' hit' hrs' hcs'); clear lF' lN'; (try simp only [List.cons_append, List.nil_append] at N'))
  k_with "my toldD" => ((with_reducible show wpAny _ _ (call (Value.ref 37) [Value.ref _, Value.int _ _, Value.ref _, Value.bool true]) _ _ _); (rename Fr _ _ _ _ => lF'); (rename News _ _ _ _ => lN'); (rename IntsAre _ (List.take 63 _) => isX); refine' toldD ?zw83hf ?zw83hke ?zw83KX ?zw83T ?zw83K0 ?zw83cH lF' lN' ?zw83hca ?zw83hD ?zw83htb ?zw83hcc ?zw83hoc ?zw83hvs ?zw83hKp isX ?zw83hpos ?zw83h63 ?zw83l1 ?zw83l2 ?zw83l4 ?zw83l5 ?_; (case zw83hf => exact rfl); (case zw83hke => exact rfl); (case zw83KX => assumption); (case zw83T => assumption); (case zw83K0 => assumption); (case zw83cH => assumption); (case zw83hca => k_mem); (case zw83hD => k_mem); (case zw83htb => k_mem); (case zw83hcc => k_mem); (case zw83hoc => assumption); (case zw83hvs => assumption); (case zw83hKp => exact keeps1_of (by k_updF)); (case zw83hpos => assumption); (case zw83h63 => assumption); (case zw83l1 => omega); (case zw83l2 => omega); (case zw83l4 => omega); (case zw83l5 => omega); (unfold ToldQ1; intro r' rs' cs' e' own' h' tk' F' N' hrs' hcs'); clear lF' lN'; (try simp only [List.cons_append, List.nil_append] at N'))
  k_with "my exec If" => (k_here; (with_reducible show wpAny _ _ (exec (Stmt.If (Expr.Compare (Expr.Constant _ _ _) _ _ _) _ _ _) _) _ _ _); (rename TurnMark => zM); (fail_if_success (rename JMark => zJ)); (rename Fr _ _ _ _ => lF'); (rename News _ _ _ _ => lN'); (rename DatAll _ _ (callsD _ _ _) => dX); k_dflt (refine' join_if lF' lN' dX ?zw84hst (fun jM' => ?_) (fun D' De' ys' es' k1' k2' r' t' h' tk' F' N' hd' he' hr' hn' => ?_); (case zw84hst => with_unfolding_all rfl)); (all_goals (first | (rename JMark => zJ) | (clear lF' lN' dX))); (all_goals (try dsimp only)); (all_goals (try k_fold)))
  k_with "my JPost" => (dsimp only [JPost])
  k_with "my JEnd" => ((rename Fr _ _ _ _ => lF'); (rename News _ _ _ _ => lN'); first | (refine' j_out lF' lN' ?zw86h1 ?zw86h2 ?zw86h3 ?zw86hD ?zw86hE ?zw86hd ?zw86hb ?zw86hns ?zw86hn ?zw86h0 ?zw86hr ?zw86n1 ?zw86n2 ?zw86hm; (case zw86h1 => with_unfolding_all rfl); (case zw86h2 => with_unfolding_all rfl); (case zw86h3 => with_unfolding_all rfl); (case zw86hD => with_unfolding_all k_mem); (case zw86hE => k_mem); (case zw86hd => assumption); (case zw86hb => first | kst_inAny | (intro p hp; kst_mem)); (case zw86hns => exact outR (by omega)); (case zw86hn => omega); (case zw86h0 => omega); (case zw86hr => first | rfl | omega); (case zw86n1 => omega); (case zw86n2 => omega); (case zw86hm => (intro z h1 h2 h3; (simp [h1, h2, h3]; done)))) | (refine' j_in lF' lN' ?zw86i1 ?zw86i2 ?zw86i3 ?zw86iD ?zw86iE ?zw86id ?zw86ib ?zw86ins ?zw86iu ?zw86ir ?zw86j1 ?zw86j2 ?zw86im; (case zw86i1 => with_unfolding_all rfl); (case zw86i2 => with_unfolding_all rfl); (case zw86i3 => with_unfolding_all rfl); (case zw86iD => with_unfolding_all k_mem); (case zw86iE => k_mem); (case zw86id => assumption); (case zw86ib => first | kst_inAny | (intro p hp; kst_mem)); (case zw86ins => exact inR (by omega) (by omega)); (case zw86iu => omega); (case zw86ir => omega); (case zw86j1 => omega); (case zw86j2 => omega); (case zw86im => (intro z h1 h2 h3; (simp [h1, h2, h3]; done)))))
  have hfill : PySem.Challenge.rw_dp0027_01 = PySem.Challenge.rw_dp0027_01 ∧ Mine.hd.heap_1 = Mine.hd.heap_1 := by
    k_fill
    exact ⟨rfl, rfl⟩
  clear hfill
  w_on; o_law; z_head
  (case hw => w_witness2)
  k_fill
  intro w s₀ s₁ mg mb G y fa o pm cd doc dV kV ho hd hcd hD hmg hg args vals as L hpre hlay hrd hwl hlo
  z_open y L KX ZH ZN ZT
  rcases Classical.em (args = [ofPy (PyData.list [])]) with he | he
  · refine Ground.open G ?_
    intro T B D TE TW
    wrow_args hpre hlay hrd hwl hlo
    obtain ⟨hat, hsz⟩ := script_at L
    have htk := script_toks L ZT
    rw [ZN] at hat hsz
    subst hat
    x_fa T KX hmg
    all_lens
    x_ints 1
    · exact (args_eq he).elim
    · z_lists L; z_lens; z_run
  clear L ZH ZN ZT y
  have hT8 : ∀ P ∈ ([32] : List Addr), s₁.heap.get? P = some (tabObj #[]) := List.forall_mem_cons.mpr ⟨KX 32 _ (by kernel_rfl), List.forall_mem_nil _⟩
  have KX' : (Mine.hd.heap_1 w.params).In s₁.heap := frag_sub KX (by
    show ∀ p ∈ Mine.hd.heap_1 w.params, _
    unfold Mine.hd.heap_1
    repeat (first | exact List.forall_mem_nil _ | refine List.forall_mem_cons.mpr ⟨by kernel_rfl, ?_⟩))
  clear KX
  have X := (Ground.X G).1
  have V := (Ground.X G).2
  refine Ground.open G ?_
  intro T B D TE TW
  try (refine guard_noD D (by decide +kernel) ?_; clear D)
  km_lay T hmg ho hd cd
  clear hmg
  wrow_args hpre hlay hrd hwl hlo
  have hne := List.length_pos_iff.mpr (args_ne he)
  clear he
  w_strict (all_goals (
      first | refine callC_kw (enter_call ?_) | refine enter_call ?_
      w_top on
      kn_posts
      w_call any ho hd hcd hD T F
      clear hd
      kn_ghosts F T
      k_drop
      skip))
  (try k_fold)
  w_strict (k_steps)
  · unfold Hold
    w_strict (k_steps)
  · unfold Hold
    dsimp only
    (try k_fold)
    repeat ((rename Dflts _ _ _ => zX); clear zX)
    repeat ((rename PySem.Heap.CodeRec _ _ _ => zX); clear zX)
    w_strict (k_steps)
    · unfold Hold
      have kMark := kstMark
      have tMark := turnMark
      (rename IntsAre _ (valsTo _ _) => vX)
      replace vX := vals_norm vX
      w_strict (k_steps)
      all_goals (
        unfold Hold
        w_strict (k_extra "my toldA"; k_steps)
        all_goals (
          unfold Hold
          w_strict (k_extra "my toldB"; k_steps)))
    · unfold Hold
      have kMark := kstMark
      have tMark := turnMark
      (rename IntsAre _ (valsTo _ _) => vX)
      replace vX := vals_norm vX
      w_strict (k_steps)
      all_goals (
        unfold Hold
        w_strict (k_extra "my toldC"; k_steps)
        all_goals (
          unfold Hold
          w_strict (k_extra "my toldD"; k_steps)))
    · unfold Hold
      w_strict (k_steps)
