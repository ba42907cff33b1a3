import PyProof.Rows.All
import Wide.All
import OpenK.AllK
import Wide.FinOn
import PySem.Challenge.RW_dp0027_02
set_option Elab.async false
set_option maxRecDepth 100000
namespace Mine
open PySem PySem.W PySem.Calls PyProof.Rows PyProof.V PySem.Spec

/-- a list's iterator at place i; an iterator that has ended -/
def itObj (l : Addr) (i : Nat) : Obj := { cls := .type "list_iterator", data := .fields #[.ref l, .int (i : Int) 0] }
def itEnd (i : Nat) : Obj := { cls := .type "list_iterator", data := .fields #[.none, .int (i : Int) 0] }

section
variable {prog : Program} {w : World} {A : Around} {E : Value → Shared → Prop} {s : Shared} {h₀ : Heap} {L l I : Addr} {m : Str → Option Value} {news news' : List (Addr × Obj)} {vs : List Value} {i : Nat} {x : Value}

theorem it_iter {Q : Value → Shared → Prop} (F : Fr h₀ L s.heap m) (N : News h₀ L s.heap news) (hl : s.heap.IsList l vs.toArray)
    (h : ∀ (I : Addr) h', Fr h₀ L h' m → News h₀ L h' ((I, itObj l 0) :: news) → (∀ p ∈ news, p.1 < I) → Q (.ref I) { s with heap := h' }) :
    wpAny (model prog w) A (call (.builtin "iter") [.ref l]) Q E s := by
  refine call_function_entry (by decide +kernel) (by decide +kernel) kdk_entry_iter (kdk_args_iter _) ?_
  unfold Builtin.«iter»
  refine wpAny_bind (m := someArgs "iter" 1 2 _) (wpAny_of_eq (a := [Value.ref l]) (by first | rfl | kernel_rfl!) ?_)
  show wpAny _ _ (pyIter (.ref l) >>= _) _ _ _
  refine wpAny_bind (wpAny_pyIter_list hl ?_)
  exact wpAny_pure ⟨_, rfl, h _ _ (F.push _) (News.push F N _ rfl) (fun q hq => Heap.lt_size (N q hq).1)⟩

theorem it_isIter (ho : s.heap.get? I = some (itObj l i)) : s.heap.IsListIter I l i := ⟨_, ho, rfl, rfl⟩
theorem it_typeIs (ho : s.heap.get? I = some (itObj l i)) : s.TypeIs (.ref I) "list_iterator" := ⟨_, ho, rfl⟩

theorem it_iterSelf {Q : Value → Shared → Prop} (N : News h₀ L s.heap news) (hm : (I, itObj l i) ∈ news) (h : Q (.ref I) s) :
    wpAny (model prog w) A (call (.builtin "iter") [.ref I]) Q E s := by
  refine call_function_entry (by decide +kernel) (by decide +kernel) kdk_entry_iter (kdk_args_iter _) ?_
  unfold Builtin.«iter»
  refine wpAny_bind (m := someArgs "iter" 1 2 _) (wpAny_of_eq (a := [Value.ref I]) (by first | rfl | kernel_rfl!) ?_)
  show wpAny _ _ (pyIter (.ref I) >>= _) _ _ _
  refine wpAny_bind (wpAny_pyIter_listiter (it_isIter (N _ hm).1) ?_)
  exact wpAny_pure ⟨_, rfl, h⟩

theorem it_special {Q : Option Value → Shared → Prop} (ho : s.heap.get? I = some (itObj l i)) (hl : s.heap.IsList l vs.toArray) (hx : vs[i]? = some x)
    (hQ : ∀ h', h'.get? I = some (itObj l (i + 1)) → Heap.SameBut I s.heap h' → Q (some x) { s with heap := h' }) :
    wpAny (model prog w) A (callSpecial? (.ref I) (Str.ofString "__next__")) Q E s := by
  obtain ⟨ol, hol, _, nl, hdl⟩ := hl
  refine wpAny_callSpecial?_slot (name := Str.ofString "__next__") (it_typeIs ho) slot_listiter_next
    (wpAny_call_entry slot_listiter_next (it_typeIs ho) entry_listiter_next ?_ (args_listiter_next _))
  show wpAny _ _ (field (.ref I) 0 >>= _) _ _ s
  refine wpAny_bind (wpAny_field ho rfl (x := .ref l) rfl ?_)
  show wpAny _ _ (if (Value.ref l == Value.none) = true then _ else _) _ _ s
  rw [if_neg (show ¬ ((Value.ref l == Value.none) = true) from Bool.false_ne_true)]
  show wpAny _ _ (field (.ref I) 1 >>= _) _ _ s
  refine wpAny_bind (wpAny_field ho rfl (x := .int i 0) rfl ?_)
  show wpAny _ _ (seqItems? (.ref l) >>= _) _ _ s
  refine wpAny_bind (wpAny_seqItems hol hdl ?_)
  have hx' : vs.toArray[i]? = some x := by simpa using hx
  simp only [Int.toNat_natCast, hx']
  refine wpAny_bind (wpAny_setField ho rfl (by simp) (wpAny_pure ⟨x, rfl, hQ _ ?_ (Heap.SameBut.update ..)⟩))
  exact Heap.get?_update_self _ ho rfl

theorem it_next {Q : Value → Shared → Prop} (F : Fr h₀ L s.heap m) (N : News h₀ L s.heap news) (U : Upd I (itObj l i) (itObj l (i + 1)) news news') (hl : s.heap.IsList l vs.toArray) (hx : vs[i]? = some x)
    (h : ∀ h', Fr h₀ L h' m → News h₀ L h' news' → Q x { s with heap := h' }) :
    wpAny (model prog w) A (call (.builtin "next") [.ref I]) Q E s := by
  obtain ⟨pre, post, hl1, hg, a, b⟩ := U.split
  have hmem : (I, itObj l i) ∈ news := by rw [hl1]; exact List.mem_append_right _ (.head _)
  have hm := N _ hmem
  refine call_function_entry (by decide +kernel) (by decide +kernel) kdk_entry_next (kdk_args_next _) ?_
  unfold Builtin.«next»
  refine wpAny_bind (m := someArgs "next" 1 2 _) (wpAny_of_eq (a := [Value.ref I]) (by first | rfl | kernel_rfl!) ?_)
  dsimp only
  refine wpAny_bind (wpAny_specialOf (name := Str.ofString "__next__") (it_typeIs hm.1) slot_listiter_next.lookup ?_)
  refine wpAny_ite_split (fun hab => absurd hab (by decide)) (fun _ => ?_)
  refine wpAny_bind (it_special hm.1 hl hx fun h' ho' hs => ?_)
  refine wpAny_pure ⟨_, rfl, h h' (F.change hs hm.2.1 hm.2.2) ?_⟩
  rw [hg]
  exact (show News h₀ L s.heap (pre ++ (I, itObj l i) :: post) from hl1 ▸ N).setIn a b hs ho'

theorem it_pyNext {Q : Option Value → Shared → Prop} (ho : s.heap.get? I = some (itObj l i)) (hl : s.heap.IsList l vs.toArray) (hx : vs[i]? = some x)
    (hQ : ∀ h', h'.get? I = some (itObj l (i + 1)) → Heap.SameBut I s.heap h' → Q (some x) { s with heap := h' }) :
    wpAny (model prog w) A (pyNext (.ref I)) Q E s := by
  unfold pyNext
  exact wpAny_bind (wpAny_attempt (it_special ho hl hx fun h' a b => wpAny_pure (hQ h' a b)))

/-- the end of a list's iterator: it is marked as ended, StopIteration is made -/
theorem it_specialEnd {Q : Option Value → Shared → Prop} (hh : A.handled = none) (ho : s.heap.get? I = some (itObj l i)) (hl : s.heap.IsList l vs.toArray) (hx : vs[i]? = none)
    (hE : ∀ h₁ h' e, h₁.get? I = some (itEnd i) → Heap.SameBut I s.heap h₁ → Heap.NewExc h₁ h' e "StopIteration" → E (.ref e) { s with heap := h' }) :
    wpAny (model prog w) A (callSpecial? (.ref I) (Str.ofString "__next__")) Q E s := by
  obtain ⟨ol, hol, _, nl, hdl⟩ := hl
  refine wpAny_callSpecial?_slot (name := Str.ofString "__next__") (it_typeIs ho) slot_listiter_next
    (wpAny_call_entry slot_listiter_next (it_typeIs ho) entry_listiter_next ?_ (args_listiter_next _))
  show wpAny _ _ (field (.ref I) 0 >>= _) _ _ s
  refine wpAny_bind (wpAny_field ho rfl (x := .ref l) rfl ?_)
  show wpAny _ _ (if (Value.ref l == Value.none) = true then _ else _) _ _ s
  rw [if_neg (show ¬ ((Value.ref l == Value.none) = true) from Bool.false_ne_true)]
  show wpAny _ _ (field (.ref I) 1 >>= _) _ _ s
  refine wpAny_bind (wpAny_field ho rfl (x := .int i 0) rfl ?_)
  show wpAny _ _ (seqItems? (.ref l) >>= _) _ _ s
  refine wpAny_bind (wpAny_seqItems hol hdl ?_)
  have hx' : vs.toArray[i]? = none := by simpa using hx
  simp only [Int.toNat_natCast, hx']
  refine wpAny_bind (wpAny_rule (wpAny_bind (wpAny_setField ho rfl (by simp) ?_)))
  show wpAny _ _ (newExc (.type "StopIteration") [] >>= _) _ _ _
  refine wpAny_bind ?_
  simp only [newExc, newTuple]
  refine wpAny_bind (wpAny_newObj_type ?_ (by size_fits))
  refine wpAny_bind (m := firstArgMember _ _) (wpAny_of_eq (a := Value.none) (by first | rfl | (simp only [firstArgMember]; rfl)) ?_)
  refine wpAny_newObj_type ?_ (by size_fits)
  simp only [raiseNew]
  refine wpAny_bind (wpAny_handled ?_)
  rw [show A.in1.handled = none from hh]
  refine wpAny_bind (wpAny_pure (wpAny_throw ?_))
  refine hE (s.heap.update I (Obj.mapFields (·.setIfInBounds 0 .none))) _ _ (Heap.get?_update_self _ ho rfl) (Heap.SameBut.update ..) ⟨fun b o e => Heap.get?_push_of_some _ (Heap.get?_push_of_some _ e), ?_, ?_⟩
  · exact Heap.get?_none_of_le (by rw [Heap.size_push]; exact Nat.le_succ _)
  · exact ⟨_, _, Heap.get?_push_size _ rfl, rfl, rfl⟩

theorem it_pyNextEnd {Q : Option Value → Shared → Prop} (hh : A.handled = none) (ho : s.heap.get? I = some (itObj l i)) (hl : s.heap.IsList l vs.toArray) (hx : vs[i]? = none)
    (hQ : ∀ h', h'.get? I = some (itEnd i) → (∀ b o, b ≠ I → s.heap.get? b = some o → h'.get? b = some o) → Q none { s with heap := h' }) :
    wpAny (model prog w) A (pyNext (.ref I)) Q E s := by
  unfold pyNext
  refine wpAny_bind (wpAny_attempt (it_specialEnd hh ho hl hx fun h₁ h' e a b c => ?_))
  obtain ⟨ob, t, he, hc, hd⟩ := c.there
  refine wpAny_bind (wpAny_isInstance (T := "StopIteration") (b := true) ⟨_, he, hc⟩ isSubtype_stop ?_)
  exact wpAny_pure (hQ _ (c.keeps _ _ a) fun q o hq e => c.keeps _ _ (b.extBut q o hq e))

def ItTurnEnd (h₀ : Heap) (L I : Addr) (o : Obj) (J : (Str → Option Value) → List (Addr × Obj) → Prop) (s₁ s₂ : Shared) : Prop :=
  ∃ h' tk m' nx, s₂ = { s₁ with heap := h', toks := tk } ∧ Fr h₀ L h' m' ∧ News h₀ L h' ((I, o) :: nx) ∧ J m' nx
def ItPost (h₀ : Heap) (L I : Addr) (o : Obj) (J : (Str → Option Value) → List (Addr × Obj) → Prop) (s₁ : Shared) (Q : Flow → Shared → Prop) (f : Flow) (s₂ : Shared) : Prop :=
  match f with
  | .ret v => Q (.ret v) s₂
  | .brk => Q .next s₂
  | _ => ItTurnEnd h₀ L I o J s₁ s₂

/-- a for over a list's iterator that the ledger holds, from where it stands -/
theorem it_for {env : Env} {x : Str} {px pos : Pos} {iter : PySem.Expr} {body : List Stmt} {Q : Flow → Shared → Prop} {i₀ : Nat} {m₀ : Str → Option Value} {nx₀ : List (Addr × Obj)} (J : Nat → (Str → Option Value) → List (Addr × Obj) → Prop)
    (hh : A.handled = none) (hx : env.kindOf x = some .local) (hp : (env.scope.kind == .class || (env.scope.kind == .module && env.locals != env.globals)) = false)
    (hev : wpAny (model prog w) A (eval iter env) (fun xv s₁ => xv = .ref I ∧ s₁ = s) E s)
    (F : Fr h₀ env.locals s.heap m₀) (N : News h₀ env.locals s.heap ((I, itObj l i₀) :: nx₀))
    (hl : ∀ i m nx h, J i m nx → Fr h₀ env.locals h m → News h₀ env.locals h nx → h.IsList l vs.toArray)
    (hI : ∀ i m nx, J i m nx → ∀ p ∈ nx, p.1 ≠ I) (hi : i₀ ≤ vs.length) (hj : J i₀ m₀ nx₀)
    (turn : ∀ i v m nx h tk, vs[i]? = some v → J i m nx → Fr h₀ env.locals h (fun y => if y = x then some v else m y) → News h₀ env.locals h ((I, itObj l (i + 1)) :: nx) →
      wpAny (model prog w) A (execs body env) (ItPost h₀ env.locals I (itObj l (i + 1)) (J (i + 1)) { s with heap := h, toks := tk } Q) E { s with heap := h, toks := tk })
    (done : ∀ m nx h tk, J vs.length m nx → Fr h₀ env.locals h m → News h₀ env.locals h ((I, itEnd vs.length) :: nx) → Q .next { s with heap := h, toks := tk })
    (hs : ∀ x, foldedSetIterable iter env x = pure x := by intro _; rfl)
    (hE : PassesOwn (model prog w) A env E := by passes_own) :
    wpAny (model prog w) A (exec (.For (.Name x px) iter body [] pos) env) Q E s := by
  refine wpAny_For (wpAny_mono hev (fun xv s₁ h₁ => ?_) fun _ _ e => e) hs
  obtain ⟨rfl, rfl⟩ := h₁
  have hIL : I ≠ env.locals := (N _ (.head _)).2.1
  refine wpAny_pyIter_listiter (it_isIter (N _ (.head _)).1) ?_
  refine codeAny_forLoop
    (fun k s' => ∃ h' tk m' nx i, s' = { s₁ with heap := h', toks := tk } ∧ Fr h₀ env.locals h' m' ∧ News h₀ env.locals h' ((I, itObj l i) :: nx) ∧ J i m' nx ∧ i ≤ vs.length ∧ k = vs.length + 1 - i) ?_ (vs.length + 1 - i₀)
    ⟨s₁.heap, s₁.toks, m₀, nx₀, i₀, rfl, F, N, hj, hi, rfl⟩
  rintro k s' ⟨h', tk, m', nx, i, rfl, F', N', hJ, hi', rfl⟩
  have hIs := N' _ (.head _)
  have N₀ : News h₀ env.locals h' nx := fun p hp => N' p (.tail _ hp)
  have hli := hl i m' nx h' hJ F' N₀
  by_cases hlt : i < vs.length
  · refine it_pyNext (x := vs[i]) hIs.1 hli (by simp [hlt]) fun h₁ ho₁ hs₁ => ?_
    have F₁ := F'.change hs₁ hIs.2.1 hIs.2.2
    have N₁ : News h₀ env.locals h₁ ((I, itObj l (i + 1)) :: nx) := by
      have := (show News h₀ env.locals h' ([] ++ (I, itObj l i) :: nx) from N').setIn (fun p hp => (nomatch hp)) (hI i m' nx hJ) hs₁ ho₁
      exact this
    refine wpAny_assign_Name (wpAny_storeName_local hx F₁.ns (fun h₂ hn₂ hs₂ => ?_) hp)
    refine wpAny_passesOwn hE (wpAny_mono (turn i vs[i] m' nx h₂ _ (by simp [hlt]) hJ (F₁.set hn₂ hs₂) (N₁.set hs₂)) (fun f s₃ h₃ => ?_) fun _ _ e => e)
    have fin : ItTurnEnd h₀ env.locals I (itObj l (i + 1)) (J (i + 1)) { s₁ with heap := h₂, toks := tk + 1 } s₃ → ∃ n, n < vs.length + 1 - i ∧ ∃ h' tk m' nx i, s₃ = { s₁ with heap := h', toks := tk } ∧ Fr h₀ env.locals h' m' ∧ News h₀ env.locals h' ((I, itObj l i) :: nx) ∧ J i m' nx ∧ i ≤ vs.length ∧ n = vs.length + 1 - i := by
      rintro ⟨h₄, tk₄, m₄, nx₄, rfl, F₄, N₄, hJ₄⟩
      exact ⟨vs.length + 1 - (i + 1), by omega, h₄, tk₄, m₄, nx₄, i + 1, rfl, F₄, N₄, hJ₄, hlt, rfl⟩
    cases f with
    | ret v => exact h₃
    | brk => exact h₃
    | next => exact fin h₃
    | cont => exact fin h₃
  · have hin : i = vs.length := by omega
    subst hin
    refine it_pyNextEnd hh hIs.1 hli (by simp) fun h₁ ho₁ hk₁ => wpAny_execs_nil ?_
    refine done m' nx h₁ tk hJ ⟨F'.ns.at' fun o e => hk₁ _ o (Ne.symm hIL) e, fun b o e => hk₁ b o (by rintro rfl; rw [hIs.2.2] at e; cases e) (F'.keep b o e), F'.above⟩ ?_
    intro p hp
    rcases List.mem_cons.mp hp with rfl | hp
    · exact ⟨ho₁, hIs.2⟩
    · exact ⟨hk₁ _ _ (hI _ m' nx hJ p hp) (N₀ p hp).1, (N₀ p hp).2⟩

theorem is_newTop {K : Frag} {y z : Addr} {ox oy : Obj} {Q : Value → Shared → Prop} (F : Fr h₀ L s.heap m) (N : News h₀ L s.heap news) (hm : (z, ox) ∈ news) (X : K.In h₀) (hk : K.lookup y = some oy) (hnt : oy.cls ≠ .type "tuple")
    (h : Q (.bool false) s) : wpAny (model prog w) A (compareOp .Is (.ref z) (.ref y)) Q E s := by
  have hy := X _ _ hk
  have hxy : z ≠ y := by
    rintro rfl
    have := (N _ hm).2.2
    rw [hy] at this
    cases this
  show wpAny _ A (do return .bool (← isSame (.ref z) (.ref y))) Q E s
  refine wpAny_bind ?_
  show wpAny _ A (if (z == y) = true then pure true else _) _ E s
  rw [if_neg (by simpa using hxy)]
  refine wpAny_bind (wpAny_load (N _ hm).1 (wpAny_bind (wpAny_load (F.keep _ _ hy) ?_)))
  split
  · exact absurd (show oy.cls = Value.type "tuple" by assumption) hnt
  · exact wpAny_pure (wpAny_pure h)
end
end Mine
namespace Mine
open PySem PySem.W PySem.Calls PyProof.Rows PyProof.V PySem.Spec
def scanP : Int → List Int → List Int
  | _, [] => []
  | p, x :: r => (p * x) :: scanP (p * x) r
def prodL (p : Int) (l : List Int) : Int := l.foldl (fun a b => a * b) p
theorem scanP_snoc (l : List Int) : ∀ (p x : Int), scanP p (l ++ [x]) = scanP p l ++ [prodL p l * x] := by
  induction l with
  | nil => intro p x; rfl
  | cons y r ih => intro p x; show p * y :: scanP (p * y) (r ++ [x]) = _; rw [ih]; rfl
theorem prodL_snoc (l : List Int) (p x : Int) : prodL p (l ++ [x]) = prodL p l * x := by
  unfold prodL; rw [List.foldl_append]; rfl
def InInv (runs0 pre : List Int) (product : Int) (runs : List Int) : Prop := product = prodL 1 pre ∧ runs = runs0 ++ scanP 1 pre
def OutInv (row : List Int) (n : Nat) (runs ends : List Int) : Prop :=
  runs = 1 :: (List.range n).flatMap (fun i => scanP 1 (row.drop i)) ∧ ends = 1 :: (List.range n).map (fun i => prodL 1 (row.drop i))
theorem in_start (runs0 : List Int) : InInv runs0 [] 1 runs0 := ⟨rfl, by simp [scanP]⟩
theorem in_step {runs0 pre : List Int} {p x : Int} {runs : List Int} (h : InInv runs0 pre p runs) : InInv runs0 (pre ++ [x]) (p * x) (runs ++ [p * x]) := by
  obtain ⟨h1, h2⟩ := h
  subst h1 h2
  refine ⟨(prodL_snoc _ _ _).symm, ?_⟩
  rw [scanP_snoc, List.append_assoc]
theorem in_all {runs0 pre : List Int} {p x : Int} {runs : List Int} (h : InInv runs0 pre p runs) (hl : runs.length = runs0.length + pre.length) :
    InInv runs0 (pre ++ [x]) (p * x) (runs ++ [p * x]) ∧ (runs ++ [p * x]).length = runs0.length + (pre ++ [x]).length := by
  refine ⟨in_step h, ?_⟩
  rw [List.length_append, List.length_append, hl]; simp; omega
theorem out_start (row : List Int) : OutInv row 0 [1] [1] := ⟨rfl, rfl⟩
theorem out_step {row : List Int} {n : Nat} {k : Int} {runs ends runs' : List Int} {p : Int} (h : OutInv row n runs ends) (hk : k = 0 + (n : Int)) (h' : InInv runs (row.drop k.toNat) p runs') : OutInv row (n + 1) runs' (ends ++ [p]) := by
  obtain ⟨h1, h2⟩ := h
  obtain ⟨h3, h4⟩ := h'
  have e : k.toNat = n := by omega
  rw [e] at h3 h4
  subst h1 h2 h3 h4
  refine ⟨?_, ?_⟩
  · rw [List.range_succ, List.flatMap_append]; simp
  · rw [List.range_succ, List.map_append]; simp
theorem out_all {row pre : List Int} {k : Int} {runs ends runs' : List Int} {p : Int} (h : OutInv row pre.length runs ends) (hk : k = 0 + (pre.length : Int)) (h' : InInv runs (row.drop k.toNat) p runs')
    (h1 : runs.length ≤ 1 + 63 * pre.length) (h2 : 0 < runs.length) (h3 : ends.length = 1 + pre.length) (h4 : runs'.length = runs.length + (row.drop k.toNat).length) (h5 : row.length ≤ 63) :
    OutInv row (pre ++ [k]).length runs' (ends ++ [p]) ∧ runs'.length ≤ 1 + 63 * (pre ++ [k]).length ∧ 0 < runs'.length ∧ (ends ++ [p]).length = 1 + (pre ++ [k]).length := by
  have e : (pre ++ [k]).length = pre.length + 1 := by simp
  have h6 : (row.drop k.toNat).length ≤ row.length := by simp
  rw [e]
  refine ⟨out_step h hk h', by omega, by omega, ?_⟩
  simp; omega
theorem row_len (l : List Int) (f : Int → Int) : (List.map f (List.take 63 l)).length ≤ 63 := by
  rw [List.length_map, List.length_take]; omega
theorem row_small {l : List Int} {n : Int} (h : n ∈ List.map (fun k' => Int.fmod k' 7 - 3) l) : -3 ≤ n ∧ n ≤ 3 := by
  obtain ⟨k, _, rfl⟩ := List.mem_map.mp h
  have h1 := Int.fmod_nonneg_of_pos k (b := 7) (by decide)
  have h2 := Int.fmod_lt_of_pos k (b := 7) (by decide)
  omega
theorem mul_small {a b : Int} (h : -3 ≤ b ∧ b ≤ 3) : IntMulOk a b := .of_right (intBits_le_64 (by omega) (by omega))

/-! the plain law: the greatest and least product of all runs, and of those at the end -/
def runsOf (row : List Int) : List Int := 1 :: (List.range row.length).flatMap (fun i => scanP 1 (row.drop i))
def endsOf (row : List Int) : List Int := 1 :: (List.range row.length).map (fun i => prodL 1 (row.drop i))
theorem mem_ends (row : List Int) (x y : Int) : y ∈ endsOf (row ++ [x]) ↔ y = 1 ∨ ∃ z ∈ endsOf row, y = z * x := by
  unfold endsOf
  rw [List.length_append, List.length_singleton, List.range_succ, List.map_append, List.mem_cons, List.mem_append]
  have e0 : prodL 1 ((row ++ [x]).drop row.length) = x := by rw [List.drop_left]; simp [prodL]
  constructor
  · rintro (h | h | h)
    · exact .inl h
    · obtain ⟨i, hi, rfl⟩ := List.mem_map.mp h
      have hi' := List.mem_range.mp hi
      refine .inr ⟨prodL 1 (row.drop i), .tail _ (List.mem_map.mpr ⟨i, hi, rfl⟩), ?_⟩
      rw [List.drop_append_of_le_length (by omega), prodL_snoc]
    · simp only [List.map_cons, List.map_nil, List.mem_singleton] at h
      rw [e0] at h
      exact .inr ⟨1, .head _, by rw [h]; omega⟩
  · rintro (h | ⟨z, hz, rfl⟩)
    · exact .inl h
    · rcases List.mem_cons.mp hz with rfl | hz
      · refine .inr (.inr ?_)
        simp only [List.map_cons, List.map_nil, List.mem_singleton]
        rw [e0]; omega
      · obtain ⟨i, hi, rfl⟩ := List.mem_map.mp hz
        have hi' := List.mem_range.mp hi
        refine .inr (.inl (List.mem_map.mpr ⟨i, hi, ?_⟩))
        rw [List.drop_append_of_le_length (by omega), prodL_snoc]
theorem mem_runs (row : List Int) (x y : Int) : y ∈ runsOf (row ++ [x]) ↔ y ∈ runsOf row ∨ y ∈ endsOf (row ++ [x]) := by
  rw [mem_ends]
  unfold runsOf endsOf
  rw [List.length_append, List.length_singleton, List.range_succ, List.flatMap_append, List.mem_cons, List.mem_append, List.mem_cons]
  have e0 : scanP 1 ((row ++ [x]).drop row.length) = [x] := by rw [List.drop_left]; simp [scanP]
  constructor
  · rintro (h | h | h)
    · exact .inl (.inl h)
    · obtain ⟨i, hi, hy⟩ := List.mem_flatMap.mp h
      have hi' := List.mem_range.mp hi
      rw [List.drop_append_of_le_length (by omega), scanP_snoc] at hy
      rcases List.mem_append.mp hy with hy | hy
      · exact .inl (.inr (List.mem_flatMap.mpr ⟨i, hi, hy⟩))
      · exact .inr (.inr ⟨_, .tail _ (List.mem_map.mpr ⟨i, hi, rfl⟩), List.mem_singleton.mp hy⟩)
    · simp only [List.flatMap_cons, List.flatMap_nil, List.append_nil] at h
      rw [e0] at h
      exact .inr (.inr ⟨1, .head _, by rw [List.mem_singleton.mp h]; omega⟩)
  · rintro ((h | h) | h | ⟨z, hz, rfl⟩)
    · exact .inl h
    · obtain ⟨i, hi, hy⟩ := List.mem_flatMap.mp h
      have hi' := List.mem_range.mp hi
      refine .inr (.inl (List.mem_flatMap.mpr ⟨i, hi, ?_⟩))
      rw [List.drop_append_of_le_length (by omega), scanP_snoc]
      exact List.mem_append.mpr (.inl hy)
    · exact .inl h
    · rcases List.mem_cons.mp hz with rfl | hz
      · refine .inr (.inr ?_)
        simp only [List.flatMap_cons, List.flatMap_nil, List.append_nil]
        rw [e0]
        exact List.mem_singleton.mpr (by omega)
      · obtain ⟨i, hi, rfl⟩ := List.mem_map.mp hz
        have hi' := List.mem_range.mp hi
        refine .inr (.inl (List.mem_flatMap.mpr ⟨i, hi, ?_⟩))
        rw [List.drop_append_of_le_length (by omega), scanP_snoc]
        exact List.mem_append.mpr (.inr (List.mem_singleton.mpr rfl))
def IsMx (M : Int) (l : List Int) : Prop := M ∈ l ∧ ∀ y ∈ l, y ≤ M
def IsMn (M : Int) (l : List Int) : Prop := M ∈ l ∧ ∀ y ∈ l, M ≤ y
def Best (row : List Int) (a b c d : Int) : Prop := IsMx a (runsOf row) ∧ IsMn b (runsOf row) ∧ IsMx c (endsOf row) ∧ IsMn d (endsOf row)
theorem best_start : Best [] 1 1 1 1 := by
  refine ⟨⟨.head _, ?_⟩, ⟨.head _, ?_⟩, ⟨.head _, ?_⟩, ⟨.head _, ?_⟩⟩ <;> (intro y hy; rcases List.mem_cons.mp hy with rfl | hy; exact Int.le_refl _; exact (nomatch hy))
/-- z x lies between c x and d x, where z lies between d and c -/
theorem between {c d z x : Int} (h1 : d ≤ z) (h2 : z ≤ c) : z * x ≤ max (c * x) (d * x) ∧ min (c * x) (d * x) ≤ z * x := by
  rcases Int.le_total 0 x with hx | hx
  · have q1 := Int.mul_le_mul_of_nonneg_right h1 hx
    have q2 := Int.mul_le_mul_of_nonneg_right h2 hx
    omega
  · have q1 := Int.mul_le_mul_of_nonpos_right h1 hx
    have q2 := Int.mul_le_mul_of_nonpos_right h2 hx
    omega
theorem best_step {row : List Int} {x a b c d a' b' c' d' : Int} (h : Best row a b c d)
    (ha : a' = a ∨ a' = 1 ∨ a' = c * x ∨ a' = d * x) (ha2 : a ≤ a' ∧ 1 ≤ a' ∧ c * x ≤ a' ∧ d * x ≤ a')
    (hb : b' = b ∨ b' = 1 ∨ b' = c * x ∨ b' = d * x) (hb2 : b' ≤ b ∧ b' ≤ 1 ∧ b' ≤ c * x ∧ b' ≤ d * x)
    (hc : c' = 1 ∨ c' = c * x ∨ c' = d * x) (hc2 : 1 ≤ c' ∧ c * x ≤ c' ∧ d * x ≤ c')
    (hd : d' = 1 ∨ d' = c * x ∨ d' = d * x) (hd2 : d' ≤ 1 ∧ d' ≤ c * x ∧ d' ≤ d * x) : Best (row ++ [x]) a' b' c' d' := by
  obtain ⟨⟨m1, u1⟩, ⟨m2, u2⟩, ⟨m3, u3⟩, ⟨m4, u4⟩⟩ := h
  have e1 : (1 : Int) ∈ endsOf (row ++ [x]) := .head _
  have ec : c * x ∈ endsOf (row ++ [x]) := (mem_ends _ _ _).mpr (.inr ⟨c, m3, rfl⟩)
  have ed : d * x ∈ endsOf (row ++ [x]) := (mem_ends _ _ _).mpr (.inr ⟨d, m4, rfl⟩)
  have bd : ∀ y ∈ endsOf (row ++ [x]), y = 1 ∨ (y ≤ max (c * x) (d * x) ∧ min (c * x) (d * x) ≤ y) := by
    intro y hy
    rcases (mem_ends _ _ _).mp hy with h | ⟨z, hz, rfl⟩
    · exact .inl h
    · exact .inr (between (u4 z hz) (u3 z hz))
  refine ⟨⟨(mem_runs _ _ _).mpr ?_, fun y hy => ?_⟩, ⟨(mem_runs _ _ _).mpr ?_, fun y hy => ?_⟩, ⟨?_, fun y hy => ?_⟩, ⟨?_, fun y hy => ?_⟩⟩
  · rcases ha with rfl | rfl | rfl | rfl
    · exact .inl m1
    · exact .inr e1
    · exact .inr ec
    · exact .inr ed
  · rcases (mem_runs _ _ _).mp hy with h | h
    · have := u1 y h; omega
    · have := bd y h; omega
  · rcases hb with rfl | rfl | rfl | rfl
    · exact .inl m2
    · exact .inr e1
    · exact .inr ec
    · exact .inr ed
  · rcases (mem_runs _ _ _).mp hy with h | h
    · have := u2 y h; omega
    · have := bd y h; omega
  · rcases hc with rfl | rfl | rfl
    · exact e1
    · exact ec
    · exact ed
  · have := bd y hy; omega
  · rcases hd with rfl | rfl | rfl
    · exact e1
    · exact ec
    · exact ed
  · have := bd y hy; omega
theorem mx_one {M M' : Int} {l : List Int} (h : IsMx M l) (h1 : M' ∈ l) (h2 : ∀ y, y ∈ l → y ≤ M') : M = M' := by
  have := h.2 _ h1
  have := h2 _ h.1
  omega
theorem mn_one {M M' : Int} {l : List Int} (h : IsMn M l) (h1 : M' ∈ l) (h2 : ∀ y, y ∈ l → M' ≤ y) : M = M' := by
  have := h.2 _ h1
  have := h2 _ h.1
  omega
end Mine
namespace Mine
theorem due_end {row runs ends : List Int} {n : Nat} {a b c d A B C D : Int} (hb : Best row a b c d) (ho : OutInv row n runs ends) (hn : n = row.length)
    (h1 : A ∈ runs) (h2 : ∀ y, y ∈ runs → y ≤ A) (h3 : B ∈ runs) (h4 : ∀ y, y ∈ runs → B ≤ y)
    (h5 : C ∈ ends) (h6 : ∀ y, y ∈ ends → y ≤ C) (h7 : D ∈ ends) (h8 : ∀ y, y ∈ ends → D ≤ y) : a = A ∧ b = B ∧ c = C ∧ d = D := by
  subst hn
  obtain ⟨e1, e2⟩ := ho
  subst e1 e2
  exact ⟨mx_one hb.1 h1 h2, mn_one hb.2.1 h3 h4, mx_one hb.2.2.1 h5 h6, mn_one hb.2.2.2 h7 h8⟩
theorem due_true {row runs ends : List Int} {n : Nat} {a b c d A B C D : Int} (hb : Best row a b c d) (ho : OutInv row n runs ends) (hn : n = row.length)
    (h1 : A ∈ runs) (h2 : ∀ y, y ∈ runs → y ≤ A) (h3 : B ∈ runs) (h4 : ∀ y, y ∈ runs → B ≤ y)
    (h5 : C ∈ ends) (h6 : ∀ y, y ∈ ends → y ≤ C) (h7 : D ∈ ends) (h8 : ∀ y, y ∈ ends → D ≤ y) : (a == A && (b == B && (c == C && d == D))) = true := by
  obtain ⟨rfl, rfl, rfl, rfl⟩ := due_end hb ho hn h1 h2 h3 h4 h5 h6 h7 h8
  simp
theorem due_false {row runs ends : List Int} {n : Nat} {a b c d A B C D : Int} (h : (a == A && (b == B && (c == C && d == D))) = false) (hb : Best row a b c d) (ho : OutInv row n runs ends) (hn : n = row.length)
    (h1 : A ∈ runs) (h2 : ∀ y, y ∈ runs → y ≤ A) (h3 : B ∈ runs) (h4 : ∀ y, y ∈ runs → B ≤ y)
    (h5 : C ∈ ends) (h6 : ∀ y, y ∈ ends → y ≤ C) (h7 : D ∈ ends) (h8 : ∀ y, y ∈ ends → D ≤ y) : False := by
  rw [due_true hb ho hn h1 h2 h3 h4 h5 h6 h7 h8] at h
  cases h
end Mine
namespace Mine
open PySem PySem.W PySem.Calls PyProof.Rows PyProof.V PySem.Spec

def tup4 (a b c d : Int) (t1 t2 t3 t4 : Tok) : Obj := { cls := .type "tuple", data := .seq #[.int a t1, .int b t2, .int c t3, .int d t4] }

/-- the items from place i₀ on are the ints ks -/
def IntsFrom (i₀ : Nat) (vs : List Value) (ks : List Int) : Prop := vs.length = i₀ + ks.length ∧ ∀ j k, ks[j]? = some k → ∃ t, vs[i₀ + j]? = some (.int k t)
theorem intsFrom_zero {vs : List Value} {ks : List Int} (h : IntsAre vs ks) : IntsFrom 0 vs ks :=
  ⟨by rw [h.length]; omega, fun j k hk => by obtain ⟨t, ht⟩ := h.get j k hk; exact ⟨t, by rw [Nat.zero_add]; exact ht⟩⟩
theorem intsFrom_one {v : Value} {vs : List Value} {ks : List Int} (h : IntsAre vs ks) : IntsFrom 1 (v :: vs) ks :=
  ⟨by rw [List.length_cons, h.length]; omega, fun j k hk => by obtain ⟨t, ht⟩ := h.get j k hk; exact ⟨t, by rw [Nat.add_comm]; exact ht⟩⟩

def Red2 (I : Addr) (m₀ : Str → Option Value) (base : List (Addr × Obj)) (ks : List Int) (i₀ i : Nat) (m : Str → Option Value) (nx : List (Addr × Obj)) : Prop :=
  i₀ ≤ i ∧ ∃ a b c d x t1 t2 t3 t4, m (Str.ofString "value") = some (.ref x) ∧ (∀ z, z ≠ Str.ofString "element" → z ≠ Str.ofString "value" → m z = m₀ z) ∧
    nx = (x, tup4 a b c d t1 t2 t3 t4) :: base ∧ x ≠ I ∧ Best (ks.take (i - i₀)) a b c d

section
variable {prog : Program} {w : World} {A : Around} {E : Value → Shared → Prop} {s : Shared} {h₀ : Heap} {L l I a₀ fa : Addr} {m₀ : Str → Option Value} {base : List (Addr × Obj)} {vs : List Value} {ks : List Int} {i₀ : Nat}
  {name : Str} {scope : Scope} {cd : Value} {Q : Flow → Shared → Prop} {px py pos : Pos} {body : List Stmt} {lo : Obj} {n : Nat} {t1 t2 t3 t4 : Tok}

theorem red2_for (hh : A.handled = none) (F : Fr h₀ L s.heap m₀) (N : News h₀ L s.heap ((I, itObj l i₀) :: base)) (ham : (a₀, tup4 1 1 1 1 t1 t2 t3 t4) ∈ base)
    (hv : m₀ (Str.ofString "value") = some (.ref a₀)) (hit : m₀ (Str.ofString "it") = some (.ref I)) (hlm : (l, lo) ∈ base) (hlc : lo.cls = .type "list") (hld : lo.data = .seq vs.toArray n)
    (hks : IntsFrom i₀ vs ks) (hsm : ∀ k, k ∈ ks → -3 ≤ k ∧ k ≤ 3) (hsep : ∀ p ∈ base, p.1 ≠ I)
    (turn : ∀ a b c d x u1 u2 u3 u4 pre k post t (j : Nat) h tk, ks = pre ++ k :: post → (-3 ≤ k ∧ k ≤ 3) → Best pre a b c d → x ≠ I →
      Fr h₀ L h (fun y => if y = Str.ofString "element" then some (.int k t) else if y = Str.ofString "value" then some (.ref x) else m₀ y) →
      News h₀ L h ((x, tup4 a b c d u1 u2 u3 u4) :: (I, itObj l j) :: base) →
      wpAny (model prog w) A (execs body (envOf name scope L fa cd)) (ItPost h₀ L I (itObj l j) (fun m nx => ∃ a' b' c' d' x' v1 v2 v3 v4, m (Str.ofString "value") = some (.ref x') ∧ (∀ z, z ≠ Str.ofString "element" → z ≠ Str.ofString "value" → m z = m₀ z) ∧
        nx = (x', tup4 a' b' c' d' v1 v2 v3 v4) :: base ∧ x' ≠ I ∧ Best (pre ++ [k]) a' b' c' d') { s with heap := h, toks := tk } Q) E { s with heap := h, toks := tk })
    (done : ∀ a b c d x u1 u2 u3 u4 (j : Nat) (u : Str → Option Value) h tk, Best ks a b c d → x ≠ I →
      Fr h₀ L h (fun y => if y = Str.ofString "element" then u y else if y = Str.ofString "value" then some (.ref x) else m₀ y) →
      News h₀ L h ((x, tup4 a b c d u1 u2 u3 u4) :: (I, itEnd j) :: base) → Q .next { s with heap := h, toks := tk })
    (hx : (envOf name scope L fa cd).kindOf (Str.ofString "element") = some .local := by rfl) (hxi : (envOf name scope L fa cd).kindOf (Str.ofString "it") = some .local := by rfl) (hk : scope.kind = .function := by rfl)
    (hE : PassesOwn (model prog w) A (envOf name scope L fa cd) E := by passes_own) :
    wpAny (model prog w) A (exec (.For (.Name (Str.ofString "element") px) (.Name (Str.ofString "it") py) body [] pos) (envOf name scope L fa cd)) Q E s := by
  have swap : ∀ {h : Heap} {p q : Addr × Obj} {r}, News h₀ L h (p :: q :: r) → News h₀ L h (q :: p :: r) := fun N z hz => N z (by
    rcases List.mem_cons.mp hz with e | hz
    · rw [e]; exact .tail _ (.head _)
    · rcases List.mem_cons.mp hz with e | hz
      · rw [e]; exact .head _
      · exact .tail _ (.tail _ hz))
  have ha : a₀ ≠ I := hsep _ ham
  have N₀ : News h₀ L s.heap ((I, itObj l i₀) :: (a₀, tup4 1 1 1 1 t1 t2 t3 t4) :: base) := fun z hz => N z (by
    rcases List.mem_cons.mp hz with e | hz
    · rw [e]; exact .head _
    · rcases List.mem_cons.mp hz with e | hz
      · rw [e]; exact .tail _ ham
      · exact .tail _ hz)
  refine it_for (env := envOf name scope L fa cd) (vs := vs) (l := l) (I := I) (i₀ := i₀) (m₀ := m₀) (Red2 I m₀ base ks i₀) hh hx (by show (scope.kind == .class || (scope.kind == .module && L != mainGlobals)) = false; rw [hk]; rfl)
    (ld F hit ⟨rfl, rfl⟩ hk hxi (by decide)) F N₀ ?_ ?_ (by rw [hks.1]; omega) ⟨Nat.le_refl _, 1, 1, 1, 1, a₀, t1, t2, t3, t4, hv, fun _ _ _ => rfl, rfl, ha, by rw [Nat.sub_self]; exact best_start⟩ ?_ ?_ (by intro _; rfl) hE
  · rintro i m nx h ⟨_, a, b, c, d, x, u1, u2, u3, u4, _, _, rfl, _, _⟩ _ N'
    exact ⟨_, (N' _ (.tail _ hlm)).1, hlc, n, hld⟩
  · rintro i m nx ⟨_, a, b, c, d, x, u1, u2, u3, u4, _, _, rfl, hx, _⟩ p hp
    rcases List.mem_cons.mp hp with e | hp
    · rw [e]; exact hx
    · exact hsep p hp
  · rintro i v m nx h tk hi ⟨hle, a, b, c, d, x, u1, u2, u3, u4, hmv, hmz, rfl, hxI, hb⟩ F' N'
    have hlt : i < vs.length := by
      rcases Nat.lt_or_ge i vs.length with q | q
      · exact q
      · rw [List.getElem?_eq_none q] at hi; cases hi
    have hj : i - i₀ < ks.length := by have := hks.1; omega
    obtain ⟨t, ht⟩ := hks.2 (i - i₀) ks[i - i₀] (by simp [hj])
    rw [show i₀ + (i - i₀) = i from by omega, hi] at ht
    obtain rfl : v = .int ks[i - i₀] t := Option.some.inj ht
    have e1 : ks = ks.take (i - i₀) ++ ks[i - i₀] :: ks.drop (i - i₀ + 1) := by simp
    have e2 : ks.take (i + 1 - i₀) = ks.take (i - i₀) ++ [ks[i - i₀]] := by
      rw [show i + 1 - i₀ = i - i₀ + 1 from by omega, List.take_add_one]; simp [hj]
    have em : (fun y => if y = Str.ofString "element" then some (Value.int ks[i - i₀] t) else m y) = fun y => if y = Str.ofString "element" then some (Value.int ks[i - i₀] t) else if y = Str.ofString "value" then some (.ref x) else m₀ y := by
      funext y
      by_cases h1 : y = Str.ofString "element"
      · rw [if_pos h1, if_pos h1]
      · rw [if_neg h1, if_neg h1]
        by_cases h2 : y = Str.ofString "value"
        · rw [if_pos h2, h2, hmv]
        · rw [if_neg h2, hmz y h1 h2]
    rw [em] at F'
    refine wpAny_mono (turn a b c d x u1 u2 u3 u4 _ _ _ t (i + 1) h tk e1 (hsm _ (List.getElem_mem hj)) hb hxI F' (swap N')) (fun f s₂ h₂ => ?_) fun _ _ e => e
    have up : ∀ {s₁ s₂ : Shared} {o : Obj}, ItTurnEnd h₀ L I o (fun m nx => ∃ a' b' c' d' x' v1 v2 v3 v4, m (Str.ofString "value") = some (.ref x') ∧ (∀ z, z ≠ Str.ofString "element" → z ≠ Str.ofString "value" → m z = m₀ z) ∧
        nx = (x', tup4 a' b' c' d' v1 v2 v3 v4) :: base ∧ x' ≠ I ∧ Best (ks.take (i - i₀) ++ [ks[i - i₀]]) a' b' c' d') s₁ s₂ → ItTurnEnd h₀ L I o (Red2 I m₀ base ks i₀ (i + 1)) s₁ s₂ := by
      rintro s₁ s₂ o ⟨h', tk', m', nx', e, F'', N'', a', b', c', d', x', v1, v2, v3, v4, q1, q2, q3, q4, q5⟩
      exact ⟨h', tk', m', nx', e, F'', N'', by omega, a', b', c', d', x', v1, v2, v3, v4, q1, q2, q3, q4, by rw [e2]; exact q5⟩
    cases f with
    | ret v => exact h₂
    | brk => exact h₂
    | next => exact up h₂
    | cont => exact up h₂
  · rintro m nx h tk ⟨_, a, b, c, d, x, u1, u2, u3, u4, hmv, hmz, rfl, hxI, hb⟩ F' N'
    have e2 : ks.take (vs.length - i₀) = ks := List.take_of_length_le (by have := hks.1; omega)
    rw [e2] at hb
    have em : m = fun y => if y = Str.ofString "element" then m y else if y = Str.ofString "value" then some (.ref x) else m₀ y := by
      funext y
      by_cases h1 : y = Str.ofString "element"
      · rw [if_pos h1]
      · rw [if_neg h1]
        by_cases h2 : y = Str.ofString "value"
        · rw [if_pos h2, h2, hmv]
        · rw [if_neg h2, hmz y h1 h2]
    refine done a b c d x u1 u2 u3 u4 vs.length m h tk hb hxI ?_ (swap N')
    rw [← em]; exact F'

theorem red2_end {s₁ : Shared} {h' : Heap} {tk : Nat} {o : Obj} {m' : Str → Option Value} {news' : List (Addr × Obj)} {row : List Int} {a b c d : Int} {x : Addr}
    (F : Fr h₀ L h' m') (N : News h₀ L h' news') (hv : m' (Str.ofString "value") = some (.ref x)) (hm : ∀ z, z ≠ Str.ofString "element" → z ≠ Str.ofString "value" → m' z = m₀ z)
    (hx : (x, tup4 a b c d t1 t2 t3 t4) ∈ news') (hI : (I, o) ∈ news') (hb : ∀ p ∈ base, p ∈ news') (hne : x ≠ I) (hbest : Best row a b c d) :
    ItTurnEnd h₀ L I o (fun m nx => ∃ a' b' c' d' x' v1 v2 v3 v4, m (Str.ofString "value") = some (.ref x') ∧ (∀ z, z ≠ Str.ofString "element" → z ≠ Str.ofString "value" → m z = m₀ z) ∧
        nx = (x', tup4 a' b' c' d' v1 v2 v3 v4) :: base ∧ x' ≠ I ∧ Best row a' b' c' d') s₁ { s₁ with heap := h', toks := tk } :=
  ⟨h', tk, m', _, rfl, F, fun p hp => N p (by
    rcases List.mem_cons.mp hp with e | hp
    · rw [e]; exact hI
    · rcases List.mem_cons.mp hp with e | hp
      · rw [e]; exact hx
      · exact hb p hp), a, b, c, d, x, t1, t2, t3, t4, hv, hm, rfl, hne, hbest⟩
end
end Mine
namespace Mine
theorem good_true {P : Bool → Prop} {b : Bool} (h : b = true) (hp : P true) : P b := h ▸ hp
end Mine
open PySem PySem.W PyProof.Rows Mine
local macro_rules | `(tactic| walk_at "call builtin:iter") => `(tactic| (k_here; (with_reducible show wpAny _ _ (call (Value.builtin "iter") [Value.ref _]) _ _ _); (with_unfolding_all refine' it_iter ?k1 ?k2 ?k3 ?_; (case k1 => k_asm); (case k2 => k_asm); (case k3 => kso_list); k_whole); intro I' h' F' N' l1; (try k_lt l1); (try k_sweep)))
local macro_rules | `(tactic| walk_at "compareOp Is ref ref") => `(tactic| (k_here; (with_reducible show wpAny _ _ (compareOp CmpOp.Is (Value.ref _) (Value.ref _)) _ _ _); k_dflt (refine' is_newTop ?F ?N ?m ?X ?k ?n ?_; (case F => k_asm); (case N => k_asm); (case m => k_mem); (case X => k_asm); (case k => k_is); (case n => decide); k_whole)))
local macro_rules | `(tactic| walk_at "exec For Name Name cons nil") => `(tactic| (k_here; (with_reducible show wpAny _ _ (exec (Stmt.For (Expr.Name (PySem.Str.ofString "element") _) (Expr.Name (PySem.Str.ofString "it") _) _ _ _) _) _ _ _); (rename Fr _ _ _ _ => lF'); (rename News _ _ _ _ => lN'); (with_unfolding_all refine' red2_for ?hh lF' lN' ?ham ?hv ?hit ?hlm ?hlc ?hld ?hks ?hsm ?hsep (fun a' b' c' d' x' u1 u2 u3 u4 pre' k' post' t' j' h' tk' e' hk' hb' hx' F' N' => ?_) (fun a' b' c' d' x' u1 u2 u3 u4 j' u' h' tk' hb' hx' F' N' => ?_); (case hh => with_unfolding_all rfl); (case hv => with_unfolding_all rfl); (case hit => with_unfolding_all rfl); (case hlm => k_mem); (case hlc => rfl); (case hld => rfl); (case hks => first | exact intsFrom_zero (by assumption) | exact intsFrom_one (by assumption)); (case hsm => exact fun k hk => row_small hk); (case hsep => k_all); (case ham => k_mem)); (all_goals (try clear lF' lN')); (all_goals (try k_fold))))
local macro_rules | `(tactic| walk_at "call ref") => `(tactic| (k_here; (first | (with_reducible show wpAny _ _ (call (Value.ref _) [Value.ref _, Value.ref _, Value.ref _]) _ _ _) | (with_reducible show wpAny _ _ (call (Value.ref _) [Value.ref _, Value.ref _]) _ _ _)); k_dflt (refine wpAny_call ?_; kts_go)))
local macro_rules | `(tactic| walk_at "call builtin:next") => `(tactic| (k_here; (with_reducible show wpAny _ _ (call (Value.builtin "next") [Value.ref _]) _ _ _); k_dflt (refine' it_next ?F ?N ?U ?l ?x ?_; (case F => k_asm); (case N => k_asm); (case U => k_upd); (case l => kso_list); (case x => rfl); k_whole); intro h' F' N'; (try k_sweep)))
local macro_rules | `(tactic| walk_at "ItTurnEnd") => `(tactic| ((rename Fr _ _ _ _ => lF'); (rename News _ _ _ _ => lN'); (with_unfolding_all refine' red2_end lF' lN' ?hv ?hm ?hx ?hI ?hb ?hne ?hbest); (case hv => with_unfolding_all rfl); (case hx => with_unfolding_all k_mem); (case hI => k_mem); (case hb => kst_inAny); (case hm => (intro z h1 h2; (simp [h1, h2]; done))); (case hne => k_ne); (case hbest => exact best_step (by assumption) (by assumption) (by assumption) (by assumption) (by assumption) (by assumption) (by assumption) (by assumption) (by assumption))))
local macro_rules | `(tactic| walk_at "ItPost") => `(tactic| (dsimp only [ItPost]))
set_option maxRecDepth 100000 in
set_option maxHeartbeats 8000000 in
theorem PySem.Challenge.cw_dp0027_02_holds : PySem.Challenge.rw_dp0027_02.Holds := by
  w_on
  o_law
  k_head
  (case hw => w_witness2)
  k_with "pyIter ref" => (k_of "i" => k_state_given ["row"] (fun row pre runs ends => OutInv row pre.length runs ends ∧ runs.length ≤ 1 + 63 * pre.length ∧ 0 < runs.length ∧ ends.length = 1 + pre.length) "runs" "ends")
  k_with "pyIter ref" => (k_of "x" => k_state_given ["runs!"] (fun runs0 pre product runs => InInv runs0 pre product runs ∧ runs.length = runs0.length + pre.length) "product" "runs")
  k_with "state" => (refine ⟨out_start _, ?_, ?_, ?_⟩ <;> simp)
  k_with "state" => (refine ⟨in_start _, ?_⟩; simp)
  k_with "state" => (exact in_all (by assumption) (by assumption))
  k_with "state" => (exact out_all (by assumption) (by assumption) (by assumption) (by assumption) (by assumption) (by assumption) (by assumption) (row_len _ _))
  k_with "binaryOp Mult int int" => ((with_reducible refine mul_int ?_ (mul_small (row_small (List.mem_of_mem_drop (by assumption))))))
  k_with "end" => (exact (due_false (by assumption) (by assumption) (by assumption) (by simp [rangeKs_length]) (by assumption) (by assumption) (by assumption) (by assumption) (by assumption) (by assumption) (by assumption) (by assumption)).elim)
  w_strict (k_go0; (all_goals try k_fold); k_steps; (all_goals (refine good_true (P := fun b => GoodW _ _ _ _ _ (Except.ok (Flow.ret (Value.bool b))) _) (due_true (by assumption) (by assumption) (by simp [rangeKs_length]) (by assumption) (by assumption) (by assumption) (by assumption) (by assumption) (by assumption) (by assumption) (by assumption)) ?_; wrow_close)); done)
