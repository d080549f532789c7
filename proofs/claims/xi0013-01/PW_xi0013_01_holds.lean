import PyProof.Rows.All
import Wide.All
import OpenK.AllK
import Wide.FinOn
import PySem.Challenge.RW_xi0013_01
open PySem PySem.W PySem.Spec PySem.Calls PyProof.Rows
set_option Elab.async false
set_option maxRecDepth 100000
set_option maxHeartbeats 8000000
set_option linter.unusedVariables false
namespace Mine
open_top hd for PySem.Challenge.rw_xi0013_01
end Mine
namespace Mine

/-- names lists of ints: the iterator over a made list -/
abbrev itOf (l : Addr) : Obj := { cls := .type "list_iterator", data := .fields #[.ref l, .int 0 0] }

section
variable {prog : Program} {w : World} {A : Around} {E : Value → Shared → Prop} {s : Shared} {h₀ h h' : Heap} {L : Addr} {m m' : Str → Option Value} {news news' : List (Addr × Obj)}

theorem sum_take_succ (ns : List Int) (i : Nat) (h : i < ns.length) : (ns.take (i + 1)).sum = (ns.take i).sum + ns[i] := by
  have e : ns[i]? = some ns[i] := List.getElem?_eq_getElem h
  rw [List.take_add_one]
  rw [e]
  rw [List.sum_append]
  simp
theorem fr_cong (F : Fr h₀ L h m) (e : ∀ y, m y = m' y) : Fr h₀ L h m' := (funext e : m = m') ▸ F
theorem news_sub (N : News h₀ L h news') (hs : ∀ p ∈ news, p ∈ news') : News h₀ L h news := fun p hp => N p (hs p hp)
theorem news_fresh (N : News h₀ L h news) : ∀ p ∈ news, p.1 < h.objs.size := fun p hp => Heap.lt_size (N p hp).1
theorem news_app (N : News h₀ L h news) (N' : News h₀ L h news') : News h₀ L h (news ++ news') := fun p hp => (List.mem_append.mp hp).elim (N p) (N' p)

theorem m_fr {x : Str} {v : Value} {ps : List (Str × Value)} {m₁ : Str → Option Value} (F : Fr h₀ L h (fun y => if y = x then some v else m₁ y)) (h1 : ∀ p ∈ ps, m₁ p.1 = some p.2) : Fr h₀ L h (fun y => if y = x then some v else kstB m₁ ps y) :=
  fr_cong F fun y => by
    by_cases hy : y = x
    · rw [if_pos hy, if_pos hy]
    · rw [if_neg hy, if_neg hy]
      exact (kstB_eq h1 fun _ => rfl).symm
theorem m_frOut {ps : List (Str × Value)} {m₁ : Str → Option Value} (F : Fr h₀ L h m₁) (h1 : ∀ p ∈ ps, m₁ p.1 = some p.2) : Fr h₀ L h (fun y => kstB m₁ ps y) :=
  fr_cong F fun y => (kstB_eq h1 fun _ => rfl).symm
theorem news_swap {own : List (Addr × Obj)} (N : News h₀ L h (own ++ news)) : News h₀ L h (news ++ own) := fun p hp => N p ((List.mem_append.mp hp).elim (fun q => List.mem_append.mpr (.inr q)) fun q => List.mem_append.mpr (.inl q))

theorem m_iter {l : Addr} {items : Array Value} {n : Nat} {Q : Value → Shared → Prop} (F : Fr h₀ L s.heap m) (N : News h₀ L s.heap news) (hl : (l, W.listOf items n) ∈ news)
    (hq : ∀ (I : Addr) h', Fr h₀ L h' m → News h₀ L h' ((I, itOf l) :: news) → (∀ p ∈ news, p.1 < I) → Q (.ref I) { s with heap := h' }) :
    wpAny (model prog w) A (call (.builtin "iter") [.ref l]) Q E s := by
  refine call_function_entry (by decide +kernel) (by decide +kernel) kdk_entry_iter (kdk_args_iter _) ?_
  unfold Builtin.«iter»
  refine wpAny_bind (m := someArgs "iter" 1 2 _) (wpAny_of_eq (a := [Value.ref l]) (by first | rfl | kernel_rfl!) ?_)
  show wpAny _ _ (pyIter (.ref l) >>= _) _ _ _
  refine wpAny_bind (wpAny_pyIter_list (items := items) ⟨_, (N _ hl).1, rfl, _, rfl⟩ ?_)
  exact wpAny_pure ⟨_, rfl, hq _ _ (F.push _) (News.push F N _ rfl) (news_fresh N)⟩
end

section
variable {prog : Program} {w : World} {A : Around} {E : Value → Shared → Prop} {s : Shared} {env : Env} {h₀ : Heap} {x : Str} {body : List Stmt} {Q : Flow → Shared → Prop} {m₀ : Str → Option Value} {news : List (Addr × Obj)}

/-- a for loop by an invariant J over the turn's number, the frame's map and the ledger -/
theorem m_loopW {I : Addr} {fp wr : List Addr} {n : Nat} {P : Nat → Value → Prop} {St : Nat → Heap → Prop} (J : Nat → (Str → Option Value) → List (Addr × Obj) → Prop)
    (Wk : Walks prog w A I fp wr n P St) (hLf : env.locals ∉ fp) (hwr : ∀ b ∈ wr, h₀.get? b = none) (hst : St 0 s.heap) (F : Fr h₀ env.locals s.heap m₀) (N : News h₀ env.locals s.heap news) (hnw : ∀ p ∈ news, p.1 ∉ wr) (hj : J 0 m₀ news)
    (turn : ∀ i v m₁ news₁ own h tk, i < n → P i v → J i m₁ news₁ → (∀ p ∈ news₁, p.1 ∉ wr) → (∀ p ∈ own, p.1 ∈ fp) → Fr h₀ env.locals h (fun y => if y = x then some v else m₁ y) → News h₀ env.locals h (own ++ news₁) →
      wpAny (model prog w) A (execs body env) (LoopStepV h₀ env.locals wr own (J (i + 1)) { s with heap := h, toks := tk } (fun v s' => Q (.ret v) s') fun s' => Q .next s') E { s with heap := h, toks := tk })
    (done : ∀ h tk m' news', J n m' news' → Fr h₀ env.locals h m' → News h₀ env.locals h news' → Q .next { s with heap := h, toks := tk }) :
    LoopAtV prog w A h₀ env x body Q E (.ref I) s :=
  ⟨I, fp, wr, n, P, St, m₀, news, J, rfl, Wk, hLf, hwr, hnw, hst, F, N, hj,
    fun i v m₁ news₁ s₁ own he hi hP hJ hn ho _ _ _ F₁ N₁ => by
      obtain ⟨h, tk, rfl⟩ := he
      exact turn i v m₁ news₁ own h tk hi hP hJ hn ho F₁ N₁,
    fun h tk m' news' F' N' _ hJ => done h tk m' news' hJ F' N'⟩

/-- no code object: its second field is no text -/
def NotCode (o : Obj) : Prop := ∀ vs q t, o.data = .fields vs → vs[1]? ≠ some (.str q t)
/-- over range(n) that was just made -/
theorem m_loopRange {r : Addr} {n : Nat} {t₀ u₀ v₀ : Tok} (J : Nat → (Str → Option Value) → List (Addr × Obj) → Prop)
    (hh : A.handled = none) (hr : IsRange s.heap r 0 (n : Int) 1 t₀ u₀ v₀) (hn : n < 1000) (F : Fr h₀ env.locals s.heap m₀) (N : News h₀ env.locals s.heap news) (hj : J 0 m₀ news)
    (turn : ∀ i m₁ news₁ I oI h tk t, i < n → J i m₁ news₁ → (∀ p ∈ news₁, p.1 ≠ I) → NotCode oI → Fr h₀ env.locals h (fun y => if y = x then some (.int (i : Int) t) else m₁ y) → News h₀ env.locals h ((I, oI) :: news₁) →
      wpAny (model prog w) A (execs body env) (LoopStepV h₀ env.locals [I] [(I, oI)] (J (i + 1)) { s with heap := h, toks := tk } (fun v s' => Q (.ret v) s') fun s' => Q .next s') E { s with heap := h, toks := tk })
    (done : ∀ h tk m' news', J n m' news' → Fr h₀ env.locals h m' → News h₀ env.locals h news' → Q .next { s with heap := h, toks := tk }) :
    wpAny (model prog w) A (pyIter (.ref r)) (fun it s₂ => LoopAtV prog w A h₀ env x body Q E it s₂) E s := by
  refine wpAny_pyIter_range hr (small_one (by omega) (by omega) (by omega) (by omega)) ?_
  have hsz : Builtin.Range.rangeSize 0 (n : Int) 1 = (n : Int) := by
    have e := rangeSize_nat 0 (n : Int)
    simpa using e
  have Wk := Walks.range (prog := prog) (w := w) hh s.heap.objs.size 0 1 n
  refine ⟨s.heap.objs.size, _, _, n, _, _, m₀, news, J, rfl, Wk, ?_, ?_, ?_, ?_, F.push _, (fun p hp => ⟨Heap.get?_push_of_some _ (N p hp).1, (N p hp).2⟩), hj, ?_, ?_⟩
  · intro hm
    exact absurd F.ns.lt ((List.mem_singleton.mp hm) ▸ Nat.lt_irrefl _)
  · intro b hb
    rw [List.mem_singleton.mp hb]
    exact next_is_new F
  · intro p hp hI
    exact absurd (Heap.lt_size (N p hp).1) ((List.mem_singleton.mp hI) ▸ Nat.lt_irrefl _)
  · show IsRangeIter _ _ _ _ _
    rw [hsz]
    simpa using Heap.get?_push_size _ rfl
  · rintro i v m₁ news₁ s₁ own ⟨hh', tk', rfl⟩ hi ⟨t, rfl⟩ hJ hnw hown hget hall hst F₁ N₁
    have e1 : (0 : Int) + (i : Int) * 1 = (i : Int) := by omega
    rw [e1] at F₁
    obtain ⟨oI, hst', hoI⟩ : ∃ oI, hh'.get? s.heap.objs.size = some oI ∧ NotCode oI := ⟨_, hst, fun vs q t e1 e2 => by cases e1; simp [rawInt] at e2⟩
    have hmem := hall s.heap.objs.size (List.mem_singleton.mpr rfl) (next_is_new F) _ hst'
    have hnw' : ∀ p ∈ news₁, p.1 ≠ s.heap.objs.size := fun p hp e => hnw p hp (List.mem_singleton.mpr e)
    have N₂ : News h₀ env.locals hh' ((s.heap.objs.size, oI) :: news₁) := fun p hp => by
      rcases List.mem_cons.mp hp with rfl | hp
      · exact N₁ _ (List.mem_append_left _ hmem)
      · exact N₁ _ (List.mem_append_right _ hp)
    refine wpAny_mono (turn i m₁ news₁ s.heap.objs.size oI hh' tk' t hi hJ hnw' hoI F₁ N₂) (fun f s₂ q => ?_) fun _ _ e => e
    have up : LoopStepU h₀ env.locals [s.heap.objs.size] [(s.heap.objs.size, oI)] (J (i + 1)) { s with heap := hh', toks := tk' } .next s₂ → LoopStepU h₀ env.locals [s.heap.objs.size] own (J (i + 1)) { s with heap := hh', toks := tk' } .next s₂ := by
      rintro ⟨_, h', tk, m₂, news₂, e, F', N', ha, hJ'⟩
      refine ⟨rfl, h', tk, m₂, news₂, e, F', fun p hp => ?_, ha, hJ'⟩
      rcases List.mem_append.mp hp with hp | hp
      · have h1 := List.mem_singleton.mp (hown p hp)
        have h2 : hh'.get? p.1 = some p.2 := hget p hp
        rw [h1, hst'] at h2
        exact N' _ (List.mem_append_left _ (List.mem_singleton.mpr (Prod.ext h1 (Option.some.inj h2).symm)))
      · exact N' _ (List.mem_append_right _ hp)
    cases f with
    | ret v => exact q
    | brk => exact q
    | next => exact up q
    | cont => exact up q
  · intro h tk m' news' F' N' _ hJ
    exact done h tk m' news' hJ F' N'

/-- over a list iterator of the call's own, at its start -/
theorem m_loopIt {I l : Addr} {vs : List Value} {nn : Nat} (J : Nat → (Str → Option Value) → List (Addr × Obj) → Prop)
    (hh : A.handled = none) (F : Fr h₀ env.locals s.heap m₀) (N : News h₀ env.locals s.heap ((I, itOf l) :: news)) (hl : (l, W.listOf vs.toArray nn) ∈ news) (hI : ∀ p ∈ news, p.1 ≠ I) (hj : J 0 m₀ news)
    (turn : ∀ i v m₁ news₁ own h tk, i < vs.length → vs[i]? = some v → J i m₁ news₁ → (∀ p ∈ news₁, p.1 ∉ [I]) → (∀ p ∈ own, p.1 ∈ [I, l]) → Fr h₀ env.locals h (fun y => if y = x then some v else m₁ y) → News h₀ env.locals h (own ++ news₁) →
      wpAny (model prog w) A (execs body env) (LoopStepV h₀ env.locals [I] own (J (i + 1)) { s with heap := h, toks := tk } (fun v s' => Q (.ret v) s') fun s' => Q .next s') E { s with heap := h, toks := tk })
    (done : ∀ h tk m' news', J vs.length m' news' → Fr h₀ env.locals h m' → News h₀ env.locals h news' → Q .next { s with heap := h, toks := tk }) :
    wpAny (model prog w) A (pyIter (.ref I)) (fun it s₂ => LoopAtV prog w A h₀ env x body Q E it s₂) E s := by
  have hIx := N _ (List.mem_cons_self ..)
  have hlx := N _ (List.mem_cons_of_mem _ hl)
  have hit : s.heap.IsListIter I l 0 := ⟨_, hIx.1, rfl, rfl⟩
  have hls : s.heap.IsList l vs.toArray := ⟨_, hlx.1, rfl, _, rfl⟩
  refine wpAny_pyIter_listiter hit ?_
  have Wk := Walks.list (prog := prog) (w := w) hh I l (hI _ hl) vs.toArray
  have hlen : vs.toArray.size = vs.length := by simp
  rw [hlen] at Wk
  refine m_loopW J Wk ?_ ?_ ⟨hit, hls⟩ F (fun p hp => N p (List.mem_cons_of_mem _ hp)) ?_ hj (fun i v m₁ news₁ own h tk hi hP => turn i v m₁ news₁ own h tk hi (by simpa using hP)) done
  · intro hm
    rcases List.mem_cons.mp hm with e | hm
    · exact hIx.2.1 e.symm
    · exact hlx.2.1 (List.mem_singleton.mp hm).symm
  · intro b hb
    rw [List.mem_singleton.mp hb]
    exact hIx.2.2
  · intro p hp hm
    exact hI p hp (List.mem_singleton.mp hm)
end

/-- a stop for the walk -/
def Hold (P : Prop) : Prop := P
theorem hold_in {P : Prop} (h : Hold P) : P := h
section
variable {prog : Program} {w : World} {A : Around} {E : Value → Shared → Prop} {s : Shared} {h₀ : Heap} {L : Addr} {news : List (Addr × Obj)}
theorem m_item {value slice : PySem.Expr} {l : Addr} {vs : List Value} {nn : Nat} {k : Int} {u : Tok} {v : Value} {Q : Value → Shared → Prop}
    (N : News h₀ L s.heap news) (hl : (l, W.listOf vs.toArray nn) ∈ news) (h0 : 0 ≤ k) (hhi : k < 2 ^ 63) (hx : vs[k.toNat]? = some v) (h : Q v s)
    (hs : subscripted slice false (.ref l) (.int k u) = operate [.ref l, .int k u] (getItem (.ref l) (.int k u)) := by with_unfolding_all rfl) :
    wpAny (model prog w) A (subscriptTail value slice (.ref l) (.int k u)) Q E s :=
  have hL : s.heap.IsList l vs.toArray := ⟨_, (N _ hl).1, rfl, _, rfl⟩
  tail_any hL.typeIs slot_list_getitem.lookup (wpAny_getItem_list hL h0 hhi (by simpa using hx) h) hs
end

theorem calm_B1 : True := by
  w_top off
  exact .intro
local macro_rules | `(tactic| k_room) => `(tactic| ktr_room)
local macro_rules | `(tactic| ktr_enter) => `(tactic| (refine' code_def ?k1 ?k2 ?k3 ?k4 ?k5 ?kA ?kF ?kK ?k6 ?k7 ?k8 ?k9 ?kB ?_ ?c2 ?c3 ?c4 ?c5; (case kA => exact rfl); (case kF => exact rfl); (case kK => first | assumption | exact rfl); (case k1 => k_asm); (case k2 => k_asm); (case k3 => k_asm); (case k4 => k_asm); (case k5 => k_asm); (case k6 => k_is); (case k7 => k_is); (case k8 => ktr_room); (case k9 => first | exact BindsTo.of_eq rfl | exact binds_K (by k_in) rfl (by k_is) rfl rfl rfl); (case c5 => decide); (case kB => exact locs rfl); (case c2 => exact rfl); (case c3 => exact rfl); (case c4 => exact rfl); k_whole; intro g' L' h' FG' F' N' B' X' T'; (try dsimp only); (try k_fold)))
section
variable {w : World} {p : Program} {loose : List Str} {mean : ExcName → Option Value} {mg mb : Str → Option Value}
  {dp un : Nat} {gd : Option (List Code)} {cn : Str} {cs : Scope} {a : Addr} {ccd : Value} {cl : List (Str × Addr)} {outer : List Env} {A₀ : Around} {base h₀ : Heap} {L : Addr} {m : Str → Option Value} {s : Shared} {Q E : Value → Shared → Prop} {news : List (Addr × Obj)}

theorem c_add (x y : Int) (tx ty : Tok)
  (B : Below A₀ base outer h₀) (F : Fr h₀ L s.heap m) (X : (hd.heap_39 w.params).In h₀) (N : News h₀ L s.heap news) (T : Top p loose mean mg mb h₀) (hk : cs.kind = .function)
  (hdp : dp + 5 < recursionLimit)
  (hret : ∀ (t : Tok) (h' : Heap) (tk' : Nat), Fr h₀ L h' m → News h₀ L h' news → Q (.int (x + y) t) { s with heap := h', toks := tk' }) :
  wpAny (model PySem.Challenge.rw_xi0013_01.row.prog w) (ktrTop dp un gd cn cs L a ccd cl outer) (call (.ref 72) [.int x tx, .int y ty]) Q E s := by
  refine wpAny_call ?_
  k_dflt ktr_enter
  k_steps
  exact hret _ _ _ (by k_asm) (by k_asm)

theorem c_mul (x y : Int) (tx ty : Tok)
  (B : Below A₀ base outer h₀) (F : Fr h₀ L s.heap m) (X : (hd.heap_39 w.params).In h₀) (N : News h₀ L s.heap news) (T : Top p loose mean mg mb h₀) (hk : cs.kind = .function)
  (hdp : dp + 5 < recursionLimit)
  (hx : 0 ≤ x ∧ x < 2^40) (hy : 0 ≤ y ∧ y < 2^40)
  (hret : ∀ (t : Tok) (h' : Heap) (tk' : Nat), Fr h₀ L h' m → News h₀ L h' news → Q (.int (x * y) t) { s with heap := h', toks := tk' }) :
  wpAny (model PySem.Challenge.rw_xi0013_01.row.prog w) (ktrTop dp un gd cn cs L a ccd cl outer) (call (.ref 86) [.int x tx, .int y ty]) Q E s := by
  refine wpAny_call ?_
  k_dflt ktr_enter
  k_steps
  exact hret _ _ _ (by k_asm) (by k_asm)

theorem c_lshift (x y : Int) (tx ty : Tok)
  (B : Below A₀ base outer h₀) (F : Fr h₀ L s.heap m) (X : (hd.heap_39 w.params).In h₀) (N : News h₀ L s.heap news) (T : Top p loose mean mg mb h₀) (hk : cs.kind = .function)
  (hdp : dp + 5 < recursionLimit)
  (hx : 0 ≤ x ∧ x < 2^40) (hy : 0 ≤ y ∧ y < 20)
  (hret : ∀ (t : Tok) (h' : Heap) (tk' : Nat), Fr h₀ L h' m → News h₀ L h' news → Q (.int (x * 2 ^ y.toNat) t) { s with heap := h', toks := tk' }) :
  wpAny (model PySem.Challenge.rw_xi0013_01.row.prog w) (ktrTop dp un gd cn cs L a ccd cl outer) (call (.ref 79) [.int x tx, .int y ty]) Q E s := by
  refine wpAny_call ?_
  k_dflt ktr_enter
  k_steps
  exact hret _ _ _ (by k_asm) (by k_asm)

theorem c_div (x y n : Int) (tx ty tn : Tok)
  (B : Below A₀ base outer h₀) (F : Fr h₀ L s.heap m) (X : (hd.heap_39 w.params).In h₀) (N : News h₀ L s.heap news) (T : Top p loose mean mg mb h₀) (hk : cs.kind = .function)
  (hdp : dp + 5 < recursionLimit)
  (hb : ((Builtin.Int.intBits x : Nat) : Int) ≤ 3000) (hy : 1 ≤ y ∧ y < 1000) (hn : 0 ≤ n ∧ n < 100)
  (hret : ∀ (D : Addr) (c : Nat) (t t2 : Tok) (h' : Heap) (tk' : Nat), Fr h₀ L h' m → News h₀ L h' ((D, ({ cls := .type "tuple", data := .seq #[.int (x.fdiv y) t, .int (x.fmod y) t2] c } : Obj)) :: news) → (∀ p ∈ news, p.1 < D) → Q (.ref D) { s with heap := h', toks := tk' }) :
  wpAny (model PySem.Challenge.rw_xi0013_01.row.prog w) (ktrTop dp un gd cn cs L a ccd cl outer) (call (.ref 21) [.int x tx, .int y ty, .int n tn]) Q E s := by
  refine wpAny_call ?_
  k_dflt ktr_enter
  k_steps
  exact hret _ _ _ _ _ _ (by k_asm) (by k_asm) (by apply news_fresh; assumption)
end
end Mine
namespace Mine
theorem calm_B2 : True := by
  w_top off
  exact .intro
local macro_rules | `(tactic| k_room) => `(tactic| ktr_room)
local macro_rules | `(tactic| ktr_enter) => `(tactic| (refine' code_def ?k1 ?k2 ?k3 ?k4 ?k5 ?kA ?kF ?kK ?k6 ?k7 ?k8 ?k9 ?kB ?_ ?c2 ?c3 ?c4 ?c5; (case kA => exact rfl); (case kF => exact rfl); (case kK => first | assumption | exact rfl); (case k1 => k_asm); (case k2 => k_asm); (case k3 => k_asm); (case k4 => k_asm); (case k5 => k_asm); (case k6 => k_is); (case k7 => k_is); (case k8 => ktr_room); (case k9 => first | exact BindsTo.of_eq rfl | exact binds_K (by k_in) rfl (by k_is) rfl rfl rfl); (case c5 => decide); (case kB => exact locs rfl); (case c2 => exact rfl); (case c3 => exact rfl); (case c4 => exact rfl); k_whole; intro g' L' h' FG' F' N' B' X' T'; (try dsimp only); (try k_fold)))
local macro_rules | `(tactic| walk_at "call builtin:iter") => `(tactic| (k_here; (with_reducible show wpAny _ _ (call (Value.builtin "iter") [Value.ref _]) _ _ _); k_dflt (refine' m_iter ?F ?N ?l ?_; (case F => k_asm); (case N => k_asm); (case l => k_mem); intro I' h' F' N' l1)))
local macro_rules | `(tactic| walk_at "compareOp Is int ref") => `(tactic| (k_here; (with_reducible show wpAny _ _ (compareOp CmpOp.Is (Value.int _ _) (Value.ref _)) _ _ _); refine wpAny_is_other (by rfl) (by intro x; cases x) ?_))
section
variable {w : World} {p : Program} {loose : List Str} {mean : ExcName → Option Value} {mg mb : Str → Option Value}
  {dp un : Nat} {gd : Option (List Code)} {cn : Str} {cs : Scope} {a : Addr} {ccd : Value} {cl : List (Str × Addr)} {outer : List Env} {A₀ : Around} {base h₀ : Heap} {L : Addr} {m : Str → Option Value} {s : Shared} {Q E : Value → Shared → Prop} {news : List (Addr × Obj)}

theorem c_reduce (l : Addr) (vs : List Value) (ns : List Int) (nn : Nat) (z : Int) (tz : Tok)
  (B : Below A₀ base outer h₀) (F : Fr h₀ L s.heap m) (X : (hd.heap_39 w.params).In h₀) (N : News h₀ L s.heap ((l, W.listOf vs.toArray nn) :: news)) (hi : IntsAre vs ns) (T : Top p loose mean mg mb h₀) (hk : cs.kind = .function)
  (hdp : dp + 8 < recursionLimit)
  (hret : ∀ (t : Tok) (h' : Heap) (tk' : Nat), Fr h₀ L h' m → News h₀ L h' ((l, W.listOf vs.toArray nn) :: news) → Q (.int (z + ns.sum) t) { s with heap := h', toks := tk' }) :
  wpAny (model PySem.Challenge.rw_xi0013_01.row.prog w) (ktrTop dp un gd cn cs L a ccd cl outer) (call (.ref 65) [.ref 72, .ref l, .int z tz]) Q E s := by
  refine wpAny_call ?_
  k_dflt ktr_enter
  have hi := hi
  k_steps
  rename IntsAre _ _ => hi
  rename Fr _ _ _ _ => FF
  with_unfolding_all refine' m_loopIt (l := l) (vs := vs) (nn := nn) (news := (l, W.listOf vs.toArray nn) :: news) (fun i m₁ nws => nws = (l, W.listOf vs.toArray nn) :: news ∧ (∃ t, m₁ (Str.ofString "value") = some (.int (z + (ns.take i).sum) t)) ∧ m₁ (Str.ofString "function") = some (.ref 72)) ?hh ?F ?N ?l ?I ?j ?t ?d
  case hh => exact rfl
  case F => exact FF
  case N => assumption
  case l => exact .head _
  case I => exact fun q hq => Nat.ne_of_lt (by with_reducible (rename (∀ p ∈ (l, W.listOf vs.toArray nn) :: news, p.1 < _) => l1); exact l1 q hq)
  case j => exact ⟨rfl, ⟨tz, by simp⟩, rfl⟩
  case t =>
    rintro i v m₁ news₁ own h tk hi' hv ⟨rfl, ⟨t, h1⟩, h2⟩ hnw hown F₁ N₁
    clear FF
    have hi2 : i < ns.length := by rw [← hi.length]; exact hi'
    obtain ⟨tv, hv'⟩ := hi.get i ns[i] (by simp [hi2])
    rw [hv] at hv'
    cases hv'
    have F₂ := m_fr (ps := [(Str.ofString "value", .int (z + (ns.take i).sum) t), (Str.ofString "function", .ref 72)]) F₁ (by simp [h1, h2])
    clear F₁
    have N₂ := news_swap N₁
    clear N₁
    k_steps
    have e := sum_take_succ ns i hi2
    refine' LoopStepU.intro (news₂ := (l, W.listOf vs.toArray nn) :: news) ?F ?N hnw ⟨rfl, ⟨_, ?e⟩, ?g⟩
    case F => k_asm
    case N => exact news_swap (by k_asm)
    case e => rw [e, ← Int.add_assoc]; exact rfl
    case g => exact rfl
  case d =>
    rintro h tk m' news' ⟨rfl, ⟨t, h1⟩, h2⟩ F₁ N₁
    have F₂ := m_frOut (ps := [(Str.ofString "value", .int (z + (ns.take vs.length).sum) t), (Str.ofString "function", .ref 72)]) F₁ (by simp [h1, h2])
    clear F₁ FF
    k_steps
    have e : ns.take vs.length = ns := by rw [hi.length]; exact List.take_length
    rw [e]
    exact hret _ _ _ (by k_asm) (by k_asm)
end
end Mine
namespace Mine
theorem calm_B3 : True := by
  w_top off
  exact .intro
local macro_rules | `(tactic| k_room) => `(tactic| ktr_room)
local macro_rules | `(tactic| ktr_enter) => `(tactic| (refine' code_def ?k1 ?k2 ?k3 ?k4 ?k5 ?kA ?kF ?kK ?k6 ?k7 ?k8 ?k9 ?kB ?_ ?c2 ?c3 ?c4 ?c5; (case kA => exact rfl); (case kF => exact rfl); (case kK => first | assumption | exact rfl); (case k1 => k_asm); (case k2 => k_asm); (case k3 => k_asm); (case k4 => k_asm); (case k5 => k_asm); (case k6 => k_is); (case k7 => k_is); (case k8 => ktr_room); (case k9 => first | exact BindsTo.of_eq rfl | exact binds_K (by k_in) rfl (by k_is) rfl rfl rfl); (case c5 => decide); (case kB => exact locs rfl); (case c2 => exact rfl); (case c3 => exact rfl); (case c4 => exact rfl); k_whole; intro g' L' h' FG' F' N' B' X' T'; (try dsimp only); (try k_fold)))

/-- the ways: a row out of the one before it -/
def rowF (asl : Bool) (prev : Nat → Int) : Nat → Int
  | 0 => 1
  | j + 1 => rowF asl prev j + prev (j + 1) + (if asl then prev j else 0)
def ways (asl : Bool) : Nat → Nat → Int
  | 0 => fun _ => 1
  | k + 1 => rowF asl (ways asl k)
def rowL (asl : Bool) (Wd k : Nat) : List Int := (List.range (Wd + 1)).map (ways asl k)
/-- a ledger bears the first n rows -/
def RowsAre (asl : Bool) (Wd : Nat) (led : List (Addr × Obj)) (refs : List Value) (n : Nat) : Prop :=
  refs.length = n ∧ (∀ q, q < n → ∃ ai vs c, refs[q]? = some (.ref ai) ∧ (ai, PySem.W.listOf (List.toArray vs) c) ∈ led ∧ IntsAre vs (rowL asl Wd q)) ∧ ∀ p ∈ led, p.2.cls = .type "list"

theorem row0_eq (asl : Bool) (Wd : Nat) : (List.replicate ((Wd : Int) + 1).toNat [(1 : Int)]).flatten = rowL asl Wd 0 := by
  have e : ((Wd : Int) + 1).toNat = Wd + 1 := by omega
  rw [e]
  unfold rowL
  refine List.ext_getElem ?_ ?_
  · simp
  · intro i h1 h2
    simp [ways]
theorem ints_at {vs : List Value} {asl : Bool} {k n : Nat} (h : IntsAre vs ((List.range n).map (ways asl k))) (j : Nat) (hj : j < n) : ∃ t, vs[j]? = some (.int (ways asl k j) t) :=
  h.get j (ways asl k j) (by simp [hj])
theorem ints_push {vs : List Value} {asl : Bool} {k n : Nat} (h : IntsAre vs ((List.range n).map (ways asl k))) {x : Int} {t : Tok} (hx : x = ways asl k n) : IntsAre (vs ++ [.int x t]) ((List.range (n + 1)).map (ways asl k)) := by
  subst hx
  rw [List.range_succ, List.map_append]
  exact IntsAre.append h (.cons _ _ .nil)
theorem rows_push {asl : Bool} {Wd : Nat} {led : List (Addr × Obj)} {refs : List Value} {n : Nat} (h : RowsAre asl Wd led refs n) {q : Addr} {vs : List Value} {c : Nat} (hv : IntsAre vs (rowL asl Wd n)) :
    RowsAre asl Wd ((q, PySem.W.listOf vs.toArray c) :: led) (refs ++ [.ref q]) (n + 1) := by
  refine ⟨by simp [h.1], fun k hk => ?_, fun p hp => ?_⟩
  rotate_left
  · rcases List.mem_cons.mp hp with rfl | hp
    · rfl
    · exact h.2.2 p hp
  by_cases e : k < n
  · obtain ⟨ai, vs', c', h1, h2, h3⟩ := h.2.1 k e
    exact ⟨ai, vs', c', by rw [List.getElem?_append_left (by rw [h.1]; exact e)]; exact h1, .tail _ h2, h3⟩
  · have : k = n := by omega
    subst this
    exact ⟨q, vs, c, by rw [List.getElem?_append_right (by rw [h.1]; exact Nat.le_refl _), h.1]; simp, .head _, hv⟩

theorem ways_step (asl : Bool) (i j : Nat) : 0 + ([ways asl (i + 1) j, ways asl i (j + 1)] ++ (List.replicate (if asl = true then (1 : Int) else 0).toNat [ways asl i j]).flatten).sum = ways asl (i + 1) (j + 1) := by
  cases asl <;> simp [ways, rowF, Int.add_assoc]
theorem ints_one {asl : Bool} {k : Nat} {t : Tok} : IntsAre [.int 1 t] ((List.range 1).map (ways asl (k + 1))) := .cons 1 t .nil
theorem ne_of_allLt {d : Addr} {l : List (Addr × Obj)} (h : AllLt d l) : ∀ p ∈ l, p.1 ≠ d := fun p hp => Nat.ne_of_lt (ktn_ltOf h p hp)
theorem rows_init {g h : Heap} {L r D xa : Addr} {xo : Obj} {vs : List Value} {news : List (Addr × Obj)} (asl : Bool) (Wd : Nat) (N : News g L h ((r, PySem.W.listOf (List.toArray [.ref D]) 0) :: (D, PySem.W.listOf vs.toArray 0) :: (xa, xo) :: news))
    (hi : IntsAre vs (List.replicate ((Wd : Int) + 1).toNat [(1 : Int)]).flatten) (hlt : D < r ∧ xa < r ∧ AllLt r news) :
    ∃ refs c led, News g L h ((r, PySem.W.listOf (List.toArray refs) c) :: (led ++ news)) ∧ RowsAre asl Wd led refs 1 ∧ (∀ p ∈ led ++ news, p.1 ≠ r) := by
  rw [row0_eq asl] at hi
  refine ⟨[.ref D], 0, [(D, PySem.W.listOf vs.toArray 0)], fun p hp => N p (by simp at hp ⊢; rcases hp with h | h | h <;> simp [h]), ⟨rfl, fun q hq => ?_, fun p hp => by rw [List.mem_singleton.mp hp]⟩, fun p hp => ?_⟩
  · have e : q = 0 := by omega
    subst e
    exact ⟨D, vs, 0, rfl, .head _, hi⟩
  · rcases List.mem_cons.mp hp with rfl | hp
    · exact Nat.ne_of_lt hlt.1
    · exact ne_of_allLt hlt.2.2 p hp

local macro_rules | `(tactic| walk_at "subscriptTail") => `(tactic| (k_here; (with_reducible show wpAny _ _ (subscriptTail _ _ (Value.ref _) (Value.int _ _)) _ _ _); (with_unfolding_all refine' m_item ?N ?l ?a ?b ?x ?_ ?s; (case N => k_asm); (case l => k_mem); (case a => omega); (case b => omega); (case x => assumption); (case s => with_unfolding_all rfl))))
local macro_rules | `(tactic| walk_at "call ref") => `(tactic| (k_here; k_dflt (refine' c_reduce _ _ _ _ _ _ ?B ?F ?X ?N ?hi ?T ?hk ?hdp ?_; (case B => k_asm); (case F => k_asm); (case X => k_asm); (case N => k_asm); (case hi => assumption); (case T => k_asm); (case hk => exact rfl); (case hdp => ktr_room); intro t9 h9 tk9 F9 N9)))
local macro_rules | `(tactic| walk_at "pyIter ref") => `(tactic| ((with_reducible show wpAny _ _ (pyIter (Value.ref _)) (fun it s₂ => LoopAtV _ _ _ _ _ _ _ _ _ it s₂) _ _); refine hold_in ?_))
local macro_rules | `(tactic| walk_at "exec For Name Call cons nil") => `(tactic| (k_here; (rename Fr _ _ _ _ => lF'); (with_unfolding_all refine' For_invVF lF' ?k1 ?k2 ?_; (case k1 => exact rfl); (case k2 => exact rfl); k_whole)))
local macro_rules | `(tactic| k_all) => `(tactic| assumption)
local macro_rules | `(tactic| k_mem) => `(tactic| assumption)
local macro_rules | `(tactic| size_fits) => `(tactic| (simp only [List.size_toArray, PySem.sizeLine_eq]; omega))
section
variable {w : World} {p : Program} {loose : List Str} {mean : ExcName → Option Value} {mg mb : Str → Option Value}
  {dp un : Nat} {gd : Option (List Code)} {cn : Str} {cs : Scope} {a : Addr} {ccd : Value} {cl : List (Str × Addr)} {outer : List Env} {A₀ : Around} {base h₀ : Heap} {L : Addr} {m : Str → Option Value} {s : Shared} {Q E : Value → Shared → Prop} {news : List (Addr × Obj)}

theorem c_rows (H Wd : Nat) (asl : Bool) (tH tW : Tok) (hH : H ≤ 9) (hW : Wd ≤ 9)
  (B : Below A₀ base outer h₀) (F : Fr h₀ L s.heap m) (X : (hd.heap_39 w.params).In h₀) (N : News h₀ L s.heap news) (T : Top p loose mean mg mb h₀) (hk : cs.kind = .function)
  (hdp : dp + 12 < recursionLimit)
  (hret : ∀ (r : Addr) (refs : List Value) (c : Nat) (led : List (Addr × Obj)) (h' : Heap) (tk' : Nat), Fr h₀ L h' m → News h₀ L h' ((r, PySem.W.listOf refs.toArray c) :: (led ++ news)) → RowsAre asl Wd led refs (H + 1) → Q (.ref r) { s with heap := h', toks := tk' }) :
  wpAny (model PySem.Challenge.rw_xi0013_01.row.prog w) (ktrTop dp un gd cn cs L a ccd cl outer) (call (.ref 100) [.int H tH, .int Wd tW, .bool asl]) Q E s := by
  refine wpAny_call ?_
  k_dflt ktr_enter
  k_steps
  unfold Hold
  rename IsRange _ _ _ _ _ _ _ _ => RG
  rename Fr _ _ _ _ => FF
  rename News _ _ _ _ => NN
  obtain ⟨refs0, c0, led0, N0, R0, ne0⟩ := rows_init asl Wd NN (by assumption) (by assumption)
  with_unfolding_all refine' m_loopRange (n := H) (fun i m₁ nws => ∃ r refs c led, nws = (r, PySem.W.listOf (List.toArray refs) c) :: (led ++ news) ∧ RowsAre asl Wd led refs (i + 1) ∧ (∀ p ∈ led ++ news, p.1 ≠ r) ∧
    m₁ (Str.ofString "rows") = some (.ref r) ∧ m₁ (Str.ofString "wide") = some (.int Wd tW) ∧ m₁ (Str.ofString "aslant") = some (.bool asl)) ?hh ?hr ?hn ?F ?N ?j ?t ?d
  case hh => exact rfl
  case hr => exact RG
  case hn => omega
  case F => exact FF
  case N => exact N0
  case j => exact ⟨_, refs0, c0, led0, rfl, R0, ne0, rfl, rfl, rfl⟩
  case t =>
    clear N0 R0 ne0
    rintro i m₁ news₁ I oI h tk t hi ⟨r, refs, c, led, rfl, hR, hne, h1, h2, h3⟩ hnI _ F₁ N₁
    clear FF NN
    have F₂ := m_fr (ps := [(Str.ofString "rows", .ref r), (Str.ofString "wide", .int Wd tW), (Str.ofString "aslant", .bool asl)]) F₁ (by simp [h1, h2, h3])
    clear F₁
    k_steps
    unfold Hold
    rename IsRange _ _ _ _ _ _ _ _ => RG
    rename Fr _ _ _ _ => FF
    rename News _ _ _ _ => NN
    with_unfolding_all refine' m_loopRange (n := Wd) (fun j m₂ nws => ∃ q vs cc, nws = (q, PySem.W.listOf (List.toArray vs) cc) :: (I, oI) :: (r, PySem.W.listOf (List.toArray refs) c) :: (led ++ news) ∧ IntsAre vs ((List.range (j + 1)).map (ways asl (i + 1))) ∧
      (∀ p ∈ (I, oI) :: (r, PySem.W.listOf (List.toArray refs) c) :: (led ++ news), p.1 ≠ q) ∧ m₂ (Str.ofString "row") = some (.ref q) ∧ m₂ (Str.ofString "k") = some (.int i t) ∧
      m₂ (Str.ofString "rows") = some (.ref r) ∧ m₂ (Str.ofString "wide") = some (.int Wd tW) ∧ m₂ (Str.ofString "aslant") = some (.bool asl)) ?hh2 ?hr2 ?hn2 ?F2 ?N2 ?j2 ?t2 ?d2
    case hh2 => exact rfl
    case hr2 => exact RG
    case hn2 => omega
    case F2 => exact FF
    case N2 => exact NN
    case j2 => exact ⟨_, _, _, rfl, ints_one, ne_of_allLt (by assumption), rfl, rfl, rfl, rfl, rfl⟩
    case t2 =>
      rintro j m₂ news₂ I2 oI2 hh2 tk2 t2 hj ⟨q, vs, cc, rfl, hvs, hq, a1, a2, a3, a4, a5⟩ hnI2 _ F₃ N₃
      clear FF NN RG
      have F₄ := m_fr (ps := [(Str.ofString "row", .ref q), (Str.ofString "k", .int i t), (Str.ofString "rows", .ref r), (Str.ofString "wide", .int Wd tW), (Str.ofString "aslant", .bool asl)]) F₃ (by simp [a1, a2, a3, a4, a5])
      clear F₃
      obtain ⟨ai, vs', c', b1, b2, b3⟩ := hR.2.1 i (by omega)
      obtain ⟨ty1, hx1⟩ := ints_at hvs j (by omega)
      obtain ⟨ty2, hx2⟩ := ints_at b3 (j + 1) (by omega)
      obtain ⟨ty3, hx3⟩ := ints_at b3 j (by omega)
      have hx1 : vs[((j : Int)).toNat]? = some (.int (ways asl (i + 1) j) ty1) := hx1
      have hx2 : vs'[((j : Int) + 1).toNat]? = some (.int (ways asl i (j + 1)) ty2) := hx2
      have hx3 : vs'[((j : Int)).toNat]? = some (.int (ways asl i j) ty3) := hx3
      have b1 : refs[((i : Int)).toNat]? = some (.ref ai) := b1
      have b2 : (ai, PySem.W.listOf (List.toArray vs') c') ∈ led ++ news := List.mem_append.mpr (.inl b2)
      have f1 : @Ne Nat r q := hq _ (.tail _ (.head _))
      have f2 : @Ne Nat I q := hq _ (.head _)
      have f3 : @Ne Nat r I := hnI _ (.head _)
      have f4 : @Ne Nat q I2 := hnI2 _ (.head _)
      have f5 : @Ne Nat I I2 := hnI2 _ (.tail _ (.head _))
      have f6 : @Ne Nat r I2 := hnI2 _ (.tail _ (.tail _ (.head _)))
      have hl1 : vs.length = j + 1 := by rw [hvs.length]; simp
      have hl2 : refs.length = i + 1 := hR.1
      k_steps
      rename Fr _ _ _ _ => FF
      rename News _ _ _ _ => NN
      simp only [List.push_toArray] at NN
      refine' LoopStepU.intro FF (news₂ := (q, PySem.W.listOf (List.toArray (vs ++ [_])) (cc + 1)) :: (I, oI) :: (r, PySem.W.listOf (List.toArray refs) c) :: (led ++ news)) (news_sub NN fun p hp => .tail _ (.tail _ (.tail _ (.tail _ hp)))) ?ha ⟨q, _, _, rfl, ints_push hvs (ways_step asl i j), hq, rfl, rfl, rfl, rfl, rfl⟩
      case ha =>
        intro p hp hm
        have e := List.mem_singleton.mp hm
        rcases List.mem_cons.mp hp with rfl | hp
        · exact f4 e
        · exact hnI2 p (.tail _ hp) e
    case d2 =>
      rintro hh2 tk2 m₂ news₂ ⟨q, vs, cc, rfl, hvs, hq, a1, a2, a3, a4, a5⟩ F₃ N₃
      clear FF NN RG
      have F₄ := m_frOut (ps := [(Str.ofString "row", .ref q), (Str.ofString "k", .int i t), (Str.ofString "rows", .ref r), (Str.ofString "wide", .int Wd tW), (Str.ofString "aslant", .bool asl)]) F₃ (by simp [a1, a2, a3, a4, a5])
      clear F₃
      have f1 : @Ne Nat r q := hq _ (.tail _ (.head _))
      have f2 : @Ne Nat I q := hq _ (.head _)
      have f3 : @Ne Nat r I := hnI _ (.head _)
      have hl2 : refs.length = i + 1 := hR.1
      k_steps
      rename Fr _ _ _ _ => FF
      rename News _ _ _ _ => NN
      simp only [List.push_toArray] at NN
      refine' LoopStepU.intro FF (news₂ := (r, PySem.W.listOf (List.toArray (refs ++ [_])) (c + 1)) :: ((q, PySem.W.listOf (List.toArray vs) cc) :: led ++ news)) (news_sub NN ?sub) ?ha ⟨r, _, _, _, rfl, rows_push hR hvs, ?ne, rfl, rfl, rfl⟩
      case sub =>
        intro p hp
        rcases List.mem_cons.mp hp with rfl | hp
        · exact .tail _ (.head _)
        rcases List.mem_cons.mp hp with rfl | hp
        · exact .tail _ (.tail _ (.head _))
        rcases List.mem_cons.mp hp with rfl | hp
        · exact .head _
        · exact .tail _ (.tail _ (.tail _ hp))
      case ha =>
        intro p hp hm
        have e := List.mem_singleton.mp hm
        rcases List.mem_cons.mp hp with rfl | hp
        · exact f3 e
        rcases List.mem_cons.mp hp with rfl | hp
        · exact f2 e.symm
        · exact hnI p (.tail _ hp) e
      case ne =>
        intro p hp
        rcases List.mem_cons.mp hp with rfl | hp
        · exact f1.symm
        · exact hne p hp
  case d =>
    rintro h tk m' news' ⟨r, refs, c, led, rfl, hR, hne, h1, h2, h3⟩ F₁ N₁
    have F₂ := m_frOut (ps := [(Str.ofString "rows", .ref r), (Str.ofString "wide", .int Wd tW), (Str.ofString "aslant", .bool asl)]) F₁ (by simp [h1, h2, h3])
    clear F₁ FF
    k_steps
    exact hret r refs c led _ _ (by k_asm) (by k_asm) hR
end
end Mine
namespace Mine
theorem and_high (x s : Nat) : x &&& (x / 2 ^ s * 2 ^ s) = x / 2 ^ s * 2 ^ s := by
  have e : x / 2 ^ s * 2 ^ s = (x >>> s) <<< s := by rw [Nat.shiftLeft_eq, Nat.shiftRight_eq_div_pow]
  rw [e]
  refine Nat.eq_of_testBit_eq fun i => ?_
  rw [Nat.testBit_and, Nat.testBit_shiftLeft, Nat.testBit_shiftRight]
  by_cases h : s ≤ i
  · have e2 : s + (i - s) = i := by omega
    simp [h, e2]
  · simp [h]
theorem fdiv_pow (x s : Nat) : ((x : Int)).fdiv (2 ^ s) = ((x / 2 ^ s : Nat) : Int) := by
  have h2 : (0 : Int) ≤ 2 ^ s := Int.le_of_lt (Int.pow_pos (by decide))
  rw [Int.fdiv_eq_ediv_of_nonneg _ h2, Int.natCast_ediv, Int.natCast_pow]
  rfl
theorem xor_low (x s : Nat) : Builtin.bitXor (x : Int) (((x : Int)).fdiv (2 ^ s) * 2 ^ s) = ((x % 2 ^ s : Nat) : Int) := by
  rw [fdiv_pow]
  have e : (((x / 2 ^ s : Nat) : Int) * 2 ^ s) = ((x / 2 ^ s * 2 ^ s : Nat) : Int) := by
    rw [Int.natCast_mul, Int.natCast_pow]
    rfl
  rw [e, bitXor_and, bitAnd_pp (Int.natCast_nonneg _) (Int.natCast_nonneg _), Int.toNat_natCast, Int.toNat_natCast, and_high]
  have h := Nat.div_add_mod x (2 ^ s)
  rw [Nat.mul_comm] at h
  omega
/-- the number that digits tell, the least first -/
def val (n : Nat) : List Int → Int
  | [] => 0
  | d :: r => d + 2 ^ n * val n r
theorem val_append (n : Nat) (a b : List Int) : val n (a ++ b) = val n a + 2 ^ (n * a.length) * val n b := by
  induction a with
  | nil => simp [val]
  | cons d r ih =>
    rw [List.cons_append, val, val, ih, List.length_cons, Nat.mul_add, Nat.mul_one, Nat.add_comm, Int.pow_add, Int.mul_add, Int.mul_assoc, Int.add_assoc]
theorem mid_eq (Lo Hi : Nat) : ((Lo : Int) + (Hi : Int)).fdiv (2 ^ Int.toNat 1) = (((Lo + Hi) / 2 : Nat) : Int) := by
  have e : (2 ^ Int.toNat 1 : Int) = 2 := rfl
  rw [e, Int.fdiv_eq_ediv_of_nonneg _ (by decide)]
  omega
/-- seg stands in ds' where ds had its places from Lo to Hi, and tells x -/
def Told2 (n X Lo Hi : Nat) (ds ds' : List Int) : Prop :=
  ∃ seg : List Int, seg.length = Hi - Lo ∧ val n seg = X ∧ (∀ d ∈ seg, 0 ≤ d ∧ d < 2 ^ 40) ∧ ds' = ds.take Lo ++ (seg ++ ds.drop Hi)
theorem told_leaf {n X Lo Hi : Nat} {ds : List Int} (h : (Lo : Int) + 1 = Hi) (hl : Hi ≤ ds.length) (hX : X < 2 ^ 40) : Told2 n X Lo Hi ds (ds.set ((Lo : Int)).toNat (X : Int)) := by
  have e : Hi = Lo + 1 := by omega
  subst e
  refine ⟨[(X : Int)], by simp, by simp [val], fun d hd => ?_, ?_⟩
  · rw [List.mem_singleton.mp hd]
    exact ⟨Int.natCast_nonneg _, by exact_mod_cast hX⟩
  · rw [Int.toNat_natCast, List.set_eq_take_append_cons_drop, if_pos (by omega)]
    rfl
theorem told_step {n X S Lo M Hi : Nat} {ds ds1 ds2 : List Int} (h1 : Lo ≤ M) (h2 : M ≤ Hi) (hl : Hi ≤ ds.length) (hS : S = (M - Lo) * n)
    (t1 : Told2 n (X % 2 ^ S) Lo M ds ds1) (t2 : Told2 n (X / 2 ^ S) M Hi ds1 ds2) : Told2 n X Lo Hi ds ds2 := by
  obtain ⟨s1, a1, a2, a3, rfl⟩ := t1
  obtain ⟨s2, b1, b2, b3, rfl⟩ := t2
  have hlo : (ds.take Lo).length = Lo := by rw [List.length_take]; omega
  refine ⟨s1 ++ s2, by rw [List.length_append]; omega, ?_, ?_, ?_⟩
  · have e3 : n * (M - Lo) = S := by rw [hS, Nat.mul_comm]
    rw [val_append, a1, a2, b2, e3]
    have h := Nat.div_add_mod X (2 ^ S)
    have e4 : (2 : Int) ^ S = ((2 ^ S : Nat) : Int) := by rw [Int.natCast_pow]; rfl
    rw [e4, ← Int.natCast_mul, ← Int.natCast_add, Nat.add_comm, h]
  · intro d hd
    rcases List.mem_append.mp hd with hd | hd
    · exact a3 d hd
    · exact b3 d hd
  · have e1 : (ds.take Lo ++ (s1 ++ ds.drop M)).take M = ds.take Lo ++ s1 := by
      rw [← List.append_assoc, List.take_append_of_le_length (by rw [List.length_append]; omega), List.take_of_length_le (by rw [List.length_append]; omega)]
    have e2 : (ds.take Lo ++ (s1 ++ ds.drop M)).drop Hi = ds.drop Hi := by
      rw [← List.append_assoc, List.drop_append, List.length_append, hlo, a1, List.drop_of_length_le (by rw [List.length_append]; omega), List.nil_append, List.drop_drop]
      congr 1
      omega
    rw [e1, e2, List.append_assoc, List.append_assoc]
theorem told_len {n X Lo Hi : Nat} {ds ds' : List Int} (h1 : Lo ≤ Hi) (hl : Hi ≤ ds.length) (t : Told2 n X Lo Hi ds ds') : ds'.length = ds.length := by
  obtain ⟨s1, a1, a2, a3, rfl⟩ := t
  simp only [List.length_append, List.length_take, List.length_drop]
  omega
end Mine
namespace Mine
theorem calm_B5 : True := by
  w_top off
  exact .intro
local macro_rules | `(tactic| k_room) => `(tactic| ktr_room)
local macro_rules | `(tactic| ktr_enter) => `(tactic| (refine' code_def ?k1 ?k2 ?k3 ?k4 ?k5 ?kA ?kF ?kK ?k6 ?k7 ?k8 ?k9 ?kB ?_ ?c2 ?c3 ?c4 ?c5; (case kA => exact rfl); (case kF => exact rfl); (case kK => first | assumption | exact rfl); (case k1 => k_asm); (case k2 => k_asm); (case k3 => k_asm); (case k4 => k_asm); (case k5 => k_asm); (case k6 => k_is); (case k7 => k_is); (case k8 => ktr_room); (case k9 => first | exact BindsTo.of_eq rfl | exact binds_K (by k_in) rfl (by k_is) rfl rfl rfl); (case c5 => decide); (case kB => exact locs rfl); (case c2 => exact rfl); (case c3 => exact rfl); (case c4 => exact rfl); k_whole; intro g' L' h' FG' F' N' B' X' T'; (try dsimp only); (try k_fold)))

local macro_rules | `(tactic| ktr_enter) => `(tactic| (refine' code_defC ?k1 ?k2 ?k3 ?k4 ?k5 ?kA ?kF ?kK ?k6 ?k7 ?k8 ?k9 ?kB ?kD ?_ ?c2 ?c3 ?c4; (case kA => exact rfl); (case kF => exact rfl); (case kK => first | assumption | exact rfl); (case k1 => k_asm); (case k2 => k_asm); (case k3 => k_asm); (case k4 => k_asm); (case k5 => k_asm); (case k6 => k_is); (case k7 => k_is); (case k8 => ktr_room); (case k9 => exact BindsTo.of_eq rfl); (case kB => exact rfl); (case kD => decide +kernel); (case c2 => exact rfl); (case c3 => exact rfl); (case c4 => exact rfl); k_whole; intro g' L' h' tk' cells' FG' F' N' Y' B' X' T' l1; (try k_lt l1); k_cells Y'; (try simp only [List.cons_append, List.nil_append] at N'); (try dsimp only); (try k_lift B'); (try k_fold)))
local macro_rules | `(tactic| walk_at "call ref") => `(tactic| (refine hold_in ?_))
local macro_rules | `(tactic| walk_at "pyIter ref") => `(tactic| ((with_reducible show wpAny _ _ (pyIter (Value.ref _)) (fun it s₂ => LoopAtV _ _ _ _ _ _ _ _ _ it s₂) _ _); refine hold_in ?_))
local macro_rules | `(tactic| k_all) => `(tactic| assumption)
local macro_rules | `(tactic| k_mem) => `(tactic| assumption)
local macro_rules | `(tactic| size_fits) => `(tactic| (simp only [List.size_toArray, PySem.sizeLine_eq]; omega))

/-- what a call of the closure in _int2digits does -/
def ISpec (w : World) (f D : Addr) (n : Nat) (rest : List (Addr × Obj)) (k : Nat) : Prop :=
  ∀ {p : Program} {loose : List Str} {mean : ExcName → Option Value} {mg mb : Str → Option Value} {dp un : Nat} {gd : Option (List Code)} {cn : Str} {cs : Scope} {aa : Addr} {ccd : Value} {cl : List (Str × Addr)} {outer : List Env} {A₀ : Around} {base h₀ : Heap} {L : Addr} {m : Str → Option Value} {s : Shared} {Q E : Value → Shared → Prop}
    (X Lo Hi : Nat) (x lo hi : Int) (tx tl tr : Tok) (ds : List Int) (vs : List Value) (c : Nat),
    Below A₀ base outer h₀ → Fr h₀ L s.heap m → (hd.heap_39 w.params).In h₀ → News h₀ L s.heap ((D, PySem.W.listOf vs.toArray c) :: rest) → Top p loose mean mg mb h₀ → cs.kind = .function → CodeHd base 34 30 →
    x = X → lo = Lo → hi = Hi → IntsAre vs ds → Lo < Hi → Hi ≤ Lo + k → Hi ≤ ds.length → ds.length ≤ 60 → X < 2 ^ 40 → dp + k + 3 < recursionLimit →
    (∀ (vs' : List Value) (ds' : List Int) (h' : Heap) (tk' c' : Nat), Fr h₀ L h' m → News h₀ L h' ((D, PySem.W.listOf vs'.toArray c') :: rest) → IntsAre vs' ds' → Told2 n X Lo Hi ds ds' → Q .none { s with heap := h', toks := tk' }) →
    wpAny (model PySem.Challenge.rw_xi0013_01.row.prog w) (ktrTop dp un gd cn cs L aa ccd cl outer) (call (.ref f) [.int x tx, .int lo tl, .int hi tr]) Q E s
theorem ispec_rec {w : World} {f D : Addr} {n : Nat} {rest : List (Addr × Obj)} (step : ∀ k, ISpec w f D n rest k → ISpec w f D n rest (k + 1)) : ∀ k, ISpec w f D n rest k := by
  intro k
  induction k with
  | zero =>
    unfold ISpec
    intro p loose mean mg mb dp un gd cn cs aa ccd cl outer A₀ base h₀ L m s Q E X Lo Hi x lo hi tx tl tr ds vs c _ _ _ _ _ _ _ _ _ _ _ h1 h2
    exact absurd h1 (by omega)
  | succ k ih => exact step k ih
theorem i2d_use {w : World} {f D : Addr} {n : Nat} {rest : List (Addr × Obj)} {p : Program} {loose : List Str} {mean : ExcName → Option Value} {mg mb : Str → Option Value} {dp un : Nat} {gd : Option (List Code)} {cn : Str} {cs : Scope} {aa : Addr} {ccd : Value} {cl : List (Str × Addr)} {outer : List Env} {A₀ : Around} {base h₀ : Heap} {L : Addr} {m : Str → Option Value} {s : Shared} {Q E : Value → Shared → Prop}
    {X Lo Hi : Nat} {x lo hi : Int} {tx tl tr : Tok} {ds : List Int} {vs : List Value} {c : Nat} (step : ∀ k, ISpec w f D n rest k → ISpec w f D n rest (k + 1))
    (B : Below A₀ base outer h₀) (F : Fr h₀ L s.heap m) (X₀ : (hd.heap_39 w.params).In h₀) (N : News h₀ L s.heap ((D, PySem.W.listOf vs.toArray c) :: rest)) (T : Top p loose mean mg mb h₀) (hk : cs.kind = .function) (hC : CodeHd base 34 30)
    (hx : x = X) (hlo : lo = Lo) (hhi : hi = Hi) (hint : IntsAre vs ds) (hlt : Lo < Hi) (hlen : Hi ≤ ds.length) (h60 : ds.length ≤ 60) (hX : X < 2 ^ 40) (hdp : dp + 63 < recursionLimit)
    (ret : ∀ (vs' : List Value) (ds' : List Int) (h' : Heap) (tk' c' : Nat), Fr h₀ L h' m → News h₀ L h' ((D, PySem.W.listOf vs'.toArray c') :: rest) → IntsAre vs' ds' → Told2 n X Lo Hi ds ds' → Q .none { s with heap := h', toks := tk' }) :
    wpAny (model PySem.Challenge.rw_xi0013_01.row.prog w) (ktrTop dp un gd cn cs L aa ccd cl outer) (call (.ref f) [.int x tx, .int lo tl, .int hi tr]) Q E s :=
  ispec_rec step 60 X Lo Hi x lo hi tx tl tr ds vs c B F X₀ N T hk hC hx hlo hhi hint hlt (by omega) hlen h60 hX hdp ret
theorem news_third {g h : Heap} {L : Addr} {a b d : Addr × Obj} {r : List (Addr × Obj)} (N : News g L h (a :: b :: d :: r)) : News g L h (d :: a :: b :: r) := fun p hp => N p (by
  simp only [List.mem_cons] at hp ⊢
  rcases hp with h | h | h | h <;> simp [h])
theorem news_second {g h : Heap} {L : Addr} {a b : Addr × Obj} {r : List (Addr × Obj)} (N : News g L h (a :: b :: r)) : News g L h (b :: a :: r) := fun p hp => N p (by
  simp only [List.mem_cons] at hp ⊢
  rcases hp with h | h | h <;> simp [h])
theorem step_facts (X Lo Hi n : Nat) (hlt : Lo < Hi) (hH : Hi ≤ 60) (hn : n ≤ 10) (hX : X < 2 ^ 40) : ∃ M S : Nat, Lo ≤ M ∧ M < Hi ∧ (Lo + 1 ≠ Hi → Lo < M) ∧ S = (M - Lo) * n ∧ S ≤ 600 ∧ ((Lo : Int) + (Hi : Int)).fdiv (2 ^ Int.toNat 1) = (M : Int) ∧
    (((Lo : Int) + (Hi : Int)).fdiv (2 ^ Int.toNat 1) - (Lo : Int)) * (n : Int) = (S : Int) := by
  refine ⟨(Lo + Hi) / 2, ((Lo + Hi) / 2 - Lo) * n, by omega, by omega, by omega, rfl, ?_, mid_eq Lo Hi, ?_⟩
  · calc ((Lo + Hi) / 2 - Lo) * n ≤ 60 * 10 := Nat.mul_le_mul (by omega) hn
      _ = 600 := rfl
  · rw [mid_eq, Int.natCast_mul]
    have e : (((Lo + Hi) / 2 - Lo : Nat) : Int) = (((Lo + Hi) / 2 : Nat) : Int) - (Lo : Int) := by omega
    rw [e]
theorem upper_facts (X : Nat) {s : Int} {S : Nat} (hX : X < 2 ^ 40) (e : s = (S : Int)) : 0 ≤ ((X : Int)).fdiv (2 ^ s.toNat) ∧ ((X : Int)).fdiv (2 ^ s.toNat) < 2 ^ 40 ∧ ((X : Int)).fdiv (2 ^ s.toNat) = ((X / 2 ^ S : Nat) : Int) := by
  subst e
  rw [Int.toNat_natCast, fdiv_pow]
  have h := Nat.div_le_self X (2 ^ S)
  exact ⟨Int.natCast_nonneg _, by exact_mod_cast Nat.lt_of_le_of_lt h hX, rfl⟩
theorem lower_facts (X : Nat) {s : Int} {S : Nat} (e : s = (S : Int)) : Builtin.bitXor (X : Int) (((X : Int)).fdiv (2 ^ s.toNat) * 2 ^ s.toNat) = ((X % 2 ^ S : Nat) : Int) := by
  subst e
  rw [Int.toNat_natCast, xor_low]
theorem off_lt {d e : Nat} {l : List (Addr × Obj)} (h : AllLt d l) (hd : d ≤ e) : ∀ p ∈ l, p.1 ≠ e := fun p hp => Nat.ne_of_lt (Nat.lt_of_lt_of_le (ktn_ltOf h p hp) hd)
local macro_rules | `(tactic| k_all) => `(tactic| (refine' off_lt ?offh ?offe; (case offh => assumption); (case offe => omega)))
local macro_rules | `(tactic| k_all) => `(tactic| assumption)
local macro_rules | `(tactic| kn_enter) => `(tactic| (refine' code_nest ?k1 ?k2 ?k3 ?k4 ?k5 ?kA ?kF ?kK ?k6 ?k7 ?k8 ?k9 ?kB ?_ ?c2 ?c3 ?c4 ?c5; (case kA => exact rfl); (case kF => exact rfl); (case kK => assumption); (case k1 => k_asm); (case k2 => k_asm); (case k3 => k_asm); (case k4 => k_asm); (case k5 => k_asm); (case k6 => k_mem); (case k7 => exact codeRec_news (by k_asm) (by k_mem) (by assumption) (by assumption)); (case k8 => ktr_room); (case k9 => exact BindsTo.of_eq rfl); (case c5 => decide); (case kB => exact locs rfl); (case c2 => exact rfl); (case c3 => exact rfl); (case c4 => exact rfl); k_whole; intro g' L' h' FG' F' N' B' X' T'; (try dsimp only); (try k_fold)))
structure Marker : Prop where
local macro_rules | `(tactic| walk_at "binaryOp Mult ref int") => `(tactic| ((fail_if_success (rename Marker => mk9)); refine hold_in ?_))
theorem len_facts (a n : Nat) (ha : a < 2 ^ 40) (hn : 1 ≤ n ∧ n ≤ 10) : ∃ len : Nat, (((Builtin.Int.intBits (a : Int) : Nat) : Int) + (n : Int) - 1).fdiv (n : Int) = (len : Int) ∧ len ≤ 60 ∧ (a ≠ 0 → 1 ≤ len) ∧ (a = 0 → len = 0) := by
  have hb : Builtin.Int.intBits (a : Int) ≤ 40 := intBits_le_iff.mpr (by simpa using ha)
  have h0 : a ≠ 0 → 1 ≤ Builtin.Int.intBits (a : Int) := fun h => by
    rcases Nat.eq_zero_or_pos (Builtin.Int.intBits (a : Int)) with e | e
    · have := intBits_le_iff.mp (Nat.le_of_eq e)
      simp at this
      exact absurd this h
    · exact e
  have h1 : a = 0 → Builtin.Int.intBits (a : Int) = 0 := fun h => by
    subst h
    exact Nat.le_zero.mp (intBits_le_iff.mpr (by simp))
  generalize Builtin.Int.intBits (a : Int) = b at hb h0 h1
  refine ⟨(b + n - 1) / n, ?_, ?_, ?_, ?_⟩
  · rw [Int.fdiv_eq_ediv_of_nonneg _ (by omega)]
    have e : ((b : Int) + (n : Int) - 1) = ((b + n - 1 : Nat) : Int) := by omega
    rw [e]
    exact (Int.natCast_ediv _ _).symm
  · exact Nat.le_trans (Nat.div_le_self _ _) (by omega)
  · intro h
    have := h0 h
    exact (Nat.le_div_iff_mul_le (by omega)).mpr (by omega)
  · intro h
    rw [h1 h]
    exact Nat.div_eq_of_lt (by omega)

/-- the qualified name of the closure, and what the code's table may hold -/
def qI : Str := (Str.ofString "_int2digits" ++ ".<locals>.") ++ Str.ofString "inner"
inductive TabLed (P : Addr) (ln co : Nat) (q : Str) : List (Addr × Obj) → Prop
  | fresh : TabLed P ln co q [(P, tabObj #[])]
  | done {c' : Addr} {oc : Obj} {vs : Array Value} {t : Tok} : oc.data = .fields vs → vs[1]? = some (.str q t) → c' ≠ P → TabLed P ln co q [(P, tabObj #[rawInt (ln : Int), rawInt (co : Int), .ref c']), (c', oc)]
theorem zeros_val (n k : Nat) : val n (List.replicate k [(0 : Int)]).flatten = 0 := by
  induction k with
  | zero => rfl
  | succ k ih => rw [List.replicate_succ, List.flatten_cons, List.singleton_append, val, ih]; simp
theorem told_whole {n X k : Nat} {ds ds' : List Int} (h : ds.length = k) (t : Told2 n X 0 k ds ds') : val n ds' = X ∧ (∀ d ∈ ds', 0 ≤ d ∧ d < 2 ^ 40) ∧ ds'.length = k := by
  obtain ⟨seg, a1, a2, a3, rfl⟩ := t
  have e : ds.take 0 ++ (seg ++ ds.drop k) = seg := by
    rw [List.take_zero, List.nil_append, List.drop_of_length_le (by omega), List.append_nil]
  rw [e]
  exact ⟨a2, a3, by omega⟩
theorem ne_mem_app {d : Nat} {a b : List (Addr × Obj)} (h1 : ∀ p ∈ a, p.1 ≠ d) (h2 : ∀ p ∈ b, p.1 ≠ d) : ∀ p ∈ a ++ b, p.1 ≠ d := fun p hp => (List.mem_append.mp hp).elim (h1 p) (h2 p)
section
variable {w : World} {p : Program} {loose : List Str} {mean : ExcName → Option Value} {mg mb : Str → Option Value}
  {dp un : Nat} {gd : Option (List Code)} {cn : Str} {cs : Scope} {aa : Addr} {ccd : Value} {cl : List (Str × Addr)} {outer : List Env} {A₀ : Around} {base h₀ : Heap} {L : Addr} {m : Str → Option Value} {s : Shared} {Q E : Value → Shared → Prop} {news : List (Addr × Obj)}

theorem c_i2d (a n : Nat) (ta tn : Tok) (ha : a < 2 ^ 40) (hn : 1 ≤ n ∧ n ≤ 10) {tb : List (Addr × Obj)} (hT : TabLed 30 32 4 qI tb)
  (B : Below A₀ base outer h₀) (F : Fr h₀ L s.heap m) (X : (hd.heap_39 w.params).In h₀) (N : News h₀ L s.heap (tb ++ news)) (hoff : ∀ p ∈ news, p.1 ≠ 30) (hC : CodeHd base 34 30) (T : Top p loose mean mg mb h₀) (hk : cs.kind = .function)
  (hdp : dp + 80 < recursionLimit)
  (hret : ∀ (l : Addr) (vs : List Value) (ds : List Int) (c : Nat) (tb' : List (Addr × Obj)) (h' : Heap) (tk' : Nat), Fr h₀ L h' m → News h₀ L h' ((l, PySem.W.listOf vs.toArray c) :: (tb' ++ news)) → TabLed 30 32 4 qI tb' → IntsAre vs ds → val n ds = a → (∀ d ∈ ds, 0 ≤ d ∧ d < 2 ^ 40) → ds.length ≤ 60 →
    (∀ p ∈ tb' ++ news, p.1 ≠ l) → Q (.ref l) { s with heap := h', toks := tk' }) :
  wpAny (model PySem.Challenge.rw_xi0013_01.row.prog w) (ktrTop dp un gd cn cs L aa ccd cl outer) (call (.ref 35) [.int a ta, .int n tn]) Q E s := by
  obtain ⟨len, hlen, hl1, hl2, hl3⟩ := len_facts a n ha hn
  cases hT
  case fresh =>
    simp only [List.cons_append, List.nil_append] at N
    refine wpAny_call ?_
    k_dflt ktr_enter
    rename (_ ∧ AllLt _ news) => l1
    obtain ⟨l30, ln⟩ := l1
    k_steps
    unfold Hold
    have mk9 : Marker := ⟨⟩
    rw [hlen]
    k_steps
    · unfold Hold
      rename News _ _ _ _ => NN
      simp only [Array.empty_append] at NN
      have N3 := news_third NN
      rename_i D hD i1 n1 s1 e1 e2 e3 l1b hA oA dA f c' oc vsc tc ctc dcc hc tkc d1c d2c l1c l2c hI oI FF dI hne0
      refine' i2d_use (n := n) (X := a) (Lo := 0) (Hi := n1) ?step ?B ?F ?X N3 ?T ?hk ?hC ?hx ?hlo ?hhi ?hint ?hlt ?hlen ?h60 ?hX ?hdp ?ret
      case step =>
        clear NN N3 FF B F X N T hk hC
        intro k ih
        unfold ISpec
        intro p loose mean mg mb dp un gd cn cs aa ccd cl outer A₀ base h₀ L m s Q E X Lo Hi x lo hi tx tl tr ds vs c B F X' N T hk hC hx hlo hhi hint hlt hk1 hlen hl60 hX hdp hret
        unfold ISpec at ih
        subst hx hlo hhi
        refine wpAny_call ?_
        k_dflt kn_enter
        obtain ⟨M, S, m1, m2, m3, hS, m4, hM, hSi⟩ := step_facts X Lo Hi n hlt (by omega) hn.2 hX
        obtain ⟨u1, u2, u3⟩ := upper_facts X hX hSi
        have q1 : 0 ≤ (((Lo : Int) + (Hi : Int)).fdiv (2 ^ Int.toNat 1) - (Lo : Int)) * (n : Int) := by rw [hSi]; exact Int.natCast_nonneg _
        have q2 : (((Lo : Int) + (Hi : Int)).fdiv (2 ^ Int.toNat 1) - (Lo : Int)) * (n : Int) ≤ 600 := by rw [hSi]; exact_mod_cast m4
        k_steps
        · exact hret _ _ _ _ _ (by k_asm) (by k_asm) (by assumption) (told_leaf (by assumption) hlen hX)
        · unfold Hold
          have hneL := m3 (by omega)
          refine' ih (X % 2 ^ S) Lo M _ _ _ _ _ _ ds vs _ ?B1 ?F1 ?X1 ?N1 ?T1 ?hk1 ?hC1 ?hx1 rfl hM hint ?lt1 ?k1 ?len1 ?l601 ?X401 ?dp1 ?ret1
          case B1 => k_asm
          case F1 => k_asm
          case X1 => k_asm
          case N1 => k_asm
          case T1 => k_asm
          case hk1 => exact rfl
          case hC1 => exact hC
          case hx1 => exact lower_facts X hSi
          case lt1 => omega
          case k1 => omega
          case len1 => omega
          case l601 => exact hl60
          case X401 => exact Nat.lt_of_le_of_lt (Nat.mod_le _ _) hX
          case dp1 => ktr_room
          case ret1 =>
            intro vs1 ds1 h1 tk1 c1 F1 N1 hint1 told1
            have hl1' := told_len (by omega) (by omega) told1
            k_steps
            unfold Hold
            refine' ih (X / 2 ^ S) M Hi _ _ _ _ _ _ ds1 vs1 _ ?B2 ?F2 ?X2 ?N2 ?T2 ?hk2 ?hC2 u3 hM rfl hint1 ?lt2 ?k2 ?len2 ?l602 ?X402 ?dp2 ?ret2
            case B2 => k_asm
            case F2 => k_asm
            case X2 => k_asm
            case N2 => k_asm
            case T2 => k_asm
            case hk2 => exact rfl
            case hC2 => exact hC
            case lt2 => omega
            case k2 => omega
            case len2 => omega
            case l602 => omega
            case X402 => exact Nat.lt_of_le_of_lt (Nat.div_le_self _ _) hX
            case dp2 => ktr_room
            case ret2 =>
              intro vs2 ds2 h2 tk2 c2 F2 N2 hint2 told2
              k_steps
              exact hret _ _ _ _ _ (by k_asm) (by k_asm) hint2 (told_step (by omega) (by omega) hlen hS told1 told2)
      case B => k_asm
      case F => k_asm
      case X => k_asm
      case T => k_asm
      case hk => exact rfl
      case hC => exact hC
      case hx => exact rfl
      case hlo => exact rfl
      case hhi => exact rfl
      case hint => exact i1
      case hlt => omega
      case hlen => rw [e1]; exact Nat.le_refl _
      case h60 => rw [e1]; omega
      case hX => exact ha
      case hdp => ktr_room
      case ret =>
        intro vs' ds' h' tk' cX F' N' hint' told
        obtain ⟨v1, v2, v3⟩ := told_whole e1 told
        k_steps
        rename News _ _ _ _ => kN
        refine' hret D vs' ds' cX [(30, tabObj #[rawInt ((32 : Nat) : Int), rawInt ((4 : Nat) : Int), .ref c']), (c', oc)] _ _ ?rF (news_sub kN ?rN) ?rT hint' v1 v2 (by omega) ?rne
        case rF => k_asm
        case rN =>
          intro p hp
          rcases List.mem_cons.mp hp with rfl | hp
          · k_mem
          rcases List.mem_cons.mp hp with rfl | hp
          · k_mem
          rcases List.mem_cons.mp hp with rfl | hp
          · k_mem
          have hp : p ∈ news := hp
          k_mem
        case rT => exact .done d1c d2c (by refine neN ?_; omega)
        case rne =>
          refine List.forall_mem_cons.mpr ⟨?_, List.forall_mem_cons.mpr ⟨?_, off_lt ln ?_⟩⟩
          · refine neN ?_; dsimp only; omega
          · refine neN ?_; dsimp only; omega
          · omega
    · rename News _ _ _ _ => NN
      simp only [Array.empty_append] at NN
      rename_i D hD i1 n1 s1 e1 e2 e3 l1b hA oA dA f c' oc vsc tc ctc dcc hc tkc d1c d2c l1c l2c hI oI F' N' dI a0 kF Tc kX
      have hz : len = 0 := hl3 (by omega)
      refine' hret D _ _ _ [(30, tabObj #[rawInt ((32 : Nat) : Int), rawInt ((4 : Nat) : Int), .ref c']), (c', oc)] _ _ kF (news_sub NN ?rN) ?rT i1 ?v1 ?v2 (by omega) ?rne
      case rN =>
        intro p hp
        rcases List.mem_cons.mp hp with rfl | hp
        · k_mem
        rcases List.mem_cons.mp hp with rfl | hp
        · k_mem
        rcases List.mem_cons.mp hp with rfl | hp
        · k_mem
        have hp : p ∈ news := hp
        k_mem
      case rT => exact .done d1c d2c (by refine neN ?_; omega)
      case v1 => rw [zeros_val]; omega
      case v2 => subst hz; simp
      case rne =>
        refine List.forall_mem_cons.mpr ⟨?_, List.forall_mem_cons.mpr ⟨?_, off_lt ln ?_⟩⟩
        · refine neN ?_; dsimp only; omega
        · refine neN ?_; dsimp only; omega
        · omega
  case done cO oc0 vs0 t0 z1 z2 z3 =>
    simp only [List.cons_append, List.nil_append] at N
    refine wpAny_call ?_
    k_dflt ktr_enter
    rename (_ ∧ _ ∧ AllLt _ news) => l1
    obtain ⟨l30, lc0, ln⟩ := l1
    k_steps
    unfold Hold
    have mk9 : Marker := ⟨⟩
    rw [hlen]
    k_steps
    · unfold Hold
      rename News _ _ _ _ => NN
      have N3 := news_second NN
      rename_i D hD i1 n1 s1 e1 e2 e3 l1b hA oA dA f ctc dcc hc tkc l1c hI oI FF dI hne0
      refine' i2d_use (n := n) (X := a) (Lo := 0) (Hi := n1) ?step ?B ?F ?X N3 ?T ?hk ?hC ?hx ?hlo ?hhi ?hint ?hlt ?hlen ?h60 ?hX ?hdp ?ret
      case step =>
        clear NN N3 FF B F X N T hk hC
        intro k ih
        unfold ISpec
        intro p loose mean mg mb dp un gd cn cs aa ccd cl outer A₀ base h₀ L m s Q E X Lo Hi x lo hi tx tl tr ds vs c B F X' N T hk hC hx hlo hhi hint hlt hk1 hlen hl60 hX hdp hret
        unfold ISpec at ih
        subst hx hlo hhi
        refine wpAny_call ?_
        k_dflt kn_enter
        obtain ⟨M, S, m1, m2, m3, hS, m4, hM, hSi⟩ := step_facts X Lo Hi n hlt (by omega) hn.2 hX
        obtain ⟨u1, u2, u3⟩ := upper_facts X hX hSi
        have q1 : 0 ≤ (((Lo : Int) + (Hi : Int)).fdiv (2 ^ Int.toNat 1) - (Lo : Int)) * (n : Int) := by rw [hSi]; exact Int.natCast_nonneg _
        have q2 : (((Lo : Int) + (Hi : Int)).fdiv (2 ^ Int.toNat 1) - (Lo : Int)) * (n : Int) ≤ 600 := by rw [hSi]; exact_mod_cast m4
        k_steps
        · exact hret _ _ _ _ _ (by k_asm) (by k_asm) (by assumption) (told_leaf (by assumption) hlen hX)
        · unfold Hold
          have hneL := m3 (by omega)
          refine' ih (X % 2 ^ S) Lo M _ _ _ _ _ _ ds vs _ ?B1 ?F1 ?X1 ?N1 ?T1 ?hk1 ?hC1 ?hx1 rfl hM hint ?lt1 ?k1 ?len1 ?l601 ?X401 ?dp1 ?ret1
          case B1 => k_asm
          case F1 => k_asm
          case X1 => k_asm
          case N1 => k_asm
          case T1 => k_asm
          case hk1 => exact rfl
          case hC1 => exact hC
          case hx1 => exact lower_facts X hSi
          case lt1 => omega
          case k1 => omega
          case len1 => omega
          case l601 => exact hl60
          case X401 => exact Nat.lt_of_le_of_lt (Nat.mod_le _ _) hX
          case dp1 => ktr_room
          case ret1 =>
            intro vs1 ds1 h1 tk1 c1 F1 N1 hint1 told1
            have hl1' := told_len (by omega) (by omega) told1
            k_steps
            unfold Hold
            refine' ih (X / 2 ^ S) M Hi _ _ _ _ _ _ ds1 vs1 _ ?B2 ?F2 ?X2 ?N2 ?T2 ?hk2 ?hC2 u3 hM rfl hint1 ?lt2 ?k2 ?len2 ?l602 ?X402 ?dp2 ?ret2
            case B2 => k_asm
            case F2 => k_asm
            case X2 => k_asm
            case N2 => k_asm
            case T2 => k_asm
            case hk2 => exact rfl
            case hC2 => exact hC
            case lt2 => omega
            case k2 => omega
            case len2 => omega
            case l602 => omega
            case X402 => exact Nat.lt_of_le_of_lt (Nat.div_le_self _ _) hX
            case dp2 => ktr_room
            case ret2 =>
              intro vs2 ds2 h2 tk2 c2 F2 N2 hint2 told2
              k_steps
              exact hret _ _ _ _ _ (by k_asm) (by k_asm) hint2 (told_step (by omega) (by omega) hlen hS told1 told2)
      case B => k_asm
      case F => k_asm
      case X => k_asm
      case T => k_asm
      case hk => exact rfl
      case hC => exact hC
      case hx => exact rfl
      case hlo => exact rfl
      case hhi => exact rfl
      case hint => exact i1
      case hlt => omega
      case hlen => rw [e1]; exact Nat.le_refl _
      case h60 => rw [e1]; omega
      case hX => exact ha
      case hdp => ktr_room
      case ret =>
        intro vs' ds' h' tk' cX F' N' hint' told
        obtain ⟨v1, v2, v3⟩ := told_whole e1 told
        k_steps
        rename News _ _ _ _ => kN
        refine' hret D vs' ds' cX [(30, tabObj #[rawInt ((32 : Nat) : Int), rawInt ((4 : Nat) : Int), .ref cO]), (cO, oc0)] _ _ ?rF (news_sub kN ?rN) ?rT hint' v1 v2 (by omega) ?rne
        case rF => k_asm
        case rN =>
          intro p hp
          rcases List.mem_cons.mp hp with rfl | hp
          · k_mem
          rcases List.mem_cons.mp hp with rfl | hp
          · k_mem
          rcases List.mem_cons.mp hp with rfl | hp
          · k_mem
          have hp : p ∈ news := hp
          k_mem
        case rT => exact .done z1 z2 z3
        case rne =>
          refine List.forall_mem_cons.mpr ⟨?_, List.forall_mem_cons.mpr ⟨?_, off_lt ln ?_⟩⟩
          · refine neN ?_; dsimp only; omega
          · refine neN ?_; dsimp only; omega
          · omega
    · rename News _ _ _ _ => NN
      rename_i D hD i1 n1 s1 e1 e2 e3 l1b hA oA dA f ctc dcc hc tkc l1c hI oI F' N' dI a0 kF Tc kX
      have hz : len = 0 := hl3 (by omega)
      refine' hret D _ _ _ [(30, tabObj #[rawInt ((32 : Nat) : Int), rawInt ((4 : Nat) : Int), .ref cO]), (cO, oc0)] _ _ kF (news_sub NN ?rN) ?rT i1 ?v1 ?v2 (by omega) ?rne
      case rN =>
        intro p hp
        rcases List.mem_cons.mp hp with rfl | hp
        · k_mem
        rcases List.mem_cons.mp hp with rfl | hp
        · k_mem
        rcases List.mem_cons.mp hp with rfl | hp
        · k_mem
        have hp : p ∈ news := hp
        k_mem
      case rT => exact .done z1 z2 z3
      case v1 => rw [zeros_val]; omega
      case v2 => subst hz; simp
      case rne =>
        refine List.forall_mem_cons.mpr ⟨?_, List.forall_mem_cons.mpr ⟨?_, off_lt ln ?_⟩⟩
        · refine neN ?_; dsimp only; omega
        · refine neN ?_; dsimp only; omega
        · omega
end
end Mine
namespace Mine

def segOf (ds : List Int) (Lo Hi : Nat) : List Int := (ds.drop Lo).take (Hi - Lo)
theorem val_nonneg (n : Nat) : ∀ {ds : List Int}, (∀ d ∈ ds, 0 ≤ d) → 0 ≤ val n ds
  | [], _ => Int.le_refl 0
  | d :: r, h => by
    have h1 := h d (.head _)
    have h2 := val_nonneg n (ds := r) fun x hx => h x (.tail _ hx)
    have h3 : (0 : Int) ≤ 2 ^ n * val n r := Int.mul_nonneg (Int.le_of_lt (Int.pow_pos (by decide))) h2
    show 0 ≤ d + 2 ^ n * val n r
    omega
theorem seg_split (ds : List Int) {Lo M Hi : Nat} (h1 : Lo ≤ M) (h2 : M ≤ Hi) (hl : Hi ≤ ds.length) : segOf ds Lo Hi = segOf ds Lo M ++ segOf ds M Hi := by
  unfold segOf
  have e : ds.drop M = (ds.drop Lo).drop (M - Lo) := by rw [List.drop_drop]; congr 1; omega
  have e2 : Hi - Lo = (M - Lo) + (Hi - M) := by omega
  rw [e, e2, List.take_add]
theorem seg_length (ds : List Int) {Lo Hi : Nat} (hl : Hi ≤ ds.length) : (segOf ds Lo Hi).length = Hi - Lo := by
  unfold segOf
  rw [List.length_take, List.length_drop]
  omega
theorem seg_mem {ds : List Int} {Lo Hi : Nat} {d : Int} (h : d ∈ segOf ds Lo Hi) : d ∈ ds := List.mem_of_mem_drop (List.mem_of_mem_take h)
theorem val_seg (n : Nat) (ds : List Int) {Lo M Hi S : Nat} (h1 : Lo ≤ M) (h2 : M ≤ Hi) (hl : Hi ≤ ds.length) (hS : S = (M - Lo) * n) : val n (segOf ds M Hi) * 2 ^ S + val n (segOf ds Lo M) = val n (segOf ds Lo Hi) := by
  rw [seg_split ds h1 h2 hl, val_append, seg_length ds (by omega), hS, Nat.mul_comm n, Int.mul_comm, Int.add_comm]
theorem val_seg_le (n : Nat) {ds : List Int} {Lo M Hi : Nat} (h1 : Lo ≤ M) (h2 : M ≤ Hi) (hl : Hi ≤ ds.length) (hd : ∀ d ∈ ds, 0 ≤ d) : val n (segOf ds M Hi) ≤ val n (segOf ds Lo Hi) ∧ val n (segOf ds Lo M) ≤ val n (segOf ds Lo Hi) ∧ 0 ≤ val n (segOf ds M Hi) ∧ 0 ≤ val n (segOf ds Lo M) := by
  have a1 := val_nonneg n (ds := segOf ds M Hi) fun d h => hd d (seg_mem h)
  have a2 := val_nonneg n (ds := segOf ds Lo M) fun d h => hd d (seg_mem h)
  have e := val_seg n ds h1 h2 hl rfl
  have p : (1 : Int) ≤ 2 ^ ((M - Lo) * n) := Int.pow_pos (by decide)
  have q : val n (segOf ds M Hi) * 1 ≤ val n (segOf ds M Hi) * 2 ^ ((M - Lo) * n) := Int.mul_le_mul_of_nonneg_left p a1
  refine ⟨by omega, by omega, a1, a2⟩
theorem seg_one (n : Nat) (ds : List Int) (Lo : Nat) (h : Lo < ds.length) : val n (segOf ds Lo (Lo + 1)) = ds[Lo] := by
  have e : segOf ds Lo (Lo + 1) = [ds[Lo]] := by
    unfold segOf
    have e1 : Lo + 1 - Lo = 1 := by omega
    rw [e1, List.drop_eq_getElem_cons h, List.take_succ_cons, List.take_zero]
  rw [e]
  simp [val]
theorem seg_whole (ds : List Int) : segOf ds 0 ds.length = ds := by
  unfold segOf
  simp
end Mine
namespace Mine
theorem calm_B6 : True := by
  w_top off
  exact .intro
local macro_rules | `(tactic| k_room) => `(tactic| ktr_room)
local macro_rules | `(tactic| ktr_enter) => `(tactic| (refine' code_def ?k1 ?k2 ?k3 ?k4 ?k5 ?kA ?kF ?kK ?k6 ?k7 ?k8 ?k9 ?kB ?_ ?c2 ?c3 ?c4 ?c5; (case kA => exact rfl); (case kF => exact rfl); (case kK => first | assumption | exact rfl); (case k1 => k_asm); (case k2 => k_asm); (case k3 => k_asm); (case k4 => k_asm); (case k5 => k_asm); (case k6 => k_is); (case k7 => k_is); (case k8 => ktr_room); (case k9 => first | exact BindsTo.of_eq rfl | exact binds_K (by k_in) rfl (by k_is) rfl rfl rfl); (case c5 => decide); (case kB => exact locs rfl); (case c2 => exact rfl); (case c3 => exact rfl); (case c4 => exact rfl); k_whole; intro g' L' h' FG' F' N' B' X' T'; (try dsimp only); (try k_fold)))

local macro_rules | `(tactic| ktr_enter) => `(tactic| (refine' code_defC ?k1 ?k2 ?k3 ?k4 ?k5 ?kA ?kF ?kK ?k6 ?k7 ?k8 ?k9 ?kB ?kD ?_ ?c2 ?c3 ?c4; (case kA => exact rfl); (case kF => exact rfl); (case kK => first | assumption | exact rfl); (case k1 => k_asm); (case k2 => k_asm); (case k3 => k_asm); (case k4 => k_asm); (case k5 => k_asm); (case k6 => k_is); (case k7 => k_is); (case k8 => ktr_room); (case k9 => exact BindsTo.of_eq rfl); (case kB => exact rfl); (case kD => decide +kernel); (case c2 => exact rfl); (case c3 => exact rfl); (case c4 => exact rfl); k_whole; intro g' L' h' tk' cells' FG' F' N' Y' B' X' T' l1; (try k_lt l1); k_cells Y'; (try simp only [List.cons_append, List.nil_append] at N'); (try dsimp only); (try k_lift B'); (try k_fold)))
local macro_rules | `(tactic| walk_at "call ref") => `(tactic| (refine hold_in ?_))
local macro_rules | `(tactic| walk_at "pyIter ref") => `(tactic| ((with_reducible show wpAny _ _ (pyIter (Value.ref _)) (fun it s₂ => LoopAtV _ _ _ _ _ _ _ _ _ it s₂) _ _); refine hold_in ?_))
local macro_rules | `(tactic| k_all) => `(tactic| assumption)
local macro_rules | `(tactic| k_mem) => `(tactic| assumption)
local macro_rules | `(tactic| size_fits) => `(tactic| (simp only [List.size_toArray, PySem.sizeLine_eq]; omega))

local macro_rules | `(tactic| k_all) => `(tactic| (refine' off_lt ?offh ?offe; (case offh => assumption); (case offe => omega)))
local macro_rules | `(tactic| k_all) => `(tactic| assumption)
local macro_rules | `(tactic| kn_enter) => `(tactic| (refine' code_nest ?k1 ?k2 ?k3 ?k4 ?k5 ?kA ?kF ?kK ?k6 ?k7 ?k8 ?k9 ?kB ?_ ?c2 ?c3 ?c4 ?c5; (case kA => exact rfl); (case kF => exact rfl); (case kK => assumption); (case k1 => k_asm); (case k2 => k_asm); (case k3 => k_asm); (case k4 => k_asm); (case k5 => k_asm); (case k6 => k_mem); (case k7 => exact codeRec_news (by k_asm) (by k_mem) (by assumption) (by assumption)); (case k8 => ktr_room); (case k9 => exact BindsTo.of_eq rfl); (case c5 => decide); (case kB => exact locs rfl); (case c2 => exact rfl); (case c3 => exact rfl); (case c4 => exact rfl); k_whole; intro g' L' h' FG' F' N' B' X' T'; (try dsimp only); (try k_fold)))
local macro_rules | `(tactic| walk_at "binaryOp Mult ref int") => `(tactic| ((fail_if_success (rename Marker => mk9)); refine hold_in ?_))
local macro_rules | `(tactic| walk_at "subscriptTail") => `(tactic| (k_here; (with_reducible show wpAny _ _ (subscriptTail _ _ (Value.ref _) (Value.int _ _)) _ _ _); (with_unfolding_all refine' m_item ?N ?l ?a ?b ?x ?_ ?s; (case N => k_asm); (case l => k_mem); (case a => omega); (case b => omega); (case x => assumption); (case s => with_unfolding_all rfl))))

/-- what a call of the closure in _digits2int does -/
def DSpec (w : World) (f : Addr) (n : Nat) (ds : List Int) (rest : List (Addr × Obj)) (k : Nat) : Prop :=
  ∀ {p : Program} {loose : List Str} {mean : ExcName → Option Value} {mg mb : Str → Option Value} {dp un : Nat} {gd : Option (List Code)} {cn : Str} {cs : Scope} {aa : Addr} {ccd : Value} {cl : List (Str × Addr)} {outer : List Env} {A₀ : Around} {base h₀ : Heap} {L : Addr} {m : Str → Option Value} {s : Shared} {Q E : Value → Shared → Prop}
    (Lo Hi : Nat) (lo hi : Int) (tl tr : Tok),
    Below A₀ base outer h₀ → Fr h₀ L s.heap m → (hd.heap_39 w.params).In h₀ → News h₀ L s.heap rest → Top p loose mean mg mb h₀ → cs.kind = .function → CodeHd base 41 37 →
    lo = Lo → hi = Hi → Lo < Hi → Hi ≤ Lo + k → Hi ≤ ds.length → val n (segOf ds Lo Hi) < 2 ^ 40 → dp + k + 3 < recursionLimit →
    (∀ (t : Tok) (h' : Heap) (tk' : Nat), Fr h₀ L h' m → News h₀ L h' rest → Q (.int (val n (segOf ds Lo Hi)) t) { s with heap := h', toks := tk' }) →
    wpAny (model PySem.Challenge.rw_xi0013_01.row.prog w) (ktrTop dp un gd cn cs L aa ccd cl outer) (call (.ref f) [.int lo tl, .int hi tr]) Q E s
theorem dspec_rec {w : World} {f : Addr} {n : Nat} {ds : List Int} {rest : List (Addr × Obj)} (step : ∀ k, DSpec w f n ds rest k → DSpec w f n ds rest (k + 1)) : ∀ k, DSpec w f n ds rest k := by
  intro k
  induction k with
  | zero =>
    unfold DSpec
    intro p loose mean mg mb dp un gd cn cs aa ccd cl outer A₀ base h₀ L m s Q E Lo Hi lo hi tl tr _ _ _ _ _ _ _ _ _ h1 h2
    exact absurd h1 (by omega)
  | succ k ih => exact step k ih
theorem d2i_use {w : World} {f : Addr} {n : Nat} {ds : List Int} {rest : List (Addr × Obj)} {p : Program} {loose : List Str} {mean : ExcName → Option Value} {mg mb : Str → Option Value} {dp un : Nat} {gd : Option (List Code)} {cn : Str} {cs : Scope} {aa : Addr} {ccd : Value} {cl : List (Str × Addr)} {outer : List Env} {A₀ : Around} {base h₀ : Heap} {L : Addr} {m : Str → Option Value} {s : Shared} {Q E : Value → Shared → Prop}
    {lo hi : Int} {tl tr : Tok} (step : ∀ k, DSpec w f n ds rest k → DSpec w f n ds rest (k + 1))
    (B : Below A₀ base outer h₀) (F : Fr h₀ L s.heap m) (X₀ : (hd.heap_39 w.params).In h₀) (N : News h₀ L s.heap rest) (T : Top p loose mean mg mb h₀) (hk : cs.kind = .function) (hC : CodeHd base 41 37)
    (hlo : lo = 0) (hhi : hi = ds.length) (hlt : 0 < ds.length) (h60 : ds.length ≤ 60) (hv : val n ds < 2 ^ 40) (hdp : dp + 63 < recursionLimit)
    (ret : ∀ (t : Tok) (h' : Heap) (tk' : Nat), Fr h₀ L h' m → News h₀ L h' rest → Q (.int (val n ds) t) { s with heap := h', toks := tk' }) :
    wpAny (model PySem.Challenge.rw_xi0013_01.row.prog w) (ktrTop dp un gd cn cs L aa ccd cl outer) (call (.ref f) [.int lo tl, .int hi tr]) Q E s :=
  dspec_rec step 60 0 ds.length lo hi tl tr B F X₀ N T hk hC hlo hhi hlt (by omega) (Nat.le_refl _) (by rw [seg_whole]; exact hv) hdp (by rw [seg_whole]; exact ret)

def qD : Str := (Str.ofString "_digits2int" ++ ".<locals>.") ++ Str.ofString "inner"
section
variable {w : World} {p : Program} {loose : List Str} {mean : ExcName → Option Value} {mg mb : Str → Option Value}
  {dp un : Nat} {gd : Option (List Code)} {cn : Str} {cs : Scope} {aa : Addr} {ccd : Value} {cl : List (Str × Addr)} {outer : List Env} {A₀ : Around} {base h₀ : Heap} {L : Addr} {m : Str → Option Value} {s : Shared} {Q E : Value → Shared → Prop} {news : List (Addr × Obj)}

theorem c_d2i (dl n : Nat) (tn : Tok) (vs : List Value) (ds : List Int) (c : Nat) (hi : IntsAre vs ds) (hl60 : ds.length ≤ 60) (hpos : ∀ d ∈ ds, 0 ≤ d) (hv : val n ds < 2 ^ 40) (hn : 1 ≤ n ∧ n ≤ 10) {tb : List (Addr × Obj)} (hT : TabLed 37 47 4 qD tb)
  (B : Below A₀ base outer h₀) (F : Fr h₀ L s.heap m) (X : (hd.heap_39 w.params).In h₀) (N : News h₀ L s.heap ((dl, PySem.W.listOf vs.toArray c) :: (tb ++ news))) (hoff : ∀ p ∈ news, p.1 ≠ 37) (hdl : dl ≠ 37) (hC : CodeHd base 41 37) (T : Top p loose mean mg mb h₀) (hk : cs.kind = .function)
  (hdp : dp + 80 < recursionLimit)
  (hret : ∀ (t : Tok) (tb' : List (Addr × Obj)) (h' : Heap) (tk' : Nat), Fr h₀ L h' m → News h₀ L h' ((dl, PySem.W.listOf vs.toArray c) :: (tb' ++ news)) → TabLed 37 47 4 qD tb' → Q (.int (val n ds) t) { s with heap := h', toks := tk' }) :
  wpAny (model PySem.Challenge.rw_xi0013_01.row.prog w) (ktrTop dp un gd cn cs L aa ccd cl outer) (call (.ref 42) [.ref dl, .int n tn]) Q E s := by
  have hvl := hi.length
  cases hT
  case fresh =>
    simp only [List.cons_append, List.nil_append] at N
    refine wpAny_call ?_
    k_dflt ktr_enter
    rename (_ ∧ _ ∧ AllLt _ news) => l1
    obtain ⟨l30, lc0, ln⟩ := l1
    k_steps
    · unfold Hold
      rename News _ _ _ _ => NN
      simp only [Array.empty_append] at NN
      rename_i f c' oc vsc tc ctc dcc hc tkc d1c d2c l1c l2c hI oI FF dI hlt0
      refine' d2i_use (n := n) (ds := ds) ?step ?B ?F ?X NN ?T ?hk ?hC ?hlo ?hhi ?hlt ?h60 ?hv ?hdp ?ret
      case step =>
        clear NN FF B F X N T hk hC hret hdp
        intro k ih
        unfold DSpec
        intro p loose mean mg mb dp un gd cn cs aa ccd cl outer A₀ base h₀ L m s Q E Lo Hi lo hiv tl tr B F X' N T hk hC hlo hhi hlt hk1 hlen hvs hdp hret
        unfold DSpec at ih
        subst hlo hhi
        have hLo : Lo < ds.length := by omega
        obtain ⟨t1, hx0⟩ := hi.get Lo (ds[Lo]'hLo) (List.getElem?_eq_getElem hLo)
        have hx1 : vs[((Lo : Int)).toNat]? = some (.int (ds[Lo]'hLo) t1) := hx0
        refine wpAny_call ?_
        k_dflt kn_enter
        obtain ⟨M, S, m1, m2, m3, hS, m4, hM, hSi⟩ := step_facts 0 Lo Hi n hlt (by omega) hn.2 (by decide)
        obtain ⟨v1, v2, v3, v4⟩ := val_seg_le n m1 (Nat.le_of_lt m2) hlen hpos
        have q1 : 0 ≤ (((Lo : Int) + (Hi : Int)).fdiv (2 ^ Int.toNat 1) - (Lo : Int)) * (n : Int) := by rw [hSi]; exact Int.natCast_nonneg _
        have q2 : (((Lo : Int) + (Hi : Int)).fdiv (2 ^ Int.toNat 1) - (Lo : Int)) * (n : Int) ≤ 600 := by rw [hSi]; exact_mod_cast m4
        k_steps
        · have e : Hi = Lo + 1 := by omega
          subst e
          have e2 := seg_one n ds Lo hLo
          have e4 : ds.getD ((Lo : Int)).toNat 0 = ds[Lo]'hLo := by
            rw [Int.toNat_natCast, List.getD_eq_getElem?_getD, List.getElem?_eq_getElem hLo]
            rfl
          rw [e2, ← e4] at hret
          exact hret _ _ _ (by k_asm) (by k_asm)
        · unfold Hold
          have hneL := m3 (by omega)
          refine' ih M Hi _ _ _ _ ?B1 ?F1 ?X1 ?N1 ?T1 ?hk1 ?hC1 hM rfl ?lt1 ?k1 ?len1 ?v1 ?dp1 ?ret1
          case B1 => k_asm
          case F1 => k_asm
          case X1 => k_asm
          case N1 => k_asm
          case T1 => k_asm
          case hk1 => exact rfl
          case hC1 => exact hC
          case lt1 => omega
          case k1 => omega
          case len1 => omega
          case v1 => omega
          case dp1 => ktr_room
          case ret1 =>
            intro t1 h1 tk1 F1 N1
            k_steps
            unfold Hold
            refine' ih Lo M _ _ _ _ ?B2 ?F2 ?X2 ?N2 ?T2 ?hk2 ?hC2 rfl hM ?lt2 ?k2 ?len2 ?v2 ?dp2 ?ret2
            case B2 => k_asm
            case F2 => k_asm
            case X2 => k_asm
            case N2 => k_asm
            case T2 => k_asm
            case hk2 => exact rfl
            case hC2 => exact hC
            case lt2 => omega
            case k2 => omega
            case len2 => omega
            case v2 => omega
            case dp2 => ktr_room
            case ret2 =>
              intro t2 h2 tk2 F2 N2
              k_steps
              have e3 := val_seg n ds m1 (Nat.le_of_lt m2) hlen hS
              have e5 : ((((Lo : Int) + (Hi : Int)).fdiv (2 ^ Int.toNat 1) - (Lo : Int)) * (n : Int)).toNat = S := by rw [hSi, Int.toNat_natCast]
              rw [← e3, ← e5] at hret
              exact hret _ _ _ (by k_asm) (by k_asm)
      case B => k_asm
      case F => k_asm
      case X => k_asm
      case T => k_asm
      case hk => exact rfl
      case hC => exact hC
      case hlo => exact rfl
      case hhi => exact rfl
      case hlt => omega
      case h60 => exact hl60
      case hv => exact hv
      case hdp => ktr_room
      case ret =>
        intro tX h' tk' F' N'
        k_steps
        rename News _ _ _ _ => kN
        refine' hret _ [(37, tabObj #[rawInt ((47 : Nat) : Int), rawInt ((4 : Nat) : Int), .ref c']), (c', oc)] _ _ ?rF (news_sub kN ?rN) ?rT
        case rF => k_asm
        case rN =>
          intro p hp
          rcases List.mem_cons.mp hp with rfl | hp
          · k_mem
          rcases List.mem_cons.mp hp with rfl | hp
          · k_mem
          rcases List.mem_cons.mp hp with rfl | hp
          · k_mem
          have hp : p ∈ news := hp
          k_mem
        case rT => exact .done d1c d2c (by refine neN ?_; omega)
    · rename News _ _ _ _ => NN
      simp only [Array.empty_append] at NN
      rename_i f c' oc vsc tc ctc dcc hc tkc d1c d2c l1c l2c hI oI F' N' dI a0 kF Tc kX
      have hz : ds = [] := List.eq_nil_of_length_eq_zero (by omega)
      subst hz
      refine' hret _ [(37, tabObj #[rawInt ((47 : Nat) : Int), rawInt ((4 : Nat) : Int), .ref c']), (c', oc)] _ _ kF (news_sub NN ?rN) ?rT
      case rN =>
        intro p hp
        rcases List.mem_cons.mp hp with rfl | hp
        · k_mem
        rcases List.mem_cons.mp hp with rfl | hp
        · k_mem
        rcases List.mem_cons.mp hp with rfl | hp
        · k_mem
        have hp : p ∈ news := hp
        k_mem
      case rT => exact .done d1c d2c (by refine neN ?_; omega)
  case done cO oc0 vs0 t0 z1 z2 z3 =>
    simp only [List.cons_append, List.nil_append] at N
    refine wpAny_call ?_
    k_dflt ktr_enter
    rename (_ ∧ _ ∧ _ ∧ AllLt _ news) => l1
    obtain ⟨ldl, l30, lc0, ln⟩ := l1
    k_steps
    · unfold Hold
      rename News _ _ _ _ => NN
      rename_i f ctc dcc hc tkc l1c hI oI FF dI hlt0
      refine' d2i_use (n := n) (ds := ds) ?step ?B ?F ?X NN ?T ?hk ?hC ?hlo ?hhi ?hlt ?h60 ?hv ?hdp ?ret
      case step =>
        clear NN FF B F X N T hk hC hret hdp
        intro k ih
        unfold DSpec
        intro p loose mean mg mb dp un gd cn cs aa ccd cl outer A₀ base h₀ L m s Q E Lo Hi lo hiv tl tr B F X' N T hk hC hlo hhi hlt hk1 hlen hvs hdp hret
        unfold DSpec at ih
        subst hlo hhi
        have hLo : Lo < ds.length := by omega
        obtain ⟨t1, hx0⟩ := hi.get Lo (ds[Lo]'hLo) (List.getElem?_eq_getElem hLo)
        have hx1 : vs[((Lo : Int)).toNat]? = some (.int (ds[Lo]'hLo) t1) := hx0
        refine wpAny_call ?_
        k_dflt kn_enter
        obtain ⟨M, S, m1, m2, m3, hS, m4, hM, hSi⟩ := step_facts 0 Lo Hi n hlt (by omega) hn.2 (by decide)
        obtain ⟨v1, v2, v3, v4⟩ := val_seg_le n m1 (Nat.le_of_lt m2) hlen hpos
        have q1 : 0 ≤ (((Lo : Int) + (Hi : Int)).fdiv (2 ^ Int.toNat 1) - (Lo : Int)) * (n : Int) := by rw [hSi]; exact Int.natCast_nonneg _
        have q2 : (((Lo : Int) + (Hi : Int)).fdiv (2 ^ Int.toNat 1) - (Lo : Int)) * (n : Int) ≤ 600 := by rw [hSi]; exact_mod_cast m4
        k_steps
        · have e : Hi = Lo + 1 := by omega
          subst e
          have e2 := seg_one n ds Lo hLo
          have e4 : ds.getD ((Lo : Int)).toNat 0 = ds[Lo]'hLo := by
            rw [Int.toNat_natCast, List.getD_eq_getElem?_getD, List.getElem?_eq_getElem hLo]
            rfl
          rw [e2, ← e4] at hret
          exact hret _ _ _ (by k_asm) (by k_asm)
        · unfold Hold
          have hneL := m3 (by omega)
          refine' ih M Hi _ _ _ _ ?B1 ?F1 ?X1 ?N1 ?T1 ?hk1 ?hC1 hM rfl ?lt1 ?k1 ?len1 ?v1 ?dp1 ?ret1
          case B1 => k_asm
          case F1 => k_asm
          case X1 => k_asm
          case N1 => k_asm
          case T1 => k_asm
          case hk1 => exact rfl
          case hC1 => exact hC
          case lt1 => omega
          case k1 => omega
          case len1 => omega
          case v1 => omega
          case dp1 => ktr_room
          case ret1 =>
            intro t1 h1 tk1 F1 N1
            k_steps
            unfold Hold
            refine' ih Lo M _ _ _ _ ?B2 ?F2 ?X2 ?N2 ?T2 ?hk2 ?hC2 rfl hM ?lt2 ?k2 ?len2 ?v2 ?dp2 ?ret2
            case B2 => k_asm
            case F2 => k_asm
            case X2 => k_asm
            case N2 => k_asm
            case T2 => k_asm
            case hk2 => exact rfl
            case hC2 => exact hC
            case lt2 => omega
            case k2 => omega
            case len2 => omega
            case v2 => omega
            case dp2 => ktr_room
            case ret2 =>
              intro t2 h2 tk2 F2 N2
              k_steps
              have e3 := val_seg n ds m1 (Nat.le_of_lt m2) hlen hS
              have e5 : ((((Lo : Int) + (Hi : Int)).fdiv (2 ^ Int.toNat 1) - (Lo : Int)) * (n : Int)).toNat = S := by rw [hSi, Int.toNat_natCast]
              rw [← e3, ← e5] at hret
              exact hret _ _ _ (by k_asm) (by k_asm)
      case B => k_asm
      case F => k_asm
      case X => k_asm
      case T => k_asm
      case hk => exact rfl
      case hC => exact hC
      case hlo => exact rfl
      case hhi => exact rfl
      case hlt => omega
      case h60 => exact hl60
      case hv => exact hv
      case hdp => ktr_room
      case ret =>
        intro tX h' tk' F' N'
        k_steps
        rename News _ _ _ _ => kN
        refine' hret _ [(37, tabObj #[rawInt ((47 : Nat) : Int), rawInt ((4 : Nat) : Int), .ref cO]), (cO, oc0)] _ _ ?rF (news_sub kN ?rN) ?rT
        case rF => k_asm
        case rN =>
          intro p hp
          rcases List.mem_cons.mp hp with rfl | hp
          · k_mem
          rcases List.mem_cons.mp hp with rfl | hp
          · k_mem
          rcases List.mem_cons.mp hp with rfl | hp
          · k_mem
          have hp : p ∈ news := hp
          k_mem
        case rT => exact .done z1 z2 z3
    · rename News _ _ _ _ => NN
      rename_i f ctc dcc hc tkc l1c hI oI F' N' dI a0 kF Tc kX
      have hz : ds = [] := List.eq_nil_of_length_eq_zero (by omega)
      subst hz
      refine' hret _ [(37, tabObj #[rawInt ((47 : Nat) : Int), rawInt ((4 : Nat) : Int), .ref cO]), (cO, oc0)] _ _ kF (news_sub NN ?rN) ?rT
      case rN =>
        intro p hp
        rcases List.mem_cons.mp hp with rfl | hp
        · k_mem
        rcases List.mem_cons.mp hp with rfl | hp
        · k_mem
        rcases List.mem_cons.mp hp with rfl | hp
        · k_mem
        have hp : p ∈ news := hp
        k_mem
      case rT => exact .done z1 z2 z3
end
end Mine
namespace Mine
/-- where the long division stands after i digits -/
def DivSt (n b : Nat) (ds : List Int) (i : Nat) (qs : List Int) (R : Nat) : Prop :=
  qs.length = i ∧ (∀ x ∈ qs, 0 ≤ x) ∧ ∃ A Qn : Nat, (A : Int) = val n (ds.drop (ds.length - i)) ∧ val n qs.reverse = Qn ∧ A = Qn * b + R ∧ R < b
theorem divst_start (n b : Nat) (ds : List Int) (hb : 1 ≤ b) : DivSt n b ds 0 [] 0 := by
  refine ⟨rfl, (fun x hx => by cases hx), 0, 0, ?_, rfl, by omega, by omega⟩
  rw [Nat.sub_zero, List.drop_length]
  rfl
theorem divst_step {n b i R : Nat} {ds qs : List Int} (h : DivSt n b ds i qs R) (hi : i < ds.length) {d : Int} (hd : ds[ds.length - 1 - i]? = some d) (h0 : 0 ≤ d) :
    ∃ R' : Nat, ((R : Int) * 2 ^ n + d).fmod (b : Int) = (R' : Int) ∧ DivSt n b ds (i + 1) (qs ++ [((R : Int) * 2 ^ n + d).fdiv (b : Int)]) R' := by
  obtain ⟨h1, h2, A, Qn, a1, a2, a3, a4⟩ := h
  obtain ⟨dn, rfl⟩ := Int.eq_ofNat_of_zero_le h0
  have e2 : (2 : Int) ^ n = ((2 ^ n : Nat) : Int) := by rw [Int.natCast_pow]; rfl
  have ex : ((R : Int) * 2 ^ n + (dn : Int)) = ((R * 2 ^ n + dn : Nat) : Int) := by
    rw [e2, Int.natCast_add, Int.natCast_mul]
  rw [ex]
  have eq : ((R * 2 ^ n + dn : Nat) : Int).fdiv (b : Int) = (((R * 2 ^ n + dn) / b : Nat) : Int) := by
    rw [Int.fdiv_eq_ediv_of_nonneg _ (Int.natCast_nonneg _)]
    exact (Int.natCast_ediv _ _).symm
  have er : ((R * 2 ^ n + dn : Nat) : Int).fmod (b : Int) = (((R * 2 ^ n + dn) % b : Nat) : Int) := by
    rw [Int.fmod_eq_emod_of_nonneg _ (Int.natCast_nonneg _)]
    exact (Int.natCast_emod _ _).symm
  rw [eq, er]
  generalize hq : (R * 2 ^ n + dn) / b = q
  generalize hr : (R * 2 ^ n + dn) % b = r
  have hx := Nat.div_add_mod (R * 2 ^ n + dn) b
  rw [hq, hr] at hx
  have hrb : r < b := by rw [← hr]; exact Nat.mod_lt _ (by omega)
  refine ⟨r, rfl, by rw [List.length_append, h1]; rfl, ?_, A * 2 ^ n + dn, Qn * 2 ^ n + q, ?_, ?_, ?_, hrb⟩
  · intro x hx
    rcases List.mem_append.mp hx with hx | hx
    · exact h2 x hx
    · rw [List.mem_singleton.mp hx]; exact Int.natCast_nonneg _
  · have hlt : ds.length - 1 - i < ds.length := by omega
    have e3 : ds.length - (i + 1) = ds.length - 1 - i := by omega
    have e4 : ds.length - 1 - i + 1 = ds.length - i := by omega
    have e5 : ds[ds.length - 1 - i] = (dn : Int) := Option.some.inj ((List.getElem?_eq_getElem hlt).symm.trans hd)
    rw [e3, List.drop_eq_getElem_cons hlt, e4, e5, val, ← a1, e2, Int.natCast_add, Int.natCast_mul, Int.add_comm, Int.mul_comm]
  · rw [List.reverse_append, List.reverse_singleton, List.singleton_append, val, a2, e2, Int.natCast_add, Int.natCast_mul, Int.add_comm, Int.mul_comm]
  · rw [a3, Nat.add_mul, Nat.add_mul, Nat.add_assoc, ← hx, Nat.mul_comm b q]
    have e6 : Qn * b * 2 ^ n = Qn * 2 ^ n * b := Nat.mul_right_comm _ _ _
    omega
theorem divst_end {n b R a : Nat} {ds qs : List Int} (h : DivSt n b ds ds.length qs R) (hv : val n ds = a) : val n qs.reverse = ((a / b : Nat) : Int) ∧ R = a % b ∧ (∀ x ∈ qs.reverse, 0 ≤ x) ∧ qs.length = ds.length := by
  obtain ⟨h1, h2, A, Qn, a1, a2, a3, a4⟩ := h
  rw [Nat.sub_self, List.drop_zero, hv] at a1
  have e : A = a := by omega
  subst e
  have e1 : A / b = Qn := by
    rw [a3, Nat.mul_comm Qn b, Nat.mul_add_div (by omega), Nat.div_eq_of_lt a4, Nat.add_zero]
  have e2 : A % b = R := by
    rw [a3, Nat.mul_comm Qn b, Nat.mul_add_mod, Nat.mod_eq_of_lt a4]
  exact ⟨by rw [e1]; exact a2, e2.symm, fun x hx => h2 x (List.mem_reverse.mp hx), h1⟩
theorem div_bits {n R : Nat} {d : Int} (hn : n ≤ 10) (hR : R < 1000) (h0 : 0 ≤ d) (hd : d < 2 ^ 40) : ((Builtin.Int.intBits ((R : Int) * 2 ^ n + d) : Nat) : Int) ≤ 3000 := by
  have h1 : (2 : Int) ^ n ≤ 1024 := by
    have h : (2 : Nat) ^ n ≤ 1024 := Nat.pow_le_pow_right (j := 10) (by decide) hn
    have e2 : (2 : Int) ^ n = ((2 ^ n : Nat) : Int) := by rw [Int.natCast_pow]; rfl
    rw [e2]
    omega
  have hp : (0 : Int) ≤ 2 ^ n := Int.le_of_lt (Int.pow_pos (by decide))
  have h2 : (R : Int) * 2 ^ n ≤ 1000 * 1024 := Int.mul_le_mul (by omega) h1 hp (by decide)
  have h3 : 0 ≤ (R : Int) * 2 ^ n := Int.mul_nonneg (Int.natCast_nonneg _) hp
  have h4 : Builtin.Int.intBits ((R : Int) * 2 ^ n + d) ≤ 60 := intBits_le_iff.mpr (by omega)
  omega
theorem ints_reverse : ∀ {vs : List Value} {ns : List Int}, IntsAre vs ns → IntsAre vs.reverse ns.reverse
  | _, _, .nil => .nil
  | _, _, .cons n t h => by
    rw [List.reverse_cons, List.reverse_cons]
    exact IntsAre.append (ints_reverse h) (.cons n t .nil)
theorem ints_snoc {vs : List Value} {ns : List Int} (h : IntsAre vs ns) (x : Int) (t : Tok) : IntsAre (vs ++ [.int x t]) (ns ++ [x]) := IntsAre.append h (.cons x t .nil)
end Mine
namespace Mine
theorem calm_B7 : True := by
  w_top off
  exact .intro
section
variable {prog : Program} {w : World} {A : Around} {E : Value → Shared → Prop} {s : Shared} {env : Env} {h₀ : Heap} {x : Str} {body : List Stmt} {Q : Flow → Shared → Prop} {m₀ : Str → Option Value} {news : List (Addr × Obj)}
/-- over reversed(l) that was just made, l a list of the call's own -/
theorem m_loopRev {I l : Addr} {vs : List Value} {nn : Nat} (J : Nat → (Str → Option Value) → List (Addr × Obj) → Prop)
    (hh : A.handled = none) (F : Fr h₀ env.locals s.heap m₀) (N : News h₀ env.locals s.heap ((I, revObj l ((vs.length : Int) - 1)) :: news)) (hI : ∀ p ∈ news, p.1 ≠ I) (hj : J 0 m₀ news)
    (hJl : ∀ i m₁ news₁, J i m₁ news₁ → (l, PySem.W.listOf vs.toArray nn) ∈ news₁)
    (turn : ∀ i v m₁ news₁ oI h tk, i < vs.length → vs.reverse[i]? = some v → J i m₁ news₁ → (∀ p ∈ news₁, p.1 ≠ I) → Fr h₀ env.locals h (fun y => if y = x then some v else m₁ y) → News h₀ env.locals h ((I, oI) :: news₁) →
      wpAny (model prog w) A (execs body env) (LoopStepV h₀ env.locals [I] [(I, oI)] (J (i + 1)) { s with heap := h, toks := tk } (fun v s' => Q (.ret v) s') fun s' => Q .next s') E { s with heap := h, toks := tk })
    (done : ∀ h tk m' news', J vs.length m' news' → Fr h₀ env.locals h m' → News h₀ env.locals h news' → Q .next { s with heap := h, toks := tk }) :
    wpAny (model prog w) A (pyIter (.ref I)) (fun it s₂ => LoopAtV prog w A h₀ env x body Q E it s₂) E s := by
  have hl := hJl 0 _ _ hj
  have hIx := N _ (List.mem_cons_self ..)
  have hlx := N _ (List.mem_cons_of_mem _ hl)
  have hit : s.heap.IsRevIter I l ((vs.length : Int) - 1) := ⟨_, hIx.1, rfl, rfl⟩
  have hls : s.heap.IsList l vs.toArray := ⟨_, hlx.1, rfl, _, rfl⟩
  refine wpAny_pyIter_revIter hit ?_
  have Wk := Walks.listRev (prog := prog) (w := w) hh I l (hI _ hl) vs.toArray
  have hlen : vs.toArray.size = vs.length := by simp
  rw [hlen] at Wk
  refine ⟨I, _, _, vs.length, _, _, m₀, news, J, rfl, Wk, ?_, ?_, ?_, ⟨Nat.zero_le _, by simpa using hit, hls⟩, F, (fun p hp => N p (List.mem_cons_of_mem _ hp)), hj, ?_, ?_⟩
  · intro hm
    rcases List.mem_cons.mp hm with e | hm
    · exact hIx.2.1 e.symm
    · exact hlx.2.1 (List.mem_singleton.mp hm).symm
  · intro b hb
    rw [List.mem_singleton.mp hb]
    exact hIx.2.2
  · intro p hp hm
    exact hI p hp (List.mem_singleton.mp hm)
  · rintro i v m₁ news₁ s₁ own ⟨hh', tk', rfl⟩ hi hP hJ hnw hown hget hall hst F₁ N₁
    obtain ⟨oI, hoI, _⟩ := hst.2.1
    have hmem := hall I (List.mem_cons_self ..) hIx.2.2 _ hoI
    have hnw' : ∀ p ∈ news₁, p.1 ≠ I := fun p hp e => hnw p hp (List.mem_singleton.mpr e)
    have hv : vs.reverse[i]? = some v := by
      rw [List.getElem?_reverse hi]
      simpa using hP
    have N₂ : News h₀ env.locals hh' ((I, oI) :: news₁) := fun p hp => by
      rcases List.mem_cons.mp hp with rfl | hp
      · exact N₁ _ (List.mem_append_left _ hmem)
      · exact N₁ _ (List.mem_append_right _ hp)
    have hlg : hh'.get? l = some (PySem.W.listOf vs.toArray nn) := (N₁ _ (List.mem_append_right _ (hJl _ _ _ hJ))).1
    refine wpAny_mono (turn i v m₁ news₁ oI hh' tk' hi hv hJ hnw' F₁ N₂) (fun f s₂ q => ?_) fun _ _ e => e
    have up : LoopStepU h₀ env.locals [I] [(I, oI)] (J (i + 1)) { s with heap := hh', toks := tk' } .next s₂ → LoopStepU h₀ env.locals [I] own (J (i + 1)) { s with heap := hh', toks := tk' } .next s₂ := by
      rintro ⟨_, h', tk, m₂, news₂, e, F', N', ha, hJ'⟩
      refine ⟨rfl, h', tk, m₂, news₂, e, F', fun p hp => ?_, ha, hJ'⟩
      rcases List.mem_append.mp hp with hp | hp
      · have h2 : hh'.get? p.1 = some p.2 := hget p hp
        rcases List.mem_cons.mp (hown p hp) with h1 | h1
        · rw [h1, hoI] at h2
          exact N' _ (List.mem_append_left _ (List.mem_singleton.mpr (Prod.ext h1 (Option.some.inj h2).symm)))
        · have h1' := List.mem_singleton.mp h1
          rw [h1', hlg] at h2
          have e3 : p = (l, PySem.W.listOf vs.toArray nn) := Prod.ext h1' (Option.some.inj h2).symm
          rw [e3]
          exact N' _ (List.mem_append_right _ (hJl _ _ _ hJ'))
      · exact N' _ (List.mem_append_right _ hp)
    cases f with
    | ret v => exact q
    | brk => exact q
    | next => exact up q
    | cont => exact up q
  · intro h tk m' news' F' N' _ hJ
    exact done h tk m' news' hJ F' N'
end
local macro_rules | `(tactic| k_room) => `(tactic| ktr_room)
local macro_rules | `(tactic| ktr_enter) => `(tactic| (refine' code_def ?k1 ?k2 ?k3 ?k4 ?k5 ?kA ?kF ?kK ?k6 ?k7 ?k8 ?k9 ?kB ?_ ?c2 ?c3 ?c4 ?c5; (case kA => exact rfl); (case kF => exact rfl); (case kK => first | assumption | exact rfl); (case k1 => k_asm); (case k2 => k_asm); (case k3 => k_asm); (case k4 => k_asm); (case k5 => k_asm); (case k6 => k_is); (case k7 => k_is); (case k8 => ktr_room); (case k9 => first | exact BindsTo.of_eq rfl | exact binds_K (by k_in) rfl (by k_is) rfl rfl rfl); (case c5 => decide); (case kB => exact locs rfl); (case c2 => exact rfl); (case c3 => exact rfl); (case c4 => exact rfl); k_whole; intro g' L' h' FG' F' N' B' X' T'; (try dsimp only); (try k_fold)))
local macro_rules | `(tactic| walk_at "call ref") => `(tactic| (refine hold_in ?_))
local macro_rules | `(tactic| walk_at "pyIter ref") => `(tactic| ((with_reducible show wpAny _ _ (pyIter (Value.ref _)) (fun it s₂ => LoopAtV _ _ _ _ _ _ _ _ _ it s₂) _ _); refine hold_in ?_))
local macro_rules | `(tactic| walk_at "exec For Name Call cons nil") => `(tactic| (k_here; (rename Fr _ _ _ _ => lF'); (with_unfolding_all refine' For_invVF lF' ?k1 ?k2 ?_; (case k1 => exact rfl); (case k2 => exact rfl); k_whole)))
local macro_rules | `(tactic| k_all) => `(tactic| (refine' off_lt ?offh ?offe; (case offh => assumption); (case offe => omega)))
local macro_rules | `(tactic| k_all) => `(tactic| assumption)
local macro_rules | `(tactic| k_mem) => `(tactic| assumption)
local macro_rules | `(tactic| size_fits) => `(tactic| (simp only [List.size_toArray, PySem.sizeLine_eq]; omega))
theorem tab_apart {P P' ln co ln' co' : Nat} {q q' : Str} {t t' l : List (Addr × Obj)} {g h : Heap} {L : Addr} (h1 : TabLed P ln co q t) (h2 : TabLed P' ln' co' q' t') (hP : P ≠ P') (N : News g L h l) (s1 : ∀ p ∈ t, p ∈ l) (s2 : ∀ p ∈ t', p ∈ l) : ∀ p ∈ t, p.1 ≠ P' := by
  have key : ∀ {c' : Addr} {oc : Obj} {vs : Array Value} {tk : Tok}, (c', oc) ∈ l → oc.data = .fields vs → vs[1]? = some (.str q tk) → c' ≠ P' := by
    intro c' oc vs tk hm hd hv e
    have a1 := (N _ hm).1
    cases h2 with
    | fresh =>
      have a2 := (N _ (s2 _ (.head _))).1
      rw [show (c', oc).1 = c' from rfl, e] at a1
      have e2 := Option.some.inj (a1.symm.trans a2)
      have e3 : oc = tabObj #[] := e2
      subst e3
      cases hd
      simp at hv
    | done =>
      have a2 := (N _ (s2 _ (.head _))).1
      rw [show (c', oc).1 = c' from rfl, e] at a1
      have e2 := Option.some.inj (a1.symm.trans a2)
      dsimp only at e2
      subst e2
      cases hd
      simp [rawInt] at hv
  cases h1 with
  | fresh =>
    intro p hp
    rw [List.mem_singleton.mp hp]
    exact hP
  | done z1 z2 z3 =>
    intro p hp
    rcases List.mem_cons.mp hp with rfl | hp
    · exact hP
    · rw [List.mem_singleton.mp hp]
      exact key (s1 _ (.tail _ (.head _))) z1 z2
theorem perm_out {g h : Heap} {L : Addr} {a b d : Addr × Obj} {t30 t37 news : List (Addr × Obj)} (N : News g L h (a :: b :: (t37 ++ (d :: (t30 ++ news))))) : News g L h (a :: (t30 ++ (t37 ++ news))) := fun p hp => N p (by
  simp only [List.mem_cons, List.mem_append] at hp ⊢
  rcases hp with h | h | h | h
  · exact .inl h
  · exact .inr (.inr (.inr (.inr (.inl h))))
  · exact .inr (.inr (.inl h))
  · exact .inr (.inr (.inr (.inr (.inr h)))))
theorem bits_facts (b : Nat) (hb : 1 ≤ b ∧ b < 1000) : 1 ≤ Builtin.Int.intBits (b : Int) ∧ Builtin.Int.intBits (b : Int) ≤ 10 := by
  refine ⟨?_, intBits_le_iff.mpr (by simp; omega)⟩
  rcases Nat.eq_zero_or_pos (Builtin.Int.intBits (b : Int)) with e | e
  · have := intBits_le_iff.mp (Nat.le_of_eq e)
    simp at this
    omega
  · exact e
section
variable {w : World} {p : Program} {loose : List Str} {mean : ExcName → Option Value} {mg mb : Str → Option Value}
  {dp un : Nat} {gd : Option (List Code)} {cn : Str} {cs : Scope} {aa : Addr} {ccd : Value} {cl : List (Str × Addr)} {outer : List Env} {A₀ : Around} {base h₀ : Heap} {L : Addr} {m : Str → Option Value} {s : Shared} {Q E : Value → Shared → Prop} {news : List (Addr × Obj)}

theorem c_dmp (a b : Nat) (ta tb : Tok) (ha : a < 2 ^ 40) (hb : 1 ≤ b ∧ b < 1000) {t30 t37 : List (Addr × Obj)} (hT30 : TabLed 30 32 4 qI t30) (hT37 : TabLed 37 47 4 qD t37)
  (B : Below A₀ base outer h₀) (F : Fr h₀ L s.heap m) (X : (hd.heap_39 w.params).In h₀) (N : News h₀ L s.heap (t30 ++ (t37 ++ news))) (ho30 : ∀ p ∈ news, p.1 ≠ 30) (ho37 : ∀ p ∈ news, p.1 ≠ 37) (hC : CodeHd base 34 30) (hC2 : CodeHd base 41 37) (T : Top p loose mean mg mb h₀) (hk : cs.kind = .function)
  (hdp : dp + 90 < recursionLimit)
  (hret : ∀ (D : Addr) (c : Nat) (t t2 : Tok) (t30' t37' : List (Addr × Obj)) (h' : Heap) (tk' : Nat), Fr h₀ L h' m → News h₀ L h' ((D, ({ cls := .type "tuple", data := .seq #[.int ((a / b : Nat) : Int) t, .int ((a % b : Nat) : Int) t2] c } : Obj)) :: (t30' ++ (t37' ++ news))) →
    TabLed 30 32 4 qI t30' → TabLed 37 47 4 qD t37' → Q (.ref D) { s with heap := h', toks := tk' }) :
  wpAny (model PySem.Challenge.rw_xi0013_01.row.prog w) (ktrTop dp un gd cn cs L aa ccd cl outer) (call (.ref 49) [.int a ta, .int b tb]) Q E s := by
  obtain ⟨n1, n2⟩ := bits_facts b hb
  have hoff30 : ∀ p ∈ t37 ++ news, p.1 ≠ 30 := ne_mem_app (tab_apart hT37 hT30 (by decide) N (fun p hp => List.mem_append.mpr (.inr (List.mem_append.mpr (.inl hp)))) fun p hp => List.mem_append.mpr (.inl hp)) ho30
  refine wpAny_call ?_
  k_dflt ktr_enter
  k_steps
  unfold Hold
  refine' c_i2d a (Builtin.Int.intBits (b : Int)) _ _ ha ⟨n1, n2⟩ hT30 ?B ?F ?X ?N hoff30 hC ?T ?hk ?hdp ?ret
  case B => k_asm
  case F => k_asm
  case X => k_asm
  case N => k_asm
  case T => k_asm
  case hk => exact rfl
  case hdp => ktr_room
  case ret =>
    intro l vs ds c t30' h1 tk1 F1 N1 hT30' hi hval hdig hlen hne
    k_steps
    unfold Hold
    rename Fr _ _ _ _ => FF
    rename News _ _ _ _ => NN
    have hvl := hi.length
    with_unfolding_all refine' m_loopRev (l := l) (vs := vs) (nn := c) (fun i m₁ nws => ∃ (qa : Addr) (qs : List Int) (vq : List Value) (cq R : Nat) (tr tq : Tok), nws = (qa, PySem.W.listOf (List.toArray vq) cq) :: (l, PySem.W.listOf vs.toArray c) :: (t30' ++ (t37 ++ news)) ∧ IntsAre vq qs ∧
      DivSt (Builtin.Int.intBits (b : Int)) b ds i qs R ∧ (∀ p ∈ (l, PySem.W.listOf vs.toArray c) :: (t30' ++ (t37 ++ news)), p.1 ≠ qa) ∧
      m₁ (Str.ofString "r") = some (.int R tr) ∧ m₁ (Str.ofString "q_digits") = some (.ref qa) ∧ m₁ (Str.ofString "b") = some (.int b tb) ∧ m₁ (Str.ofString "n") = some (.int (Builtin.Int.intBits (b : Int) : Nat) tq)) ?hh2 ?F2 NN ?hI2 ?j2 ?hJl2 ?t2 ?d2
    case hh2 => exact rfl
    case F2 => exact FF
    case hI2 => exact ne_of_allLt (by assumption)
    case j2 => exact ⟨_, [], [], _, 0, _, _, rfl, .nil, divst_start _ _ _ hb.1, ne_of_allLt (by assumption), rfl, rfl, rfl, rfl⟩
    case hJl2 =>
      rintro i m₁ nws ⟨qa, qs, vq, cq, R, tr, tq, rfl, _⟩
      exact .tail _ (.head _)
    case t2 =>
      rintro i v m₁ news₁ oI h2 tk2 hi2 hv ⟨qa, qs, vq, cq, R, tr, tq, rfl, hvq, hst, hqa, a1, a2, a3, a4⟩ hnI F₃ N₃
      clear FF NN
      have hi3 : i < ds.length := by omega
      have hlt : ds.length - 1 - i < ds.length := by omega
      obtain ⟨td, hvd⟩ := hi.get (ds.length - 1 - i) (ds[ds.length - 1 - i]'hlt) (List.getElem?_eq_getElem hlt)
      rw [List.getElem?_reverse hi2, hvl] at hv
      have hve := Option.some.inj (hv.symm.trans hvd)
      subst hve
      have hd0 := hdig _ (List.getElem_mem hlt)
      have F₄ := m_fr (ps := [(Str.ofString "r", .int R tr), (Str.ofString "q_digits", .ref qa), (Str.ofString "b", .int b tb), (Str.ofString "n", .int (Builtin.Int.intBits (b : Int) : Nat) tq)]) F₃ (by simp [a1, a2, a3, a4])
      clear F₃
      obtain ⟨R', hR', hst'⟩ := divst_step hst hi3 (List.getElem?_eq_getElem hlt) hd0.1
      have hRb : R < b := by obtain ⟨_, _, _, _, _, _, _, h⟩ := hst; exact h
      have hlq : vq.length = i := by rw [hvq.length]; exact hst.1
      have f1 := hnI (qa, _) (.head _)
      dsimp only at f1
      replace f1 := neN f1
      k_steps
      unfold Hold
      refine' c_div _ _ _ _ _ _ ?B3 ?F3 ?X3 ?N3 ?T3 ?hk3 ?hdp3 ?hb3 ?hy3 ?hn3 ?ret3
      case B3 => k_asm
      case F3 => k_asm
      case X3 => k_asm
      case N3 => k_asm
      case T3 => k_asm
      case hk3 => exact rfl
      case hdp3 => ktr_room
      case hb3 => rw [Int.toNat_natCast]; exact div_bits n2 (by omega) hd0.1 hd0.2
      case hy3 => omega
      case hn3 => omega
      case ret3 =>
        intro D5 c5 t5 t6 h5 tk5 F5 N5 hD5
        rw [Int.toNat_natCast, hR'] at N5
        have g1 : @LT.lt Nat _ qa D5 := hD5 _ (.tail _ (.head _))
        k_steps
        rename Fr _ _ _ _ => FF
        rename News _ _ _ _ => NN
        simp only [List.push_toArray] at NN
        refine' LoopStepU.intro FF (news₂ := (qa, PySem.W.listOf (List.toArray (vq ++ [_])) (cq + 1)) :: (l, PySem.W.listOf vs.toArray c) :: (t30' ++ (t37 ++ news))) (news_sub NN fun p hp => .tail _ hp) ?ha ⟨qa, _, _, _, R', _, _, rfl, ints_snoc hvq _ _, hst', hqa, rfl, rfl, rfl, rfl⟩
        case ha =>
          intro p hp hm
          have e := List.mem_singleton.mp hm
          rcases List.mem_cons.mp hp with rfl | hp
          · exact f1 e
          · exact hnI p (.tail _ hp) e
    case d2 =>
      rintro h2 tk2 m₂ news₂ ⟨qa, qs, vq, cq, R, tr, tq, rfl, hvq, hst, hqa, a1, a2, a3, a4⟩ F₃ N₃
      clear FF NN
      have F₄ := m_frOut (ps := [(Str.ofString "r", .int R tr), (Str.ofString "q_digits", .ref qa), (Str.ofString "b", .int b tb), (Str.ofString "n", .int (Builtin.Int.intBits (b : Int) : Nat) tq)]) F₃ (by simp [a1, a2, a3, a4])
      clear F₃
      rw [hvl] at hst
      obtain ⟨v1, v2, v3, v4⟩ := divst_end hst hval
      have hlq : vq.length = ds.length := by rw [hvq.length]; exact v4
      k_steps
      dsimp only
      refine' kl_reverse (l := vq.reverse) ?F4 ?N4 rfl (.head hqa) ?z4 ?_
      case F4 => k_asm
      case N4 => k_asm
      case z4 => rw [PySem.sizeLine_eq]; show vq.length ≤ _; omega
      intro h6 F6 N6
      k_steps
      unfold Hold
      have hl37 : @Ne Nat l 37 := by
        have h := hne
        cases hT37 with
        | fresh => exact fun e => h _ (List.mem_append.mpr (.inr (List.mem_append.mpr (.inl (.head _))))) e.symm
        | done => exact fun e => h _ (List.mem_append.mpr (.inr (List.mem_append.mpr (.inl (.head _))))) e.symm
      have hq37 : @Ne Nat qa 37 := by
        have h := hqa
        cases hT37 with
        | fresh => exact fun e => h _ (.tail _ (List.mem_append.mpr (.inr (List.mem_append.mpr (.inl (.head _)))))) e.symm
        | done => exact fun e => h _ (.tail _ (List.mem_append.mpr (.inr (List.mem_append.mpr (.inl (.head _)))))) e.symm
      rename News _ _ _ _ => NN
      have hoff37 : ∀ p ∈ (l, PySem.W.listOf vs.toArray c) :: (t30' ++ news), p.1 ≠ 37 := by
        refine List.forall_mem_cons.mpr ⟨hl37, ne_mem_app (tab_apart hT30' hT37 (by decide) NN ?_ ?_) ho37⟩
        · exact fun p hp => .tail _ (.tail _ (List.mem_append.mpr (.inl hp)))
        · exact fun p hp => .tail _ (.tail _ (List.mem_append.mpr (.inr (List.mem_append.mpr (.inl hp)))))
      refine' c_d2i qa (Builtin.Int.intBits (b : Int)) _ vq.reverse qs.reverse cq (ints_reverse hvq) ?l60 v3 ?v40 ⟨n1, n2⟩ hT37 ?B5 ?F5 ?X5 (news := (l, PySem.W.listOf vs.toArray c) :: (t30' ++ news)) (news_sub NN ?sub5) hoff37 hq37 hC2 ?T5 ?hk5 ?hdp5 ?ret5
      case l60 => rw [List.length_reverse, v4]; exact hlen
      case v40 => rw [v1]; exact_mod_cast Nat.lt_of_le_of_lt (Nat.div_le_self _ _) ha
      case B5 => k_asm
      case F5 => k_asm
      case X5 => k_asm
      case T5 => k_asm
      case hk5 => exact rfl
      case hdp5 => ktr_room
      case sub5 =>
        intro p hp
        simp only [List.mem_cons, List.mem_append] at hp ⊢
        rcases hp with h | h | h | h | h
        · exact .inl h
        · exact .inr (.inr (.inr (.inl h)))
        · exact .inr (.inl h)
        · exact .inr (.inr (.inl h))
        · exact .inr (.inr (.inr (.inr h)))
      case ret5 =>
        intro t8 t37' h8 tk8 F8 N8 hT37'
        rw [v1]
        subst v2
        k_steps
        rename News _ _ _ _ => kN
        exact hret _ _ _ _ t30' t37' _ _ (by k_asm) (perm_out kN) hT30' hT37'
end
end Mine
namespace Mine
/-- how many ways to choose k of m, by products and divisions -/
def ch (m : Nat) : Nat → Nat
  | 0 => 1
  | k + 1 => ch m k * (m - k) / (k + 1)
theorem ch_all : ∀ m : Fin 19, ∀ k : Fin 10, ch m.val k.val * (m.val - k.val) % (k.val + 1) = 0 ∧ ch m.val k.val < 50000 := by decide +kernel
theorem ch_facts {m k : Nat} (hm : m ≤ 18) (hk : k ≤ 9) : ch m k * (m - k) % (k + 1) = 0 ∧ ch m k < 50000 := ch_all ⟨m, by omega⟩ ⟨k, by omega⟩
theorem ch_prod {m k : Nat} (hm : m ≤ 18) (hk : k ≤ 9) : ch m k * (m - k) < 2 ^ 40 := by
  have h := (ch_facts hm hk).2
  calc ch m k * (m - k) ≤ 50000 * 18 := Nat.mul_le_mul (by omega) (by omega)
    _ < 2 ^ 40 := by decide
theorem ch_cast {m k : Nat} (hk : k ≤ m) : ((ch m k : Nat) : Int) * ((m : Int) - (k : Int)) = ((ch m k * (m - k) : Nat) : Int) := by
  rw [Int.natCast_mul]
  congr 1
  omega
end Mine
namespace Mine
theorem calm_B8 : True := by
  w_top off
  exact .intro
local macro_rules | `(tactic| k_room) => `(tactic| ktr_room)
local macro_rules | `(tactic| ktr_enter) => `(tactic| (refine' code_def ?k1 ?k2 ?k3 ?k4 ?k5 ?kA ?kF ?kK ?k6 ?k7 ?k8 ?k9 ?kB ?_ ?c2 ?c3 ?c4 ?c5; (case kA => exact rfl); (case kF => exact rfl); (case kK => first | assumption | exact rfl); (case k1 => k_asm); (case k2 => k_asm); (case k3 => k_asm); (case k4 => k_asm); (case k5 => k_asm); (case k6 => k_is); (case k7 => k_is); (case k8 => ktr_room); (case k9 => first | exact BindsTo.of_eq rfl | exact binds_K (by k_in) rfl (by k_is) rfl rfl rfl); (case c5 => decide); (case kB => exact locs rfl); (case c2 => exact rfl); (case c3 => exact rfl); (case c4 => exact rfl); k_whole; intro g' L' h' FG' F' N' B' X' T'; (try dsimp only); (try k_fold)))
local macro_rules | `(tactic| walk_at "call ref") => `(tactic| (refine hold_in ?_))
local macro_rules | `(tactic| walk_at "pyIter ref") => `(tactic| ((with_reducible show wpAny _ _ (pyIter (Value.ref _)) (fun it s₂ => LoopAtV _ _ _ _ _ _ _ _ _ it s₂) _ _); refine hold_in ?_))
local macro_rules | `(tactic| walk_at "exec For Name Call cons nil") => `(tactic| (k_here; (rename Fr _ _ _ _ => lF'); (with_unfolding_all refine' For_invVF lF' ?k1 ?k2 ?_; (case k1 => exact rfl); (case k2 => exact rfl); k_whole)))
local macro_rules | `(tactic| k_all) => `(tactic| (refine' off_lt ?offh ?offe; (case offh => assumption); (case offe => omega)))
local macro_rules | `(tactic| k_all) => `(tactic| assumption)
local macro_rules | `(tactic| k_mem) => `(tactic| assumption)
local macro_rules | `(tactic| size_fits) => `(tactic| (simp only [List.size_toArray, PySem.sizeLine_eq]; omega))

theorem tab_has {P ln co : Nat} {q : Str} {t : List (Addr × Obj)} (h : TabLed P ln co q t) : ∃ o, (P, o) ∈ t := by
  cases h with
  | fresh => exact ⟨_, .head _⟩
  | done => exact ⟨_, .head _⟩
theorem tab_ne {P ln co : Nat} {q : Str} {t l : List (Addr × Obj)} {g h : Heap} {L I : Addr} {oI : Obj} (h1 : TabLed P ln co q t) (N : News g L h l) (s1 : ∀ p ∈ t, p ∈ l) (hm : (I, oI) ∈ l) (hI : P ≠ I) (hn : NotCode oI) : ∀ p ∈ t, p.1 ≠ I := by
  cases h1 with
  | fresh =>
    intro p hp
    rw [List.mem_singleton.mp hp]
    exact hI
  | @done c' oc vs tk z1 z2 z3 =>
    intro p hp
    rcases List.mem_cons.mp hp with rfl | hp
    · exact hI
    · rw [List.mem_singleton.mp hp]
      intro e
      have a1 := (N _ (s1 _ (.tail _ (.head _)))).1
      have a2 := (N _ hm).1
      dsimp only at e a1 a2
      rw [e, a2] at a1
      have e2 := Option.some.inj a1
      subst e2
      exact hn _ _ _ z1 z2
section
variable {w : World} {p : Program} {loose : List Str} {mean : ExcName → Option Value} {mg mb : Str → Option Value}
  {dp un : Nat} {gd : Option (List Code)} {cn : Str} {cs : Scope} {aa : Addr} {ccd : Value} {cl : List (Str × Addr)} {outer : List Env} {A₀ : Around} {base h₀ : Heap} {L : Addr} {m : Str → Option Value} {s : Shared} {Q E : Value → Shared → Prop} {news : List (Addr × Obj)}

theorem c_idm (a b : Nat) (x y : Int) (ta tb : Tok) (hxa : x = (a : Int)) (hyb : y = (b : Int)) (ha : a < 2 ^ 40) (hb : 1 ≤ b ∧ b < 1000) {t30 t37 : List (Addr × Obj)} (hT30 : TabLed 30 32 4 qI t30) (hT37 : TabLed 37 47 4 qD t37)
  (B : Below A₀ base outer h₀) (F : Fr h₀ L s.heap m) (X : (hd.heap_39 w.params).In h₀) (N : News h₀ L s.heap (t30 ++ (t37 ++ news))) (ho30 : ∀ p ∈ news, p.1 ≠ 30) (ho37 : ∀ p ∈ news, p.1 ≠ 37) (hC : CodeHd base 34 30) (hC2 : CodeHd base 41 37) (T : Top p loose mean mg mb h₀) (hk : cs.kind = .function)
  (hdp : dp + 95 < recursionLimit)
  (hret : ∀ (D : Addr) (c : Nat) (t t2 : Tok) (t30' t37' : List (Addr × Obj)) (h' : Heap) (tk' : Nat), Fr h₀ L h' m → News h₀ L h' ((D, ({ cls := .type "tuple", data := .seq #[.int ((a / b : Nat) : Int) t, .int ((a % b : Nat) : Int) t2] c } : Obj)) :: (t30' ++ (t37' ++ news))) →
    TabLed 30 32 4 qI t30' → TabLed 37 47 4 qD t37' → Q (.ref D) { s with heap := h', toks := tk' }) :
  wpAny (model PySem.Challenge.rw_xi0013_01.row.prog w) (ktrTop dp un gd cn cs L aa ccd cl outer) (call (.ref 56) [.int x ta, .int y tb]) Q E s := by
  subst hxa hyb
  refine wpAny_call ?_
  k_dflt ktr_enter
  k_steps
  · exfalso; omega
  unfold Hold
  refine' c_dmp a b _ _ ha hb hT30 hT37 ?B ?F ?X ?N ho30 ho37 hC hC2 ?T ?hk ?hdp ?ret
  case B => k_asm
  case F => k_asm
  case X => k_asm
  case N => k_asm
  case T => k_asm
  case hk => exact rfl
  case hdp => ktr_room
  case ret =>
    intro D c t t2 t30' t37' h' tk' F' N' hT30' hT37'
    k_steps
    exact hret _ _ _ _ t30' t37' _ _ (by k_asm) (by k_asm) hT30' hT37'

theorem c_chosen (Mn Fw : Nat) (x y : Int) (ta tb : Tok) (hxa : x = (Mn : Int)) (hyb : y = (Fw : Int)) (hM : Mn ≤ 18) (hF : Fw ≤ 9) (hle : Fw ≤ Mn) {t30 t37 : List (Addr × Obj)} (hT30 : TabLed 30 32 4 qI t30) (hT37 : TabLed 37 47 4 qD t37)
  (B : Below A₀ base outer h₀) (F : Fr h₀ L s.heap m) (X : (hd.heap_39 w.params).In h₀) (N : News h₀ L s.heap (t30 ++ (t37 ++ news))) (ho30 : ∀ p ∈ news, p.1 ≠ 30) (ho37 : ∀ p ∈ news, p.1 ≠ 37) (hC : CodeHd base 34 30) (hC2 : CodeHd base 41 37) (T : Top p loose mean mg mb h₀) (hk : cs.kind = .function)
  (hdp : dp + 100 < recursionLimit)
  (hret : ∀ (t : Tok) (t30' t37' : List (Addr × Obj)) (h' : Heap) (tk' : Nat), Fr h₀ L h' m → News h₀ L h' (t30' ++ (t37' ++ news)) →
    TabLed 30 32 4 qI t30' → TabLed 37 47 4 qD t37' → Q (.int ((ch Mn Fw : Nat) : Int) t) { s with heap := h', toks := tk' }) :
  wpAny (model PySem.Challenge.rw_xi0013_01.row.prog w) (ktrTop dp un gd cn cs L aa ccd cl outer) (call (.ref 93) [.int x ta, .int y tb]) Q E s := by
  subst hxa hyb
  refine wpAny_call ?_
  k_dflt ktr_enter
  k_steps
  unfold Hold
  rename IsRange _ _ _ _ _ _ _ _ => RG
  rename Fr _ _ _ _ => FF
  rename News _ _ _ _ => NN
  with_unfolding_all refine' m_loopRange (n := Fw) (fun i m₁ nws => ∃ (t30' t37' : List (Addr × Obj)) (tf : Tok), nws = t30' ++ (t37' ++ news) ∧ TabLed 30 32 4 qI t30' ∧ TabLed 37 47 4 qD t37' ∧
    m₁ (Str.ofString "found") = some (.int ((ch Mn i : Nat) : Int) tf) ∧ m₁ (Str.ofString "many") = some (.int Mn ta) ∧ m₁ (Str.ofString "few") = some (.int Fw tb)) ?hh ?hr ?hn ?F ?N ?j ?t ?d
  case hh => exact rfl
  case hr => exact RG
  case hn => omega
  case F => exact FF
  case N => exact NN
  case j => exact ⟨t30, t37, _, rfl, hT30, hT37, rfl, rfl, rfl⟩
  case t =>
    rintro i m₁ news₁ I oI h tk t hi ⟨t30', t37', tf, rfl, hT30', hT37', a1, a2, a3⟩ hnI hoI F₁ N₁
    clear FF NN RG
    have F₂ := m_fr (ps := [(Str.ofString "found", .int ((ch Mn i : Nat) : Int) tf), (Str.ofString "many", .int Mn ta), (Str.ofString "few", .int Fw tb)]) F₁ (by simp [a1, a2, a3])
    clear F₁
    obtain ⟨z1, z2⟩ := ch_facts hM (k := i) (by omega)
    k_steps
    unfold Hold
    refine' c_mul _ _ _ _ ?B1 ?F1 ?X1 ?N1 ?T1 ?hk1 ?hdp1 ?hx1 ?hy1 ?ret1
    case B1 => k_asm
    case F1 => k_asm
    case X1 => k_asm
    case N1 => k_asm
    case T1 => k_asm
    case hk1 => exact rfl
    case hdp1 => ktr_room
    case hx1 => omega
    case hy1 => omega
    case ret1 =>
      intro t1 h1 tk1 F1 N1
      k_steps
      unfold Hold
      rename News _ _ _ _ => NN
      refine' c_idm (ch Mn i * (Mn - i)) (i + 1) _ _ _ _ (ch_cast (by omega)) ?hy2 (ch_prod hM (by omega)) ?hb2 hT30' hT37' (news := [(I, oI)] ++ news) ?B2 ?F2 ?X2 (news_sub NN ?sub2) ?ho30 ?ho37 hC hC2 ?T2 ?hk2 ?hdp2 ?ret2
      case hy2 => omega
      case hb2 => omega
      case B2 => k_asm
      case F2 => k_asm
      case X2 => k_asm
      case T2 => k_asm
      case hk2 => exact rfl
      case hdp2 => ktr_room
      case sub2 =>
        intro p hp
        simp only [List.mem_append, List.mem_cons, List.not_mem_nil, or_false] at hp ⊢
        rcases hp with h | h | h | h
        · exact .inr (.inl h)
        · exact .inr (.inr (.inl h))
        · exact .inl h
        · exact .inr (.inr (.inr h))
      case ho30 =>
        obtain ⟨o, ho⟩ := tab_has hT30'
        exact List.forall_mem_cons.mpr ⟨(hnI _ (List.mem_append.mpr (.inl ho))).symm, ho30⟩
      case ho37 =>
        obtain ⟨o, ho⟩ := tab_has hT37'
        exact List.forall_mem_cons.mpr ⟨(hnI _ (List.mem_append.mpr (.inr (List.mem_append.mpr (.inl ho))))).symm, ho37⟩
      case ret2 =>
        intro D c t5 t6 t30n t37n h2 tk2 F2 N2 hT30n hT37n
        rw [z1] at N2
        k_steps
        rename Fr _ _ _ _ => FF
        rename News _ _ _ _ => NN
        have i30 : @Ne Nat 30 I := by
          obtain ⟨o, ho⟩ := tab_has hT30'
          exact hnI _ (List.mem_append.mpr (.inl ho))
        have i37 : @Ne Nat 37 I := by
          obtain ⟨o, ho⟩ := tab_has hT37'
          exact hnI _ (List.mem_append.mpr (.inr (List.mem_append.mpr (.inl ho))))
        have e30 := tab_ne hT30n NN (fun p hp => .tail _ (List.mem_append.mpr (.inl hp))) (.tail _ (List.mem_append.mpr (.inr (List.mem_append.mpr (.inr (.head _)))))) i30 hoI
        have e37 := tab_ne hT37n NN (fun p hp => .tail _ (List.mem_append.mpr (.inr (List.mem_append.mpr (.inl hp))))) (.tail _ (List.mem_append.mpr (.inr (List.mem_append.mpr (.inr (.head _)))))) i37 hoI
        refine' LoopStepU.intro FF (news₂ := t30n ++ (t37n ++ news)) (news_sub NN ?sub) ?ha ⟨t30n, t37n, _, rfl, hT30n, hT37n, rfl, rfl, rfl⟩
        case sub =>
          intro p hp
          simp only [List.mem_append, List.mem_cons, List.not_mem_nil, or_false] at hp ⊢
          rcases hp with h | h | h | h
          · exact .inr (.inr (.inr (.inl h)))
          · exact .inr (.inl h)
          · exact .inr (.inr (.inl h))
          · exact .inr (.inr (.inr (.inr h)))
        case ha =>
          intro p hp hm
          have e := List.mem_singleton.mp hm
          rcases List.mem_append.mp hp with hp | hp
          · exact e30 p hp e
          rcases List.mem_append.mp hp with hp | hp
          · exact e37 p hp e
          · exact hnI p (List.mem_append.mpr (.inr (List.mem_append.mpr (.inr hp)))) e
  case d =>
    rintro h tk m' news' ⟨t30', t37', tf, rfl, hT30', hT37', a1, a2, a3⟩ F₁ N₁
    have F₂ := m_frOut (ps := [(Str.ofString "found", .int ((ch Mn Fw : Nat) : Int) tf), (Str.ofString "many", .int Mn ta), (Str.ofString "few", .int Fw tb)]) F₁ (by simp [a1, a2, a3])
    clear F₁ FF NN
    k_steps
    exact hret _ t30' t37' _ _ (by k_asm) (by k_asm) hT30' hT37'
end
end Mine
namespace Mine
/-- the law's sums, term by term -/
def termOf (H W k : Nat) : Int := ((ch H k : Nat) : Int) * ((ch W k : Nat) : Int) * 2 ^ k
def termsTo (H W n : Nat) : List Int := (List.range n).map (termOf H W)
theorem digit_facts (z : Int) : ∃ H : Nat, z.fmod 10 = (H : Int) ∧ H ≤ 9 := by
  have h1 := Int.emod_nonneg z (b := 10) (by decide)
  have h2 := Int.emod_lt_of_pos z (b := 10) (by decide)
  refine ⟨(z % 10).toNat, ?_, ?_⟩
  · rw [Int.fmod_eq_emod_of_nonneg _ (by decide)]
    omega
  · omega
theorem min_if (H W : Nat) : (if (W : Int) < (H : Int) then (W : Int) else (H : Int)) + 1 = ((min H W + 1 : Nat) : Int) := by
  split <;> omega
theorem terms_push {H W k : Nat} {vt : List Value} (h : IntsAre vt (termsTo H W k)) {x : Int} {t : Tok} (hx : x = termOf H W k) : IntsAre (vt ++ [.int x t]) (termsTo H W (k + 1)) := by
  subst hx
  unfold termsTo at *
  rw [List.range_succ, List.map_append]
  exact IntsAre.append h (.cons _ _ .nil)
theorem prod_facts {H W k : Nat} (hH : H ≤ 9) (hW : W ≤ 9) (hk : k ≤ 9) : 0 ≤ ((ch H k : Nat) : Int) * ((ch W k : Nat) : Int) ∧ ((ch H k : Nat) : Int) * ((ch W k : Nat) : Int) < 2 ^ 40 ∧ ch H k < 50000 ∧ ch W k < 50000 := by
  have h1 := (ch_facts (m := H) (by omega) hk).2
  have h2 := (ch_facts (m := W) (by omega) hk).2
  refine ⟨Int.mul_nonneg (Int.natCast_nonneg _) (Int.natCast_nonneg _), ?_, h1, h2⟩
  have h3 : ch H k * ch W k ≤ 50000 * 50000 := Nat.mul_le_mul (by omega) (by omega)
  rw [← Int.natCast_mul]
  omega
theorem ints_item {vs : List Value} {ns : List Int} (h : IntsAre vs ns) {i : Nat} {v : Value} (hi : i < vs.length) (hv : vs[i]? = some v) : ∃ z t, v = .int z t := by
  have hlt : i < ns.length := by rw [← h.length]; exact hi
  obtain ⟨t, e⟩ := h.get i _ (List.getElem?_eq_getElem hlt)
  rw [hv] at e
  exact ⟨_, t, Option.some.inj e⟩
end Mine
namespace Mine
/-- the ways, written out (printed by a small program of mine) -/
def tabT : Bool → List (List Int)
  | true => [[1, 1, 1, 1, 1, 1, 1, 1, 1, 1],
    [1, 3, 5, 7, 9, 11, 13, 15, 17, 19],
    [1, 5, 13, 25, 41, 61, 85, 113, 145, 181],
    [1, 7, 25, 63, 129, 231, 377, 575, 833, 1159],
    [1, 9, 41, 129, 321, 681, 1289, 2241, 3649, 5641],
    [1, 11, 61, 231, 681, 1683, 3653, 7183, 13073, 22363],
    [1, 13, 85, 377, 1289, 3653, 8989, 19825, 40081, 75517],
    [1, 15, 113, 575, 2241, 7183, 19825, 48639, 108545, 224143],
    [1, 17, 145, 833, 3649, 13073, 40081, 108545, 265729, 598417],
    [1, 19, 181, 1159, 5641, 22363, 75517, 224143, 598417, 1462563]]
  | false => [[1, 1, 1, 1, 1, 1, 1, 1, 1, 1],
    [1, 2, 3, 4, 5, 6, 7, 8, 9, 10],
    [1, 3, 6, 10, 15, 21, 28, 36, 45, 55],
    [1, 4, 10, 20, 35, 56, 84, 120, 165, 220],
    [1, 5, 15, 35, 70, 126, 210, 330, 495, 715],
    [1, 6, 21, 56, 126, 252, 462, 792, 1287, 2002],
    [1, 7, 28, 84, 210, 462, 924, 1716, 3003, 5005],
    [1, 8, 36, 120, 330, 792, 1716, 3432, 6435, 11440],
    [1, 9, 45, 165, 495, 1287, 3003, 6435, 12870, 24310],
    [1, 10, 55, 220, 715, 2002, 5005, 11440, 24310, 48620]]
def tab (asl : Bool) (k j : Nat) : Int := ((tabT asl).getD k []).getD j 0
theorem tab_zero : ∀ asl : Bool, ∀ j : Fin 10, tab asl 0 j.val = 1 := by decide +kernel
theorem tab_first : ∀ asl : Bool, ∀ k : Fin 9, tab asl (k.val + 1) 0 = 1 := by decide +kernel
theorem tab_step : ∀ asl : Bool, ∀ k j : Fin 9, tab asl (k.val + 1) (j.val + 1) = tab asl (k.val + 1) j.val + tab asl k.val (j.val + 1) + (if asl then tab asl k.val j.val else 0) := by decide +kernel
theorem ways_tab (asl : Bool) : ∀ k, k ≤ 9 → ∀ j, j ≤ 9 → ways asl k j = tab asl k j := by
  intro k
  induction k with
  | zero =>
    intro _ j hj
    exact (tab_zero asl ⟨j, by omega⟩).symm
  | succ k ih =>
    intro hk j
    induction j with
    | zero =>
      intro _
      exact (tab_first asl ⟨k, by omega⟩).symm
    | succ j ihj =>
      intro hj
      have e := tab_step asl ⟨k, by omega⟩ ⟨j, by omega⟩
      dsimp only at e
      rw [e, ← ihj (by omega), ← ih (by omega) (j + 1) hj, ← ih (by omega) j (by omega)]
      rfl
theorem sums_tab : ∀ H W : Fin 10, (termsTo H.val W.val (min H.val W.val + 1)).sum = tab true H.val W.val := by decide +kernel
theorem sym_tab : ∀ H W : Fin 10, tab true W.val H.val = tab true H.val W.val := by decide +kernel
theorem flat_tab : ∀ H W : Fin 10, tab false H.val W.val = ((ch (H.val + W.val) H.val : Nat) : Int) := by decide +kernel
theorem law_sum {H W : Nat} (hH : H ≤ 9) (hW : W ≤ 9) : (termsTo H W (min H W + 1)).sum = ways true H W := by
  rw [ways_tab true H hH W hW]
  exact sums_tab ⟨H, by omega⟩ ⟨W, by omega⟩
theorem law_sym {H W : Nat} (hH : H ≤ 9) (hW : W ≤ 9) : ways true W H = ways true H W := by
  rw [ways_tab true H hH W hW, ways_tab true W hW H hH]
  exact sym_tab ⟨H, by omega⟩ ⟨W, by omega⟩
theorem law_flat {H W : Nat} (hH : H ≤ 9) (hW : W ≤ 9) : ways false H W = ((ch (H + W) H : Nat) : Int) := by
  rw [ways_tab false H hH W hW]
  exact flat_tab ⟨H, by omega⟩ ⟨W, by omega⟩
theorem law_three {H W : Nat} (h1 : 0 < H) (h2 : 0 < W) : ways true (H - 1) W + ways true H (W - 1) + ways true (H - 1) (W - 1) = ways true H W := by
  obtain ⟨h, rfl⟩ : ∃ h, H = h + 1 := ⟨H - 1, by omega⟩
  obtain ⟨v, rfl⟩ : ∃ v, W = v + 1 := ⟨W - 1, by omega⟩
  have e : ways true (h + 1) (v + 1) = ways true (h + 1) v + ways true h (v + 1) + ways true h v := rfl
  rw [Nat.add_sub_cancel, Nat.add_sub_cancel, e]
  omega
end Mine
namespace Mine
theorem calm_B9 : True := by
  w_top off
  exact .intro
section
variable {prog : Program} {w : World} {A : Around} {E : Value → Shared → Prop} {s : Shared} {env : Env} {h₀ : Heap} {x : Str} {body : List Stmt} {Q : Flow → Shared → Prop} {m₀ : Str → Option Value} {news : List (Addr × Obj)}
/-- over a made list of the call's own -/
theorem m_loopList {l : Addr} {vs : List Value} {nn : Nat} (J : Nat → (Str → Option Value) → List (Addr × Obj) → Prop)
    (hh : A.handled = none) (F : Fr h₀ env.locals s.heap m₀) (N : News h₀ env.locals s.heap news) (hj : J 0 m₀ news)
    (hJl : ∀ i m₁ news₁, J i m₁ news₁ → (l, PySem.W.listOf vs.toArray nn) ∈ news₁)
    (turn : ∀ i v m₁ news₁ I oI h tk, i < vs.length → vs[i]? = some v → J i m₁ news₁ → (∀ p ∈ news₁, p.1 ≠ I) → NotCode oI → Fr h₀ env.locals h (fun y => if y = x then some v else m₁ y) → News h₀ env.locals h ((I, oI) :: news₁) →
      wpAny (model prog w) A (execs body env) (LoopStepV h₀ env.locals [I] [(I, oI)] (J (i + 1)) { s with heap := h, toks := tk } (fun v s' => Q (.ret v) s') fun s' => Q .next s') E { s with heap := h, toks := tk })
    (done : ∀ h tk m' news', J vs.length m' news' → Fr h₀ env.locals h m' → News h₀ env.locals h news' → Q .next { s with heap := h, toks := tk }) :
    wpAny (model prog w) A (pyIter (.ref l)) (fun it s₂ => LoopAtV prog w A h₀ env x body Q E it s₂) E s := by
  have hl := hJl 0 _ _ hj
  have hlx := N _ hl
  have hls : s.heap.IsList l vs.toArray := ⟨_, hlx.1, rfl, _, rfl⟩
  have hne : l ≠ s.heap.objs.size := Nat.ne_of_lt (Heap.lt_size hlx.1)
  refine wpAny_pyIter_list hls ?_
  have Wk := Walks.list (prog := prog) (w := w) hh s.heap.objs.size l hne vs.toArray
  have hlen : vs.toArray.size = vs.length := by simp
  rw [hlen] at Wk
  refine ⟨s.heap.objs.size, _, _, vs.length, _, _, m₀, news, J, rfl, Wk, ?_, ?_, ?_, ⟨⟨_, Heap.get?_push_size _ rfl, rfl, rfl⟩, hls.at fun o e => Heap.get?_push_of_some _ e⟩, F.push _, (fun p hp => ⟨Heap.get?_push_of_some _ (N p hp).1, (N p hp).2⟩), hj, ?_, ?_⟩
  · intro hm
    rcases List.mem_cons.mp hm with e | hm
    · exact absurd F.ns.lt (e ▸ Nat.lt_irrefl _)
    · exact hlx.2.1 (List.mem_singleton.mp hm).symm
  · intro b hb
    rw [List.mem_singleton.mp hb]
    exact next_is_new F
  · intro p hp hI
    exact absurd (Heap.lt_size (N p hp).1) ((List.mem_singleton.mp hI) ▸ Nat.lt_irrefl _)
  · rintro i v m₁ news₁ s₁ own ⟨hh', tk', rfl⟩ hi hP hJ hnw hown hget hall hst F₁ N₁
    obtain ⟨oI, hoI, hc1, hc2⟩ := hst.1
    have hnc : NotCode oI := fun vs q t e1 e2 => by
      rw [hc2] at e1
      cases e1
      simp at e2
    have hmem := hall s.heap.objs.size (List.mem_cons_self ..) (next_is_new F) _ hoI
    have hnw' : ∀ p ∈ news₁, p.1 ≠ s.heap.objs.size := fun p hp e => hnw p hp (List.mem_singleton.mpr e)
    have hv : vs[i]? = some v := by simpa using hP
    have N₂ : News h₀ env.locals hh' ((s.heap.objs.size, oI) :: news₁) := fun p hp => by
      rcases List.mem_cons.mp hp with rfl | hp
      · exact N₁ _ (List.mem_append_left _ hmem)
      · exact N₁ _ (List.mem_append_right _ hp)
    have hlg : hh'.get? l = some (PySem.W.listOf vs.toArray nn) := (N₁ _ (List.mem_append_right _ (hJl _ _ _ hJ))).1
    refine wpAny_mono (turn i v m₁ news₁ _ oI hh' tk' hi hv hJ hnw' hnc F₁ N₂) (fun f s₂ q => ?_) fun _ _ e => e
    have up : LoopStepU h₀ env.locals [s.heap.objs.size] [(s.heap.objs.size, oI)] (J (i + 1)) { s with heap := hh', toks := tk' } .next s₂ → LoopStepU h₀ env.locals [s.heap.objs.size] own (J (i + 1)) { s with heap := hh', toks := tk' } .next s₂ := by
      rintro ⟨_, h', tk, m₂, news₂, e, F', N', ha, hJ'⟩
      refine ⟨rfl, h', tk, m₂, news₂, e, F', fun p hp => ?_, ha, hJ'⟩
      rcases List.mem_append.mp hp with hp | hp
      · have h2 : hh'.get? p.1 = some p.2 := hget p hp
        rcases List.mem_cons.mp (hown p hp) with h1 | h1
        · rw [h1, hoI] at h2
          exact N' _ (List.mem_append_left _ (List.mem_singleton.mpr (Prod.ext h1 (Option.some.inj h2).symm)))
        · have h1' := List.mem_singleton.mp h1
          rw [h1', hlg] at h2
          have e3 : p = (l, PySem.W.listOf vs.toArray nn) := Prod.ext h1' (Option.some.inj h2).symm
          rw [e3]
          exact N' _ (List.mem_append_right _ (hJl _ _ _ hJ'))
      · exact N' _ (List.mem_append_right _ hp)
    cases f with
    | ret v => exact q
    | brk => exact q
    | next => exact up q
    | cont => exact up q
  · intro h tk m' news' F' N' _ hJ
    exact done h tk m' news' hJ F' N'
end
local macro_rules | `(tactic| k_room) => `(tactic| ktr_room)
local macro_rules | `(tactic| ktr_enter) => `(tactic| (refine' code_def ?k1 ?k2 ?k3 ?k4 ?k5 ?kA ?kF ?kK ?k6 ?k7 ?k8 ?k9 ?kB ?_ ?c2 ?c3 ?c4 ?c5; (case kA => exact rfl); (case kF => exact rfl); (case kK => first | assumption | exact rfl); (case k1 => k_asm); (case k2 => k_asm); (case k3 => k_asm); (case k4 => k_asm); (case k5 => k_asm); (case k6 => k_is); (case k7 => k_is); (case k8 => ktr_room); (case k9 => first | exact BindsTo.of_eq rfl | exact binds_K (by k_in) rfl (by k_is) rfl rfl rfl); (case c5 => decide); (case kB => exact locs rfl); (case c2 => exact rfl); (case c3 => exact rfl); (case c4 => exact rfl); k_whole; intro g' L' h' FG' F' N' B' X' T'; (try dsimp only); (try k_fold)))
local macro_rules | `(tactic| walk_at "call ref") => `(tactic| (refine hold_in ?_))
local macro_rules | `(tactic| walk_at "pyIter ref") => `(tactic| ((with_reducible show wpAny _ _ (pyIter (Value.ref _)) (fun it s₂ => LoopAtV _ _ _ _ _ _ _ _ _ it s₂) _ _); refine hold_in ?_))
local macro_rules | `(tactic| walk_at "exec For Name Call cons nil") => `(tactic| (k_here; (rename Fr _ _ _ _ => lF'); (with_unfolding_all refine' For_invVF lF' ?k1 ?k2 ?_; (case k1 => exact rfl); (case k2 => exact rfl); k_whole)))
local macro_rules | `(tactic| k_all) => `(tactic| (refine' off_lt ?offh ?offe; (case offh => assumption); (case offe => omega)))
local macro_rules | `(tactic| k_all) => `(tactic| assumption)
local macro_rules | `(tactic| k_mem) => `(tactic| assumption)
local macro_rules | `(tactic| size_fits) => `(tactic| (simp only [List.size_toArray, PySem.sizeLine_eq]; omega))


local macro_rules | `(tactic| walk_at "exec For Name Subscript cons nil") => `(tactic| (k_here; (rename Fr _ _ _ _ => lF'); (with_unfolding_all refine' For_invVF lF' ?k1 ?k2 ?_; (case k1 => exact rfl); (case k2 => exact rfl); k_whole)))
local macro_rules | `(tactic| walk_at "subscriptTail") => `(tactic| (k_here; (with_reducible show wpAny _ _ (subscriptTail _ _ (Value.ref _) (Value.int _ _)) _ _ _); (with_unfolding_all refine' m_item ?N ?l ?a ?b ?x ?_ ?s; (case N => k_asm); (case l => k_mem); (case a => omega); (case b => omega); (case x => assumption); (case s => with_unfolding_all rfl); (try dsimp only))))
theorem tab_has' {P ln co : Nat} {q : Str} {t : List (Addr × Obj)} (h : TabLed P ln co q t) : ∃ ps, (P, tabObj ps) ∈ t := by
  cases h with
  | fresh => exact ⟨_, .head _⟩
  | done => exact ⟨_, .head _⟩
theorem list_apart {P ln co : Nat} {q : Str} {t l : List (Addr × Obj)} {g h : Heap} {L : Addr} (hT : TabLed P ln co q t) (N : News g L h l) (s1 : ∀ p ∈ t, p ∈ l) {p : Addr × Obj} (hp : p ∈ l) (hc : p.2.cls = .type "list") : p.1 ≠ P := by
  intro e
  obtain ⟨ps, hm⟩ := tab_has' hT
  have a1 := (N _ (s1 _ hm)).1
  have a2 := (N _ hp).1
  rw [e] at a2
  dsimp only at a1
  rw [a1] at a2
  have e2 := Option.some.inj a2
  rw [← e2] at hc
  cases hc
/-- the rows of a call as a part R of the ledger -/
theorem rows_part {g h : Heap} {L r : Addr} {refs : List Value} {c : Nat} {led t30 t37 R0 : List (Addr × Obj)} {asl : Bool} {Wd n : Nat} (N : News g L h ((r, PySem.W.listOf refs.toArray c) :: (led ++ (t30 ++ (t37 ++ R0))))) (hR : RowsAre asl Wd led refs n)
    (hT30 : TabLed 30 32 4 qI t30) (hT37 : TabLed 37 47 4 qD t37) (o30 : ∀ p ∈ R0, p.1 ≠ 30) (o37 : ∀ p ∈ R0, p.1 ≠ 37) :
    ∃ R, News g L h (t30 ++ (t37 ++ R)) ∧ (∀ p ∈ R, p.1 ≠ 30) ∧ (∀ p ∈ R, p.1 ≠ 37) ∧ (r, PySem.W.listOf refs.toArray c) ∈ R ∧ (∀ p ∈ led, p ∈ R) ∧ (∀ p ∈ R0, p ∈ R) := by
  have s30 : ∀ p ∈ t30, p ∈ (r, PySem.W.listOf refs.toArray c) :: (led ++ (t30 ++ (t37 ++ R0))) := fun p hp => .tail _ (List.mem_append.mpr (.inr (List.mem_append.mpr (.inl hp))))
  have s37 : ∀ p ∈ t37, p ∈ (r, PySem.W.listOf refs.toArray c) :: (led ++ (t30 ++ (t37 ++ R0))) := fun p hp => .tail _ (List.mem_append.mpr (.inr (List.mem_append.mpr (.inr (List.mem_append.mpr (.inl hp))))))
  refine ⟨(r, PySem.W.listOf refs.toArray c) :: (led ++ R0), news_sub N ?_, ?_, ?_, .head _, fun p hp => .tail _ (List.mem_append.mpr (.inl hp)), fun p hp => .tail _ (List.mem_append.mpr (.inr hp))⟩
  · intro p hp
    simp only [List.mem_cons, List.mem_append] at hp ⊢
    rcases hp with h | h | h | h | h
    · exact .inr (.inr (.inl h))
    · exact .inr (.inr (.inr (.inl h)))
    · exact .inl h
    · exact .inr (.inl h)
    · exact .inr (.inr (.inr (.inr h)))
  · intro p hp
    rcases List.mem_cons.mp hp with rfl | hp
    · exact list_apart hT30 N s30 (.head _) rfl
    rcases List.mem_append.mp hp with hp | hp
    · exact list_apart hT30 N s30 (.tail _ (List.mem_append.mpr (.inl hp))) (hR.2.2 p hp)
    · exact o30 p hp
  · intro p hp
    rcases List.mem_cons.mp hp with rfl | hp
    · exact list_apart hT37 N s37 (.head _) rfl
    rcases List.mem_append.mp hp with hp | hp
    · exact list_apart hT37 N s37 (.tail _ (List.mem_append.mpr (.inl hp))) (hR.2.2 p hp)
    · exact o37 p hp
theorem list_notCode {vt : Array Value} {c : Nat} : NotCode (PySem.W.listOf vt c) := fun vs q t e => by cases e
theorem swap_mid {g h : Heap} {L : Addr} {a b : Addr × Obj} {u v R : List (Addr × Obj)} (N : News g L h (b :: a :: (u ++ (v ++ R)))) : News g L h (u ++ (v ++ (a :: b :: R))) := fun p hp => N p (by
  simp only [List.mem_cons, List.mem_append] at hp ⊢
  rcases hp with h | h | h | h | h
  · exact .inr (.inr (.inl h))
  · exact .inr (.inr (.inr (.inl h)))
  · exact .inr (.inl h)
  · exact .inl h
  · exact .inr (.inr (.inr (.inr h))))
theorem swap_out {g h : Heap} {L : Addr} {a b : Addr × Obj} {u v R : List (Addr × Obj)} (N : News g L h (u ++ (v ++ (a :: b :: R)))) : News g L h (a :: b :: (u ++ (v ++ R))) := fun p hp => N p (by
  simp only [List.mem_cons, List.mem_append] at hp ⊢
  rcases hp with h | h | h | h | h
  · exact .inr (.inr (.inl h))
  · exact .inr (.inr (.inr (.inl h)))
  · exact .inl h
  · exact .inr (.inl h)
  · exact .inr (.inr (.inr (.inr h))))
theorem walks : PySem.Challenge.rw_xi0013_01.Holds := by
  refine hd ?_
  w_strict (k_go0; (all_goals try k_fold))
  k_steps
  unfold Hold
  rename Fr _ _ _ _ => FF
  rename News _ _ _ _ => NN
  rename IntsAre _ (List.take 2 _) => hints
  rename_i D vs h0 hC' hL' l1'
  with_unfolding_all refine' m_loopList (l := D) (vs := vs) (nn := 0) (fun i m₁ nws => ∃ (t30 t37 : List (Addr × Obj)), nws = (D, PySem.W.listOf vs.toArray 0) :: (t30 ++ t37) ∧ TabLed 30 32 4 qI t30 ∧ TabLed 37 47 4 qD t37) ?hh ?F (news_sub NN ?sub) ?j ?hJl ?t ?d
  case hh => exact rfl
  case F => exact FF
  case j => exact ⟨[(30, tabObj #[])], [(37, tabObj #[])], rfl, .fresh, .fresh⟩
  case sub =>
    intro p hp
    simp only [List.mem_cons, List.mem_append, List.not_mem_nil, or_false] at hp ⊢
    rcases hp with h | h | h
    · exact .inl h
    · exact .inr (.inr h)
    · exact .inr (.inl h)
  case hJl =>
    rintro i m₁ nws ⟨t30, t37, rfl, _⟩
    exact .head _
  case t =>
    rintro i v m₁ nws I oI h tk hi hv ⟨t30, t37, rfl, hT30, hT37⟩ hnI hoI F₁ N₁
    clear FF NN
    obtain ⟨z, tv, rfl⟩ := ints_item hints hi hv
    k_steps
    unfold Hold
    obtain ⟨H, hH, hH9⟩ := digit_facts z
    obtain ⟨W, hW, hW9⟩ := digit_facts (z.fdiv 10)
    rename Fr _ _ _ _ => FF
    rename News _ _ _ _ => NN
    rw [hH, hW] at FF
    rw [hH, hW]
    have i30 : @Ne Nat 30 I := by
      obtain ⟨ps, ho⟩ := tab_has' hT30
      exact hnI _ (.tail _ (List.mem_append.mpr (.inl ho)))
    have i37 : @Ne Nat 37 I := by
      obtain ⟨ps, ho⟩ := tab_has' hT37
      exact hnI _ (.tail _ (List.mem_append.mpr (.inr ho)))
    have d30 : ∀ p ∈ [(I, oI), (D, PySem.W.listOf vs.toArray 0)], p.1 ≠ 30 := by
      refine List.forall_mem_cons.mpr ⟨i30.symm, List.forall_mem_cons.mpr ⟨?_, fun p hp => nomatch hp⟩⟩
      exact list_apart hT30 NN (fun p hp => .tail _ (.tail _ (.tail _ (List.mem_append.mpr (.inl hp))))) (p := (D, PySem.W.listOf vs.toArray 0)) (.tail _ (.tail _ (.head _))) rfl
    have d37 : ∀ p ∈ [(I, oI), (D, PySem.W.listOf vs.toArray 0)], p.1 ≠ 37 := by
      refine List.forall_mem_cons.mpr ⟨i37.symm, List.forall_mem_cons.mpr ⟨?_, fun p hp => nomatch hp⟩⟩
      exact list_apart hT37 NN (fun p hp => .tail _ (.tail _ (.tail _ (List.mem_append.mpr (.inr hp))))) (p := (D, PySem.W.listOf vs.toArray 0)) (.tail _ (.tail _ (.head _))) rfl
    refine' c_rows H W true _ _ hH9 hW9 ?B1 FF ?X1 (news := t30 ++ (t37 ++ [(I, oI), (D, PySem.W.listOf vs.toArray 0)])) (news_sub NN ?sub1) ?T1 ?hk1 ?hdp1 ?ret1
    case B1 => k_asm
    case X1 => k_asm
    case T1 => k_asm
    case hk1 => exact rfl
    case hdp1 => decide
    case sub1 =>
      intro p hp
      simp only [List.mem_cons, List.mem_append, List.not_mem_nil, or_false] at hp ⊢
      rcases hp with h | h | h | h
      · exact .inr (.inr (.inr (.inl h)))
      · exact .inr (.inr (.inr (.inr h)))
      · exact .inr (.inl h)
      · exact .inr (.inr (.inl h))
    case ret1 =>
      intro r refs c led h1 tk1 F1 N1 hR
      obtain ⟨R, N2, ho30, ho37, mr, mled, mR0⟩ := rows_part N1 hR hT30 hT37 d30 d37
      obtain ⟨a1, v1, c1, p1, q1, j1⟩ := hR.2.1 H (by omega)
      obtain ⟨a0, v0, c0, p0, q0, j0⟩ := hR.2.1 (H - 1) (by omega)
      have q1 := mled _ q1
      have q0 := mled _ q0
      obtain ⟨s1, e1⟩ := ints_at j1 W (by omega)
      obtain ⟨s2, e2⟩ := ints_at j1 (W - 1) (by omega)
      obtain ⟨s3, e3⟩ := ints_at j0 W (by omega)
      obtain ⟨s4, e4⟩ := ints_at j0 (W - 1) (by omega)
      have p1 : refs[((H : Int)).toNat]? = some (.ref a1) := p1
      have p0 : refs[((H : Int) - 1).toNat]? = some (.ref a0) := by rw [show ((H : Int) - 1).toNat = H - 1 by omega]; exact p0
      have e1 : v1[((W : Int)).toNat]? = some (.int (ways true H W) s1) := e1
      have e2 : v1[((W : Int) - 1).toNat]? = some (.int (ways true H (W - 1)) s2) := by rw [show ((W : Int) - 1).toNat = W - 1 by omega]; exact e2
      have e3 : v0[((W : Int)).toNat]? = some (.int (ways true (H - 1) W) s3) := e3
      have e4 : v0[((W : Int) - 1).toNat]? = some (.int (ways true (H - 1) (W - 1)) s4) := by rw [show ((W : Int) - 1).toNat = W - 1 by omega]; exact e4
      clear N1
      have hsum := law_sum hH9 hW9
      have hsym := law_sym hH9 hW9
      have hflat := law_flat hH9 hW9
      have hthree : 0 < H → 0 < W → ways true (H - 1) W + ways true H (W - 1) + ways true (H - 1) (W - 1) = ways true H W := law_three
      obtain ⟨tl, htl⟩ : ∃ x, x = ways true H W := ⟨_, rfl⟩
      obtain ⟨la, hla⟩ : ∃ x, x = ways true (H - 1) W := ⟨_, rfl⟩
      obtain ⟨lb, hlb⟩ : ∃ x, x = ways true H (W - 1) := ⟨_, rfl⟩
      obtain ⟨lc, hlc⟩ : ∃ x, x = ways true (H - 1) (W - 1) := ⟨_, rfl⟩
      rw [← htl, ← hla, ← hlb, ← hlc] at hthree
      rw [← htl] at e1 hsum hsym
      rw [← hlb] at e2
      rw [← hla] at e3
      rw [← hlc] at e4
      clear htl hla hlb hlc
      k_steps
      unfold Hold
      rename IsRange _ _ _ _ _ _ _ _ => RG
      rename Fr _ _ _ _ => FF
      rename News _ _ _ _ => NN
      rename (∀ p ∈ t30 ++ (t37 ++ R), p.1 < _) => lt1
      rw [min_if] at RG
      with_unfolding_all refine' m_loopRange (n := min H W + 1) (fun k m₁ nws => ∃ (tq : Addr) (vt : List Value) (ct : Nat) (u30 u37 : List (Addr × Obj)) (tH tW : Tok), nws = (tq, PySem.W.listOf (List.toArray vt) ct) :: (u30 ++ (u37 ++ R)) ∧ IntsAre vt (termsTo H W k) ∧ (∀ p ∈ u30 ++ (u37 ++ R), p.1 ≠ tq) ∧ TabLed 30 32 4 qI u30 ∧ TabLed 37 47 4 qD u37 ∧
        m₁ (Str.ofString "terms") = some (.ref tq) ∧ m₁ (Str.ofString "told") = some (.int tl s1) ∧ m₁ (Str.ofString "high") = some (.int H tH) ∧ m₁ (Str.ofString "wide") = some (.int W tW) ∧ m₁ (Str.ofString "rows") = some (.ref r)) ?hh2 ?hr2 ?hn2 ?F2 NN ?j2 ?t2 ?d2
      case hh2 => exact rfl
      case hr2 => exact RG
      case hn2 => omega
      case F2 => exact FF
      case j2 => exact ⟨_, [], 0, t30, t37, _, _, rfl, .nil, fun p hp => Nat.ne_of_lt (lt1 p hp), hT30, hT37, rfl, rfl, rfl, rfl, rfl⟩
      case t2 =>
        rintro k m₁ nws I2 oI2 h2 tk2 t2 hk ⟨tq, vt, ct, u30, u37, tH, tW, rfl, hvt, hqn, hU30, hU37, b1, b2, b3, b4, b5⟩ hnI2 hoI2 F₃ N₃
        clear FF NN RG
        have F₄ := m_fr (ps := [(Str.ofString "terms", .ref tq), (Str.ofString "told", .int tl s1), (Str.ofString "high", .int H tH), (Str.ofString "wide", .int W tW), (Str.ofString "rows", .ref r)]) F₃ (by simp [b1, b2, b3, b4, b5])
        clear F₃
        obtain ⟨pr1, pr2, pr3, pr4⟩ := prod_facts (k := k) hH9 hW9 (by omega)
        have k30 : @Ne Nat 30 I2 := by
          obtain ⟨ps, ho⟩ := tab_has' hU30
          exact hnI2 _ (.tail _ (List.mem_append.mpr (.inl ho)))
        have k37 : @Ne Nat 37 I2 := by
          obtain ⟨ps, ho⟩ := tab_has' hU37
          exact hnI2 _ (.tail _ (List.mem_append.mpr (.inr (List.mem_append.mpr (.inl ho)))))
        have q30 : @Ne Nat 30 tq := by
          obtain ⟨ps, ho⟩ := tab_has' hU30
          exact hqn _ (List.mem_append.mpr (.inl ho))
        have q37 : @Ne Nat 37 tq := by
          obtain ⟨ps, ho⟩ := tab_has' hU37
          exact hqn _ (List.mem_append.mpr (.inr (List.mem_append.mpr (.inl ho))))
        have tqI : @Ne Nat tq I2 := hnI2 _ (.head _)
        have g30 : ∀ p ∈ (tq, PySem.W.listOf (List.toArray vt) ct) :: (I2, oI2) :: R, p.1 ≠ 30 := List.forall_mem_cons.mpr ⟨q30.symm, List.forall_mem_cons.mpr ⟨k30.symm, ho30⟩⟩
        have g37 : ∀ p ∈ (tq, PySem.W.listOf (List.toArray vt) ct) :: (I2, oI2) :: R, p.1 ≠ 37 := List.forall_mem_cons.mpr ⟨q37.symm, List.forall_mem_cons.mpr ⟨k37.symm, ho37⟩⟩
        k_steps
        unfold Hold
        rename News _ _ _ _ => NN
        refine' c_chosen H k _ _ _ _ rfl rfl (by omega) (by omega) (by omega) hU30 hU37 ?B3 ?F3 ?X3 (swap_mid NN) g30 g37 ?C3 ?D3 ?T3 ?hk3 ?hdp3 ?ret3
        case B3 => k_asm
        case F3 => k_asm
        case X3 => k_asm
        case C3 => assumption
        case D3 => assumption
        case T3 => k_asm
        case hk3 => exact rfl
        case hdp3 => decide
        case ret3 =>
          intro t3 u30a u37a h3 tk3 F5 N5 hU30a hU37a
          clear NN
          k_steps
          unfold Hold
          refine' c_chosen W k _ _ _ _ rfl rfl (by omega) (by omega) (by omega) hU30a hU37a ?B4 ?F4 ?X4 N5 g30 g37 ?C4 ?D4 ?T4 ?hk4 ?hdp4 ?ret4
          case B4 => k_asm
          case F4 => k_asm
          case X4 => k_asm
          case C4 => assumption
          case D4 => assumption
          case T4 => k_asm
          case hk4 => exact rfl
          case hdp4 => decide
          case ret4 =>
            intro t4 u30b u37b h4 tk4 F6 N6 hU30b hU37b
            clear N5
            have N7 := swap_out N6
            have hqb : ∀ p ∈ (I2, oI2) :: (u30b ++ (u37b ++ R)), p.1 ≠ tq := by
              refine List.forall_mem_cons.mpr ⟨tqI.symm, ne_mem_app ?_ (ne_mem_app ?_ fun p hp => hqn p (List.mem_append.mpr (.inr (List.mem_append.mpr (.inr hp)))))⟩
              · exact tab_ne hU30b N7 (fun p hp => .tail _ (.tail _ (List.mem_append.mpr (.inl hp)))) (.head _) q30 list_notCode
              · exact tab_ne hU37b N7 (fun p hp => .tail _ (.tail _ (List.mem_append.mpr (.inr (List.mem_append.mpr (.inl hp)))))) (.head _) q37 list_notCode
            have hlvt : vt.length = k := by rw [hvt.length]; simp [termsTo]
            clear N6
            k_steps
            unfold Hold
            refine' c_mul _ _ _ _ ?B5 ?F5 ?X5 ?N5 ?T5 ?hk5 ?hdp5 ?hx5 ?hy5 ?ret5
            case B5 => k_asm
            case F5 => k_asm
            case X5 => k_asm
            case N5 => k_asm
            case T5 => k_asm
            case hk5 => exact rfl
            case hdp5 => decide
            case hx5 => omega
            case hy5 => omega
            case ret5 =>
              intro t5 h5 tk5 F7 N8
              k_steps
              unfold Hold
              refine' c_lshift _ _ _ _ ?B6 ?F6 ?X6 ?N6 ?T6 ?hk6 ?hdp6 ⟨pr1, pr2⟩ ?hy6 ?ret6
              case B6 => k_asm
              case F6 => k_asm
              case X6 => k_asm
              case N6 => k_asm
              case T6 => k_asm
              case hk6 => exact rfl
              case hdp6 => decide
              case hy6 => omega
              case ret6 =>
                intro t6 h6 tk6 F8 N9
                k_steps
                rename Fr _ _ _ _ => FF
                rename News _ _ _ _ => NN
                simp only [List.push_toArray] at NN
                have z30 := tab_ne hU30b NN (fun p hp => .tail _ (.tail _ (.tail _ (List.mem_append.mpr (.inl hp))))) (.tail _ (.tail _ (.head _))) k30 hoI2
                have z37 := tab_ne hU37b NN (fun p hp => .tail _ (.tail _ (.tail _ (List.mem_append.mpr (.inr (List.mem_append.mpr (.inl hp))))))) (.tail _ (.tail _ (.head _))) k37 hoI2
                refine' LoopStepU.intro FF (news₂ := (tq, PySem.W.listOf (List.toArray (vt ++ [_])) (ct + 1)) :: (u30b ++ (u37b ++ R))) (news_sub NN ?sub7) ?ha7 ⟨tq, _, _, u30b, u37b, _, _, rfl, terms_push hvt ?hx7, fun p hp => hqb p (.tail _ hp), hU30b, hU37b, rfl, rfl, rfl, rfl, rfl⟩
                case sub7 =>
                  intro p hp
                  rcases List.mem_cons.mp hp with rfl | hp
                  · exact .tail _ (.tail _ (.head _))
                  rcases List.mem_cons.mp hp with rfl | hp
                  · exact .tail _ (.head _)
                  · exact .tail _ (.tail _ (.tail _ hp))
                case ha7 =>
                  intro p hp hm
                  have e := List.mem_singleton.mp hm
                  rcases List.mem_cons.mp hp with rfl | hp
                  · exact tqI e
                  rcases List.mem_append.mp hp with hp | hp
                  · exact z30 p hp e
                  rcases List.mem_append.mp hp with hp | hp
                  · exact z37 p hp e
                  · exact hnI2 p (.tail _ (List.mem_append.mpr (.inr (List.mem_append.mpr (.inr hp))))) e
                case hx7 =>
                  rw [Int.toNat_natCast]
                  rfl
      case d2 =>
        rintro h2 tk2 m₂ nws ⟨tq, vt, ct, u30, u37, tH, tW, rfl, hvt, hqn, hU30, hU37, b1, b2, b3, b4, b5⟩ F₃ N₃
        clear FF NN RG
        have F₄ := m_frOut (ps := [(Str.ofString "terms", .ref tq), (Str.ofString "told", .int tl s1), (Str.ofString "high", .int H tH), (Str.ofString "wide", .int W tW), (Str.ofString "rows", .ref r)]) F₃ (by simp [b1, b2, b3, b4, b5])
        clear F₃
        k_steps
        · exact absurd hsum (by with_reducible assumption)
        unfold Hold
        rename News _ _ _ _ => NN
        have N7 : News _ _ _ (u30 ++ (u37 ++ R)) := news_sub NN fun p hp => .tail _ hp
        clear NN hvt hqn lt1
        refine' c_rows W H true _ _ hW9 hH9 ?B8 ?F8 ?X8 N7 ?T8 ?hk8 ?hdp8 ?ret8
        case B8 => k_asm
        case F8 => k_asm
        case X8 => k_asm
        case T8 => k_asm
        case hk8 => exact rfl
        case hdp8 => decide
        case ret8 =>
          intro r2 refs2 c2 led2 h8 tk8 F8 N8 hR2
          clear N7
          obtain ⟨R2, N9, ho30b, ho37b, mr2, mled2, mR2⟩ := rows_part N8 hR2 hU30 hU37 ho30 ho37
          clear N8
          obtain ⟨a2, v2, c2', p2, q2, j2⟩ := hR2.2.1 W (by omega)
          have q2 := mled2 _ q2
          obtain ⟨s5, e5⟩ := ints_at j2 H (by omega)
          have p2 : refs2[((W : Int)).toNat]? = some (.ref a2) := p2
          have e5 : v2[((H : Int)).toNat]? = some (.int (ways true W H) s5) := e5
          rw [hsym] at e5
          clear hsum
          k_steps
          · exact absurd rfl (by with_reducible assumption)
          unfold Hold
          refine' c_rows H W false _ _ hH9 hW9 ?B9 ?F9 ?X9 N9 ?T9 ?hk9 ?hdp9 ?ret9
          case B9 => k_asm
          case F9 => k_asm
          case X9 => k_asm
          case T9 => k_asm
          case hk9 => exact rfl
          case hdp9 => decide
          case ret9 =>
            intro r3 refs3 c3 led3 h9 tk9 F9 N10 hR3
            clear N9
            obtain ⟨R3, N11, ho30c, ho37c, mr3, mled3, mR3⟩ := rows_part N10 hR3 hU30 hU37 ho30b ho37b
            clear N10
            obtain ⟨a3, v3, c3', p3, q3, j3⟩ := hR3.2.1 H (by omega)
            have q3 := mled3 _ q3
            obtain ⟨s6, e6⟩ := ints_at j3 W (by omega)
            have p3 : refs3[((H : Int)).toNat]? = some (.ref a3) := p3
            have e6 : v3[((W : Int)).toNat]? = some (.int (ways false H W) s6) := e6
            rw [hflat] at e6
            k_steps
            unfold Hold
            refine' c_chosen (H + W) H _ _ _ _ (by omega) rfl (by omega) (by omega) (by omega) hU30 hU37 ?B10 ?F10 ?X10 N11 ho30c ho37c ?C10 ?D10 ?T10 ?hk10 ?hdp10 ?ret10
            case B10 => k_asm
            case F10 => k_asm
            case X10 => k_asm
            case C10 => assumption
            case D10 => assumption
            case T10 => k_asm
            case hk10 => exact rfl
            case hdp10 => decide
            case ret10 =>
              intro t10 u30c u37c h10 tk10 F11 N12 hU30c hU37c
              clear N11
              have q1 := mR3 _ (mR2 _ q1)
              have q0 := mR3 _ (mR2 _ q0)
              have mr := mR3 _ (mR2 _ mr)
              have zI := mR3 _ (mR2 _ (mR0 _ (.head _)))
              have zD := mR3 _ (mR2 _ (mR0 _ (.tail _ (.head _))))
              clear p2 e5 q2 p3 e6 q3
              have w30 := tab_ne hU30c N12 (fun p hp => List.mem_append.mpr (.inl hp)) (List.mem_append.mpr (.inr (List.mem_append.mpr (.inr zI)))) i30 hoI
              have w37 := tab_ne hU37c N12 (fun p hp => List.mem_append.mpr (.inr (List.mem_append.mpr (.inl hp)))) (List.mem_append.mpr (.inr (List.mem_append.mpr (.inr zI)))) i37 hoI
              have nD : D ≠ I := hnI _ (.head _)
              have endI : ∀ p ∈ (D, PySem.W.listOf vs.toArray 0) :: (u30c ++ u37c), p.1 ∉ [I] := by
                intro p hp hm
                have e := List.mem_singleton.mp hm
                rcases List.mem_cons.mp hp with rfl | hp
                · exact nD e
                rcases List.mem_append.mp hp with hp | hp
                · exact w30 p hp e
                · exact w37 p hp e
              have sub8 : ∀ p ∈ [(I, oI)] ++ (D, PySem.W.listOf vs.toArray 0) :: (u30c ++ u37c), p ∈ u30c ++ (u37c ++ R3) := by
                intro p hp
                rcases List.mem_append.mp hp with hp | hp
                · rw [List.mem_singleton.mp hp]
                  exact List.mem_append.mpr (.inr (List.mem_append.mpr (.inr zI)))
                rcases List.mem_cons.mp hp with rfl | hp
                · exact List.mem_append.mpr (.inr (List.mem_append.mpr (.inr zD)))
                rcases List.mem_append.mp hp with hp | hp
                · exact List.mem_append.mpr (.inl hp)
                · exact List.mem_append.mpr (.inr (List.mem_append.mpr (.inl hp)))
              k_steps
              · exact absurd rfl (by with_reducible assumption)
              · exact absurd (hthree (by omega) (by omega)) (by with_reducible assumption)
              all_goals exact LoopStepU.intro F11 (news₂ := (D, PySem.W.listOf vs.toArray 0) :: (u30c ++ u37c)) (news_sub N12 sub8) endI ⟨u30c, u37c, rfl, hU30c, hU37c⟩
  case d =>
    rintro h tk m' nws ⟨t30, t37, rfl, hT30, hT37⟩ F₁ N₁
    clear FF NN
    cases hT30 <;> cases hT37
    all_goals k_steps
end Mine
theorem PySem.Challenge.cw_xi0013_01_holds : PySem.Challenge.rw_xi0013_01.Holds := by
  exact Mine.walks
