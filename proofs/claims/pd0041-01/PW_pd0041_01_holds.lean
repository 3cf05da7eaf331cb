import PyProof.Rows.All
import Wide.All
import OpenK.AllK
import Wide.FinOn
import Lean
import PySem.Challenge.RW_pd0041_01
open PySem PySem.W PyProof.Rows
set_option Elab.async false
-- part Hd41
section
open PySem PySem.W PyProof.Rows
namespace Mine
set_option maxRecDepth 100000
set_option maxHeartbeats 8000000
open_top hd for PySem.Challenge.rw_pd0041_01
end Mine
end
-- part Base41
theorem Mine.calm_Base41 : True := by
  w_top off
  exact trivial
section
open PySem PySem.W PyProof.Rows
set_option maxRecDepth 100000
namespace Mine
section
variable {prog : Program} {w : World} {A : Around} {E : Value → Shared → Prop} {s s₂ : Shared} {env : Env} {h₀ : Heap} {x : Str} {body : List Stmt} {Q : Flow → Shared → Prop}
/-- what one turn of a for must leave: the iterator as it was at the turn's start, and the invariant -/
def TurnEnd (h₀ : Heap) (L I : Addr) (oI : Obj) (Jn : (Str → Option Value) → List (Addr × Obj) → Prop) (s₁ : Shared) (Q : Flow → Shared → Prop) (f : Flow) (s₂ : Shared) : Prop :=
  match f with
  | .ret v => Q (.ret v) s₂
  | .brk => Q .next s₂
  | _ => ∃ h' tk m' news', s₂ = { s₁ with heap := h', toks := tk } ∧ Fr h₀ L h' m' ∧ News h₀ L h' ((I, oI) :: news') ∧ (∀ p ∈ news', p.1 ≠ I) ∧ Jn m' news'
theorem loopAt_one {I : Addr} {fp : List Addr} {n : Nat} {P : Nat → Value → Prop} {St : Nat → Heap → Prop} {m₀ : Str → Option Value} {news : List (Addr × Obj)}
    (J : Nat → (Str → Option Value) → List (Addr × Obj) → Prop)
    (W : Walks prog w A I fp [I] n P St) (hfp : ∀ b ∈ fp, b = I ∨ ∃ o, h₀.get? b = some o) (hIfp : I ∈ fp) (hSt : ∀ i h, St i h → ∃ o, h.get? I = some o) (hst : St 0 s₂.heap)
    (F : Fr h₀ env.locals s₂.heap m₀) (N : News h₀ env.locals s₂.heap news) (hI : h₀.get? I = none) (hLfp : env.locals ∉ fp) (hnews : ∀ p ∈ news, p.1 ≠ I) (hj : J 0 m₀ news)
    (turn : ∀ i v m₁ news₁ h tk oI, i < n → P i v → J i m₁ news₁ → (∀ p ∈ news₁, p.1 ≠ I) → Fr h₀ env.locals h (fun y => if y = x then some v else m₁ y) → News h₀ env.locals h ((I, oI) :: news₁) →
      wpAny (model prog w) A (execs body env) (TurnEnd h₀ env.locals I oI (J (i + 1)) { s₂ with heap := h, toks := tk } Q) E { s₂ with heap := h, toks := tk })
    (done : ∀ h tk m₁ news₁, J n m₁ news₁ → Fr h₀ env.locals h m₁ → News h₀ env.locals h news₁ → Q .next { s₂ with heap := h, toks := tk }) :
    LoopAtV prog w A h₀ env x body Q E (.ref I) s₂ := by
  refine ⟨I, fp, [I], n, P, St, m₀, news, J, rfl, W, hLfp, ?_, ?_, hst, F, N, hj, ?_, ?_⟩
  · intro b hb; rw [List.mem_singleton.mp hb]; exact hI
  · intro p hp hm; exact hnews p hp (List.mem_singleton.mp hm)
  · rintro i v m₁ news₁ s₁ own ⟨h, tk, rfl⟩ hlt hP hJ hoff hsub hget hall hst₁ F₁ N₁
    have hoff' : ∀ p ∈ news₁, p.1 ≠ I := fun p hp e => hoff p hp (by rw [e]; exact List.mem_singleton.mpr rfl)
    obtain ⟨oI, hIh⟩ := hSt _ _ hst₁
    have hIh : h.get? I = some oI := hIh
    have own_is : ∀ p ∈ own, p = (I, oI) := by
      intro p hp
      have h1 : p.1 = I := by
        rcases hfp _ (hsub p hp) with e | ⟨o, ho⟩
        · exact e
        · have := (N₁ p (List.mem_append_left _ hp)).2.2
          rw [ho] at this; cases this
      have h2 := hget p hp
      rw [h1] at h2
      have h2' : h.get? I = some p.2 := h2
      rw [hIh] at h2'
      obtain ⟨a, b⟩ := p
      simp only at h1 h2'
      rw [h1, Option.some.inj h2']
    have N₂ : News h₀ env.locals h ((I, oI) :: news₁) := by
      intro p hp
      rcases List.mem_cons.mp hp with rfl | hp
      · exact N₁ _ (List.mem_append_left _ (hall I hIfp hI _ hIh))
      · exact N₁ p (List.mem_append_right _ hp)
    refine wpAny_mono (turn i v m₁ news₁ h tk oI hlt hP hJ hoff' F₁ N₂) (fun f s₃ h₃ => ?_) fun _ _ e => e
    have fin : (∃ h' tk' m' news', s₃ = { s₂ with heap := h', toks := tk' } ∧ Fr h₀ env.locals h' m' ∧ News h₀ env.locals h' ((I, oI) :: news') ∧ (∀ p ∈ news', p.1 ≠ I) ∧ J (i + 1) m' news') →
        LoopStepU h₀ env.locals [I] own (J (i + 1)) { s₂ with heap := h, toks := tk } .next s₃ := by
      rintro ⟨h', tk', m', news', rfl, F', N', hn', hJ'⟩
      refine ⟨rfl, h', tk', m', news', rfl, F', ?_, ?_, hJ'⟩
      · intro p hp
        rcases List.mem_append.mp hp with hp | hp
        · rw [own_is p hp]; exact N' _ (List.mem_cons_self ..)
        · exact N' p (List.mem_cons_of_mem _ hp)
      · intro p hp hm; exact hn' p hp (List.mem_singleton.mp hm)
    cases f with
    | ret v => exact .ret h₃
    | brk => exact .brk h₃
    | next => exact .next (fin h₃)
    | cont => exact .cont (fin h₃)
  · intro h' tk m' news' F' N' _ hJ
    exact done h' tk m' news' hJ F' N'
/-- a for over a range object, by an invariant over the frame's map and the ledger -/
theorem iter_range {r : Addr} {a₀ b₀ c₀ : Int} {t₀ u₀ v₀ : Tok} {n : Nat} {m₀ : Str → Option Value} {news : List (Addr × Obj)}
    (J : Nat → (Str → Option Value) → List (Addr × Obj) → Prop)
    (hh : A.handled = none) (hr : IsRange s.heap r a₀ b₀ c₀ t₀ u₀ v₀) (hsmall : Builtin.Range.small a₀ b₀ c₀ = true) (hn : Builtin.Range.rangeSize a₀ b₀ c₀ = (n : Int))
    (F : Fr h₀ env.locals s.heap m₀) (N : News h₀ env.locals s.heap news) (hj : J 0 m₀ news)
    (turn : ∀ i t m₁ news₁ h tk I oI, i < n → J i m₁ news₁ → (∀ p ∈ news₁, p.1 ≠ I) → Fr h₀ env.locals h (fun y => if y = x then some (.int (a₀ + i * c₀) t) else m₁ y) → News h₀ env.locals h ((I, oI) :: news₁) →
      wpAny (model prog w) A (execs body env) (TurnEnd h₀ env.locals I oI (J (i + 1)) { s with heap := h, toks := tk } Q) E { s with heap := h, toks := tk })
    (done : ∀ h tk m₁ news₁, J n m₁ news₁ → Fr h₀ env.locals h m₁ → News h₀ env.locals h news₁ → Q .next { s with heap := h, toks := tk }) :
    wpAny (model prog w) A (pyIter (.ref r)) (fun it s₂ => LoopAtV prog w A h₀ env x body Q E it s₂) E s := by
  refine wpAny_pyIter_range hr hsmall ?_
  refine loopAt_one J (Walks.range hh _ a₀ c₀ n) (fun b hb => .inl (List.mem_singleton.mp hb)) (List.mem_singleton.mpr rfl) (fun i h st => ⟨_, st⟩)
    (by show IsRangeIter _ _ _ _ _; rw [hn]; simpa using Heap.get?_push_size _ rfl) (F.push _) (fun p hp => ⟨Heap.get?_push_of_some _ (N p hp).1, (N p hp).2⟩) (next_is_new F) ?_ ?_ hj ?_ ?_
  · intro hm; exact absurd F.ns.lt ((List.mem_singleton.mp hm) ▸ Nat.lt_irrefl _)
  · intro p hp hI; exact absurd (Heap.lt_size (N p hp).1) (hI ▸ Nat.lt_irrefl _)
  · rintro i v m₁ news₁ h tk oI hlt ⟨t, rfl⟩ hJ hoff F₁ N₁
    exact turn i t m₁ news₁ h tk _ oI hlt hJ hoff F₁ N₁
  · exact done
/-- a for over bytes -/
theorem iter_bytes {b : Array UInt8} {tb : Tok} {ks : List Int} {m₀ : Str → Option Value} {news : List (Addr × Obj)}
    (J : Nat → (Str → Option Value) → List (Addr × Obj) → Prop)
    (hh : A.handled = none) (hb : KBw.bInts b = ks)
    (F : Fr h₀ env.locals s.heap m₀) (N : News h₀ env.locals s.heap news) (hj : J 0 m₀ news)
    (turn : ∀ i k t m₁ news₁ h tk I oI, i < ks.length → ks[i]? = some k → J i m₁ news₁ → (∀ p ∈ news₁, p.1 ≠ I) → Fr h₀ env.locals h (fun y => if y = x then some (.int k t) else m₁ y) → News h₀ env.locals h ((I, oI) :: news₁) →
      wpAny (model prog w) A (execs body env) (TurnEnd h₀ env.locals I oI (J (i + 1)) { s with heap := h, toks := tk } Q) E { s with heap := h, toks := tk })
    (done : ∀ h tk m₁ news₁, J ks.length m₁ news₁ → Fr h₀ env.locals h m₁ → News h₀ env.locals h news₁ → Q .next { s with heap := h, toks := tk }) :
    wpAny (model prog w) A (pyIter (.bytes b tb)) (fun it s₂ => LoopAtV prog w A h₀ env x body Q E it s₂) E s := by
  subst hb
  refine KBw.pyIter_bytes ?_
  have W := KBw.walks (prog := prog) (w := w) hh s.heap.objs.size b tb
  rw [← KBw.ints_length] at W
  refine loopAt_one J W (fun b hb => .inl (List.mem_singleton.mp hb)) (List.mem_singleton.mpr rfl) (fun i h st => let ⟨o, ho, _⟩ := st; ⟨o, ho⟩)
    ⟨_, Heap.get?_push_size _ rfl, rfl, rfl⟩ (F.push _) (fun p hp => ⟨Heap.get?_push_of_some _ (N p hp).1, (N p hp).2⟩) (next_is_new F) ?_ ?_ hj ?_ ?_
  · intro hm; exact absurd F.ns.lt ((List.mem_singleton.mp hm) ▸ Nat.lt_irrefl _)
  · intro p hp hI; exact absurd (Heap.lt_size (N p hp).1) (hI ▸ Nat.lt_irrefl _)
  · rintro i v m₁ news₁ h tk oI hlt ⟨c, u, hc, rfl⟩ hJ hoff F₁ N₁
    exact turn i _ u m₁ news₁ h tk _ oI hlt (KBw.ints_get hc) hJ hoff F₁ N₁
  · exact done
end
end Mine
namespace Mine
section
variable {prog : Program} {w : World} {M : Model} {A : Around} {E : Value → Shared → Prop} {s : Shared} {h₀ h h' : Heap} {L D : Addr} {m : Str → Option Value} {news news' : List (Addr × Obj)}
theorem fillI_list : fillsInplaceSlot (.type "list") "add" (Operator.Add == .Add) = pure false := by
  unfold fillsInplaceSlot
  show (typeLookup (.type "list") (dunderI "add") >>= fun fi => pure (fi.isSome && !isSeqSlot fi)) = pure false
  rw [F.slot_list_iadd.lookup]
  have : isSeqSlot (some (.builtin "list.__iadd__")) = true := by decide +kernel
  simp only [pure_bind, this]; rfl
theorem seqI_list : seqSlot? (.type "list") (dunderI "add") = pure (some (.builtin "list.__iadd__")) := PySem.seqSlot_of F.slot_list_iadd.lookup (by decide +kernel)
/-- list += list, both of the ledger -/
theorem iadd_K {its its2 : List Value} {n n2 : Nat} {b : Addr} {Q : Value → Shared → Prop} (F : Fr h₀ L s.heap m) (N : News h₀ L s.heap news) (hb : (b, W.listOf its2.toArray n2) ∈ news)
    (U : Upd D (W.listOf its.toArray n) (W.listOf (its ++ its2).toArray (if (its.toArray ++ its2.toArray).size == its.toArray.size then n else n + 1)) news news') (hsz : its.length + its2.length ≤ 1000000)
    (h : ∀ h', Fr h₀ L h' m → News h₀ L h' news' → Q (.ref D) { s with heap := h' }) : wpAny (model prog w) A (inplaceOp .Add (.ref D) (.ref b)) Q E s := by
  obtain ⟨pre, post, rfl, rfl, ha, hb'⟩ := U.split
  have z := N (D, W.listOf its.toArray n) (List.mem_append.mpr (.inr (.head _)))
  have y := N _ hb
  have tD : s.TypeIs (.ref D) "list" := ⟨_, z.1, rfl⟩
  have tb : s.TypeIs (.ref b) "list" := ⟨_, y.1, rfl⟩
  unfold inplaceOp
  refine wpAny_holding ?_
  refine wpAny_bind (wpAny_typeOf tD (wpAny_bind (wpAny_of_eq fillI_list ?_)))
  show wpAny _ A (if false = true then _ else _) Q E s
  rw [if_neg Bool.false_ne_true]
  refine wpAny_bind (wpAny_binaryOp1_none (nm := "add") tD tb noFill_list_add ?_)
  refine wpAny_bind (wpAny_of_eq seqI_list ?_)
  refine wpAny_bind (wpAny_rule (call_meets PySem.F.slot_list_iadd tD PySem.F.entry_list_iadd (PySem.F.args_list_iadd_2 _ _)
    (AutoSeq1.list___iadd___list_list_0 D its.toArray n b its2.toArray n2 ?_ ?_ ?_) ⟨z.1, y.1, ?_⟩))
  · intro q
    have q2 := (Bool.and_eq_true_iff.mp q).2
    have q3 : its.toArray.size + its2.toArray.size > sizeLine := of_decide_eq_true q2
    rw [sizeLine_eq, List.size_toArray, List.size_toArray] at q3
    omega
  · rw [sizeLine_eq, List.size_toArray]; omega
  · rw [sizeLine_eq, List.size_toArray, List.size_toArray]; omega
  · have e := news_upd (f := Obj.mapSeq fun x => x ++ its2.toArray) (o' := W.listOf (its ++ its2).toArray (if (its.toArray ++ its2.toArray).size == its.toArray.size then n else n + 1)) F N ha hb' (by simp [Obj.mapSeq]) rfl
    exact h _ e.1 e.2
end
end Mine
namespace Mine
theorem map1 {a : Str} {v : Value} : (fun x => ([(a, v)] : List (Str × Value)).reverse.lookup x) = fun y => if y = a then some v else none := by
  funext y
  by_cases e : y = a
  · subst e; simp
  · have : (y == a) = false := by simpa using e
    simp [List.lookup, this, e]
theorem map2 {a b : Str} {v u : Value} : (fun x => ([(a, v), (b, u)] : List (Str × Value)).reverse.lookup x) = fun y => if y = b then some u else if y = a then some v else none := by
  funext y
  by_cases e : y = b
  · subst e; simp
  · have h1 : (y == b) = false := by simpa using e
    by_cases e2 : y = a
    · subst e2; simp [List.lookup, h1, e]
    · have h2 : (y == a) = false := by simpa using e2
      simp [List.lookup, h1, h2, e, e2]
end Mine
namespace Mine
theorem expl1 {m : Str → Option Value} {a : Str} {va : Value} (ha : m a = some va) : m = fun z => if z = a then some va else m z := by
  funext z
  by_cases e : z = a
  · subst e; simp [ha]
  · simp [e]
theorem expl2 {m : Str → Option Value} {a b : Str} {va vb : Value} (ha : m a = some va) (hb : m b = some vb) : m = fun z => if z = a then some va else if z = b then some vb else m z := by
  funext z
  by_cases e : z = a
  · subst e; simp [ha]
  · by_cases e2 : z = b
    · subst e2; simp [hb, e]
    · simp [e, e2]
end Mine
namespace Mine
/-- a call of a def of the top from any state: its base is the heap at the call; nothing may be raised -/
theorem enter_def {prog : Program} {w : World} {A : Around} {R : Result → Shared → Prop} {s : Shared} {K : Frag} {f : Addr} {name qual : Str} {params : Arguments} {body : List Stmt} {scope : Scope} {dV kV doc pm cdv ct oc : Value} {an od : Option Addr} {osl : Array (Option Value)} {args : Args} (binds : List (Str × Value))
    (X : K.In s.heap) (hlim : s.heap.NoLimit) (hroom : A.depth < recursionLimit) (ho : K.lookup f = some ⟨oc, od, .func (fnOf name qual params body scope dV kV doc pm an cdv ct), osl⟩) (hcd : codeIn K cdv qual = true)
    (hbind : BindsTo s (fnOf name qual params body scope dV kV doc pm an cdv ct) args binds) (hloc : (binds.all fun x => decide (scope.names.lookup x.1 = some .local)) = true)
    (h : ∀ h₁, Fr s.heap s.heap.objs.size h₁ (fun x => binds.reverse.lookup x) → News s.heap s.heap.objs.size h₁ [] →
      wpAny (model prog w) (A.deeper (envOf qual scope s.heap.objs.size f cdv)) (execs body (envOf qual scope s.heap.objs.size f cdv))
        (fun f s' => R (.ok (.ret (match f with | .ret v => v | _ => .none))) s') (fun _ _ => False)
        { s with heap := h₁, toks := s.toks + binds.length })
    (hco : scope.isCoroutine = false := by rfl) (hgen : scope.isGenerator = false := by rfl) (hk : scope.kind = .function := by rfl)
    (hcell : ∀ x ∈ scope.names, x.2 ≠ .cell := by decide) :
    codeAny (model prog w) A (.call (.ref f) args) R s := by
  refine codeAny_call_def (fd := fnOf name qual params body scope dV kV doc pm an cdv ct) (body := body) (binds := binds) hroom (X _ _ ho) rfl hlim (codeRec_of X hcd) rfl hbind hcell (locs hloc) (fun h₁ hns hk₁ => ?_) hco hgen hk
  exact wpAny_mono (h h₁ ⟨hns, hk₁, Nat.le_refl _⟩ News.nil) (fun _ _ x => x) (fun _ _ x => x.elim)
end Mine
namespace Mine
theorem expl3 {m : Str → Option Value} {a b c : Str} {va vb vc : Value} (ha : m a = some va) (hb : m b = some vb) (hc : m c = some vc) : m = fun z => if z = a then some va else if z = b then some vb else if z = c then some vc else m z := by
  funext z
  by_cases e : z = a
  · subst e; simp [ha]
  · by_cases e2 : z = b
    · subst e2; simp [hb, e]
    · by_cases e3 : z = c
      · subst e3; simp [hc, e, e2]
      · simp [e, e2, e3]
theorem expl4 {m : Str → Option Value} {a b c d : Str} {va vb vc vd : Value} (ha : m a = some va) (hb : m b = some vb) (hc : m c = some vc) (hd : m d = some vd) : m = fun z => if z = a then some va else if z = b then some vb else if z = c then some vc else if z = d then some vd else m z := by
  funext z
  by_cases e : z = a
  · subst e; simp [ha]
  · by_cases e2 : z = b
    · subst e2; simp [hb, e]
    · by_cases e3 : z = c
      · subst e3; simp [hc, e, e2]
      · by_cases e4 : z = d
        · subst e4; simp [hd, e, e2, e3]
        · simp [e, e2, e3, e4]
end Mine
end
-- part Cm41
theorem Mine.calm_Cm41 : True := by
  w_top off
  exact trivial
section
open PySem PySem.W PyProof.Rows PySem.Calls PyProof.Rows.LCg
set_option maxRecDepth 100000
namespace Mine
theorem compTurn_two (elt t1 i1 t2 i2 : Expr) (ifs : List Expr) (scope : Scope) (pos : Pos) (it acc : Value) (env : Env) :
    compTurn (.ListComp elt [⟨t1, i1, ifs, 0⟩, ⟨t2, i2, [], 0⟩] scope pos) 0 it acc env = (do
      standAt i1.pos
      match ← pyNext it with
      | none => pure (.done .next)
      | some v =>
        letOwnedTupleGo t1 it v
        assign t1 env v
        let mut ok := true
        for c in ifs do
          if ok then ok ← isTrue c env (eval c env)
        if ok then
          let x ← eval i2 env
          standAt i2.pos
          let x ← foldedSetIterable i2 env x
          let _ ← runOwn (.compStart (.ListComp elt [⟨t1, i1, ifs, 0⟩, ⟨t2, i2, [], 0⟩] scope pos) 1 (← holding [x] (pyIter x)) acc env) env
        again (.compLoop (.ListComp elt [⟨t1, i1, ifs, 0⟩, ⟨t2, i2, [], 0⟩] scope pos) 0 it acc env)) := by rfl
theorem compTurn_in (elt t2 i2 : Expr) (g1 : Comprehension) (scope : Scope) (pos : Pos) (it acc : Value) (env : Env) :
    compTurn (.ListComp elt [g1, ⟨t2, i2, [], 0⟩] scope pos) 1 it acc env = (standAt i2.pos >>= fun _ => pyNext it >>= fun r => match r with
      | none => pure (.done .next)
      | some v => letOwnedTupleGo t2 it v >>= fun _ => assign t2 env v >>= fun _ =>
        (eval elt env >>= fun x => call (.builtin "list.append") [acc, x] >>= fun _ => pure ()) >>= fun _ =>
          again (.compLoop (.ListComp elt [g1, ⟨t2, i2, [], 0⟩] scope pos) 1 it acc env)) := by rfl
section
variable {prog : Program} {w : World} {A : Around} {E : Value → Shared → Prop} {s : Shared} {R : Result → Shared → Prop}
theorem compStart_in {elt t2 i2 : Expr} {g1 : Comprehension} {scope pos it acc env}
    (h0 : codeAny (model prog w) A (.compLoop (.ListComp elt [g1, ⟨t2, i2, [], 0⟩] scope pos) 1 it acc env) R s)
    (h : wpAny (model prog w) A (pyIter it) (fun it' s' => codeAny (model prog w) A (.compLoop (.ListComp elt [g1, ⟨t2, i2, [], 0⟩] scope pos) 1 it' acc env) R s')
      (notedBy (model prog w) A env fun x s' => R (.error x) s') s) :
    codeAny (model prog w) A (.compStart (.ListComp elt [g1, ⟨t2, i2, [], 0⟩] scope pos) 1 it acc env) R s := by
  refine codeAny_of_tree ?_
  show wpAny _ _ ((compStart (.ListComp elt [g1, ⟨t2, i2, [], 0⟩] scope pos) 1 it acc env).onRaise (fun x => do noteFrame x env; standAt theWindowsPlace)) _ _ s
  refine wpAny_notedAt ?_
  unfold compStart
  show wpAny _ _ (ask >>= _) _ _ s
  refine wpAny_bind (wpAny_askSetting (wpAny_ite ?_))
  split
  · first
      | exact wpAny_bind (wpAny_pure (wpAny_pure (And.intro rfl h0)))
      | exact wpAny_pure (And.intro rfl h0)
  · first
      | exact wpAny_bind (wpAny_rule (wpAny_bind (wpAny_standAt (wpAny_bind (wpAny_mono h (fun it' s' h' => wpAny_pure (And.intro rfl h')) fun _ _ x => x)))))
      | (refine wpAny_bind (wpAny_rule ?_); show wpAny _ _ (standAt i2.pos >>= _) _ _ s; exact wpAny_bind (wpAny_standAt (wpAny_bind (wpAny_mono h (fun it' s' h' => wpAny_pure (And.intro rfl h')) fun _ _ x => x))))
theorem loop_in {elt i2 : Expr} {x : Str} {px : Pos} {g1 : Comprehension} {scope : Scope} {pos : Pos} {it acc : Value} {env : Env} (I : Nat → Shared → Prop)
    (turn : ∀ n s, I n s → wpAny (model prog w) A (pyNext it) (fun r s₁ => match r with
      | none => R (.ok .next) s₁
      | some v => wpAny (model prog w) A (assign (.Name x px) env v) (fun _ s₂ => wpAny (model prog w) A (eval elt env) (fun x s₃ =>
          wpAny (model prog w) A (call (.builtin "list.append") [acc, x]) (fun _ s₄ => ∃ m, m < n ∧ I m s₄) (notedBy (model prog w) A env fun e s' => R (.error e) s') s₃)
          (notedBy (model prog w) A env fun e s' => R (.error e) s') s₂) (notedBy (model prog w) A env fun e s' => R (.error e) s') s₁) (notedBy (model prog w) A env fun e s' => R (.error e) s') s)
    (n : Nat) (h : I n s) :
    codeAny (model prog w) A (.compLoop (.ListComp elt [g1, ⟨.Name x px, i2, [], 0⟩] scope pos) 1 it acc env) R s := by
  refine codeAny_loop rfl I (fun n s hI => ?_) n h
  show wpAny _ A ((compTurn (.ListComp elt [g1, ⟨.Name x px, i2, [], 0⟩] scope pos) 1 it acc env).onRaise (fun x => do noteFrame x env; theTreesLotGoes x)) _ _ s
  refine wpAny_noted ?_
  rw [compTurn_in]
  refine wpAny_bind (wpAny_standAt (wpAny_bind (wpAny_mono (turn n s hI) (fun r s₁ h₁ => ?_) fun _ _ h' => h')))
  cases r with
  | none => exact wpAny_pure h₁
  | some v =>
    refine wpAny_bind (wpAny_of_eq (a := ()) rfl ?_)
    exact wpAny_bind (wpAny_mono h₁ (fun _ s₂ h₂ => wpAny_bind (wpAny_bind (wpAny_mono h₂ (fun x s₃ h₃ => wpAny_bind (wpAny_mono h₃
      (fun _ s₄ h₄ => wpAny_pure (wpAny_pure ⟨rfl, h₄⟩)) fun _ _ h' => h')) fun _ _ h' => h'))) fun _ _ h' => h')
theorem loop_two {elt t1 i1 t2 i2 c : Expr} {scope : Scope} {pos : Pos} {it acc : Value} {env : Env} (I : Nat → Shared → Prop)
    (turn : ∀ n s, I n s → wpAny (model prog w) A (pyNext it) (fun r s₁ => match r with
      | none => R (.ok .next) s₁
      | some v => wpAny (model prog w) A (letOwnedTupleGo t1 it v) (fun _ s₀ => wpAny (model prog w) A (assign t1 env v) (fun _ s₂ =>
          wpAny (model prog w) A (isTrue c env (eval c env)) (fun ok s₃ => if ok = true then wpAny (model prog w) A (eval i2 env) (fun x s₄ =>
            wpAny (model prog w) A (pyIter x) (fun it2 s₅ => codeAny (model prog w) A (.compStart (.ListComp elt [⟨t1, i1, [c], 0⟩, ⟨t2, i2, [], 0⟩] scope pos) 1 it2 acc env)
              (fun r s' => match r with | .ok _ => ∃ m, m < n ∧ I m s' | .error _ => False) s₅) (notedBy (model prog w) A env fun e s' => R (.error e) s') s₄) (notedBy (model prog w) A env fun e s' => R (.error e) s') s₃
            else ∃ m, m < n ∧ I m s₃) (notedBy (model prog w) A env fun e s' => R (.error e) s') s₂)
          (notedBy (model prog w) A env fun e s' => R (.error e) s') s₀) (notedBy (model prog w) A env fun e s' => R (.error e) s') s₁) (notedBy (model prog w) A env fun e s' => R (.error e) s') s)
    (n : Nat) (h : I n s) (hs : ∀ x, foldedSetIterable i2 env x = pure x := by intro _; rfl) : codeAny (model prog w) A (.compLoop (.ListComp elt [⟨t1, i1, [c], 0⟩, ⟨t2, i2, [], 0⟩] scope pos) 0 it acc env) R s := by
  refine codeAny_loop rfl I (fun n s hI => ?_) n h
  show wpAny _ A ((compTurn (.ListComp elt [⟨t1, i1, [c], 0⟩, ⟨t2, i2, [], 0⟩] scope pos) 0 it acc env).onRaise (fun x => do noteFrame x env; theTreesLotGoes x)) _ _ s
  refine wpAny_noted ?_
  rw [compTurn_two]
  refine wpAny_bind (wpAny_standAt (wpAny_bind (wpAny_mono (turn n s hI) (fun r s₁ h₁ => ?_) fun _ _ h' => h')))
  cases r with
  | none => exact wpAny_pure h₁
  | some v =>
    refine wpAny_bind (wpAny_mono h₁ (fun _ s₀ h₀' => ?_) fun _ _ h' => h')
    refine wpAny_bind (wpAny_mono h₀' (fun _ s₂ h₂ => ?_) fun _ _ h' => h')
    refine wpAny_bind (wpAny_tests_one (wpAny_mono h₂ (fun okb s₃ h₃ => ?_) fun _ _ h' => h'))
    cases okb with
    | false => exact wpAny_pure ⟨rfl, h₃⟩
    | true =>
      refine wpAny_bind (wpAny_mono h₃ (fun x s₄ h₄ => wpAny_bind (wpAny_standAt (wpAny_bind (wpAny_of_eq (hs x) (wpAny_bind (wpAny_holding (wpAny_mono h₄ (fun it2 s₅ h₅ => ?_) fun _ _ h' => h'))))))) fun _ _ h' => h')
      refine wpAny_bind (wpAny_runOwn (codeAny_mono h₅ fun r s' hr => ?_))
      cases r with
      | ok f => exact wpAny_pure ⟨rfl, hr⟩
      | error e => exact hr.elim
theorem loop_two0 {elt t1 i1 t2 i2 : Expr} {scope : Scope} {pos : Pos} {it acc : Value} {env : Env} (I : Nat → Shared → Prop)
    (turn : ∀ n s, I n s → wpAny (model prog w) A (pyNext it) (fun r s₁ => match r with
      | none => R (.ok .next) s₁
      | some v => wpAny (model prog w) A (letOwnedTupleGo t1 it v) (fun _ s₀ => wpAny (model prog w) A (assign t1 env v) (fun _ s₃ =>
          wpAny (model prog w) A (eval i2 env) (fun x s₄ =>
            wpAny (model prog w) A (pyIter x) (fun it2 s₅ => codeAny (model prog w) A (.compStart (.ListComp elt [⟨t1, i1, [], 0⟩, ⟨t2, i2, [], 0⟩] scope pos) 1 it2 acc env)
              (fun r s' => match r with | .ok _ => ∃ m, m < n ∧ I m s' | .error _ => False) s₅) (notedBy (model prog w) A env fun e s' => R (.error e) s') s₄) (notedBy (model prog w) A env fun e s' => R (.error e) s') s₃)
          (notedBy (model prog w) A env fun e s' => R (.error e) s') s₀) (notedBy (model prog w) A env fun e s' => R (.error e) s') s₁) (notedBy (model prog w) A env fun e s' => R (.error e) s') s)
    (n : Nat) (h : I n s) (hs : ∀ x, foldedSetIterable i2 env x = pure x := by intro _; rfl) : codeAny (model prog w) A (.compLoop (.ListComp elt [⟨t1, i1, [], 0⟩, ⟨t2, i2, [], 0⟩] scope pos) 0 it acc env) R s := by
  refine codeAny_loop rfl I (fun n s hI => ?_) n h
  show wpAny _ A ((compTurn (.ListComp elt [⟨t1, i1, [], 0⟩, ⟨t2, i2, [], 0⟩] scope pos) 0 it acc env).onRaise (fun x => do noteFrame x env; theTreesLotGoes x)) _ _ s
  refine wpAny_noted ?_
  rw [compTurn_two]
  refine wpAny_bind (wpAny_standAt (wpAny_bind (wpAny_mono (turn n s hI) (fun r s₁ h₁ => ?_) fun _ _ h' => h')))
  cases r with
  | none => exact wpAny_pure h₁
  | some v =>
    refine wpAny_bind (wpAny_mono h₁ (fun _ s₀ h₀' => ?_) fun _ _ h' => h')
    refine wpAny_bind (wpAny_mono h₀' (fun _ s₃ h₃ => ?_) fun _ _ h' => h')
    refine wpAny_bind (wpAny_tests_nil ?_)
    refine wpAny_bind (wpAny_mono h₃ (fun x s₄ h₄ => wpAny_bind (wpAny_standAt (wpAny_bind (wpAny_of_eq (hs x) (wpAny_bind (wpAny_holding (wpAny_mono h₄ (fun it2 s₅ h₅ => ?_) fun _ _ h' => h'))))))) fun _ _ h' => h')
    refine wpAny_bind (wpAny_runOwn (codeAny_mono h₅ fun r s' hr => ?_))
    cases r with
    | ok f => exact wpAny_pure ⟨rfl, hr⟩
    | error e => exact hr.elim
/-- the second clause of a comprehension that takes its own name: all items are appended -/
theorem inner_collect {i2 : Expr} {x : Str} {px px' : Pos} {g1 : Comprehension} {scope : Scope} {pos : Pos} {env : Env} {I D : Addr} {fp : List Addr} {n : Nat} {P : Nat → Value → Prop} {St : Nat → Heap → Prop} {ys : List Value} {m₂ : Str → Option Value}
    (W : Walks prog w A I fp [I] n P St) (hst : St 0 s.heap) (hD : s.heap.get? D = some (lst ys)) (hC : s.heap.Ns env.locals m₂) (hCf : env.locals ∉ fp) (hDf : D ∉ fp) (hIf : I ∈ fp) (hCD : env.locals ≠ D) (hsz : ys.length + n ≤ sizeLine)
    (hx : env.kindOf x = some .local) (hp : (env.scope.kind == .class || (env.scope.kind == .module && env.locals != env.globals)) = false) (hk : env.scope.kind = .function) (hb : (x == ("__debug__" : Str)) = false)
    (done : ∀ h' tk vs m', vs.length = n → (∀ j v, vs[j]? = some v → P j v) → h'.get? D = some (lst (ys ++ vs)) → h'.Ns env.locals m' → (∀ z, z ≠ x → m' z = m₂ z) →
      (∀ b o, b ≠ I → b ≠ env.locals → b ≠ D → s.heap.get? b = some o → h'.get? b = some o) → R (.ok .next) { s with heap := h', toks := tk }) :
    codeAny (model prog w) A (.compStart (.ListComp (.Name x px) [g1, ⟨.Name x px', i2, [], 0⟩] scope pos) 1 (.ref I) (.ref D) env) R s := by
  have hIC : env.locals ≠ I := fun q => hCf (q ▸ hIf)
  have hID : D ≠ I := fun q => hDf (q ▸ hIf)
  have loop : codeAny (model prog w) A (.compLoop (.ListComp (.Name x px) [g1, ⟨.Name x px', i2, [], 0⟩] scope pos) 1 (.ref I) (.ref D) env) R s := by
    refine loop_in (fun k s' => ∃ h' tk i vs m', s' = { s with heap := h', toks := tk } ∧ i ≤ n ∧ k = n + 1 - i ∧ St i h' ∧ vs.length = i ∧ (∀ j v, vs[j]? = some v → P j v) ∧ h'.get? D = some (lst (ys ++ vs)) ∧ h'.Ns env.locals m' ∧ (∀ z, z ≠ x → m' z = m₂ z) ∧
      (∀ b o, b ≠ I → b ≠ env.locals → b ≠ D → s.heap.get? b = some o → h'.get? b = some o)) ?_ (n + 1)
      ⟨s.heap, s.toks, 0, [], m₂, rfl, Nat.zero_le _, rfl, hst, rfl, (fun j v e => by simp at e), by rw [List.append_nil]; exact hD, hC, fun _ _ => rfl, fun _ _ _ _ _ e => e⟩
    rintro k s' ⟨h, tk, i, vs, m', rfl, hi, rfl, hst', hvl, hvP, hD', hC', hm', hkeep⟩
    by_cases hlt : i < n
    · refine W.item i _ _ _ hlt hst' fun v h₁ tk₁ hPv hst₁ hk₁ => ?_
      have hC₁ : h₁.Ns env.locals m' := hC'.at' fun o e => hk₁ _ o (by simpa using hIC) e
      have hD₁ : h₁.get? D = some (lst (ys ++ vs)) := hk₁ _ _ (by simpa using hID) hD'
      refine wpAny_assign_Name (wpAny_storeName_local hx hC₁ (fun h₂ hn₂ hs₂ => ?_) hp)
      refine wpAny_Name (wpAny_loadName_local hk hx hn₂ (if_pos rfl) ?_) hb
      have hD₂ : h₂.get? D = some (lst (ys ++ vs)) := hs₂.extBut _ _ (Ne.symm hCD) hD₁
      refine append_at (hsz := by show (ys ++ vs).toArray.size ≤ sizeLine; rw [List.size_toArray, List.length_append]; omega) hD₂ fun h₃ hs₃ hD₃ => ?_
      refine ⟨n + 1 - (i + 1), by omega, h₃, _, i + 1, vs ++ [v], _, rfl, hlt, rfl, ?_, by simp [hvl], ?_, ?_, hn₂.sameBut hs₃ hCD, ?_, ?_⟩
      · refine W.frame (i + 1) h₁ h₃ hst₁ fun b hb o e => ?_
        exact hs₃.extBut b o (fun q => hDf (q ▸ hb)) (hs₂.extBut b o (fun q => hCf (q ▸ hb)) e)
      · intro j v' e
        rw [List.getElem?_append] at e
        split at e
        · exact hvP j v' e
        · rename_i hj
          have : j = i := by
            have := (List.getElem?_eq_some_iff.mp e).1
            simp at this; omega
          subst this
          rw [hvl, Nat.sub_self] at e
          cases e; exact hPv
      · rw [hD₃, ← List.append_assoc]
        exact congrArg some (lst_snoc _ _)
      · intro z hz
        rw [if_neg hz]; exact hm' z hz
      · intro b o h1 h2 h3 e
        exact hs₃.extBut b o h3 (hs₂.extBut b o h2 (hk₁ b o (by simpa using h1) (hkeep b o h1 h2 h3 e)))
    · have hin : i = n := Nat.le_antisymm hi (Nat.not_lt.mp hlt)
      subst hin
      refine W.done _ _ _ hst' fun h₂ tk₂ hk₂ => ?_
      exact done h₂ tk₂ vs m' hvl hvP (hk₂ _ _ (by simpa using hID) hD') (hC'.at' fun o e => hk₂ _ o (by simpa using hIC) e) hm' fun b o h1 h2 h3 e => hk₂ b o (by simpa using h1) (hkeep b o h1 h2 h3 e)
  exact compStart_in loop (W.self 0 _ _ _ hst loop)
/-- how a comprehension's loop must end -/
def CompDone (h₀ : Heap) (L C D : Addr) (m : Str → Option Value) (s₂ : Shared) (Q : Value → Shared → Prop) (r : Result) (s' : Shared) : Prop :=
  ∃ h tk m' ys news', r = .ok .next ∧ s' = { s₂ with heap := h, toks := tk } ∧ Fr h₀ L h m ∧ News h₀ L h ((D, lst ys) :: news') ∧ h.Ns C m' ∧ (∀ p ∈ news', p.1 ≠ C) ∧
    ∀ h'', Fr h₀ L h'' m → News h₀ L h'' ((D, lst ys) :: news') → Q (.ref D) { s₂ with heap := h'', toks := tk }
/-- what stands after the iterator of the first clause is made -/
def CompSrc (prog : Program) (w : World) (A : Around) (h₀ : Heap) (L : Addr) (e : Expr) (env' : Addr → Env) (Q : Value → Shared → Prop) (it : Value) (s₂ : Shared) : Prop :=
  ∃ I news m, it = .ref I ∧ Fr h₀ L s₂.heap m ∧ News h₀ L s₂.heap news ∧
    (∀ s' (Q' : Value → Shared → Prop) (E' : Value → Shared → Prop), (∀ b o, s₂.heap.get? b = some o → s'.heap.get? b = some o) → Q' (.ref I) s' → wpAny (model prog w) A (pyIter (.ref I)) Q' E' s') ∧
    ∀ C D h tk, @Ne Nat C D → s₂.heap.objs.size ≤ C → s₂.heap.objs.size ≤ D → h₀.get? C = none → h₀.get? D = none → @Ne Nat C L → @Ne Nat D L → Fr h₀ L h m → News h₀ L h ((D, lst []) :: news) → h.Ns C (fun _ => none) →
      (∀ b o, s₂.heap.get? b = some o → h.get? b = some o) → (∀ p ∈ news, p.1 ≠ C ∧ p.1 ≠ D) →
      codeAny (model prog w) A (.compLoop e 0 (.ref I) (.ref D) (env' C)) (CompDone h₀ L C D m s₂ Q) { s₂ with heap := h, toks := tk }
theorem comp_enter {elt target iter : Expr} {ifs : List Expr} {rest : List Comprehension} {scope : Scope} {cl : List (Str × Addr)} {pos : Pos} {env : Env} {h₀ : Heap} {L : Addr} {Q : Value → Shared → Prop}
    (hclos : closureFor scope env = pure cl) (hcell : ∀ y ∈ scope.names, y.2 ≠ .cell) (hkind : scope.kind = .function) (hnames : ∀ x ∈ scope.names, x.2 = .local → scope.names.lookup x.1 = some .local)
    (h : wpAny (model prog w) A (eval iter env) (fun xv s₁ => wpAny (model prog w) A (pyIter xv) (CompSrc prog w A h₀ L (.ListComp elt (⟨target, iter, ifs, 0⟩ :: rest) scope pos) (fun C => compEnvC scope cl C env) Q) E s₁) E s)
    (hs : ∀ x, foldedSetIterable iter env x = pure x := by intro _; rfl) :
    wpAny (model prog w) A (eval (.ListComp elt (⟨target, iter, ifs, 0⟩ :: rest) scope pos) env) Q E s := by
  rw [eval_ListComp]
  refine wpAny_comprehension_free (use := none) rfl hs hclos hkind hnames (wpAny_mono h (fun xv s₁ h₁ => wpAny_mono h₁ (fun it s₂ h₂ => ?_) fun _ _ e => e) fun _ _ e => e)
  obtain ⟨I, news, m, rfl, F, N, self, go⟩ := h₂
  refine wpAny_newObj_type (wpAny_newFunctionEnv hcell (by intro y hy; simp at hy) (fun h₁ hns₁ hsb₁ => ?_) hkind)
  dsimp only at hns₁ hsb₁ ⊢
  generalize hH2 : s₂.heap.push { cls := .type "list", dict := none, data := .seq ([] : List Value).toArray } = H2 at hns₁ hsb₁ ⊢
  have hC : H2.objs.size = s₂.heap.objs.size + 1 := by rw [← hH2, Heap.size_push]
  have hDC : s₂.heap.objs.size ≠ H2.objs.size := by rw [hC]; exact Nat.ne_of_lt (Nat.lt_succ_self _)
  have below : ∀ b, b < s₂.heap.objs.size → b ≠ H2.objs.size ∧ b ≠ s₂.heap.objs.size := fun b hb => ⟨by rw [hC]; exact Nat.ne_of_lt (Nat.lt_succ_of_lt hb), Nat.ne_of_lt hb⟩
  have old : ∀ b o, s₂.heap.get? b = some o → h₁.get? b = some o := fun b o e => hsb₁.extBut b o (below b (Heap.lt_size e)).1 (Heap.get?_push_of_some _ (hH2 ▸ Heap.get?_push_of_some _ e))
  have hacc : h₁.get? s₂.heap.objs.size = some (lst []) := hsb₁.extBut _ _ hDC (Heap.get?_push_of_some _ (hH2 ▸ Heap.get?_push_size _ rfl))
  have fresh₀ : ∀ a, s₂.heap.objs.size ≤ a → h₀.get? a = none := fun a ha => by
    cases e : h₀.get? a with
    | none => rfl
    | some o' => exact absurd (Heap.lt_size (F.keep a o' e)) (Nat.not_lt.mpr ha)
  have hD₀ : h₀.get? s₂.heap.objs.size = none := fresh₀ _ (Nat.le_refl _)
  have hC₀ : h₀.get? H2.objs.size = none := fresh₀ _ (by rw [hC]; exact Nat.le_succ _)
  have hLlt : L < s₂.heap.objs.size := F.ns.lt
  have hDL : s₂.heap.objs.size ≠ L := Ne.symm (below L hLlt).2
  have hCL : H2.objs.size ≠ L := Ne.symm (below L hLlt).1
  have loop : ∀ s₃ : Shared, s₃ = { s₂ with heap := h₁, toks := s₂.toks + ([] : List (Str × Value)).length } →
      codeAny (model prog w) A (.compLoop (.ListComp elt (⟨target, iter, ifs, 0⟩ :: rest) scope pos) 0 (.ref I) (.ref s₂.heap.objs.size) (compEnvC scope cl H2.objs.size env))
        (compPost (model prog w) A E none Q (.ref s₂.heap.objs.size) H2.objs.size) s₃ := by
    rintro s₃ rfl
    refine codeAny_mono (go H2.objs.size s₂.heap.objs.size h₁ _ (Ne.symm hDC) (by rw [hC]; exact Nat.le_succ _) (Nat.le_refl _) hC₀ hD₀ hCL hDL (F.keeps old) (fun p hp => ?_) hns₁ old fun p hp => below _ (Heap.lt_size (N p hp).1)) fun r s' hr => ?_
    · rcases List.mem_cons.mp hp with rfl | hp
      · exact ⟨hacc, hDL, hD₀⟩
      · exact ⟨old _ _ (N p hp).1, (N p hp).2⟩
    · obtain ⟨h', tk, m', ys, news', rfl, rfl, F', N', hC', off, k⟩ := hr
      refine ⟨m', hC', fun h'' hs'' => k h'' (F'.change hs'' hCL hC₀) fun p hp => ⟨hs''.extBut _ _ ?_ (N' p hp).1, (N' p hp).2⟩⟩
      rcases List.mem_cons.mp hp with rfl | hp
      · exact hDC
      · exact off p hp
  exact codeAny_compStart_list (loop _ rfl) (self _ _ _ old (loop _ rfl))
end
end Mine
end
-- part Lf41
theorem Mine.calm_Lf41 : True := by
  w_top off
  exact trivial
section
open PySem PySem.W PyProof.Rows PySem.Calls PyProof.Rows.LCg
set_option maxRecDepth 100000
namespace Mine
theorem ints_at : ∀ {vs : List Value} {ns : List Int} {i : Nat} {v : Value}, IntsAre vs ns → vs[i]? = some v → ∃ n t, v = .int n t ∧ ns[i]? = some n
  | _, _, _, _, .nil, h => by simp at h
  | _, _, 0, _, .cons n t _, h => by simp at h; exact ⟨n, t, h.symm, rfl⟩
  | _, _, i + 1, _, .cons n t r, h => by simp at h; simpa using ints_at r h
theorem enter_defC {prog : Program} {w : World} {A : Around} {R : Result → Shared → Prop} {s : Shared} {K : Frag} {f : Addr} {name qual : Str} {params : Arguments} {body : List Stmt} {scope : Scope} {dV kV doc pm cdv ct oc : Value} {an od : Option Addr} {osl : Array (Option Value)} {args : Args} (binds : List (Str × Value))
    (X : K.In s.heap) (hlim : s.heap.NoLimit) (hroom : A.depth < recursionLimit) (ho : K.lookup f = some ⟨oc, od, .func (fnOf name qual params body scope dV kV doc pm an cdv ct), osl⟩) (hcd : codeIn K cdv qual = true)
    (hbind : BindsTo s (fnOf name qual params body scope dV kV doc pm an cdv ct) args binds)
    (hkind : (binds.all fun y => scope.names.lookup y.1 == some .local || scope.names.lookup y.1 == some .cell) = true)
    (hnd : ((cellsFrom 0 scope.names []).map (·.1)).Nodup)
    (h : ∀ h₁ tk cells, Fr s.heap s.heap.objs.size h₁ (bindL (envOfC qual scope s.heap.objs.size f cdv).kindOf binds fun _ => none) → News s.heap s.heap.objs.size h₁ cells →
      CellsAre (bindC (envOfC qual scope s.heap.objs.size f cdv).kindOf binds fun _ => none) (cellsFrom (s.heap.objs.size + 1) scope.names []) cells →
      wpAny (model prog w) (A.deeper (envOfC qual scope s.heap.objs.size f cdv)) (execs body (envOfC qual scope s.heap.objs.size f cdv))
        (fun f s' => R (.ok (.ret (match f with | .ret v => v | _ => .none))) s') (fun _ _ => False)
        { s with heap := h₁, toks := tk })
    (hco : scope.isCoroutine = false := by rfl) (hgen : scope.isGenerator = false := by rfl) (hk : scope.kind = .function := by rfl) :
    codeAny (model prog w) A (.call (.ref f) args) R s := by
  refine codeAny_call_function hroom (X _ _ ho) rfl hco hgen rfl (codeRec_of X hcd) (hbind _ _ _ _ ?_)
  refine wpAny_newFunctionEnv_cells hk (kindsX hkind _) fun env' he s' x => ?_
  subst he
  refine ⟨hlim.keeps x.toInCall.keep, codeAny_func ?_⟩
  obtain ⟨h₁, tk, rfl, _⟩ := x.done
  have hk₁ := x.toInCall.keep
  obtain ⟨cells, NC, Y⟩ := Cl.news (h₀ := s.heap) (Nat.le_refl _) fun n c hm => ⟨x.cell n c (lookup_of_mem_nodup (cellsFrom_names scope.names 0 (s.heap.objs.size + 1) [] [] rfl ▸ hnd) hm), x.above n c hm⟩
  refine wpAny_mono (h h₁ tk cells ⟨x.toInCall.ns, hk₁, Nat.le_refl _⟩ NC Y) (fun fl s' hl => hl) fun _ _ y => y.elim
section
variable {prog : Program} {w : World} {A : Around} {E : Value → Shared → Prop} {s s₂ : Shared} {env : Env} {h₀ : Heap} {x : Str} {body : List Stmt} {Q : Flow → Shared → Prop}
/-- a for over a list of ints that stands in the base -/
theorem iter_list {l : Addr} {vs : List Value} {ns : List Int} {m₀ : Str → Option Value} {news : List (Addr × Obj)}
    (J : Nat → (Str → Option Value) → List (Addr × Obj) → Prop)
    (hh : A.handled = none) (hl : h₀.IsList l vs.toArray) (hi : IntsAre vs ns)
    (F : Fr h₀ env.locals s.heap m₀) (N : News h₀ env.locals s.heap news) (hj : J 0 m₀ news)
    (turn : ∀ i n t m₁ news₁ h tk I oI, ns[i]? = some n → J i m₁ news₁ → (∀ p ∈ news₁, p.1 ≠ I) → Fr h₀ env.locals h (fun y => if y = x then some (.int n t) else m₁ y) → News h₀ env.locals h ((I, oI) :: news₁) →
      wpAny (model prog w) A (execs body env) (TurnEnd h₀ env.locals I oI (J (i + 1)) { s with heap := h, toks := tk } Q) E { s with heap := h, toks := tk })
    (done : ∀ h tk m₁ news₁, J ns.length m₁ news₁ → Fr h₀ env.locals h m₁ → News h₀ env.locals h news₁ → Q .next { s with heap := h, toks := tk }) :
    wpAny (model prog w) A (pyIter (.ref l)) (fun it s₂ => LoopAtV prog w A h₀ env x body Q E it s₂) E s := by
  have hls : s.heap.IsList l vs.toArray := hl.at fun o e => F.keep l o e
  obtain ⟨ol, hol, hol2⟩ := id hl
  have hlt : l < h₀.objs.size := Heap.lt_size hol
  have hne : l ≠ s.heap.objs.size := Nat.ne_of_lt (Nat.lt_trans (Nat.lt_of_lt_of_le hlt F.above) F.ns.lt)
  refine wpAny_pyIter_list hls ?_
  have W := Walks.list (prog := prog) (w := w) hh s.heap.objs.size l hne vs.toArray
  have hlen : vs.toArray.size = ns.length := by simp [hi.length]
  rw [hlen] at W
  refine loopAt_one J W (fun b hb => ?_) (List.mem_cons_self ..) (fun i h st => let ⟨o, ho, _⟩ := st.1; ⟨o, ho⟩)
    ⟨⟨_, Heap.get?_push_size _ rfl, rfl, rfl⟩, hls.push _⟩ (F.push _) (fun p hp => ⟨Heap.get?_push_of_some _ (N p hp).1, (N p hp).2⟩) (next_is_new F) ?_ ?_ hj ?_ ?_
  · rcases List.mem_cons.mp hb with rfl | hb
    · exact .inl rfl
    · rw [List.mem_singleton.mp hb]; exact .inr ⟨ol, hol⟩
  · intro hm
    rcases List.mem_cons.mp hm with e | hm
    · exact absurd F.ns.lt (e ▸ Nat.lt_irrefl _)
    · exact absurd (Nat.lt_of_lt_of_le hlt F.above) (List.mem_singleton.mp hm ▸ Nat.lt_irrefl _)
  · intro p hp hI; exact absurd (Heap.lt_size (N p hp).1) (hI ▸ Nat.lt_irrefl _)
  · intro i v m₁ news₁ h tk oI hlt' hP hJ hoff F₁ N₁
    obtain ⟨n, t, rfl, hn⟩ : ∃ n t, v = .int n t ∧ ns[i]? = some n := by
      have hP' : vs[i]? = some v := by simpa using hP
      exact ints_at hi hP'
    exact turn i n t m₁ news₁ h tk _ oI hn hJ hoff F₁ N₁
  · exact done
end
end Mine
end
-- part Ce41
theorem Mine.calm_Ce41 : True := by
  w_top off
  exact trivial
section
open PySem PySem.W PyProof.Rows PySem.Calls PyProof.Rows.LCg
set_option maxRecDepth 100000
namespace Mine
theorem ints_of : ∀ {vs : List Value} {ns : List Int}, vs.length = ns.length → (∀ (j : Nat) v, vs[j]? = some v → ∃ n t, v = Value.int n t ∧ ns[j]? = some n) → IntsAre vs ns
  | [], [], _, _ => .nil
  | v :: vs, n :: ns, hl, h => by
    obtain ⟨n', t, rfl, hn⟩ := h 0 v rfl
    simp at hn; subst hn
    exact .cons _ _ (ints_of (by simpa using hl) fun j v q => h (j + 1) v (by simpa using q))
  | [], _ :: _, hl, _ => by simp at hl
  | _ :: _, [], hl, _ => by simp at hl
/-- how the test of a comprehension must end -/
def TestEnd (h₀ : Heap) (L : Addr) (m : Str → Option Value) (s₂ : Shared) (led : List (Addr × Obj)) (r : Bool) (ok : Bool) (s₃ : Shared) : Prop :=
  ok = r ∧ ∃ h' tk', s₃ = { s₂ with heap := h', toks := tk' } ∧ Fr h₀ L h' m ∧ News h₀ L h' led
/-- how the second clause's range must be made -/
def InnerEnd (h₀ : Heap) (L : Addr) (m : Str → Option Value) (s₂ : Shared) (led : List (Addr × Obj)) (lo : Int) (len : Nat) (v : Value) (s₃ : Shared) : Prop :=
  ∃ r h' tk' t₀ u₀ v₀, v = .ref r ∧ s₃ = { s₂ with heap := h', toks := tk' } ∧ Fr h₀ L h' m ∧ News h₀ L h' led ∧ IsRange h' r lo (lo + len) 1 t₀ u₀ v₀ ∧ Builtin.Range.small lo (lo + len) 1 = true
/-- the objects that a comprehension over an enumerate owns lie apart -/
structure Apart (h₀ : Heap) (L C D e it : Addr) (news : List (Addr × Obj)) : Prop where
  ei : e ≠ it
  ce : C ≠ e
  ci : C ≠ it
  de : D ≠ e
  di : D ≠ it
  cd : C ≠ D
  cl : C ≠ L
  dl : D ≠ L
  el : e ≠ L
  il : it ≠ L
  c0 : h₀.get? C = none
  d0 : h₀.get? D = none
  e0 : h₀.get? e = none
  i0 : h₀.get? it = none
  off : ∀ p ∈ news, p.1 ≠ C ∧ p.1 ≠ D ∧ p.1 ≠ e ∧ p.1 ≠ it
abbrev enumO (it : Addr) (i : Int) (old : Value) : Obj := { cls := .type "enumerate", dict := none, data := .fields #[.none, .bool false, .ref it, rawInt i, .none, old], slots := #[] }
/-- the ledger within a turn -/
abbrev turnNews (C D e it : Addr) (oC oe oi : Obj) (ys : List Value) (news : List (Addr × Obj)) : List (Addr × Obj) := (C, oC) :: (D, lst ys) :: (e, oe) :: (it, oi) :: news
section
variable {prog : Program} {w : World} {A : Around} {E : Value → Shared → Prop} {s s₂ : Shared} {R : Result → Shared → Prop} {h₀ : Heap} {L C D e it U : Addr} {m m₂ : Str → Option Value} {news : List (Addr × Obj)} {items : Array Value} {nU : Nat} {env : Env} {a b : Str} {pa pb tp : Pos} {kk : Nat} {ys : List Value}
theorem enum_turn {X : Shared → Prop} {Qb : Unit → Shared → Prop} {i : Nat} {old : Value} {h : Heap} {tk : Nat}
    (hh : A.handled = none) (hC : env.locals = C) (ha : env.kindOf a = some .local) (hb : env.kindOf b = some .local) (hp : (env.scope.kind == .class || (env.scope.kind == .module && env.locals != env.globals)) = false)
    (ap : Apart h₀ L C D e it news) (F : Fr h₀ L h m) (N : News h₀ L h ((D, lst ys) :: news)) (hns : h.Ns C m₂) (hU : (U, W.listOf items nU) ∈ news) (hE : IsEnum h e it i old) (hI : h.IsListIter it U i)
    (body : i < items.size → ∀ x t h' tk' oC oi old', items[i]? = some x → NsObj oC (fun z => if z = b then some x else if z = a then some (.int i t) else m₂ z) → oi.cls = .type "list_iterator" → oi.data = .fields #[.ref U, .int ((i + 1 : Nat) : Int) 0] →
      Fr h₀ L h' m → News h₀ L h' (turnNews C D e it oC (enumO it ((i + 1 : Nat) : Int) old') oi ys news) → Qb () { s with heap := h', toks := tk' })
    (done : i = items.size → ∀ h' tk', Fr h₀ L h' m → News h₀ L h' ((D, lst ys) :: news) → h'.Ns C m₂ → X { s with heap := h', toks := tk' }) (hi : i ≤ items.size) :
    wpAny (model prog w) A (pyNext (.ref e)) (fun r s₁ => match r with
      | none => X s₁
      | some v => wpAny (model prog w) A (letOwnedTupleGo (.Tuple [.Name a pa, .Name b pb] kk tp) (.ref e) v) (fun _ s₀ => wpAny (model prog w) A (assign (.Tuple [.Name a pa, .Name b pb] kk tp) env v) Qb E s₀) E s₁) E { s with heap := h, toks := tk } := by
  subst hC
  obtain ⟨u1, u2, u3, u4⟩ := ap.off _ hU
  have hUl : h.IsList U items := N.isList (.tail _ hU)
  have Wk := WalksT.enumerate (prog := prog) (w := w) hh e it U ap.ei u3 u4 items
  by_cases hlt : i < items.size
  · refine Wk.item i _ _ _ hlt ⟨⟨old, hE⟩, hI, hUl⟩ fun T vals h₁ tk₁ hPt hTge hT hMid hk₁ => ?_
    have hTw := Wk.apart i T h₁ hMid
    refine Wk.go _ _ _ i T _ _ _ hMid fun h₂ hst₂ hk₂ => ?_
    obtain ⟨t, x, hx, rfl⟩ := hPt
    have up₂ : ∀ c o, c ≠ e → c ≠ it → h.get? c = some o → h₂.get? c = some o := fun c o h1 h2 q => hk₂ c o (by simp [h1, h2]) (hk₁ c o (by simp [h1, h2]) q)
    have hT₂ : h₂.IsTuple T #[.int i t, x] := by
      obtain ⟨o, ho, r⟩ := hT
      exact ⟨o, hk₂ T o hTw ho, r⟩
    refine kcp_assign hh hT₂ ha hb hp (hns.at' fun o q => up₂ _ o ap.ce ap.ci q) fun h₃ tk₃ hn₃ hk₃ => ?_
    have up : ∀ c o, c ≠ e → c ≠ it → c ≠ env.locals → h.get? c = some o → h₃.get? c = some o := fun c o h1 h2 h3 q => hk₃ c o h3 (up₂ c o h1 h2 q)
    obtain ⟨⟨old', hE₂⟩, ⟨oi, hoi, hoc, hod⟩, _⟩ := hst₂
    obtain ⟨oC, heC, hoC⟩ := ns_obj hn₃
    have nL : ∀ c o, h₀.get? c = some o → c ≠ e ∧ c ≠ it ∧ c ≠ env.locals := fun c o q => ⟨(fun z => by rw [z, ap.e0] at q; cases q), (fun z => by rw [z, ap.i0] at q; cases q), (fun z => by rw [z, ap.c0] at q; cases q)⟩
    refine body hlt x t h₃ tk₃ oC oi old' hx hoC hoc hod ⟨F.ns.at' fun o q => up _ o (Ne.symm ap.el) (Ne.symm ap.il) (Ne.symm ap.cl) q, fun c o q => up c o (nL c o q).1 (nL c o q).2.1 (nL c o q).2.2 (F.keep c o q), F.above⟩ fun p hp' => ?_
    rcases List.mem_cons.mp hp' with rfl | hp'
    · exact ⟨heC, ap.cl, ap.c0⟩
    rcases List.mem_cons.mp hp' with rfl | hp'
    · have z := N (D, lst ys) (.head _)
      exact ⟨up _ _ ap.de ap.di (Ne.symm ap.cd) z.1, z.2⟩
    rcases List.mem_cons.mp hp' with rfl | hp'
    · exact ⟨hk₃ _ _ (Ne.symm ap.ce) hE₂, ap.el, ap.e0⟩
    rcases List.mem_cons.mp hp' with rfl | hp'
    · exact ⟨hk₃ _ _ (Ne.symm ap.ci) hoi, ap.il, ap.i0⟩
    · have z := N p (.tail _ hp')
      obtain ⟨v1, v2, v3, v4⟩ := ap.off p hp'
      exact ⟨up _ _ v3 v4 v1 z.1, z.2⟩
  · have hin : i = items.size := Nat.le_antisymm hi (Nat.not_lt.mp hlt)
    have hst : (∃ old, IsEnum h e it ((items.size : Nat) : Int) old) ∧ h.IsListIter it U items.size ∧ h.IsList U items := by rw [← hin]; exact ⟨⟨old, hE⟩, hI, hUl⟩
    refine Wk.done _ _ _ hst fun h₂ tk₂ hk₂ => ?_
    have up₂ : ∀ c o, c ≠ e → c ≠ it → h.get? c = some o → h₂.get? c = some o := fun c o h1 h2 q => hk₂ c o (by simp [h1, h2]) q
    refine done hin h₂ tk₂ ⟨F.ns.at' fun o q => up₂ _ o (Ne.symm ap.el) (Ne.symm ap.il) q, fun c o q => up₂ c o (fun z => by rw [z, ap.e0] at q; cases q) (fun z => by rw [z, ap.i0] at q; cases q) (F.keep c o q), F.above⟩ (fun p hp' => ?_) (hns.at' fun o q => up₂ _ o ap.ce ap.ci q)
    rcases List.mem_cons.mp hp' with rfl | hp'
    · have z := N (D, lst ys) (.head _)
      exact ⟨up₂ _ _ ap.de ap.di z.1, z.2⟩
    · have z := N p (.tail _ hp')
      obtain ⟨v1, v2, v3, v4⟩ := ap.off p hp'
      exact ⟨up₂ _ _ v3 v4 z.1, z.2⟩
theorem turn_unpack {h : Heap} {oC oi : Obj} {i : Nat} {old : Value} {mc : Str → Option Value} (N : News h₀ L h (turnNews C D e it oC (enumO it ((i : Nat) : Int) old) oi ys news)) (hoC : NsObj oC mc) (h1 : oi.cls = .type "list_iterator") (h2 : oi.data = .fields #[.ref U, .int ((i : Nat) : Int) 0]) :
    News h₀ L h ((D, lst ys) :: news) ∧ h.Ns C mc ∧ IsEnum h e it ((i : Nat) : Int) old ∧ h.IsListIter it U i := by
  refine ⟨fun p hp => ?_, hoC.ns (N _ (.head _)).1, (N _ (.tail _ (.tail _ (.head _)))).1, oi, (N _ (.tail _ (.tail _ (.tail _ (.head _))))).1, h1, h2⟩
  rcases List.mem_cons.mp hp with rfl | hp
  · exact N _ (.tail _ (.head _))
  · exact N _ (.tail _ (.tail _ (.tail _ (.tail _ hp))))
theorem range_filter_succ (tst : Nat → Bool) (i : Nat) : (List.range (i + 1)).filter tst = (List.range i).filter tst ++ (if tst i then [i] else []) := by
  rw [List.range_succ, List.filter_append]
  congr 1
  simp only [List.filter_cons, List.filter_nil]
/-- after an append, the ledger with the longer list -/
theorem after_append {h h' : Heap} {oC oe oi : Obj} {v : Value} (ap : Apart h₀ L C D e it news) (F : Fr h₀ L h m) (N : News h₀ L h (turnNews C D e it oC oe oi ys news)) (hs : Heap.SameBut D h h')
    (hD : h'.get? D = some { cls := .type "list", data := .seq (ys.toArray.push v) (ys.length + 1) }) : Fr h₀ L h' m ∧ News h₀ L h' (turnNews C D e it oC oe oi (ys ++ [v]) news) := by
  refine ⟨F.change hs ap.dl ap.d0, fun p hp => ?_⟩
  rcases List.mem_cons.mp hp with rfl | hp
  · have z := N _ (.head _); exact ⟨hs.extBut _ _ ap.cd z.1, z.2⟩
  rcases List.mem_cons.mp hp with rfl | hp
  · exact ⟨hD.trans (congrArg some (lst_snoc ys v)), ap.dl, ap.d0⟩
  rcases List.mem_cons.mp hp with rfl | hp
  · have z := N _ (.tail _ (.tail _ (.head _))); exact ⟨hs.extBut _ _ (Ne.symm ap.de) z.1, z.2⟩
  rcases List.mem_cons.mp hp with rfl | hp
  · have z := N _ (.tail _ (.tail _ (.tail _ (.head _)))); exact ⟨hs.extBut _ _ (Ne.symm ap.di) z.1, z.2⟩
  · have z := N _ (.tail _ (.tail _ (.tail _ (.tail _ hp)))); exact ⟨hs.extBut _ _ (ap.off p hp).2.1 z.1, z.2⟩
/-- [place for place, unit in enumerate(units) if c] -/
theorem enum_src1 {iter c : Expr} {scope : Scope} {cl : List (Str × Addr)} {pos pe : Pos} {tst : Nat → Bool} {Q : Value → Shared → Prop}
    (hh : A.handled = none) (F : Fr h₀ L s₂.heap m) (N : News h₀ L s₂.heap news) (hU : (U, W.listOf items nU) ∈ news) (hE : IsEnum s₂.heap e it 0 .none) (hI : s₂.heap.IsListIter it U 0)
    (hei : e ≠ it) (hel : e ≠ L) (hil : it ≠ L) (he0 : h₀.get? e = none) (hi0 : h₀.get? it = none) (off : ∀ p ∈ news, p.1 ≠ e ∧ p.1 ≠ it) (hsz : items.size ≤ sizeLine)
    (hkind : scope.kind = .function) (hxa : scope.names.lookup a = some .local) (hxb : scope.names.lookup b = some .local) (hab : ¬ a = b) (hdb : (a == ("__debug__" : Str)) = false)
    (test : ∀ C D oC oe oi ys i x t m₃ h tk (E' : Value → Shared → Prop), items[i]? = some x → NsObj oC m₃ → m₃ a = some (.int (i : Nat) t) → m₃ b = some x → Apart h₀ L C D e it news → Fr h₀ L h m → News h₀ L h (turnNews C D e it oC oe oi ys news) →
      wpAny (model prog w) A (isTrue c (compEnvC scope cl C env) (eval c (compEnvC scope cl C env))) (TestEnd h₀ L m s₂ (turnNews C D e it oC oe oi ys news) (tst i)) E' { s₂ with heap := h, toks := tk })
    (fin : ∀ D h tk ys, Fr h₀ L h m → News h₀ L h ((D, lst ys) :: news) → (∀ p ∈ news, p.1 ≠ D) → s₂.heap.objs.size ≤ D → IntsAre ys (((List.range items.size).filter tst).map fun (i : Nat) => (i : Int)) → Q (.ref D) { s₂ with heap := h, toks := tk }) :
    CompSrc prog w A h₀ L (.ListComp (.Name a pe) [⟨.Tuple [.Name a pa, .Name b pb] kk tp, iter, [c], 0⟩] scope pos) (fun C => compEnvC scope cl C env) Q (.ref e) s₂ := by
  refine ⟨e, news, m, rfl, F, N, fun s' Q' E' hk hq => wpAny_pyIter_enum (hk _ _ hE) hq, ?_⟩
  intro C D h tk hCD hCge hDge hC0 hD0 hCL hDL F₁ N₁ hns hk off₂
  have lt_e : e < s₂.heap.objs.size := Heap.lt_size hE
  have lt_i : it < s₂.heap.objs.size := by obtain ⟨o, ho, _⟩ := hI; exact Heap.lt_size ho
  have ap : Apart h₀ L C D e it news := ⟨hei, Nat.ne_of_gt (Nat.lt_of_lt_of_le lt_e hCge), Nat.ne_of_gt (Nat.lt_of_lt_of_le lt_i hCge), Nat.ne_of_gt (Nat.lt_of_lt_of_le lt_e hDge), Nat.ne_of_gt (Nat.lt_of_lt_of_le lt_i hDge), hCD, hCL, hDL, hel, hil, hC0, hD0, he0, hi0,
    fun p hp => ⟨(off₂ p hp).1, (off₂ p hp).2, off p hp⟩⟩
  have ha : (compEnvC scope cl C env).kindOf a = some .local := lookup_relabel_local hxa
  have hb : (compEnvC scope cl C env).kindOf b = some .local := lookup_relabel_local hxb
  have hp : ((compEnvC scope cl C env).scope.kind == .class || ((compEnvC scope cl C env).scope.kind == .module && (compEnvC scope cl C env).locals != (compEnvC scope cl C env).globals)) = false := by simp [compEnvC, relabel, hkind]
  have hk' : (compEnvC scope cl C env).scope.kind = .function := by simp [compEnvC, relabel, hkind]
  have hI₁ : h.IsListIter it U 0 := hI.at fun o q => hk _ o q
  refine kct_loop (fun k s' => ∃ h tk i ys m₂ old, s' = { s₂ with heap := h, toks := tk } ∧ i ≤ items.size ∧ k = items.size + 1 - i ∧ Fr h₀ L h m ∧ News h₀ L h ((D, lst ys) :: news) ∧ h.Ns C m₂ ∧ IsEnum h e it ((i : Nat) : Int) old ∧ h.IsListIter it U i ∧ ys.length ≤ i ∧
    IntsAre ys (((List.range i).filter tst).map fun (i : Nat) => (i : Int))) ?_ (items.size + 1) ⟨h, tk, 0, [], _, .none, rfl, Nat.zero_le _, rfl, F₁, N₁, hns, hk _ _ hE, hI₁, Nat.le_refl _, .nil⟩
  rintro k s' ⟨h, tk, i, ys, m₂, old, rfl, hi, rfl, F', N', hns', hE', hI', hyl, hJ⟩
  refine enum_turn (s := s₂) (X := CompDone h₀ L C D m s₂ Q (.ok .next)) hh rfl ha hb hp ap F' N' hns' hU hE' hI' ?_ ?_ hi
  · intro hlt x t h₃ tk₃ oC oi old' hx hoC h1 h2 F₃ N₃
    refine wpAny_mono (test C D oC _ oi ys i x t _ h₃ tk₃ _ hx hoC (by simp [hab]) (by simp) ap F₃ N₃) (fun ok s₄ h₄ => ?_) fun _ _ q => q
    obtain ⟨rfl, h4, tk4, rfl, F₄, N₄⟩ := h₄
    cases htt : tst i with
    | false =>
      simp only [Bool.false_eq_true, if_false]
      obtain ⟨n1, n2, n3, n4⟩ := turn_unpack N₄ hoC h1 h2
      refine ⟨items.size + 1 - (i + 1), by omega, h4, tk4, i + 1, ys, _, old', rfl, hlt, rfl, F₄, n1, n2, n3, n4, by omega, ?_⟩
      rw [range_filter_succ, htt]
      simpa using hJ
    | true =>
      simp only [if_true]
      refine wpAny_Name (wpAny_loadName_local hk' ha (hoC.ns (N₄ _ (.head _)).1) (v := .int i t) (by simp [hab]) ?_) hdb
      refine append_at (hsz := by show ys.toArray.size ≤ sizeLine; rw [List.size_toArray]; omega) (N₄ _ (.tail _ (.head _))).1 fun h₅ hs₅ hD₅ => ?_
      obtain ⟨F₅, N₅⟩ := after_append ap F₄ N₄ hs₅ hD₅
      obtain ⟨n1, n2, n3, n4⟩ := turn_unpack N₅ hoC h1 h2
      refine ⟨items.size + 1 - (i + 1), by omega, h₅, _, i + 1, ys ++ [.int i t], _, old', rfl, hlt, rfl, F₅, n1, n2, n3, n4, by simp; omega, ?_⟩
      rw [range_filter_succ, htt, if_pos rfl, List.map_append]
      exact hJ.append (.cons _ _ .nil)
  · intro hin h' tk' F₃ N₃ hns₃
    subst hin
    exact ⟨h', tk', m₂, ys, news, rfl, rfl, F₃, N₃, hns₃, fun p hp => (off₂ p hp).1, fun h'' F'' N'' => fin D h'' tk' ys F'' N'' (fun p hp => (off₂ p hp).2) hDge hJ⟩
/-- [six for place, unit in enumerate(units) if c for six in unit] -/
theorem enum_src3 {iter c : Expr} {x : Str} {px px' pb2 : Pos} {scope : Scope} {cl : List (Str × Addr)} {pos : Pos} {tst : Nat → Bool} {us : Nat → List Int} {Q : Value → Shared → Prop}
    (hh : A.handled = none) (F : Fr h₀ L s₂.heap m) (N : News h₀ L s₂.heap news) (hU : (U, W.listOf items nU) ∈ news) (hE : IsEnum s₂.heap e it 0 .none) (hI : s₂.heap.IsListIter it U 0)
    (hei : e ≠ it) (hel : e ≠ L) (hil : it ≠ L) (he0 : h₀.get? e = none) (hi0 : h₀.get? it = none) (off : ∀ p ∈ news, p.1 ≠ e ∧ p.1 ≠ it)
    (hsz : ∀ i, i ≤ items.size → (((List.range i).filter tst).flatMap us).length ≤ sizeLine)
    (unit : ∀ i v, items[i]? = some v → ∃ a' xs nx, v = .ref a' ∧ (a', W.listOf xs.toArray nx) ∈ news ∧ IntsAre xs (us i))
    (hkind : scope.kind = .function) (hxa : scope.names.lookup a = some .local) (hxb : scope.names.lookup b = some .local) (hxx : scope.names.lookup x = some .local) (hab : ¬ a = b)
    (hdb : (b == ("__debug__" : Str)) = false) (hdx : (x == ("__debug__" : Str)) = false)
    (test : ∀ C D oC oe oi ys i v t m₃ h tk (E' : Value → Shared → Prop), items[i]? = some v → NsObj oC m₃ → m₃ a = some (.int (i : Nat) t) → m₃ b = some v → Apart h₀ L C D e it news → Fr h₀ L h m → News h₀ L h (turnNews C D e it oC oe oi ys news) →
      wpAny (model prog w) A (isTrue c (compEnvC scope cl C env) (eval c (compEnvC scope cl C env))) (TestEnd h₀ L m s₂ (turnNews C D e it oC oe oi ys news) (tst i)) E' { s₂ with heap := h, toks := tk })
    (fin : ∀ D h tk ys, Fr h₀ L h m → News h₀ L h ((D, lst ys) :: news) → (∀ p ∈ news, p.1 ≠ D) → s₂.heap.objs.size ≤ D → IntsAre ys (((List.range items.size).filter tst).flatMap us) → Q (.ref D) { s₂ with heap := h, toks := tk }) :
    CompSrc prog w A h₀ L (.ListComp (.Name x px) [⟨.Tuple [.Name a pa, .Name b pb] kk tp, iter, [c], 0⟩, ⟨.Name x px', .Name b pb2, [], 0⟩] scope pos) (fun C => compEnvC scope cl C env) Q (.ref e) s₂ := by
  refine ⟨e, news, m, rfl, F, N, fun s' Q' E' hk hq => wpAny_pyIter_enum (hk _ _ hE) hq, ?_⟩
  intro C D h tk hCD hCge hDge hC0 hD0 hCL hDL F₁ N₁ hns hk off₂
  have lt_e : e < s₂.heap.objs.size := Heap.lt_size hE
  have lt_i : it < s₂.heap.objs.size := by obtain ⟨o, ho, _⟩ := hI; exact Heap.lt_size ho
  have ap : Apart h₀ L C D e it news := ⟨hei, Nat.ne_of_gt (Nat.lt_of_lt_of_le lt_e hCge), Nat.ne_of_gt (Nat.lt_of_lt_of_le lt_i hCge), Nat.ne_of_gt (Nat.lt_of_lt_of_le lt_e hDge), Nat.ne_of_gt (Nat.lt_of_lt_of_le lt_i hDge), hCD, hCL, hDL, hel, hil, hC0, hD0, he0, hi0,
    fun p hp => ⟨(off₂ p hp).1, (off₂ p hp).2, off p hp⟩⟩
  have ha : (compEnvC scope cl C env).kindOf a = some .local := lookup_relabel_local hxa
  have hb : (compEnvC scope cl C env).kindOf b = some .local := lookup_relabel_local hxb
  have hx' : (compEnvC scope cl C env).kindOf x = some .local := lookup_relabel_local hxx
  have hp : ((compEnvC scope cl C env).scope.kind == .class || ((compEnvC scope cl C env).scope.kind == .module && (compEnvC scope cl C env).locals != (compEnvC scope cl C env).globals)) = false := by simp [compEnvC, relabel, hkind]
  have hk' : (compEnvC scope cl C env).scope.kind = .function := by simp [compEnvC, relabel, hkind]
  have hI₁ : h.IsListIter it U 0 := hI.at fun o q => hk _ o q
  refine loop_two (fun k s' => ∃ h tk i ys m₂ old, s' = { s₂ with heap := h, toks := tk } ∧ i ≤ items.size ∧ k = items.size + 1 - i ∧ Fr h₀ L h m ∧ News h₀ L h ((D, lst ys) :: news) ∧ h.Ns C m₂ ∧ IsEnum h e it ((i : Nat) : Int) old ∧ h.IsListIter it U i ∧
    IntsAre ys (((List.range i).filter tst).flatMap us)) ?_ (items.size + 1) ⟨h, tk, 0, [], _, .none, rfl, Nat.zero_le _, rfl, F₁, N₁, hns, hk _ _ hE, hI₁, .nil⟩
  rintro k s' ⟨h, tk, i, ys, m₂, old, rfl, hi, rfl, F', N', hns', hE', hI', hJ⟩
  refine enum_turn (s := s₂) (X := CompDone h₀ L C D m s₂ Q (.ok .next)) hh rfl ha hb hp ap F' N' hns' hU hE' hI' ?_ ?_ hi
  · intro hlt v t h₃ tk₃ oC oi old' hv hoC h1 h2 F₃ N₃
    refine wpAny_mono (test C D oC _ oi ys i v t _ h₃ tk₃ _ hv hoC (by simp [hab]) (by simp) ap F₃ N₃) (fun ok s₄ h₄ => ?_) fun _ _ q => q
    obtain ⟨rfl, h4, tk4, rfl, F₄, N₄⟩ := h₄
    cases htt : tst i with
    | false =>
      simp only [Bool.false_eq_true, if_false]
      obtain ⟨n1, n2, n3, n4⟩ := turn_unpack N₄ hoC h1 h2
      refine ⟨items.size + 1 - (i + 1), by omega, h4, tk4, i + 1, ys, _, old', rfl, hlt, rfl, F₄, n1, n2, n3, n4, ?_⟩
      rw [range_filter_succ, htt]
      simpa using hJ
    | true =>
      simp only [if_true]
      obtain ⟨a', xs, nx, rfl, hmem, hxs⟩ := unit i v hv
      have hc4 := (N₄ _ (.head _)).1
      refine wpAny_Name (wpAny_loadName_local hk' hb (hoC.ns hc4) (v := .ref a') (by simp) ?_) hdb
      have hmem4 : (a', W.listOf xs.toArray nx) ∈ turnNews C D e it oC (enumO it ((i + 1 : Nat) : Int) old') oi ys news := .tail _ (.tail _ (.tail _ (.tail _ hmem)))
      have hl4 : h4.IsList a' xs.toArray := N₄.isList hmem4
      have hlt4 : a' < h4.objs.size := Heap.lt_size (N₄ _ hmem4).1
      refine wpAny_pyIter_list hl4 ?_
      have Wl := Walks.list (prog := prog) (w := w) hh h4.objs.size a' (Nat.ne_of_lt hlt4) xs.toArray
      have up : ∀ b o, h4.get? b = some o → (h4.push { cls := .type "list_iterator", data := .fields #[.ref a', .int 0 0] }).get? b = some o := fun b o q => Heap.get?_push_of_some _ q
      have ltC : C < h4.objs.size := Heap.lt_size hc4
      have ltD : D < h4.objs.size := Heap.lt_size (N₄ _ (.tail _ (.head _))).1
      obtain ⟨w1, w2, w3, w4⟩ := ap.off _ hmem
      have hlenx : xs.toArray.size = (us i).length := by simp [hxs.length]
      have hszi := hsz (i + 1) hlt
      rw [range_filter_succ, htt, if_pos rfl, List.flatMap_append, show [i].flatMap us = us i by simp, List.length_append] at hszi
      have hyl : ys.length = (((List.range i).filter tst).flatMap us).length := hJ.length
      refine inner_collect (n := xs.toArray.size) (ys := ys) (D := D) (env := compEnvC scope cl C env) Wl ⟨⟨_, Heap.get?_push_size _ rfl, rfl, rfl⟩, hl4.push _⟩ (up _ _ (N₄ _ (.tail _ (.head _))).1) ((hoC.ns hc4).push _) ?_ ?_ (List.mem_cons_self ..) hCD (by rw [hlenx]; omega) hx' hp hk' hdx ?_
      · intro q
        rcases List.mem_cons.mp q with q | q
        · exact absurd ltC (q ▸ Nat.lt_irrefl _)
        · exact w1 (List.mem_singleton.mp q).symm
      · intro q
        rcases List.mem_cons.mp q with q | q
        · exact absurd ltD (q ▸ Nat.lt_irrefl _)
        · exact w2 (List.mem_singleton.mp q).symm
      intro h5 tk5 vs5 m5 hv1 hv2 hD5 hns5 hm5 hk5
      have hvs : vs5 = xs := by
        apply List.ext_getElem?
        intro j
        by_cases hj : j < vs5.length
        · have q := hv2 j vs5[j] (List.getElem?_eq_getElem hj)
          rw [List.getElem?_eq_getElem hj]
          simpa using q.symm
        · rw [List.getElem?_eq_none (by omega), List.getElem?_eq_none (by simp at hv1; omega)]
      subst hvs
      have up5 : ∀ b o, b ≠ C → b ≠ D → h4.get? b = some o → h5.get? b = some o := fun b o q1 q2 q => hk5 b o (Nat.ne_of_lt (Heap.lt_size q)) q1 q2 (up b o q)
      have nL : ∀ c o, h₀.get? c = some o → c ≠ C ∧ c ≠ D := fun c o q => ⟨(fun z => by rw [z, hC0] at q; cases q), (fun z => by rw [z, hD0] at q; cases q)⟩
      refine ⟨items.size + 1 - (i + 1), by omega, h5, tk5, i + 1, ys ++ vs5, m5, old', rfl, hlt, rfl, ⟨F₄.ns.at' fun o q => up5 _ o (Ne.symm hCL) (Ne.symm hDL) q, fun c o q => up5 c o (nL c o q).1 (nL c o q).2 (F₄.keep c o q), F₄.above⟩, fun p hp' => ?_, hns5, up5 _ _ (Ne.symm ap.ce) (Ne.symm ap.de) (N₄ _ (.tail _ (.tail _ (.head _)))).1,
        ⟨oi, up5 _ _ (Ne.symm ap.ci) (Ne.symm ap.di) (N₄ _ (.tail _ (.tail _ (.tail _ (.head _))))).1, h1, h2⟩, ?_⟩
      · rcases List.mem_cons.mp hp' with rfl | hp'
        · exact ⟨hD5, hDL, hD0⟩
        · have z := N₄ p (.tail _ (.tail _ (.tail _ (.tail _ hp'))))
          exact ⟨up5 _ _ (off₂ p hp').1 (off₂ p hp').2 z.1, z.2⟩
      · rw [range_filter_succ, htt, if_pos rfl, List.flatMap_append]
        refine hJ.append ?_
        simpa using hxs
  · intro hin h' tk' F₃ N₃ hns₃
    subst hin
    exact ⟨h', tk', m₂, ys, news, rfl, rfl, F₃, N₃, hns₃, fun p hp => (off₂ p hp).1, fun h'' F'' N'' => fin D h'' tk' ys F'' N'' (fun p hp => (off₂ p hp).2) hDge hJ⟩
/-- [x for a in range(..) for x in range(lo a, lo a + len a)] -/
theorem range_src2 {iter i2 : Expr} {x : Str} {px px' : Pos} {scope : Scope} {cl : List (Str × Addr)} {pos : Pos} {lo : Nat → Int} {len : Nat → Nat} {n : Nat} {Q : Value → Shared → Prop} {I : Addr}
    (hh : A.handled = none) (F : Fr h₀ L s₂.heap m) (N : News h₀ L s₂.heap news) (hI : IsRangeIter s₂.heap I 0 n 1)
    (hIL : I ≠ L) (hI0 : h₀.get? I = none) (off : ∀ p ∈ news, p.1 ≠ I)
    (hsz : ∀ i, i ≤ n → ((List.range i).flatMap fun k => (List.range (len k)).map fun j : Nat => lo k + (j : Int)).length ≤ sizeLine)
    (hkind : scope.kind = .function) (hxa : scope.names.lookup a = some .local) (hxx : scope.names.lookup x = some .local) (hdx : (x == ("__debug__" : Str)) = false)
    (hfs : ∀ C v, foldedSetIterable i2 (compEnvC scope cl C env) v = pure v)
    (inner : ∀ C D oC oI ys k t m₃ h tk (E' : Value → Shared → Prop), k < n → NsObj oC m₃ → m₃ a = some (.int (k : Nat) t) → @Ne Nat C D → @Ne Nat C I → @Ne Nat D I → (∀ p ∈ news, p.1 ≠ C ∧ p.1 ≠ D ∧ p.1 ≠ I) → Fr h₀ L h m → News h₀ L h ((C, oC) :: (D, lst ys) :: (I, oI) :: news) →
      wpAny (model prog w) A (eval i2 (compEnvC scope cl C env)) (InnerEnd h₀ L m s₂ ((C, oC) :: (D, lst ys) :: (I, oI) :: news) (lo k) (len k)) E' { s₂ with heap := h, toks := tk })
    (fin : ∀ D h tk ys, Fr h₀ L h m → News h₀ L h ((D, lst ys) :: news) → (∀ p ∈ news, p.1 ≠ D) → s₂.heap.objs.size ≤ D → IntsAre ys ((List.range n).flatMap fun k => (List.range (len k)).map fun j : Nat => lo k + (j : Int)) → Q (.ref D) { s₂ with heap := h, toks := tk }) :
    CompSrc prog w A h₀ L (.ListComp (.Name x px) [⟨.Name a pa, iter, [], 0⟩, ⟨.Name x px', i2, [], 0⟩] scope pos) (fun C => compEnvC scope cl C env) Q (.ref I) s₂ := by
  refine ⟨I, news, m, rfl, F, N, fun s' Q' E' hk hq => wpAny_pyIter_rangeiter (hk _ _ hI) hq, ?_⟩
  intro C D h tk hCD hCge hDge hC0 hD0 hCL hDL F₁ N₁ hns hk off₂
  have lt_I : I < s₂.heap.objs.size := Heap.lt_size hI
  have hCI : C ≠ I := Nat.ne_of_gt (Nat.lt_of_lt_of_le lt_I hCge)
  have hDI : D ≠ I := Nat.ne_of_gt (Nat.lt_of_lt_of_le lt_I hDge)
  have ha : (compEnvC scope cl C env).kindOf a = some .local := lookup_relabel_local hxa
  have hx' : (compEnvC scope cl C env).kindOf x = some .local := lookup_relabel_local hxx
  have hp : ((compEnvC scope cl C env).scope.kind == .class || ((compEnvC scope cl C env).scope.kind == .module && (compEnvC scope cl C env).locals != (compEnvC scope cl C env).globals)) = false := by simp [compEnvC, relabel, hkind]
  have hk' : (compEnvC scope cl C env).scope.kind = .function := by simp [compEnvC, relabel, hkind]
  have Wk := Walks.range (prog := prog) (w := w) hh I 0 1 n
  have nL : ∀ c o, h₀.get? c = some o → c ≠ C ∧ c ≠ D ∧ c ≠ I := fun c o q => ⟨(fun z => by rw [z, hC0] at q; cases q), (fun z => by rw [z, hD0] at q; cases q), (fun z => by rw [z, hI0] at q; cases q)⟩
  refine loop_two0 (hs := hfs C) (fun k s' => ∃ h tk i ys m₂, s' = { s₂ with heap := h, toks := tk } ∧ i ≤ n ∧ k = n + 1 - i ∧ Fr h₀ L h m ∧ News h₀ L h ((D, lst ys) :: news) ∧ h.Ns C m₂ ∧ IsRangeIter h I (0 + (i : Nat) * 1) ((n : Int) - (i : Nat)) 1 ∧
    IntsAre ys ((List.range i).flatMap fun k => (List.range (len k)).map fun j : Nat => lo k + (j : Int))) ?_ (n + 1) ⟨h, tk, 0, [], _, rfl, Nat.zero_le _, rfl, F₁, N₁, hns, by simpa using hk _ _ hI, .nil⟩
  rintro k s' ⟨h, tk, i, ys, m₂, rfl, hi, rfl, F', N', hns', hI', hJ⟩
  by_cases hlt : i < n
  · refine Wk.item i _ _ _ hlt hI' fun v h₁ tk₁ hPv hst₁ hk₁ => ?_
    obtain ⟨t, rfl⟩ := hPv
    refine wpAny_of_eq (a := ()) rfl ?_
    refine wpAny_assign_Name (wpAny_storeName_local ha (hns'.at' fun o q => hk₁ _ o (by simpa using hCI) q) (fun h₃ hn₃ hs₃ => ?_) hp)
    have up : ∀ c o, c ≠ I → c ≠ C → h.get? c = some o → h₃.get? c = some o := fun c o h1 h2 q => hs₃.extBut c o h2 (hk₁ c o (by simpa using h1) q)
    obtain ⟨oC, heC, hoC⟩ := ns_obj hn₃
    have hI₃ : h₃.get? I = some _ := hs₃.extBut _ _ (Ne.symm hCI) hst₁
    have F₃ : Fr h₀ L h₃ m := ⟨F'.ns.at' fun o q => up _ o (Ne.symm hIL) (Ne.symm hCL) q, fun c o q => up c o (nL c o q).2.2 (nL c o q).1 (F'.keep c o q), F'.above⟩
    have N₃ : News h₀ L h₃ ((C, oC) :: (D, lst ys) :: (I, _) :: news) := fun p hp' => by
      rcases List.mem_cons.mp hp' with rfl | hp'
      · exact ⟨heC, hCL, hC0⟩
      rcases List.mem_cons.mp hp' with rfl | hp'
      · have z := N' (D, lst ys) (.head _)
        exact ⟨up _ _ hDI (Ne.symm hCD) z.1, z.2⟩
      rcases List.mem_cons.mp hp' with rfl | hp'
      · exact ⟨hI₃, hIL, hI0⟩
      · have z := N' p (.tail _ hp')
        exact ⟨up _ _ (off p hp') (off₂ p hp').1 z.1, z.2⟩
    have e0 : (0 : Int) + (i : Nat) * 1 = (i : Int) := by omega
    refine wpAny_mono (inner C D oC _ ys i t _ h₃ _ _ hlt hoC (by rw [e0]; simp) hCD hCI hDI (fun p hp => ⟨(off₂ p hp).1, (off₂ p hp).2, off p hp⟩) F₃ N₃) (fun v s₄ h₄ => ?_) fun _ _ q => q
    obtain ⟨r, h4, tk4, t₀, u₀, v₀, rfl, rfl, F₄, N₄, hr, hsm⟩ := h₄
    refine wpAny_pyIter_range hr hsm ?_
    have hrs : Builtin.Range.rangeSize (lo i) (lo i + len i) 1 = (len i : Int) := by
      unfold Builtin.Range.rangeSize
      rw [if_pos (by decide)]
      split
      · rw [Int.ediv_one]; omega
      · omega
    rw [hrs]
    have up4 : ∀ b o, h4.get? b = some o → (h4.push { cls := .type "range_iterator", data := .fields #[rawInt (lo i), rawInt (len i : Int), rawInt 1] }).get? b = some o := fun b o q => Heap.get?_push_of_some _ q
    have hc4 := (N₄ _ (.head _)).1
    have hd4 := (N₄ _ (.tail _ (.head _))).1
    have hi4 := (N₄ _ (.tail _ (.tail _ (.head _)))).1
    have Wl := Walks.range (prog := prog) (w := w) hh h4.objs.size (lo i) 1 (len i)
    have hszi := hsz (i + 1) hlt
    rw [List.range_succ, List.flatMap_append, List.length_append] at hszi
    have hone : (List.flatMap (fun k => (List.range (len k)).map fun j : Nat => lo k + (j : Int)) [i]).length = len i := by simp
    rw [hone] at hszi
    have hyl := hJ.length
    refine inner_collect (n := len i) (ys := ys) (D := D) (env := compEnvC scope cl C env) Wl ?_ (up4 _ _ hd4) ((hoC.ns hc4).push _) ?_ ?_ (List.mem_singleton.mpr rfl) hCD (by omega) hx' hp hk' hdx ?_
    · show IsRangeIter _ _ _ _ _
      simpa using Heap.get?_push_size _ rfl
    · intro q; exact absurd (Heap.lt_size hc4) ((List.mem_singleton.mp q) ▸ Nat.lt_irrefl _)
    · intro q; exact absurd (Heap.lt_size hd4) ((List.mem_singleton.mp q) ▸ Nat.lt_irrefl _)
    intro h5 tk5 vs5 m5 hv1 hv2 hD5 hns5 hm5 hk5
    have up5 : ∀ b o, b ≠ C → b ≠ D → h4.get? b = some o → h5.get? b = some o := fun b o q1 q2 q => hk5 b o (Nat.ne_of_lt (Heap.lt_size q)) q1 q2 (up4 b o q)
    have hvs : IntsAre vs5 ((List.range (len i)).map fun j : Nat => lo i + (j : Int)) := ints_of (by simpa using hv1) fun j v q => by
      obtain ⟨t, rfl⟩ := hv2 j v q
      have hj : j < len i := by have := (List.getElem?_eq_some_iff.mp q).1; omega
      refine ⟨_, t, rfl, ?_⟩
      simp [hj]
    refine ⟨n + 1 - (i + 1), by omega, h5, tk5, i + 1, ys ++ vs5, m5, rfl, hlt, rfl, ⟨F₄.ns.at' fun o q => up5 _ o (Ne.symm hCL) (Ne.symm hDL) q, fun c o q => up5 c o (nL c o q).1 (nL c o q).2.1 (F₄.keep c o q), F₄.above⟩, fun p hp' => ?_, hns5, up5 _ _ (Ne.symm hCI) (Ne.symm hDI) hi4, ?_⟩
    · rcases List.mem_cons.mp hp' with rfl | hp'
      · exact ⟨hD5, hDL, hD0⟩
      · have z := N₄ p (.tail _ (.tail _ (.tail _ hp')))
        exact ⟨up5 _ _ (off₂ p hp').1 (off₂ p hp').2 z.1, z.2⟩
    · rw [List.range_succ, List.flatMap_append]
      refine hJ.append ?_
      simpa using hvs
  · have hin : i = n := Nat.le_antisymm hi (Nat.not_lt.mp hlt)
    subst hin
    refine Wk.done _ _ _ hI' fun h₂ tk₂ hk₂ => ?_
    have up₂ : ∀ c o, c ≠ I → h.get? c = some o → h₂.get? c = some o := fun c o h1 q => hk₂ c o (by simpa using h1) q
    refine ⟨h₂, tk₂, m₂, ys, news, rfl, rfl, ⟨F'.ns.at' fun o q => up₂ _ o (Ne.symm hIL) q, fun c o q => up₂ c o (nL c o q).2.2 (F'.keep c o q), F'.above⟩, fun p hp' => ?_, hns'.at' fun o q => up₂ _ o hCI q, fun p hp => (off₂ p hp).1,
      fun h'' F'' N'' => fin D h'' tk₂ ys F'' N'' (fun p hp => (off₂ p hp).2) hDge hJ⟩
    rcases List.mem_cons.mp hp' with rfl | hp'
    · have z := N' (D, lst ys) (.head _)
      exact ⟨up₂ _ _ hDI z.1, z.2⟩
    · have z := N' p (.tail _ hp')
      exact ⟨up₂ _ _ (off p hp') z.1, z.2⟩
end
end Mine
end
-- part Lw41
theorem Mine.calm_Lw41 : True := by
  w_top off
  exact trivial
section
open PySem PySem.W PyProof.Rows PySem.Calls PyProof.Rows.LCg
set_option maxRecDepth 100000
set_option maxHeartbeats 8000000
namespace Mine
/-- one turn of the law's reading in pairs -/
def unStep (σ : List (List Int) × Bool) (six : Int) : List (List Int) × Bool :=
  if σ.2 then (σ.1.dropLast ++ [[63, six]], false) else (σ.1 ++ [[six]], six == 63)
def unRun (ns : List Int) : List (List Int) × Bool := ns.foldl unStep ([], false)
/-- a list of lists of ints, in a ledger -/
inductive UnitsIn (un : List (Addr × Obj)) : List Value → List (List Int) → Prop
  | nil : UnitsIn un [] []
  | cons {a : Addr} {xs : List Value} {e : Nat} {u : List Int} {vs : List Value} {us : List (List Int)} : (a, W.listOf xs.toArray e) ∈ un → IntsAre xs u → UnitsIn un vs us → UnitsIn un (.ref a :: vs) (u :: us)
theorem UnitsIn.mono {un un' : List (Addr × Obj)} (h : ∀ p ∈ un, p ∈ un') : ∀ {vs us}, UnitsIn un vs us → UnitsIn un' vs us
  | _, _, .nil => .nil
  | _, _, .cons h1 h2 h3 => .cons (h _ h1) h2 (h3.mono h)
theorem UnitsIn.snoc {un : List (Addr × Obj)} {a : Addr} {xs : List Value} {e : Nat} {u : List Int} (ha : (a, W.listOf xs.toArray e) ∈ un) (hx : IntsAre xs u) : ∀ {vs us}, UnitsIn un vs us → UnitsIn un (vs ++ [.ref a]) (us ++ [u])
  | _, _, .nil => .cons ha hx .nil
  | _, _, .cons h1 h2 h3 => .cons h1 h2 (h3.snoc ha hx)
theorem UnitsIn.len {un : List (Addr × Obj)} : ∀ {vs us}, UnitsIn un vs us → vs.length = us.length
  | _, _, .nil => rfl
  | _, _, .cons _ _ h3 => congrArg (· + 1) h3.len
theorem UnitsIn.drop {un : List (Addr × Obj)} : ∀ {vs us}, UnitsIn un vs us → UnitsIn un vs.dropLast us.dropLast
  | _, _, .nil => .nil
  | _, _, .cons _ _ .nil => .nil
  | _, _, .cons h1 h2 (.cons h3 h4 h5) => .cons h1 h2 (UnitsIn.drop (.cons h3 h4 h5))
theorem UnitsIn.at {un : List (Addr × Obj)} : ∀ {vs us} {i : Nat} {v : Value}, UnitsIn un vs us → vs[i]? = some v → ∃ a xs e, v = .ref a ∧ (a, W.listOf xs.toArray e) ∈ un ∧ ∃ u, us[i]? = some u ∧ IntsAre xs u
  | _, _, _, _, .nil, h => by simp at h
  | _, _, 0, _, .cons h1 h2 _, h => by simp at h; exact ⟨_, _, _, h.symm, h1, _, rfl, h2⟩
  | _, _, i + 1, _, .cons _ _ h3, h => by simp at h; simpa using h3.at h
theorem unRun_ne : ∀ (l : List Int) (σ : List (List Int) × Bool), (σ.2 = true → σ.1 ≠ []) → (l.foldl unStep σ).2 = true → (l.foldl unStep σ).1 ≠ []
  | [], _, h => h
  | c :: r, σ, h => unRun_ne r (unStep σ c) (by unfold unStep; split <;> simp)
theorem unRun_succ {ns : List Int} {k : Nat} {y : Int} (h : ns[k]? = some y) : unRun (ns.take (k + 1)) = unStep (unRun (ns.take k)) y := by
  unfold unRun
  rw [List.take_add_one, h, Option.toList_some, List.foldl_append]
  rfl
theorem setL_last (v : Value) : ∀ (p : List Value) (x : Value), ki_setL (p ++ [x]) p.length v = some (p ++ [v])
  | [], x => rfl
  | a :: p, x => by
    have := setL_last v p x
    simp only [List.cons_append, List.length_cons, ki_setL, this]
    try rfl
theorem seq_last (p : List Value) (x : Value) : seqIndex? (-1) (p ++ [x]).toArray.size = some p.length := by
  rw [show (p ++ [x]).toArray.size = p.length + 1 by simp]
  have e : (-1 : Int) + ((p.length + 1 : Nat) : Int) = (p.length : Int) := by omega
  show (if (decide (0 ≤ (if (-1 : Int) < 0 then (-1 : Int) + ((p.length + 1 : Nat) : Int) else -1)) && decide ((if (-1 : Int) < 0 then (-1 : Int) + ((p.length + 1 : Nat) : Int) else -1) < ((p.length + 1 : Nat) : Int))) = true then some (Int.toNat (if (-1 : Int) < 0 then (-1 : Int) + ((p.length + 1 : Nat) : Int) else -1)) else none) = _
  rw [if_pos (show (-1 : Int) < 0 by decide), e, if_pos (by simp; omega)]
  simp
theorem news_move {h₀ h : Heap} {L : Addr} {x i u c2 c1 : Addr × Obj} {un : List (Addr × Obj)} (N : News h₀ L h (x :: i :: u :: c2 :: c1 :: un)) : News h₀ L h (i :: u :: c2 :: c1 :: x :: un) := fun p hp => N p (by
  simp only [List.mem_cons] at hp ⊢
  rcases hp with h | h | h | h | h | h <;> simp [h])
theorem turn_off {U c2 c1 l' I : Nat} {o1 o2 o3 o4 : Obj} {un : List (Addr × Obj)} (h1 : U ≠ I) (h2 : c2 ≠ I) (h3 : c1 ≠ I) (h4 : I < l') (h5 : ∀ p ∈ un, p.1 ≠ I) : ∀ p ∈ ((U, o1) :: (c2, o2) :: (c1, o3) :: (l', o4) :: un : List (Addr × Obj)), p.1 ≠ I := by
  intro p hp
  rcases List.mem_cons.mp hp with rfl | hp
  · exact h1
  rcases List.mem_cons.mp hp with rfl | hp
  · exact h2
  rcases List.mem_cons.mp hp with rfl | hp
  · exact h3
  rcases List.mem_cons.mp hp with rfl | hp
  · exact Nat.ne_of_gt h4
  · exact h5 p hp
theorem off_of {U c2 c1 l' : Nat} {o : Obj} {un : List (Addr × Obj)} (hoff : OwnOff un [U, c2, c1]) (h1 : U < l') (h2 : c2 < l') (h3 : c1 < l') : OwnOff ((l', o) :: un) [U, c2, c1] := by
  intro p hp b hb
  rcases List.mem_cons.mp hp with rfl | hp
  · intro e
    have e' : l' = b := e
    subst e'
    simp only [List.mem_cons, List.not_mem_nil, or_false] at hb
    have hb' : (l' : Nat) = U ∨ l' = c2 ∨ l' = c1 := hb
    omega
  · exact hoff p hp b hb
theorem expl2' {m : Str → Option Value} {a b : Str} {u v : Value} (h1 : m a = some u) (h2 : m b = some v) : m = fun z => if z = a then some u else if z = b then some v else m z := by
  funext z
  split
  · subst_vars; exact h1
  · split
    · subst_vars; exact h2
    · rfl
theorem new_of {h₀ h : Heap} {L b : Addr} {m : Str → Option Value} (F : Fr h₀ L h m) (hb : h.objs.size ≤ b) : h₀.get? b = none ∧ b ≠ L := by
  constructor
  · cases q : h₀.get? b with
    | none => rfl
    | some o => exact absurd (Heap.lt_size (F.keep b o q)) (Nat.not_lt.mpr hb)
  · rintro rfl; exact absurd F.ns.lt (Nat.not_lt.mpr hb)
theorem small_of {a n : Nat} (ha : a ≤ 1000) (hn : n ≤ 1000) : Builtin.Range.small (a : Int) (a + n : Int) 1 = true := by
  have hs : Builtin.Range.rangeSize (a : Int) (a + n : Int) 1 = (n : Int) := by
    unfold Builtin.Range.rangeSize
    rw [if_pos (by decide)]
    split
    · rw [Int.ediv_one]; omega
    · omega
  have fits : ∀ i : Int, 0 ≤ i → i ≤ 3000 → Builtin.Range.rangeFitsLong i = true := by
    intro i h0 h1
    unfold Builtin.Range.rangeFitsLong
    simp only [Bool.and_eq_true, decide_eq_true_eq]
    constructor <;> omega
  unfold Builtin.Range.small
  rw [hs, if_pos (by decide), fits _ (by omega) (by omega), fits _ (by omega) (by omega), fits _ (by omega) (by omega), fits _ (by omega) (by omega), fits _ (by omega) (by omega)]
  simp
theorem map_getD (mk : List Nat) (j : Nat) : (mk.map fun i : Nat => (i : Int)).getD j 0 = ((mk.getD j 0 : Nat) : Int) := by
  simp only [List.getD_eq_getElem?_getD, List.getElem?_map]
  cases mk[j]? <;> simp
/-- what the law's own reading leaves -/
def marksOf (us : List (List Int)) : List Nat := (List.range us.length).filter fun i => us[i]? == some [62]
def hiddenOf (mk : List Nat) : List Int := (List.range (mk.length / 2)).flatMap fun k => (List.range (mk.getD (2 * k + 1) 0 + 1 - mk.getD (2 * k) 0)).map fun j : Nat => ((mk.getD (2 * k) 0 : Nat) : Int) + (j : Int)
def leftL (ns : List Int) : List Int := ((List.range (unRun ns).1.length).filter fun i : Nat => !decide ((i : Int) ∈ hiddenOf (marksOf (unRun ns).1))).flatMap fun i => (unRun ns).1.getD i []
theorem rangeSize_of {n : Nat} : Builtin.Range.rangeSize 0 (n : Int) 1 = (n : Int) := by
  unfold Builtin.Range.rangeSize
  rw [if_pos (by decide)]
  split
  · rw [Int.ediv_one]; omega
  · omega
theorem flat_le {α : Type} {B : Nat} (f : Nat → List α) (h : ∀ k, (f k).length ≤ B) : ∀ i, ((List.range i).flatMap f).length ≤ i * B
  | 0 => by simp
  | i + 1 => by
    rw [List.range_succ, List.flatMap_append, List.length_append, show [i].flatMap f = f i by simp, Nat.succ_mul]
    have := flat_le f h i
    have := h i
    omega
theorem flat_filter_le {α : Type} {B : Nat} {t : Nat → Bool} (f : Nat → List α) (h : ∀ k, (f k).length ≤ B) : ∀ i, (((List.range i).filter t).flatMap f).length ≤ i * B
  | 0 => by simp
  | i + 1 => by
    rw [range_filter_succ, List.flatMap_append, List.length_append, Nat.succ_mul]
    have := flat_filter_le (t := t) f h i
    have := h i
    split
    · rw [show [i].flatMap f = f i by simp]; omega
    · simp only [List.flatMap_nil, List.length_nil]; omega
theorem unRun_two : ∀ (l : List Int) (σ : List (List Int) × Bool), (∀ u ∈ σ.1, u.length ≤ 2) → ∀ u ∈ (l.foldl unStep σ).1, u.length ≤ 2
  | [], _, h => h
  | c :: r, σ, h => unRun_two r (unStep σ c) (by
    unfold unStep
    split
    · intro u hu
      rcases List.mem_append.mp hu with hu | hu
      · exact h u (List.dropLast_subset _ hu)
      · rw [List.mem_singleton.mp hu]; simp
    · intro u hu
      rcases List.mem_append.mp hu with hu | hu
      · exact h u hu
      · rw [List.mem_singleton.mp hu]; simp)
theorem left_call {w : World} {mg mb : Str → Option Value} {mean : ExcName → Option Value} {loose : List Str} {A : Around} {s : Shared} {Q E : Value → Shared → Prop} {l : Addr} {vs : List Value} {ns : List Int} :
  A.handled = none → A.depth + 3 < recursionLimit → A.units + 100 < cLine → (hd.heap_39 w.params).In s.heap → Top hd.view_39 loose mean mg mb s.heap →
  s.heap.IsList l vs.toArray → IntsAre vs ns → ns.length ≤ 100 →
  (∀ a (ws : List Value) h' tk', (∀ b o, s.heap.get? b = some o → h'.get? b = some o) → h'.get? a = some (lst ws) → s.heap.get? a = none → IntsAre ws (leftL ns) → Q (.ref a) { s with heap := h', toks := tk' }) →
  wpAny (model Challenge.rw_pd0041_01.row.prog w) A (call (.ref 84) [.ref l]) Q E s := by
  k_fill
  intro hh hd hu X T hl hi hlen hQ
  refine wpAny_call (enter_defC [(Str.ofString "sixes", .ref l)] X T.nolimit (by omega) rfl rfl (.of_eq rfl) rfl (by decide +kernel) ?_)
  intro h₁ tk cells F N Y
  k_cells Y
  dsimp only
  k_steps
  rename_i c2' c1' d2 d1 U _ lt1 _ _ F2 N2
  rename IntsAre _ _ => hi
  replace d2 : c2'.data = .cell none := d2
  replace d1 : c1'.data = .cell none := d1
  generalize hL : s.heap.objs.size = L at *
  refine iter_list (h₀ := s.heap) (vs := vs) (ns := ns) (fun k m news => m (Str.ofString "units") = some (.ref U) ∧ m (Str.ofString "taken") = some (.bool (unRun (ns.take k)).2) ∧
    ∃ vs' e un, news = (U, W.listOf vs'.toArray e) :: (L + 1 + 1, c2') :: (L + 1, c1') :: un ∧ UnitsIn un vs' (unRun (ns.take k)).1 ∧ vs'.length ≤ k ∧ OwnOff un [U, L + 1 + 1, L + 1]) hh hl hi F2 N2 ?_ ?_ ?_
  · exact ⟨rfl, rfl, [], 0, [], rfl, .nil, Nat.le_refl _, fun p hp => by cases hp⟩
  · rintro k six t m₁ news₁ h tk I oI hlt ⟨hm1, hm2, vs', e, un, rfl, hU, hvl, hoff⟩ hI F₁ N₁
    clear F2 N2
    rw [expl2' hm1 hm2] at F₁
    dsimp only [List.cons_append, List.nil_append, List.map_cons, List.map_nil] at F₁ N₁ ⊢
    have hkl : k < ns.length := (List.getElem?_eq_some_iff.mp hlt).1
    have hvl2 : vs'.length ≤ 100 := by omega
    have hIU : @Ne Nat U I := hI _ (.head _)
    have hI2 : @Ne Nat (L + 1 + 1) I := hI _ (.tail _ (.head _))
    have hI1 : @Ne Nat (L + 1) I := hI _ (.tail _ (.tail _ (.head _)))
    have hIn : ∀ p ∈ un, p.1 ≠ I := fun p hp => hI p (.tail _ (.tail _ (.tail _ hp)))
    rw [unRun_succ hlt]
    cases hb : (unRun (ns.take k)).2
    · rw [hb] at F₁
      have e1 : unStep (unRun (ns.take k)) six = ((unRun (ns.take k)).1 ++ [[six]], six == 63) := by unfold unStep; rw [hb]; rfl
      rw [e1]
      k_steps
      rename News _ _ _ _ => N3
      rename Fr _ _ _ _ => F3
      rename _ ∧ _ => lts
      rw [List.push_toArray] at N3
      obtain ⟨g1, g2, g3, g4, g5⟩ := lts
      refine ⟨_, _, _, _, rfl, F3, news_move N3, ?_, rfl, rfl, _, _, _, rfl, UnitsIn.snoc (.head _) (.cons _ _ .nil) (hU.mono fun p hp => .tail _ hp), by simp; omega, off_of hoff g2 g3 g4⟩
      exact turn_off hIU hI2 hI1 g1 hIn
    · rw [hb] at F₁
      have e1 : unStep (unRun (ns.take k)) six = ((unRun (ns.take k)).1.dropLast ++ [[63, six]], false) := by unfold unStep; rw [hb]; rfl
      rw [e1]
      k_steps
      obtain ⟨p, v0, rfl⟩ : ∃ p v0, vs' = p ++ [v0] := by
        rcases List.eq_nil_or_concat vs' with h | ⟨p, v0, h⟩
        · subst h
          have := hU.len
          exact absurd (List.length_eq_zero_iff.mp this.symm) (unRun_ne (ns.take k) ([], false) (by simp) hb)
        · exact ⟨p, v0, by simpa using h⟩
      refine ki_setNeg (j := p.length) (q := p ++ [_]) (by assumption) (by assumption) (by decide) (by decide) (seq_last _ _) (setL_last _ _ _) (by k_upd) ?_
      intro h6 F6 N6
      k_steps
      rename News _ _ _ _ => N3
      rename Fr _ _ _ _ => F3
      rename _ ∧ _ => lts
      obtain ⟨g1, g2, g3, g4, g5⟩ := lts
      have hD := hU.drop
      rw [List.dropLast_concat] at hD
      refine ⟨_, _, _, _, rfl, F3, news_move N3, ?_, rfl, rfl, _, _, _, rfl, UnitsIn.snoc (.head _) (.cons _ _ (.cons _ _ .nil)) (hD.mono fun p hp => .tail _ hp), by simp at hvl ⊢; omega, off_of hoff g2 g3 g4⟩
      exact turn_off hIU hI2 hI1 g1 hIn
  · rintro h tk m₁ news₁ ⟨hm1, hm2, vs', e, un, rfl, hU, hvl, hoff⟩ F₁ N₁
    clear F2 N2
    rw [expl2' hm1 hm2] at F₁
    rw [List.take_length] at *
    generalize (unRun ns).2 = bb at *
    dsimp only at F₁ N₁ ⊢
    refine wpAny_execs_cons (wpAny_Assign_Name ?_)
    refine comp_enter (h₀ := s.heap) (L := L) rfl (by decide) rfl (by decide) ?_
    k_steps
    refine call_enumerate_1 (N₁ _ (.head _)).1 ?_
    intro h2 hE hIt hz2 k2
    refine wpAny_pyIter_enum hE ?_
    refine enum_src1 (U := U) (items := vs'.toArray) (nU := e) (tst := fun i => (unRun ns).1[i]? == some [62]) hh (F₁.keeps k2) (N₁.grown k2) (.head _) hE hIt (Nat.ne_of_gt (Nat.lt_succ_self _)) ?_ ?_ ?_ ?_ ?_ ?_ rfl rfl rfl (by decide) (by decide) ?_ ?_
    · exact (new_of F₁ (Nat.le_succ _)).2
    · exact (new_of F₁ (Nat.le_refl _)).2
    · exact (new_of F₁ (Nat.le_succ _)).1
    · exact (new_of F₁ (Nat.le_refl _)).1
    · intro p hp
      have := Heap.lt_size (N₁ p hp).1
      exact ⟨Nat.ne_of_lt (Nat.lt_succ_of_lt this), Nat.ne_of_lt this⟩
    · rw [List.size_toArray]; exact Nat.le_trans hvl (Nat.le_trans hlen (by decide))
    · intro C D oC oe oi ys i x t m₃ h tk E' hx hoC hma hmb ap F₃ N₃
      obtain ⟨a', xs, nx, rfl, hmem, u, hu', hxs⟩ := hU.at (by simpa using hx)
      k_steps
      rename News _ _ _ _ => N4
      rename Fr _ _ _ _ => F4
      refine ke_eq_ints (xs := xs) (N4.isList (.tail _ (.tail _ (.tail _ (.tail _ (.tail _ (.tail _ (.tail _ (.tail _ hmem))))))))) (N4.isList (.head _)) hxs (.cons _ _ .nil) (by show A.units + 3 + 64 < _; omega) ?_
      k_steps
      refine ⟨?_, _, _, rfl, F4, fun p hp => N4 p (.tail _ hp)⟩
      rw [hu']
      by_cases hq : u = [62] <;> simp [hq]
    · intro D h3 tk3 ys F₃ N₃ hoffD hDge hys
      rw [show vs'.toArray.size = (unRun ns).1.length by simp [hU.len]] at hys
      generalize hmk : List.filter (fun i => (unRun ns).fst[i]? == some [62]) (List.range (unRun ns).1.length) = mk at *
      have hDU : @Ne Nat U D := hoffD _ (.head _)
      have hD2 : @Ne Nat (L + 1 + 1) D := hoffD _ (.tail _ (.head _))
      have hD1 : @Ne Nat (L + 1) D := hoffD _ (.tail _ (.tail _ (.head _)))
      have hDn : ∀ p ∈ un, p.1 ≠ D := fun p hp => hoffD p (.tail _ (.tail _ (.tail _ hp)))
      clear F₁ N₁
      walk1
      rename_i h4 c1'' F4 N4 d4
      have hmkl : mk.length ≤ 100 := by
        rw [← hmk]
        refine Nat.le_trans (List.length_filter_le _ _) ?_
        rw [List.length_range, ← hU.len]; omega
      have hysl : ys.length ≤ 100 := by
        have := hys.length
        rw [List.length_map] at this
        omega
      refine wpAny_execs_cons (wpAny_Assign_Name ?_)
      refine comp_enter (h₀ := s.heap) (L := L) rfl (by decide) rfl (by decide) ?_
      k_steps
      rename_i h5 tk5 t5 u5 v5 hr5 F5 N5 k5
      rw [List.length_map] at hr5
      have hmlt : ∀ j, mk.getD j 0 ≤ 100 := by
        intro j
        rw [List.getD_eq_getElem?_getD]
        cases q : mk[j]? with
        | none => simp
        | some v =>
          have hv : v ∈ mk := List.mem_of_getElem? q
          rw [← hmk] at hv
          have := List.mem_range.mp (List.mem_filter.mp hv).1
          have := hU.len
          simp; omega
      have hms : ∀ j, j + 1 < mk.length → mk.getD j 0 < mk.getD (j + 1) 0 := by
        intro j hj
        have hp : mk.Pairwise (· < ·) := by rw [← hmk]; exact List.pairwise_lt_range.filter _
        rw [List.getD_eq_getElem?_getD, List.getD_eq_getElem?_getD, List.getElem?_eq_getElem (by omega), List.getElem?_eq_getElem hj]
        exact List.pairwise_iff_getElem.mp hp j (j + 1) (by omega) hj (by omega)
      have hfd : ((mk.length : Nat) : Int).fdiv 2 = ((mk.length / 2 : Nat) : Int) := by rw [Int.fdiv_eq_ediv_of_nonneg _ (by decide)]; omega
      rw [hfd] at hr5
      refine wpAny_pyIter_range hr5 (by have := small_of (a := 0) (n := mk.length / 2) (by omega) (by omega); simpa using this) ?_
      rw [rangeSize_of]
      refine range_src2 (n := mk.length / 2) (lo := fun k => (mk.getD (2 * k) 0 : Int)) (len := fun k => mk.getD (2 * k + 1) 0 + 1 - mk.getD (2 * k) 0) (I := h5.objs.size) hh (F5.push _) (fun p hp => ⟨Heap.get?_push_of_some _ (N5 p hp).1, (N5 p hp).2⟩) ?_ (new_of F5 (Nat.le_refl _)).2 (new_of F5 (Nat.le_refl _)).1 ?_ ?_ rfl rfl rfl (by decide) (fun _ _ => rfl) ?_ ?_
      · simpa using Heap.get?_push_size _ rfl
      · intro p hp; exact Nat.ne_of_lt (Heap.lt_size (N5 p hp).1)
      · intro i hi
        refine Nat.le_trans (flat_le (B := 101) _ (fun k => ?_) i) (Nat.le_trans (Nat.mul_le_mul_right 101 (show i ≤ 100 by omega)) (by decide))
        have := hmlt (2 * k + 1)
        rw [List.length_map, List.length_range]; omega
      · intro C D2 oC oI ys2 k t m₃ h tk E' hkn hoC hma hCD hCI hDI hoffs F₃ N₃
        k_steps
        rename_i h7 tk7 t7 u7 v7 hr7 F7 N7 k7
        have hs1 := hms (2 * k) (by omega)
        have hb1 := hmlt (2 * k)
        have hb2 := hmlt (2 * k + 1)
        rw [map_getD, map_getD, show (2 * (k : Int)).toNat = 2 * k by omega, show (2 * (k : Int) + 1).toNat = 2 * k + 1 by omega] at hr7
        have e3 : ((mk.getD (2 * k + 1) 0 : Nat) : Int) + 1 = ((mk.getD (2 * k) 0 : Nat) : Int) + ((mk.getD (2 * k + 1) 0 + 1 - mk.getD (2 * k) 0 : Nat) : Int) := by omega
        rw [e3] at hr7
        exact ⟨_, h7, tk7, _, _, _, rfl, rfl, F7, N7, hr7, small_of (by omega) (by omega)⟩
      · intro D2 h6 tk6 ys2 F₃ N₃ hoffD2 hD2ge hys2
        have hEU : @Ne Nat U D2 := hoffD2 _ (.tail _ (.head _))
        have hED : @Ne Nat D D2 := hoffD2 _ (.head _)
        have hE2 : @Ne Nat (L + 1 + 1) D2 := hoffD2 _ (.tail _ (.tail _ (.head _)))
        have hE1 : @Ne Nat (L + 1) D2 := hoffD2 _ (.tail _ (.tail _ (.tail _ (.head _))))
        have hEn : ∀ p ∈ un, p.1 ≠ D2 := fun p hp => hoffD2 p (.tail _ (.tail _ (.tail _ (.tail _ hp))))
        clear F5 N5
        walk1
        rename_i h8 c2'' F8 N8 d8
        refine wpAny_execs_cons (wpAny_Return_some ?_)
        refine comp_enter (h₀ := s.heap) (L := L) rfl (by decide) rfl (by decide) ?_
        k_steps
        refine call_enumerate_1 (N8 _ (.tail _ (.tail _ (.head _)))).1 ?_
        intro h9 hE9 hIt9 hz9 k9
        refine wpAny_pyIter_enum hE9 ?_
        refine enum_src3 (U := U) (items := vs'.toArray) (nU := e) (tst := fun i : Nat => !decide ((i : Int) ∈ hiddenOf mk)) (us := fun i => (unRun ns).1.getD i []) hh (F8.keeps k9) (N8.grown k9) (.tail _ (.tail _ (.head _))) hE9 hIt9 (Nat.ne_of_gt (Nat.lt_succ_self _)) (new_of F8 (Nat.le_succ _)).2 (new_of F8 (Nat.le_refl _)).2 (new_of F8 (Nat.le_succ _)).1 (new_of F8 (Nat.le_refl _)).1 ?_ ?_ ?_ rfl rfl rfl rfl (by decide) (by decide) (by decide) ?_ ?_
        · intro p hp
          have := Heap.lt_size (N8 p hp).1
          exact ⟨Nat.ne_of_lt (Nat.lt_succ_of_lt this), Nat.ne_of_lt this⟩
        · intro i hi
          refine Nat.le_trans (flat_filter_le (B := 2) _ (fun k => ?_) i) (Nat.le_trans (Nat.mul_le_mul_right 2 (show i ≤ 100 by simp at hi; omega)) (by decide))
          rw [List.getD_eq_getElem?_getD]
          cases q : (unRun ns).1[k]? with
          | none => simp
          | some u => exact unRun_two ns ([], false) (by simp) u (List.mem_of_getElem? q)
        · intro i v hv
          obtain ⟨a', xs, nx, rfl, hmem, u, hu', hxs⟩ := hU.at (by simpa using hv)
          refine ⟨a', xs, nx, rfl, .tail _ (.tail _ (.tail _ (.tail _ (.tail _ hmem)))), ?_⟩
          rw [List.getD_eq_getElem?_getD, hu']
          exact hxs
        · intro C D3 oC oe oi ys3 i x t m₃ h tk E' hx hoC hma hmb ap F₃ N₃
          obtain ⟨a', xs, nx, rfl, hmem, u, hu', hxs⟩ := hU.at (by simpa using hx)
          have hys2' : IntsAre ys2 (hiddenOf mk) := hys2
          k_steps
          refine notin_list_ints (N₃.isList (.tail _ (.tail _ (.tail _ (.tail _ (.head _)))))) hys2' ?_
          k_steps
          refine ⟨?_, _, _, rfl, F₃, N₃⟩
          congr 1
          rw [Bool.eq_iff_iff]
          simp
        · intro D3 h10 tk10 ys3 F₃ N₃ hoffD3 hD3ge hys3
          rw [show vs'.toArray.size = (unRun ns).1.length by simp [hU.len], ← hmk] at hys3
          exact hQ D3 ys3 h10 tk10 F₃.keep (N₃ _ (.head _)).1 (N₃ _ (.head _)).2.2 hys3
end Mine
end
-- part Seg41
theorem Mine.calm_Seg41 : True := by
  w_top off
  exact trivial
section
open PySem PySem.W PyProof.Rows
set_option maxRecDepth 100000
namespace Mine
section
variable {M : Model} {A : Around} {R : GenEnd} {Y : Protocol} {n : Nat} {s₀ : Shared} {c : Code} {fs : List Frame} {s : Shared} {env : Env}
  {K : Flow → Sem PySem.Fin} {H : Value → Sem PySem.Fin} {gd : Bool → Bool} {lv : List Value → List Value}
theorem seg_bindw {α β : Type} {m : Sem α} {f : α → Sem β} {K' : β → Sem PySem.Fin}
    (h : wpAny M (A.over c fs) m (fun a s' => Seg M A R Y n s₀ c ((f a).wrap K' H gd lv) fs s') (fun _ _ => False) s) : Seg M A R Y n s₀ c ((m >>= f).wrap K' H gd lv) fs s := by
  rw [Sem.bind_eq_wrap', Sem.wrap_wrap]
  exact seg_wrap (wpAny_mono h (fun _ _ x => x) fun _ _ x => x.elim)
/-- a statement that does not yield -/
theorem seg_plain {st : Stmt} (h : wpAny M (A.over c fs) (exec st env) (fun f s' => Seg M A R Y n s₀ c (K f) fs s') (fun _ _ => False) s) :
    Seg M A R Y n s₀ c ((exec st env).wrap K H gd lv) fs s := seg_wrap (wpAny_mono h (fun _ _ x => x) fun _ _ x => x.elim)
theorem seg_If {test : Expr} {body orelse : List Stmt} {pos : Pos}
    (h : wpAny M (A.over c fs) (isTrue test env (eval test env)) (fun b s' => if b = true then Seg M A R Y n s₀ c ((execs body env).wrap K H gd lv) fs s' else Seg M A R Y n s₀ c ((execs orelse env).wrap K H gd lv) fs s') (fun _ _ => False) s) :
    Seg M A R Y n s₀ c ((exec (.If test body orelse pos) env).wrap K H gd lv) fs s := by
  rw [exec_If]
  refine seg_bindw (wpAny_standAt (seg_bindw (wpAny_mono h (fun b s' hb => ?_) fun _ _ x => x)))
  cases b with
  | true => rw [if_pos rfl] at hb; exact hb
  | false => rw [if_neg Bool.false_ne_true] at hb; exact hb
/-- what stands behind a loop within a generator's frame -/
def behind (env : Env) (K : Flow → Sem PySem.Fin) (H : Value → Sem PySem.Fin) (gd : Bool → Bool) (lv : List Value → List Value) (c : Code) (p : Pos) : Frame :=
  .ret (fun r => ((match r with | .ok f => (.pure f : Sem Flow) | .error e => .raise e).onRaise fun (x : Value) => do
        if (← field x 1) == Value.none then unsupported "frame.own-activation:exception-without-traceback"
        setFlight x env.frame).wrap K H gd lv) none (gd false) (lv []) c p []
theorem seg_For {target iter : Expr} {body orelse : List Stmt} {pos : Pos}
    (h : wpAny M (A.over c fs) (eval iter env) (fun x s₁ => wpAny M (A.over c fs) (pyIter x) (fun it s₂ => ∀ p,
      Seg M A R Y n s₀ (.forLoop target it body orelse env) (M.den (.forLoop target it body orelse env)) (behind env K H gd lv c p :: fs) s₂) (fun _ _ => False) s₁) (fun _ _ => False) s)
    (hs : ∀ x, foldedSetIterable iter env x = pure x := by intro _; rfl) :
    Seg M A R Y n s₀ c ((exec (.For target iter body orelse pos) env).wrap K H gd lv) fs s := by
  rw [exec_For]
  refine seg_bindw (wpAny_standAt (seg_bindw (wpAny_mono h (fun x s₁ h₁ => ?_) fun _ _ x => x)))
  refine seg_bindw (wpAny_of_eq (hs x) (seg_bindw (wpAny_standAt (seg_bindw (wpAny_holding (wpAny_mono h₁ (fun it s₂ h₂ => ?_) fun _ _ x => x))))))
  exact seg_call h₂
end
section
variable {prog : Program} {w : World} {A : Around} {R : GenEnd} {Y : Protocol} {n : Nat} {s₀ : Shared} {fs : List Frame} {s : Shared} {env : Env}
def loopK (target : Expr) (it : Value) (body orelse : List Stmt) (env : Env) : Flow → Sem PySem.Fin := fun f => match f with
  | .next | .cont => .pure (.again (.forLoop target it body orelse env))
  | .brk => .pure (.done .next)
  | .ret v => .pure (.done (.ret v))
def loopH (env : Env) : Value → Sem PySem.Fin := fun e => (do noteFrame e env; theTreesLotGoes e : Sem Unit).wrap (fun _ => .raise e) .raise id id
theorem seg_forLoop {target : Expr} {it : Value} {body orelse : List Stmt}
    (h : wpAny (model prog w) (A.over (.forLoop target it body orelse env) fs) (pyNext it) (fun r s₁ => match r with
      | none => Seg (model prog w) A R Y n s₀ (.block orelse env) ((model prog w).den (.block orelse env)) fs s₁
      | some v => wpAny (model prog w) (A.over (.forLoop target it body orelse env) fs) (letOwnedTupleGo target it v) (fun _ s₂ =>
          wpAny (model prog w) (A.over (.forLoop target it body orelse env) fs) (assign target env v) (fun _ s₃ =>
            Seg (model prog w) A R Y n s₀ (.forLoop target it body orelse env) ((execs body env).wrap (loopK target it body orelse env) (loopH env) id id) fs s₃) (fun _ _ => False) s₂) (fun _ _ => False) s₁) (fun _ _ => False) s) :
    Seg (model prog w) A R Y n s₀ (.forLoop target it body orelse env) ((model prog w).den (.forLoop target it body orelse env)) fs s := by
  show Seg _ A R Y n s₀ _ ((forTurn target it body orelse env).onRaise (fun x => do noteFrame x env; theTreesLotGoes x)) fs s
  unfold forTurn
  rw [Sem.onRaise_eq_wrap]
  refine seg_bindw (wpAny_standAt (seg_bindw (wpAny_onRaise (wpAny_mono h (fun r s₁ h₁ => ?_) fun _ _ x => x.elim))))
  cases r with
  | none => exact seg_again rfl h₁
  | some v =>
    refine seg_bindw (wpAny_mono h₁ (fun _ s₂ h₂ => seg_bindw (wpAny_mono h₂ (fun _ s₃ h₃ => ?_) fun _ _ x => x)) fun _ _ x => x)
    rw [Sem.bind_eq_wrap', Sem.wrap_wrap]
    rw [Sem.wrap_congr (execs body env) _ _ (K' := loopK target it body orelse env) (H' := loopH env) (fun f => by cases f <;> rfl)
      (fun e => by show (do noteFrame e env; theTreesLotGoes e : Sem Unit).bind (fun _ => .raise e) = _; rw [Sem.bind_eq_wrap]; rfl)]
    exact h₃
/-- the end of a for without else -/
theorem seg_block_nil {r : Result → Sem PySem.Fin} {hd : Option Value} {g : Bool} {l kp : List Value} {c : Code} {p : Pos}
    (h : Seg (model prog w) A R Y n s₀ c (r (.ok .next)) fs s) : Seg (model prog w) A R Y n s₀ (.block [] env) ((model prog w).den (.block [] env)) (.ret r hd g l c p kp :: fs) s := by
  show Seg _ A R Y n s₀ _ (leafOf (.ok .next)) _ s
  exact seg_leaf (.ok .next) h
theorem seg_behind_next {K : Flow → Sem PySem.Fin} {H : Value → Sem PySem.Fin} {gd : Bool → Bool} {lv : List Value → List Value} {c : Code} {p : Pos}
    (h : Seg (model prog w) A R Y n s₀ c (K .next) fs s) : Seg (model prog w) A R Y n s₀ (.block [] env) ((model prog w).den (.block [] env)) (behind env K H gd lv c p :: fs) s := seg_block_nil h
end
end Mine
end
-- part Gen41
theorem Mine.calm_Gen41 : True := by
  w_top off
  exact trivial
section
open PySem PySem.W PyProof.Rows
set_option maxRecDepth 100000
namespace Mine
/-- what _iter_escaped_chars yields: places and signs -/
def escs : Nat → Bool → List Nat → List (Nat × List Nat)
  | i, true, c :: r => (i, [92, c]) :: escs (i + 1) false r
  | i, false, c :: r => if c = 92 then escs (i + 1) true r else (i, [c]) :: escs (i + 1) false r
  | i, true, [] => [(i - 1, [92])]
  | _, false, [] => []
/-- what the generator alone touches: its frame, and all that was made behind its own object -/
def Priv (L₀ b : Addr) : Prop := L₀ ≤ b ∧ b ≠ L₀ + 1
def Stays (h₀ : Heap) (L₀ : Addr) (h h' : Heap) : Prop := (∀ b o, L₀ ≤ b → h.get? b = some o → h'.get? b = some o) ∧ ∀ b o, h₀.get? b = some o → h'.get? b = some o
def Stable (h₀ : Heap) (L₀ : Addr) (I : Heap → Prop) : Prop := ∀ h h', I h → Stays h₀ L₀ h h' → I h'
/-- from one state to a later one within the generator -/
def GMoved (L₀ : Addr) (s₀ s : Shared) : Prop := ∃ h tk, s = { s₀ with heap := h, toks := tk } ∧ (∀ b o, ¬ Priv L₀ b → s₀.heap.get? b = some o → h.get? b = some o)
theorem GMoved.refl (L₀ : Addr) (s : Shared) : GMoved L₀ s s := ⟨s.heap, s.toks, rfl, fun _ _ _ e => e⟩
abbrev tup (p : Nat) (c : List Nat) (t u : Tok) : Obj := { cls := .type "tuple", data := .seq #[.int p t, .str ⟨c.toArray⟩ u] }
def genR (L₀ : Addr) : GenEnd := fun n s₀ r s₁ => r = .ok (.ret .none) ∧ (n = 0 ∧ GMoved L₀ s₀ s₁)
def genY (h₀ : Heap) (L₀ : Addr) (YS : List (Nat × List Nat)) : Protocol := fun n s₀ v s₁ kap =>
  ∃ a p c t u, v = .ref a ∧ YS[YS.length - 1 - n]? = some (p, c) ∧ L₀ + 1 < a ∧ s₁.heap.get? a = some (tup p c t u) ∧ GMoved L₀ s₀ s₁ ∧
    ∃ I : Heap → Prop, Stable h₀ L₀ I ∧ I s₁.heap ∧ ∀ s'' : Shared, I s''.heap → kap (.send .none) s''
/-- the generator object at L₀ + 1, of which k items are drawn -/
def GenAt (prog : Program) (w : World) (A : Around) (h₀ : Heap) (L₀ : Addr) (g : Nat) (YS : List (Nat × List Nat)) (k : Nat) (s : Shared) : Prop :=
  s.heap.IsGen (L₀ + 1) g ∧ h₀.NoLimit ∧ h₀.objs.size ≤ L₀ ∧ k ≤ YS.length ∧ (∀ b o, h₀.get? b = some o → s.heap.get? b = some o) ∧ ∃ gs : GenState, ∃ I : Heap → Prop, s.gens[g]? = some gs ∧ I s.heap ∧ Stable h₀ L₀ I ∧
    ∀ s'' : Shared, I s''.heap → gs.Goes (model prog w) A.in1 (genR L₀) (genY h₀ L₀ YS) (YS.length - k) (.send .none) s''
/-- what a draw leaves -/
def Drawn' (L₀ : Addr) (s s₁ : Shared) : Prop := ∃ h tk gs, s₁ = { s with heap := h, toks := tk, gens := gs } ∧ (∀ b o, ¬ Priv L₀ b → s.heap.get? b = some o → h.get? b = some o) ∧
  ((∀ y ∈ s.gens, y.bare = true) → ∀ y ∈ gs, y.bare = true)
theorem setGen_bare {s₁ : Shared} {g : Nat} {gs : GenState} (hb : gs.bare = true) (h : ∀ y ∈ s₁.gens, y.bare = true) : ∀ y ∈ (s₁.setGen g gs).gens, y.bare = true := by
  intro y hy
  have hy' : y ∈ s₁.gens.setIfInBounds g gs := hy
  rcases Array.mem_or_eq_of_mem_setIfInBounds hy' with h1 | h1
  · exact h y h1
  · rw [h1]; exact hb
theorem notPriv_old {h₀ : Heap} {L₀ b : Addr} {o : Obj} (hb : h₀.objs.size ≤ L₀) (e : h₀.get? b = some o) : ¬ Priv L₀ b := fun q => absurd (Nat.lt_of_lt_of_le (Heap.lt_size e) hb) (Nat.not_lt.mpr q.1)
theorem notPriv_gen {L₀ : Addr} : ¬ Priv L₀ (L₀ + 1) := fun q => q.2 rfl
section
variable {prog : Program} {w : World} {A : Around} {E : Value → Shared → Prop} {s : Shared} {h₀ : Heap} {L₀ : Addr} {g : Nat} {YS : List (Nat × List Nat)} {k : Nat} {Q : Option Value → Shared → Prop}
theorem gen_next (hh : A.handled = none) (hroom : A.depth < recursionLimit) (st : GenAt prog w A h₀ L₀ g YS k s)
    (item : ∀ p c a t u s₁, YS[k]? = some (p, c) → L₀ + 1 < a → s₁.heap.get? a = some (tup p c t u) → Drawn' L₀ s s₁ → GenAt prog w A h₀ L₀ g YS (k + 1) s₁ → Q (some (.ref a)) s₁)
    (done : ∀ s₁, k = YS.length → Drawn' L₀ s s₁ → Q none s₁) :
    wpAny (model prog w) A (pyNext (.ref (L₀ + 1))) Q E s := by
  obtain ⟨hg, hlim, hsz, hk, hkeep, gs, I, hgs, hI, hstab, hgo⟩ := st
  have hgo' := hgo (s.setGen g .running) hI
  unfold pyNext
  refine wpAny_bind (wpAny_attempt (wpAny_callSpecial?_slot (name := Str.ofString "__next__") hg.typeIs slot_gen_next
    (wpAny_call_entry slot_gen_next hg.typeIs entry_gen_next ?_ (args_gen_next _))))
  show wpAny _ A.in1 (Builtin.Generator.genWake (.ref (L₀ + 1)) (.send .none)) _ _ s
  unfold Builtin.Generator.genWake
  refine wpAny_bind (wpAny_holding (wpAny_genNumber hg (wpAny_bind (wpAny_genState hgs ?_))))
  have hglt : g < s.gens.size := by
    rcases Nat.lt_or_ge g s.gens.size with h | h
    · exact h
    · rw [Array.getElem?_eq_none h] at hgs; cases hgs
  cases gs with
  | running => exact hgo'.elim
  | finished => exact hgo'.elim
  | _ =>
    refine wpAny_bind (wpAny_roomToWake (hlim.keeps hkeep) hroom ?_)
    show wpAny _ A.in1 (.resume g (.send .none) [] _) _ _ s
    refine wpAny_resumeQ hgs hgo' (fun x s₁ hx => ?_) (fun v s₁ gs' hb hv => ?_)
    · obtain ⟨rfl, hn, h1, tk1, rfl, hk1⟩ := hx
      show wpAny _ A.in1 (newExc (.type "StopIteration") [] >>= _) _ _ _
      refine wpAny_bind ?_
      simp only [newExc, newTuple]
      refine wpAny_bind (wpAny_newObj_type ?_ (by size_fits))
      refine wpAny_bind (m := firstArgMember _ _) (wpAny_of_eq (a := Value.none) (by first | rfl | (simp only [firstArgMember]; rfl)) ?_)
      refine wpAny_newObj_type ?_ (by size_fits)
      simp only [raiseNew]
      refine wpAny_bind (wpAny_bind (wpAny_handled ?_))
      rw [show A.in1.handled = none from hh]
      refine wpAny_throw ?_
      refine wpAny_bind (wpAny_isInstance (T := "StopIteration") (b := true) ⟨_, Heap.get?_push_size _ rfl, rfl⟩ isSubtype_stop ?_)
      refine wpAny_pure (done _ (by omega) ⟨_, _, _, rfl, fun b o hb' e => Heap.get?_push_of_some _ (Heap.get?_push_of_some _ (hk1 b o hb' e)), fun hbare => ?_⟩)
      · exact setGen_bare (s₁ := s.setGen g .running) rfl (setGen_bare rfl hbare)
    · obtain ⟨a, p, c, t, u, rfl, hys, ha, hat, ⟨h1, tk1, rfl, hk1⟩, I', hst', hI', hkap⟩ := hv
      refine wpAny_pure ⟨_, rfl, wpAny_pure ?_⟩
      cases hn : YS.length - k with
      | zero => rw [hn] at hkap; exact (hkap _ hI').elim
      | succ m =>
        rw [hn] at hkap hys
        have e1 : YS.length - 1 - (m + 1 - 1) = k := by omega
        rw [e1] at hys
        refine item p c a t u _ hys ha hat ⟨_, _, _, rfl, hk1, fun hbare => setGen_bare (s₁ := s.setGen g .running) hb (setGen_bare rfl hbare)⟩ ?_
        refine ⟨?_, hlim, hsz, by omega, fun b o e => hk1 b o (notPriv_old hsz e) (hkeep b o e), gs', I', ?_, hI', hst', ?_⟩
        · obtain ⟨o, nm, qn, ho, r⟩ := hg
          exact ⟨o, nm, qn, hk1 _ _ notPriv_gen ho, r⟩
        · show ((s.gens.setIfInBounds g .running).setIfInBounds g gs')[g]? = some gs'
          rw [Array.getElem?_setIfInBounds_self_of_lt (by simpa using hglt)]
        · intro s'' hs''
          have := hkap s'' hs''
          rw [show YS.length - (k + 1) = m by omega]
          exact this
end
theorem GMoved.trans {L₀ : Addr} {s₀ s s' : Shared} (x : GMoved L₀ s₀ s) (y : GMoved L₀ s s') : GMoved L₀ s₀ s' := by
  obtain ⟨h, tk, rfl, k1⟩ := x
  obtain ⟨h', tk', rfl, k2⟩ := y
  exact ⟨h', tk', rfl, fun b o hb e => k2 b o hb (k1 b o hb e)⟩
/-- the heap's part below an address -/
def below (h : Heap) (L : Addr) : Heap := ⟨h.objs.extract 0 L, h.life⟩
theorem below_get {h : Heap} {L b : Nat} (hb : b < L) : (below h L).get? b = h.get? b := by
  unfold below Heap.get?
  have : (h.objs.extract 0 L)[b]? = h.objs[b]? := by
    rw [Array.getElem?_extract]
    simp
    omega
  simp only [this]
theorem below_none {h : Heap} {L b : Nat} (hb : L ≤ b) : (below h L).get? b = none := by
  unfold below Heap.get?
  have : (h.objs.extract 0 L)[b]? = none := by
    rw [Array.getElem?_eq_none]
    simp; omega
  simp only [this]
theorem below_keeps {h : Heap} {L : Nat} : ∀ (b : Nat) o, (below h L).get? b = some o → h.get? b = some o := by
  intro b o e
  rcases Nat.lt_or_ge b L with hb | hb
  · rw [below_get hb] at e; exact e
  · rw [below_none hb] at e; cases e
theorem below_old {h₀ h : Heap} {L : Addr} (hL : h₀.objs.size ≤ L) (hk : ∀ b o, h₀.get? b = some o → h.get? b = some o) : ∀ b o, h₀.get? b = some o → (below h L).get? b = some o := by
  intro b o e
  rw [below_get (Nat.lt_of_lt_of_le (Heap.lt_size e) hL)]
  exact hk b o e
theorem below_fr {h : Heap} {L : Addr} {m : Str → Option Value} (hn : h.Ns L m) : Fr (below h L) L h m := ⟨hn, below_keeps, by simp [below]; omega⟩
theorem below_news {h : Heap} {L : Addr} {news : List (Addr × Obj)} (hn : ∀ p ∈ news, L < p.1 ∧ h.get? p.1 = some p.2) : News (below h L) L h news :=
  fun p hp => ⟨(hn p hp).2, Nat.ne_of_gt (hn p hp).1, below_none (Nat.le_of_lt (hn p hp).1)⟩
theorem notPriv_cases {L b : Nat} (h : ¬ Priv L b) : b < L ∨ b = L + 1 := by
  unfold Priv at h
  have h' : ¬ ((L : Nat) ≤ b ∧ b ≠ L + 1) := h
  omega
theorem moved_of {L₀ : Addr} {s : Shared} {h' : Heap} {tk : Nat} {m : Str → Option Value} {news : List (Addr × Obj)} {oG : Obj} (F : Fr (below s.heap L₀) L₀ h' m) (N : News (below s.heap L₀) L₀ h' news)
    (hG : s.heap.get? (L₀ + 1) = some oG) (hm : (L₀ + 1, oG) ∈ news) : GMoved L₀ s { s with heap := h', toks := tk } := by
  refine ⟨h', tk, rfl, fun b o hb e => ?_⟩
  rcases notPriv_cases hb with h1 | h1
  · exact F.keep b o (by rw [below_get h1]; exact e)
  · have e' : b = L₀ + 1 := h1
    subst e'
    rw [hG] at e
    cases e
    exact (N _ hm).1
end Mine
end
-- part It41
theorem Mine.calm_It41 : True := by
  w_top off
  exact trivial
section
open PySem PySem.W PyProof.Rows
set_option maxRecDepth 100000
set_option maxHeartbeats 8000000
namespace Mine
/-- the generator's own objects at the head of its loop, i signs taken -/
def RI (h₀ : Heap) (L₀ e it : Addr) (x : Str) (t : Tok) (i : Nat) (esc : Bool) (h : Heap) : Prop :=
  ∃ m, Fr h₀ L₀ h m ∧ m (Str.ofString "escape") = some (.bool esc) ∧ (∃ tp, m (Str.ofString "pos") = some (.int ((i - 1 : Nat) : Int) tp)) ∧ (∃ old, IsEnum h e it i old) ∧ h.IsStrIter it "str_ascii_iterator" x t i ∧ ∃ oG, h.get? (L₀ + 1) = some oG
abbrev enumObj (it : Addr) (i : Int) (old : Value) : Obj := { cls := .type "enumerate", dict := none, data := .fields #[.none, .bool false, .ref it, rawInt i, .none, old], slots := #[] }
theorem RI.stable {h₀ : Heap} {L₀ e it : Addr} {x : Str} {t : Tok} {i : Nat} {esc : Bool} (he : L₀ ≤ e) (hit : L₀ ≤ it) : Stable h₀ L₀ (RI h₀ L₀ e it x t i esc) := by
  rintro h h' ⟨m, F, h1, h2, ⟨old, h3⟩, ⟨o, ho, h4⟩, oG, h5⟩ ⟨k1, k2⟩
  exact ⟨m, ⟨F.ns.at' fun o e => k1 _ o (Nat.le_refl _) e, k2, F.above⟩, h1, h2, ⟨old, k1 _ _ he h3⟩, ⟨o, k1 _ _ hit ho, h4⟩, oG, k1 _ _ (Nat.le_succ _) h5⟩
theorem RI_of {h₀ hb h'' : Heap} {L₀ e it : Addr} {x : Str} {t : Tok} {i : Nat} {esc : Bool} {m' : Str → Option Value} {news : List (Addr × Obj)} {old : Value} {oi oG : Obj} (hsz : h₀.objs.size ≤ L₀) (hB : ∀ b o, h₀.get? b = some o → hb.get? b = some o)
    (F : Fr hb L₀ h'' m') (N : News hb L₀ h'' news) (he : m' (Str.ofString "escape") = some (.bool esc)) (hp : ∃ tp, m' (Str.ofString "pos") = some (.int ((i - 1 : Nat) : Int) tp))
    (h1 : (L₀ + 1, oG) ∈ news) (h2 : (e, enumObj it i old) ∈ news) (h3 : (it, oi) ∈ news) (hoi : oi.cls = .type "str_ascii_iterator" ∧ oi.data = .fields #[.str x t, .int i 0]) : RI h₀ L₀ e it x t i esc h'' :=
  ⟨m', ⟨F.ns, fun b o ho => F.keep b o (hB b o ho), hsz⟩, he, hp, ⟨old, (N _ h2).1⟩, ⟨oi, (N _ h3).1, hoi⟩, oG, (N _ h1).1⟩
theorem base_news {h : Heap} {L₀ e it : Nat} {oe oi oG : Obj} (heL2 : L₀ + 1 < e) (hitL : L₀ + 1 < it) (hG : h.get? (L₀ + 1) = some oG) (hE : h.get? e = some oe) (hI : h.get? it = some oi) : News (below h L₀) L₀ h [(L₀ + 1, oG), (e, oe), (it, oi)] := below_news (by
  rintro p hp
  rcases List.mem_cons.mp hp with rfl | hp
  · exact ⟨Nat.lt_succ_self _, hG⟩
  · rcases List.mem_cons.mp hp with rfl | hp
    · exact ⟨Nat.lt_of_succ_lt heL2, hE⟩
    · cases List.mem_singleton.mp hp
      exact ⟨Nat.lt_of_succ_lt hitL, hI⟩)
theorem gen_loop {prog : Program} {w : World} {A : Around} {R : GenEnd} {Y : Protocol} {target : Expr} {itv : Value} {body : List Stmt} {env : Env} {fs : List Frame} {txt : List Nat} {L₀ : Addr} {YS : List (Nat × List Nat)} (Inv : Nat → Bool → Heap → Prop)
    (turn : ∀ i c esc s₀ s, txt[i]? = some c → Inv i esc s.heap → GMoved L₀ s₀ s → (∃ pre, YS = pre ++ escs i esc (txt.drop i)) →
      (∀ esc' s₀' s', Inv (i + 1) esc' s'.heap → GMoved L₀ s₀' s' → (∃ pre, YS = pre ++ escs (i + 1) esc' (txt.drop (i + 1))) →
        Seg (model prog w) A R Y (escs (i + 1) esc' (txt.drop (i + 1))).length s₀' (.forLoop target itv body [] env) ((model prog w).den (.forLoop target itv body [] env)) fs s') →
      Seg (model prog w) A R Y (escs i esc (txt.drop i)).length s₀ (.forLoop target itv body [] env) ((model prog w).den (.forLoop target itv body [] env)) fs s)
    (done : ∀ esc s₀ s, Inv txt.length esc s.heap → GMoved L₀ s₀ s → (∃ pre, YS = pre ++ escs txt.length esc []) →
      Seg (model prog w) A R Y (escs txt.length esc []).length s₀ (.forLoop target itv body [] env) ((model prog w).den (.forLoop target itv body [] env)) fs s) :
    ∀ k i, i + k = txt.length → ∀ esc s₀ s, Inv i esc s.heap → GMoved L₀ s₀ s → (∃ pre, YS = pre ++ escs i esc (txt.drop i)) →
      Seg (model prog w) A R Y (escs i esc (txt.drop i)).length s₀ (.forLoop target itv body [] env) ((model prog w).den (.forLoop target itv body [] env)) fs s := by
  intro k
  induction k with
  | zero =>
    intro i hi esc s₀ s h1 h2 h3
    obtain rfl : i = txt.length := by omega
    rw [List.drop_length] at h3 ⊢
    exact done esc s₀ s h1 h2 h3
  | succ k ih =>
    intro i hi esc s₀ s h1 h2 h3
    refine turn i (txt[i]'(by omega)) esc s₀ s (by simp) h1 h2 h3 ?_
    intro esc' s₀' s' h1' h2' h3'
    exact ih (i + 1) (by omega) esc' s₀' s' h1' h2' h3'
theorem ys_at {α : Type} {YS pre rest : List α} {a : α} (h : YS = pre ++ a :: rest) : YS[YS.length - 1 - rest.length]? = some a := by
  subst h
  have : (pre ++ a :: rest).length - 1 - rest.length = pre.length := by simp
  rw [this]
  simp
theorem priv_mem {L₀ e it b : Addr} (he : L₀ + 1 < e) (hit : L₀ + 1 < it) (hm : b ∈ [e, it]) : Priv L₀ b := by
  rcases List.mem_cons.mp hm with rfl | hm
  · exact ⟨Nat.le_of_lt (Nat.lt_of_succ_lt he), Nat.ne_of_gt he⟩
  · rw [List.mem_singleton.mp hm]; exact ⟨Nat.le_of_lt (Nat.lt_of_succ_lt hit), Nat.ne_of_gt hit⟩
theorem iter_make {w : World} {mg mb : Str → Option Value} {mean : ExcName → Option Value} {loose : List Str} {A : Around} {s : Shared} {Q E : Value → Shared → Prop} {x : Str} {t : Tok} {h₀ : Heap} :
  A.handled = none → A.depth + 6 < recursionLimit → A.units + 60 < cLine → (hd.heap_39 w.params).In h₀ → Top hd.view_39 loose mean mg mb h₀ → (∀ b o, h₀.get? b = some o → s.heap.get? b = some o) →
  h₀.objs.size ≤ s.heap.objs.size → x.cps.all (· < 128) = true → x.cps.size < 1000 →
  (∀ h' tk' gs, gs.bare = true → (∀ b o, s.heap.get? b = some o → h'.get? b = some o) → GenAt Challenge.rw_pd0041_01.row.prog w A h₀ s.heap.objs.size s.gens.size (escs 0 false x.cps.toList) 0 { s with heap := h', toks := tk', gens := s.gens.push gs } →
    Q (.ref (s.heap.objs.size + 1)) { s with heap := h', toks := tk', gens := s.gens.push gs }) →
  wpAny (model Challenge.rw_pd0041_01.row.prog w) A (call (.ref 28) [.str x t]) Q E s := by
  k_fill
  intro hh hd hu X T hkeep hsz hasc hlen hQ
  have X' := X.keeps hkeep
  refine wpAny_call (codeAny_call_generator (by omega) (X' 28 _ rfl) rfl rfl rfl rfl (codeRec_of X' rfl) ?_)
  refine wpAny_of_eq (a := [(Str.ofString "addr", .str x t)]) rfl ?_
  refine wpAny_newFunctionEnv (by decide) (locs rfl) (fun h₁ hns hsb => ⟨(T.nolimit.keeps hkeep).fresh _ hsb, ?_⟩) rfl
  have hz1 : h₁.objs.size = s.heap.objs.size + 1 := by rw [hsb.1, Heap.size_push]
  have hk1 : ∀ b o, s.heap.get? b = some o → h₁.get? b = some o := fun b o e => hsb.extBut b o (Nat.ne_of_lt (Heap.lt_size e)) (Heap.get?_push_of_some _ e)
  rw [map1] at hns
  generalize hYS : escs 0 false x.cps.toList = YS at hQ
  rw [hz1]
  generalize hL₀ : s.heap.objs.size = L₀ at *
  refine hQ _ _ _ rfl (fun b o e => Heap.get?_push_of_some _ (hk1 b o e)) ⟨?_, T.nolimit, hsz, Nat.zero_le _, fun b o e => Heap.get?_push_of_some _ (hk1 b o (hkeep b o e)), _,
    fun h => Fr h₀ L₀ h (fun y => if y = Str.ofString "addr" then some (.str x t) else none) ∧ ∃ oG, h.get? (L₀ + 1) = some oG, Array.getElem?_push_size .., ⟨?_, ?_⟩, ?_, ?_⟩
  · exact ⟨_, _, _, Eq.trans (congrArg _ hz1.symm) (Heap.get?_push_size _ rfl), rfl, rfl, rfl⟩
  · exact ⟨hns.push _, fun b o e => Heap.get?_push_of_some _ (hk1 b o (hkeep b o e)), hsz⟩
  · exact ⟨_, Eq.trans (congrArg _ hz1.symm) (Heap.get?_push_size _ rfl)⟩
  · rintro h h' ⟨F, oG, hG⟩ hst
    exact ⟨⟨F.ns.at' fun o e => hst.1 _ o (Nat.le_refl _) e, hst.2, hsz⟩, oG, hst.1 _ _ (Nat.le_succ _) hG⟩
  clear hQ hns hk1 hz1 hsb X' h₁ hkeep
  rintro s'' ⟨F, oG, hG⟩
  refine ⟨rfl, ?_⟩
  rw [show newEnv _ L₀ 3 [] (Str.ofString "_iter_escaped_chars" ++ Str.ofString ".<locals>.") (some 28) (Value.ref 27) none 0 = envOf (Str.ofString "_iter_escaped_chars") _ L₀ 28 (.ref 27) from rfl]
  refine seg_func ?_
  have B : ∀ b o, h₀.get? b = some o → (below s''.heap L₀).get? b = some o := below_old hsz F.keep
  have N : News (below s''.heap L₀) L₀ s''.heap [(L₀ + 1, oG)] := below_news (by rintro p hp; cases List.mem_singleton.mp hp; exact ⟨Nat.lt_succ_self _, hG⟩)
  replace F := below_fr F.ns
  have Xb := X.keeps B
  have Tb := T.keeps B
  refine seg_execs_cons (seg_plain ?_)
  k_steps
  refine seg_execs_cons (seg_plain ?_)
  k_steps
  refine seg_execs_cons (seg_For ?_)
  k_steps
  rename Fr _ _ _ _ => F2
  rename News _ _ _ _ => N2
  rename_i h2
  have M2 := fun tk => moved_of (tk := tk) F2 N2 hG (.head _)
  refine call_enumerate_str ?_
  intro h3 he hit hz3 hk3
  dsimp only at he hit hz3 hk3 ⊢
  refine wpAny_pyIter_enum he ?_
  intro p
  rw [show strIterType x = "str_ascii_iterator" by simp only [strIterType, hasc, if_true]] at hit
  have hitL : L₀ + 1 < h2.objs.size := Heap.lt_size (N2 _ (.head _)).1
  have hR0 : RI h₀ L₀ (h2.objs.size + 1) h2.objs.size x t 0 false h3 := ⟨_, ⟨F2.ns.at' fun o e => hk3 _ o e, fun b o e => hk3 b o (F2.keep b o (B b o e)), hsz⟩, rfl, ⟨_, rfl⟩, ⟨_, he⟩, hit, oG, hk3 _ _ (N2 _ (.head _)).1⟩
  have M3 : ∀ tk, GMoved L₀ s'' { s'' with heap := h3, toks := tk } := fun tk => by
    obtain ⟨_, _, e, k⟩ := M2 tk
    cases e
    exact ⟨_, _, rfl, fun b o hb e => hk3 b o (k b o hb e)⟩
  clear he hit hk3 hz3 M2 N2 F2 B Xb Tb
  have heL : h2.objs.size + 1 ≠ h2.objs.size := Nat.succ_ne_self _
  have heL2 : L₀ + 1 < h2.objs.size + 1 := Nat.lt_succ_of_lt hitL
  generalize h2.objs.size + 1 = e at *
  generalize h2.objs.size = it at *
  rw [show YS.length - 0 = (escs 0 false (x.cps.toList.drop 0)).length by rw [List.drop_zero, hYS]; rfl]
  refine gen_loop (L₀ := L₀) (YS := YS) (RI h₀ L₀ e it x t) ?turn ?done x.cps.toList.length 0 (by simp) false s'' _ hR0 (M3 _) ⟨[], by rw [List.drop_zero, hYS]; rfl⟩
  case done =>
    clear hR0 M3 hG s''
    rintro esc s₀ s ⟨m, F, h1, ⟨tp, h2⟩, ⟨old, h3⟩, h4, oG, hG⟩ hM ⟨pre, hpre⟩
    refine seg_forLoop ?_
    refine (WalksT.enumerateD (prog := Challenge.rw_pd0041_01.row.prog) (w := w) (Draws.strAscii ?_ it x t) e heL (by simpa using heL) (by simp)).done _ _ _ ⟨⟨old, h3⟩, h4⟩ ?_
    · exact hh
    intro h' tk hk
    refine seg_behind_next ?_
    have hM' : GMoved L₀ s { s with heap := h', toks := tk } := ⟨_, _, rfl, fun b o hb ho => hk b o (fun hm => hb (priv_mem heL2 hitL hm)) ho⟩
    have hns : h'.Ns L₀ m := F.ns.at' fun o ho => hk _ o (fun hm => absurd (List.mem_cons.mp hm) (by rintro (q | q); (exact absurd heL2 (by rw [← q]; exact Nat.not_lt.mpr (Nat.le_succ _))); (exact absurd hitL (by rw [← List.mem_singleton.mp q]; exact Nat.not_lt.mpr (Nat.le_succ _))))) ho
    have hG' := hk _ _ (fun hm => notPriv_gen (priv_mem heL2 hitL hm)) hG
    have hold : ∀ b o, h₀.get? b = some o → h'.get? b = some o := fun b o ho => hk b o (fun hm => notPriv_old hsz ho (priv_mem heL2 hitL hm)) (F.keep b o ho)
    have hMM := hM.trans hM'
    clear hM hM' hG hk h3 h4 F
    rw [expl2 h1 h2] at hns
    have B : ∀ b o, h₀.get? b = some o → (below h' L₀).get? b = some o := below_old hsz hold
    have N : News (below h' L₀) L₀ h' [(L₀ + 1, oG)] := below_news (by rintro p hp; cases List.mem_singleton.mp hp; exact ⟨Nat.lt_succ_self _, hG'⟩)
    have F := below_fr hns
    have Xb := X.keeps B
    have Tb := T.keeps B
    dsimp only
    refine seg_execs_cons (seg_If ?_)
    cases esc with
    | false =>
      k_steps
      exact seg_end (.ok (.ret .none)) ⟨rfl, rfl, hMM⟩
    | true =>
      k_steps
      refine seg_execs_cons (seg_Expr_Yield rfl rfl rfl ?_)
      k_steps
      rename Fr _ _ _ _ => F2
      rename News _ _ _ _ => N2
      have M2 := fun tk' => moved_of (s := { s with heap := h', toks := tk }) (tk := tk') F2 N2 hG' (by k_mem)
      rename_i D hD l1 kap hkap
      refine ⟨D, x.cps.toList.length - 1, [92], _, _, rfl, ?_, l1, (N2 _ (.head _)).1, hMM.trans (M2 _), fun _ => True, fun _ _ _ _ => trivial, trivial, fun s'' _ => hkap .none s'' ?_⟩
      · exact ys_at (rest := []) hpre
      · exact seg_end (.ok (.ret .none)) ⟨rfl, rfl, GMoved.refl _ _⟩
  case turn =>
    clear hR0 M3 hG s''
    rintro i c esc s₀ s hc ⟨m, F, h1, ⟨tp, h2⟩, ⟨old, h3⟩, h4, oG, hG⟩ hM ⟨pre, hpre⟩ IH
    have hilt : i < x.cps.toList.length := (List.getElem?_eq_some_iff.mp hc).1
    have hdrop : x.cps.toList.drop i = c :: x.cps.toList.drop (i + 1) := by
      rw [List.drop_eq_getElem_cons hilt]
      congr 1
      exact (List.getElem?_eq_some_iff.mp hc).2
    refine seg_forLoop ?_
    have W := fun (A₁ : Around) (hA : A₁.handled = none) => (WalksT.enumerateD (prog := Challenge.rw_pd0041_01.row.prog) (w := w) (A := A₁) (Draws.strAscii (A := A₁.in1) hA it x t) e heL (by simpa using heL) (by simp)).toU
    refine (W _ ?_).item i _ _ _ (by simpa using hilt) ⟨⟨old, h3⟩, h4⟩ ?_
    · exact hh
    intro Tp vals hq1 tk1 hP hT hMid hk1
    dsimp only
    refine (W _ ?_).go _ _ _ i Tp _ _ _ hMid ?_
    · exact hh
    intro hq2 hSt2 hk2
    obtain ⟨tv, y, ⟨c', u, hc', rfl⟩, rfl⟩ := hP
    have hTn := (W A hh).apart i Tp _ hMid
    have hT2 : hq2.IsTuple Tp #[.int i tv, .str ⟨#[c']⟩ u] := by obtain ⟨o, ho, r⟩ := hT; exact ⟨o, hk2 _ _ hTn ho, r⟩
    obtain ⟨⟨old2, h3'⟩, h4'⟩ := hSt2
    have hk : ∀ b o, b ∉ [e, it] → s.heap.get? b = some o → hq2.get? b = some o := fun b o hb ho => hk2 b o hb (hk1 b o hb ho)
    have hLn : L₀ ∉ [e, it] := fun hm => absurd (List.mem_cons.mp hm) (by rintro (q | q); (exact absurd heL2 (by rw [← q]; exact Nat.not_lt.mpr (Nat.le_succ _))); (exact absurd hitL (by rw [← List.mem_singleton.mp q]; exact Nat.not_lt.mpr (Nat.le_succ _))))
    have hns := F.ns.at' fun o ho => hk L₀ o hLn ho
    have ecc : c' = c := by
      have q1 : x.cps.toList[i]? = some c' := by rw [Array.getElem?_toList]; exact hc'
      rw [hc] at q1
      exact (Option.some.inj q1).symm
    subst ecc
    refine kcp_assign (m := m) ?_ hT2 rfl rfl rfl hns ?_
    · exact hh
    intro h' tk hns' hk3
    have hM' : GMoved L₀ s { s with heap := h', toks := tk } := ⟨_, _, rfl, fun b o hb ho => hk3 b o (fun q => hb (by rw [q]; exact ⟨Nat.le_refl _, Nat.ne_of_lt (Nat.lt_succ_self _)⟩)) (hk b o (fun hm => hb (priv_mem heL2 hitL hm)) ho)⟩
    have hMM := hM.trans hM'
    have hE' := hk3 e _ (fun q => hLn (by rw [← show e = L₀ from q]; exact .head _)) h3'
    obtain ⟨oi, hoi, hoi2⟩ := h4'
    have hI' := hk3 it _ (fun q => hLn (by rw [← show it = L₀ from q]; exact .tail _ (.head _))) hoi
    have hG' := hk3 _ _ (fun q => absurd (show L₀ + 1 = L₀ from q) (Nat.succ_ne_self _)) (hk _ _ (fun hm => notPriv_gen (priv_mem heL2 hitL hm)) hG)
    have hold : ∀ b o, h₀.get? b = some o → h'.get? b = some o := fun b o ho => hk3 b o (fun q => notPriv_old hsz ho (by rw [q]; exact ⟨Nat.le_refl _, Nat.ne_of_lt (Nat.lt_succ_self _)⟩)) (hk b o (fun hm => notPriv_old hsz ho (priv_mem heL2 hitL hm)) (F.keep b o ho))
    have B : ∀ b o, h₀.get? b = some o → (below h' L₀).get? b = some o := below_old hsz hold
    rw [expl1 h1] at hns'
    have F1 := below_fr hns'
    dsimp only at F1
    clear hM hM' hG hk h3 h4 F W hT hT2 hMid hk1 hk2 hk3 hns' hns hTn h3' hoi
    have N1 : News (below h' L₀) L₀ h' [(L₀ + 1, oG), (e, enumObj it ((i + 1 : Nat) : Int) old2), (it, oi)] := base_news heL2 hitL hG' hE' hI'
    have Xb := X.keeps B
    have Tb := T.keeps B
    refine seg_execs_cons (seg_If ?_)
    rw [hdrop] at hpre ⊢
    cases esc with
    | true =>
      rw [show (escs i true (c' :: List.drop (i + 1) x.cps.toList)).length = (escs (i + 1) false (List.drop (i + 1) x.cps.toList)).length + 1 from rfl]
      k_steps
      refine seg_execs_cons (seg_Expr_Yield rfl rfl rfl ?_)
      k_steps
      rename Fr _ _ _ _ => F2
      rename News _ _ _ _ => N2
      rename_i D hD l1 kap hkap
      have M2 := fun tk' => moved_of (s := { s with heap := h', toks := tk }) (tk := tk') F2 N2 hG' (by k_mem)
      refine ⟨D, i, [92, c'], _, _, rfl, ys_at hpre, l1.1, (N2 _ (.head _)).1, hMM.trans (M2 _), RI h₀ L₀ e it x t (i + 1) true, RI.stable (Nat.le_of_lt (Nat.lt_of_succ_lt heL2)) (Nat.le_of_lt (Nat.lt_of_succ_lt hitL)),
        RI_of hsz B F2 N2 rfl ⟨_, rfl⟩ (by k_mem) (by k_mem) (by k_mem) hoi2, fun s'' hr => hkap .none s'' ?_⟩
      · clear hkap M2 l1 N2 F2 N1 Xb Tb B hold hG' hI' hE' hMM hoi2
        obtain ⟨m2, F, q1, ⟨tp2, q2⟩, ⟨old3, q3⟩, ⟨oi3, q4, q5⟩, oG3, q6⟩ := hr
        have B : ∀ b o, h₀.get? b = some o → (below s''.heap L₀).get? b = some o := below_old hsz F.keep
        have N3 := base_news heL2 hitL q6 q3 q4
        have F3 := below_fr F.ns
        rw [expl2 q1 q2] at F3
        have Xb := X.keeps B
        have Tb := T.keeps B
        clear F
        dsimp only
        refine seg_execs_cons (seg_plain ?_)
        k_steps
        rename Fr _ _ _ _ => F4
        rename News _ _ _ _ => N4
        refine seg_again rfl (IH false s'' _ (RI_of hsz B F4 N4 rfl ⟨_, rfl⟩ (by k_mem) (by k_mem) (by k_mem) q5) (moved_of F4 N4 q6 (by k_mem)) ⟨pre ++ [(i, [92, c'])], ?_⟩)
        rw [hpre, List.append_assoc]
        rfl
    | false =>
      by_cases h92 : c' = 92
      · subst h92
        rw [show escs i false (92 :: List.drop (i + 1) x.cps.toList) = escs (i + 1) true (List.drop (i + 1) x.cps.toList) from rfl] at hpre ⊢
        have heq : ((⟨#[92]⟩ : Str) = Str.ofString "\\") = True := eq_true rfl
        k_steps
        refine seg_execs_cons (seg_If ?_)
        k_steps
        refine seg_execs_cons (seg_plain ?_)
        k_steps
        rename Fr _ _ _ _ => F4
        rename News _ _ _ _ => N4
        exact seg_again rfl (IH true s₀ _ (RI_of hsz B F4 N4 rfl ⟨_, rfl⟩ (by k_mem) (by k_mem) (by k_mem) hoi2) (hMM.trans (moved_of (s := { s with heap := h', toks := tk }) F4 N4 hG' (by k_mem))) ⟨pre, hpre⟩)
      · have hes : escs i false (c' :: List.drop (i + 1) x.cps.toList) = (i, [c']) :: escs (i + 1) false (List.drop (i + 1) x.cps.toList) := by
          show (if c' = 92 then _ else _) = _
          rw [if_neg h92]
        rw [hes] at hpre ⊢
        have hne : ((⟨#[c']⟩ : Str) = Str.ofString "\\") = False := eq_false (fun q => h92 (by have := congrArg (fun s : Str => s.cps[0]?) q; exact Option.some.inj this))
        k_steps
        refine seg_execs_cons (seg_If ?_)
        k_steps
        · rename_i hq
          exact absurd (eq_of_beq hq) (by rw [hne]; exact not_false)
        · refine seg_execs_cons (seg_Expr_Yield rfl rfl rfl ?_)
          k_steps
          rename Fr _ _ _ _ => F2
          rename News _ _ _ _ => N2
          rename_i D hD l1 kap hkap
          have M2 := fun tk' => moved_of (s := { s with heap := h', toks := tk }) (tk := tk') F2 N2 hG' (by k_mem)
          refine ⟨D, i, [c'], _, _, rfl, ys_at hpre, l1.1, (N2 _ (.head _)).1, hMM.trans (M2 _), RI h₀ L₀ e it x t (i + 1) false, RI.stable (Nat.le_of_lt (Nat.lt_of_succ_lt heL2)) (Nat.le_of_lt (Nat.lt_of_succ_lt hitL)),
            RI_of hsz B F2 N2 rfl ⟨_, rfl⟩ (by k_mem) (by k_mem) (by k_mem) hoi2, fun s'' hr => hkap .none s'' ?_⟩
          refine seg_again rfl (IH false s'' s'' hr (GMoved.refl _ _) ⟨pre ++ [(i, [c'])], ?_⟩)
          rw [hpre, List.append_assoc]
          rfl
end Mine
end
-- part Fg41
theorem Mine.calm_Fg41 : True := by
  w_top off
  exact trivial
section
open PySem PySem.W PyProof.Rows
set_option maxRecDepth 100000
namespace Mine
section
variable {prog : Program} {w : World} {A : Around} {E : Value → Shared → Prop} {s : Shared} {env : Env} {h₀ : Heap} {L₀ : Addr} {g : Nat} {YS : List (Nat × List Nat)}
theorem go_gen {elts : List Expr} {x1 : Nat} {pos : Pos} {a T : Addr} {Q : Unit → Shared → Prop} (hg : s.heap.IsGen a g) (hQ : Q () s) : wpAny (model prog w) A (letOwnedTupleGo (.Tuple elts x1 pos) (.ref a) (.ref T)) Q E s := by
  obtain ⟨o, nm, qn, ho, hc, hd, hs⟩ := hg
  unfold letOwnedTupleGo
  refine wpAny_bind (wpAny_load ho ?_)
  rw [hc, hd]
  show wpAny _ A (if (["enumerate", "zip", "dict_itemiterator", "dict_reverseitemiterator", "odict_iterator", "itertools.zip_longest", "itertools.pairwise"].contains "generator" && (#[.int g 0, nm, qn] : Array Value)[0]? == some (rawInt T)) = true then _ else _) Q E s
  rw [if_neg (by
    intro h
    rw [show (["enumerate", "zip", "dict_itemiterator", "dict_reverseitemiterator", "odict_iterator", "itertools.zip_longest", "itertools.pairwise"].contains "generator") = false from by decide, Bool.false_and] at h
    cases h)]
  exact wpAny_pure hQ
theorem GenAt.stays {k : Nat} (x : GenAt prog w A h₀ L₀ g YS k s) {h' : Heap} {tk : Nat} (hk : ∀ b o, L₀ ≤ b → s.heap.get? b = some o → h'.get? b = some o) (h0 : ∀ b o, h₀.get? b = some o → h'.get? b = some o) :
    GenAt prog w A h₀ L₀ g YS k { s with heap := h', toks := tk } := by
  obtain ⟨⟨o, nm, qn, ho, r⟩, hlim, hsz, hkk, hkeep, gs, I, hgs, hI, hst, hgo⟩ := x
  exact ⟨⟨o, nm, qn, hk _ _ (Nat.le_succ _) ho, r⟩, hlim, hsz, hkk, h0, gs, I, hgs, hst _ _ hI ⟨hk, h0⟩, hst, hgo⟩
/-- all that stands from an address on -/
def above (h : Heap) (L : Addr) : List (Addr × Obj) := (List.range h.objs.size).filterMap fun b => if L ≤ b then (h.get? b).map fun o => (b, o) else none
theorem mem_above {h : Heap} {L : Addr} {p : Addr × Obj} : p ∈ above h L ↔ L ≤ p.1 ∧ h.get? p.1 = some p.2 := by
  obtain ⟨b, o⟩ := p
  unfold above
  rw [List.mem_filterMap]
  constructor
  · rintro ⟨c, hc, e⟩
    by_cases hL : L ≤ c
    · rw [if_pos hL] at e
      obtain ⟨o', ho', e'⟩ := Option.map_eq_some_iff.mp e
      cases e'
      exact ⟨hL, ho'⟩
    · rw [if_neg hL] at e; cases e
  · rintro ⟨h1, h2⟩
    refine ⟨b, List.mem_range.mpr (Heap.lt_size h2), ?_⟩
    rw [if_pos h1, h2]; rfl
def Later (s s₁ : Shared) : Prop := ∃ h tk gs, s₁ = { s with heap := h, toks := tk, gens := gs } ∧ ((∀ y ∈ s.gens, y.bare = true) → ∀ y ∈ gs, y.bare = true)
theorem Later.refl (s : Shared) : Later s s := ⟨_, _, _, rfl, id⟩
theorem Later.heap {s s₁ : Shared} (x : Later s s₁) (h : Heap) (tk : Nat) : Later s { s₁ with heap := h, toks := tk } := by obtain ⟨_, _, gs, rfl, hb⟩ := x; exact ⟨h, tk, gs, rfl, hb⟩
/-- a for over the generator, by an invariant over the frame's map and the ledger -/
theorem for_gen {a b : Str} {pa pb tp : Pos} {kk : Nat} {body : List Stmt} {Q : Flow → Shared → Prop} {m₀ : Str → Option Value} {news : List (Addr × Obj)} {R : Result → Shared → Prop}
    (J : Nat → (Str → Option Value) → List (Addr × Obj) → Prop)
    (hh : A.handled = none) (hroom : A.depth < recursionLimit) (st : GenAt prog w A h₀ L₀ g YS 0 s)
    (ha : env.kindOf a = some .local) (hb : env.kindOf b = some .local) (hp : (env.scope.kind == .class || (env.scope.kind == .module && env.locals != env.globals)) = false)
    (F : Fr h₀ env.locals s.heap m₀) (N : News h₀ env.locals s.heap news) (hL : env.locals < L₀) (hn : ∀ p ∈ news, p.1 < L₀) (hj : J 0 m₀ news)
    (hR : ∀ f s', Q f s' → R (.ok f) s')
    (turn : ∀ (k p : Nat) (c : List Nat) t u m₁ news₁ s₁ own, YS[k]? = some (p, c) → J k m₁ news₁ → news₁.map (·.1) = news.map (·.1) → OwnOff own (news.map (·.1)) → Later s s₁ →
      Fr h₀ env.locals s₁.heap (fun z => if z = b then some (.str ⟨c.toArray⟩ u) else if z = a then some (.int (p : Int) t) else m₁ z) → News h₀ env.locals s₁.heap (news₁ ++ own) →
      wpAny (model prog w) A (execs body env) (InvPostN h₀ env.locals (J (k + 1)) own (news.map (·.1)) s₁ Q) (fun _ _ => False) s₁)
    (done : ∀ m₁ news₁ s₁, J YS.length m₁ news₁ → news₁.map (·.1) = news.map (·.1) → Later s s₁ → Fr h₀ env.locals s₁.heap m₁ → News h₀ env.locals s₁.heap news₁ → Q .next s₁) :
    codeAny (model prog w) A (.forLoop (.Tuple [.Name a pa, .Name b pb] kk tp) (.ref (L₀ + 1)) body [] env) R s := by
  refine codeAny_forLoop_any (fun n s' => ∃ k m₁ news₁, n = YS.length + 1 - k ∧ GenAt prog w A h₀ L₀ g YS k s' ∧ Fr h₀ env.locals s'.heap m₁ ∧ News h₀ env.locals s'.heap news₁ ∧ news₁.map (·.1) = news.map (·.1) ∧ J k m₁ news₁ ∧ Later s s') ?_ (YS.length + 1)
    ⟨0, m₀, news, rfl, st, F, N, rfl, hj, Later.refl s⟩
  rintro n s' ⟨k, m₁, news₁, rfl, st', F', N', hadr, hJ, hlat⟩
  have hlow : ∀ p ∈ news₁, p.1 < L₀ := fun p hp => by
    have : p.1 ∈ news₁.map (·.1) := List.mem_map_of_mem hp
    rw [hadr] at this
    obtain ⟨q, hq, e⟩ := List.mem_map.mp this
    rw [← e]; exact hn q hq
  have hnp : ∀ c : Addr, c < L₀ → ¬ Priv L₀ c := fun c hc q => absurd hc (Nat.not_lt.mpr q.1)
  obtain ⟨hsz, hkle⟩ : h₀.objs.size ≤ L₀ ∧ k ≤ YS.length := ⟨st'.2.2.1, st'.2.2.2.1⟩
  have moved : ∀ s₁, Drawn' L₀ s' s₁ → Fr h₀ env.locals s₁.heap m₁ ∧ News h₀ env.locals s₁.heap news₁ ∧ Later s s₁ := by
    rintro s₁ ⟨h, tk, gs, rfl, hk, hbr⟩
    refine ⟨⟨F'.ns.at' fun o e => hk _ o (hnp _ hL) e, fun c o e => hk c o (notPriv_old hsz e) (F'.keep c o e), F'.above⟩, fun p hp => ⟨hk _ _ (hnp _ (hlow p hp)) (N' p hp).1, (N' p hp).2⟩, ?_⟩
    obtain ⟨h2, tk2, gs2, rfl, hbr2⟩ := hlat
    exact ⟨_, _, _, rfl, fun q => hbr (hbr2 q)⟩
  refine gen_next hh hroom st' ?_ ?_
  · intro p c at' t u s₁ hys hat hget hdr st₁
    obtain ⟨F₁, N₁, hl₁⟩ := moved s₁ hdr
    refine go_gen st₁.1 ?_
    have hT : s₁.heap.IsTuple at' #[.int p t, .str ⟨c.toArray⟩ u] := ⟨_, hget, rfl, _, rfl⟩
    refine kcp_assign hh hT ha hb hp F₁.ns ?_
    intro h3 tk3 hns3 hk3
    have keep3 : ∀ c o, h₀.get? c = some o → h3.get? c = some o := fun c o e => hk3 c o (fun q => absurd (Nat.lt_of_lt_of_le (Heap.lt_size e) F'.above) (by rw [q]; exact Nat.lt_irrefl _)) (F₁.keep c o e)
    have F3 : Fr h₀ env.locals h3 _ := ⟨hns3, keep3, F'.above⟩
    have up3 : ∀ c o, L₀ ≤ c → s₁.heap.get? c = some o → h3.get? c = some o := fun c o hc e => hk3 c o (fun q => absurd hL (Nat.not_lt.mpr (by rw [← q]; exact hc))) e
    have st3 : GenAt prog w A h₀ L₀ g YS (k + 1) { s₁ with heap := h3, toks := tk3 } := st₁.stays up3 keep3
    have N3 : News h₀ env.locals h3 (news₁ ++ above h3 L₀) := by
      intro q hq
      rcases List.mem_append.mp hq with hq | hq
      · exact ⟨hk3 _ _ (N₁ q hq).2.1 (N₁ q hq).1, (N₁ q hq).2⟩
      · obtain ⟨h1, h2⟩ := mem_above.mp hq
        refine ⟨h2, fun e => absurd hL (Nat.not_lt.mpr (by rw [← e]; exact h1)), ?_⟩
        cases e : h₀.get? q.1 with
        | none => rfl
        | some o => exact absurd (Nat.lt_of_lt_of_le (Heap.lt_size e) hsz) (Nat.not_lt.mpr h1)
    have hoff : OwnOff (above h3 L₀) (news.map (·.1)) := by
      intro q hq c hc e
      obtain ⟨r, hr, e2⟩ := List.mem_map.mp hc
      have h1 := (mem_above.mp hq).1
      have h2 := hn r hr
      have e3 : q.1 = r.1 := e.trans e2.symm
      rw [e3] at h1
      exact absurd h2 (Nat.not_lt.mpr h1)
    have hklt : k < YS.length := (List.getElem?_eq_some_iff.mp hys).1
    refine wpAny_mono (turn k p c t u m₁ news₁ { s₁ with heap := h3, toks := tk3 } (above h3 L₀) hys hJ hadr hoff (hl₁.heap h3 tk3) F3 N3) (fun f s₂ q => ?_) fun _ _ x => x.elim
    have fin : InvEndN h₀ env.locals (J (k + 1)) (above h3 L₀) (news.map (·.1)) { s₁ with heap := h3, toks := tk3 } s₂ → ∃ m, m < YS.length + 1 - k ∧ ∃ k' m₂ news₂, m = YS.length + 1 - k' ∧ GenAt prog w A h₀ L₀ g YS k' s₂ ∧ Fr h₀ env.locals s₂.heap m₂ ∧ News h₀ env.locals s₂.heap news₂ ∧ news₂.map (·.1) = news.map (·.1) ∧ J k' m₂ news₂ ∧ Later s s₂ := by
      rintro ⟨h', tk, m', news', nx, rfl, F4, N4, hsub, hown, hadr', hJ'⟩
      refine ⟨YS.length + 1 - (k + 1), by omega, k + 1, m', nx, rfl, st3.stays (fun c o hc e => (N4 _ (hown (c, o) (mem_above.mpr ⟨hc, e⟩))).1) F4.keep, F4, fun q hq => N4 q (hsub q hq), hadr', hJ', hl₁.heap h' tk⟩
    cases f with
    | ret v => exact hR _ _ q
    | brk => exact hR _ _ q
    | next => exact fin q
    | cont => exact fin q
  · intro s₁ hk hdr
    obtain ⟨F₁, N₁, hl₁⟩ := moved s₁ hdr
    refine wpAny_execs_nil (hR _ _ (done m₁ news₁ s₁ (by rw [← hk]; exact hJ) hadr hl₁ F₁ N₁))
theorem for_gen' {a b : Str} {pa pb tp : Pos} {kk : Nat} {body : List Stmt} {m₀ : Str → Option Value} {news : List (Addr × Obj)} {R : Result → Shared → Prop}
    (J : Nat → (Str → Option Value) → List (Addr × Obj) → Prop)
    (hh : A.handled = none) (hroom : A.depth < recursionLimit) (st : GenAt prog w A h₀ L₀ g YS 0 s)
    (ha : env.kindOf a = some .local) (hb : env.kindOf b = some .local) (hp : (env.scope.kind == .class || (env.scope.kind == .module && env.locals != env.globals)) = false)
    (F : Fr h₀ env.locals s.heap m₀) (N : News h₀ env.locals s.heap news) (hL : env.locals < L₀) (hn : ∀ p ∈ news, p.1 < L₀) (hj : J 0 m₀ news)
    (turn : ∀ (k p : Nat) (c : List Nat) t u m₁ news₁ s₁ own, YS[k]? = some (p, c) → J k m₁ news₁ → news₁.map (·.1) = news.map (·.1) → OwnOff own (news.map (·.1)) → Later s s₁ →
      Fr h₀ env.locals s₁.heap (fun z => if z = b then some (.str ⟨c.toArray⟩ u) else if z = a then some (.int (p : Int) t) else m₁ z) → News h₀ env.locals s₁.heap (news₁ ++ own) →
      wpAny (model prog w) A (execs body env) (InvPostN h₀ env.locals (J (k + 1)) own (news.map (·.1)) s₁ (fun f s' => R (.ok f) s')) (fun _ _ => False) s₁)
    (done : ∀ m₁ news₁ s₁, J YS.length m₁ news₁ → news₁.map (·.1) = news.map (·.1) → Later s s₁ → Fr h₀ env.locals s₁.heap m₁ → News h₀ env.locals s₁.heap news₁ → R (.ok .next) s₁) :
    codeAny (model prog w) A (.forLoop (.Tuple [.Name a pa, .Name b pb] kk tp) (.ref (L₀ + 1)) body [] env) R s :=
  for_gen (Q := fun f s' => R (.ok f) s') J hh hroom st ha hb hp F N hL hn hj (fun _ _ q => q) turn done
end
end Mine
end
-- part Ps41
theorem Mine.calm_Ps41 : True := by
  w_top off
  exact trivial
section
open PySem PySem.W PyProof.Rows
namespace Mine
/-- one turn of _strip_quoted_realnames: start, open_pos, result -/
def stStep (txt : List Nat) (σ : Nat × Option Nat × List (List Nat)) (y : Nat × List Nat) : Nat × Option Nat × List (List Nat) :=
  if y.2 = [34] then
    match σ.2.1 with
    | none => (σ.1, some y.1, σ.2.2)
    | some o => (y.1 + 1, none, if σ.1 ≠ o then σ.2.2 ++ [(txt.drop σ.1).take (o - σ.1)] else σ.2.2)
  else σ
def stRun (txt : List Nat) (ys : List (Nat × List Nat)) : Nat × Option Nat × List (List Nat) := ys.foldl (stStep txt) (0, none, [])
/-- what _strip_quoted_realnames gives back -/
def strip (txt : List Nat) : List Nat :=
  if 34 ∈ txt then ((stRun txt (escs 0 false txt)).2.2 ++ (if (stRun txt (escs 0 false txt)).1 < txt.length then [txt.drop (stRun txt (escs 0 false txt)).1] else [])).flatten else txt
theorem escs_ge : ∀ (r : List Nat) (i : Nat) (e : Bool), (e = true → 0 < i) → ∀ y ∈ escs i e r, (if e then i - 1 else i) ≤ y.1 ∧ y.1 < i + r.length ∨ (e = true ∧ y.1 = i - 1)
  | [], i, true, h, y, hy => by simp [escs] at hy; subst hy; right; simp
  | [], i, false, _, y, hy => by simp [escs] at hy
  | c :: r, i, true, h, y, hy => by
    simp only [escs, List.mem_cons] at hy
    rcases hy with rfl | hy
    · left; simp
    · have := escs_ge r (i + 1) false (by simp) y hy
      simp at this ⊢
      left; omega
  | c :: r, i, false, _, y, hy => by
    simp only [escs] at hy
    split at hy
    · have := escs_ge r (i + 1) true (by simp) y hy
      simp at this ⊢
      omega
    · rcases List.mem_cons.mp hy with rfl | hy
      · left; simp
      · have := escs_ge r (i + 1) false (by simp) y hy
        simp at this ⊢
        omega
theorem escs_lt {txt : List Nat} {y : Nat × List Nat} (hy : y ∈ escs 0 false txt) : y.1 < txt.length := by
  have := escs_ge txt 0 false (by simp) y hy
  simp at this
  omega
theorem escs_sorted : ∀ (r : List Nat) (i : Nat) (e : Bool), (e = true → 0 < i) → (escs i e r).Pairwise fun a b => a.1 < b.1
  | [], i, true, _ => by simp [escs]
  | [], i, false, _ => by simp [escs]
  | c :: r, i, true, h => by
    simp only [escs]
    refine List.pairwise_cons.mpr ⟨fun y hy => ?_, escs_sorted r (i + 1) false (by simp)⟩
    have := escs_ge r (i + 1) false (by simp) y hy
    simp at this ⊢
    omega
  | c :: r, i, false, _ => by
    simp only [escs]
    split
    · exact escs_sorted r (i + 1) true (by simp)
    · refine List.pairwise_cons.mpr ⟨fun y hy => ?_, escs_sorted r (i + 1) false (by simp)⟩
      have := escs_ge r (i + 1) false (by simp) y hy
      simp at this ⊢
      omega
theorem stRun_inv {txt : List Nat} {YS : List (Nat × List Nat)} (hs : YS.Pairwise fun a b => a.1 < b.1) (hl : ∀ y ∈ YS, y.1 < txt.length) : ∀ k, k ≤ YS.length →
    (∀ y ∈ YS.drop k, (stRun txt (YS.take k)).1 ≤ y.1 ∧ ∀ o, (stRun txt (YS.take k)).2.1 = some o → o < y.1) ∧ (stRun txt (YS.take k)).1 ≤ txt.length ∧ ∀ o, (stRun txt (YS.take k)).2.1 = some o → (stRun txt (YS.take k)).1 ≤ o ∧ o < txt.length := by
  intro k
  induction k with
  | zero => intro _; simp [stRun]
  | succ k ih =>
    intro hk
    obtain ⟨h1, h2, h3⟩ := ih (by omega)
    have hlt : k < YS.length := by omega
    have e : stRun txt (YS.take (k + 1)) = stStep txt (stRun txt (YS.take k)) YS[k] := by
      unfold stRun
      rw [List.take_add_one, List.getElem?_eq_getElem hlt, Option.toList_some, List.foldl_append]
      rfl
    have hd : YS.drop k = YS[k] :: YS.drop (k + 1) := List.drop_eq_getElem_cons hlt
    have hgt : ∀ y ∈ YS.drop (k + 1), YS[k].1 < y.1 := by
      have := hs.sublist (List.drop_sublist k YS)
      rw [hd] at this
      exact (List.pairwise_cons.mp this).1
    have hk1 := h1 YS[k] (hd ▸ List.mem_cons_self ..)
    have hin := hl YS[k] (List.getElem_mem hlt)
    rw [e]
    unfold stStep
    split
    · split
      · rename_i hn
        refine ⟨fun y hy => ⟨by have := hgt y hy; simp only; omega, fun o ho => by simp only [Option.some.injEq] at ho; have := hgt y hy; omega⟩, h2, fun o ho => ?_⟩
        simp only [Option.some.injEq] at ho
        subst ho
        exact ⟨hk1.1, hin⟩
      · rename_i o ho
        refine ⟨fun y hy => ⟨by have := hgt y hy; simp only; omega, fun o ho => by simp at ho⟩, by simp only; omega, fun o ho => by simp at ho⟩
    · refine ⟨fun y hy => h1 y (hd ▸ List.mem_cons_of_mem _ hy), h2, h3⟩
end Mine
end
-- part St41
theorem Mine.calm_St41 : True := by
  w_top off
  exact trivial
section
open PySem PySem.W PyProof.Rows
set_option maxRecDepth 100000
set_option maxHeartbeats 8000000
namespace Mine
theorem one_eq {c : List Nat} {k : Nat} : (({ cps := c.toArray } : Str) == ⟨#[k]⟩) = decide (c = [k]) := by
  by_cases h : c = [k]
  · subst h; simp
  · rw [decide_eq_false h]
    apply Bool.eq_false_iff.mpr
    intro h'
    have e := eq_of_beq h'
    injection e with e
    exact h (by simpa using congrArg Array.toList e)
theorem stRun_succ {txt : List Nat} {YS : List (Nat × List Nat)} {k : Nat} {y : Nat × List Nat} (h : YS[k]? = some y) : stRun txt (YS.take (k + 1)) = stStep txt (stRun txt (YS.take k)) y := by
  unfold stRun
  rw [List.take_add_one, h, Option.toList_some, List.foldl_append]
  rfl
def optV : Option Nat → Value → Prop
  | none, v => v = .none
  | some o, v => ∃ t, v = .int (o : Int) t
theorem stRun_len {txt : List Nat} : ∀ (ys : List (Nat × List Nat)) (σ : Nat × Option Nat × List (List Nat)), (ys.foldl (stStep txt) σ).2.2.length ≤ σ.2.2.length + ys.length
  | [], σ => by simp
  | y :: r, σ => by
    have := stRun_len (txt := txt) r (stStep txt σ y)
    have h2 : (stStep txt σ y).2.2.length ≤ σ.2.2.length + 1 := by
      unfold stStep
      split
      · split
        · simp
        · dsimp only; split <;> simp
      · simp
    simp only [List.foldl_cons, List.length_cons]
    omega
theorem stRun_each {txt : List Nat} : ∀ (ys : List (Nat × List Nat)) (σ : Nat × Option Nat × List (List Nat)), (∀ l ∈ σ.2.2, l.length ≤ txt.length) → ∀ l ∈ (ys.foldl (stStep txt) σ).2.2, l.length ≤ txt.length
  | [], σ, h => h
  | y :: r, σ, h => by
    refine stRun_each (txt := txt) r (stStep txt σ y) ?_
    unfold stStep
    split
    · split
      · exact h
      · dsimp only
        split
        · intro l hl
          rcases List.mem_append.mp hl with hl | hl
          · exact h l hl
          · rw [List.mem_singleton.mp hl]; simp only [List.length_take, List.length_drop]; omega
        · exact h
    · exact h
theorem escs_length : ∀ (r : List Nat) (i : Nat) (e : Bool), (escs i e r).length ≤ r.length + 1
  | [], i, true => by simp [escs]
  | [], i, false => by simp [escs]
  | c :: r, i, true => by have := escs_length r (i + 1) false; simp only [escs, List.length_cons]; omega
  | c :: r, i, false => by
    simp only [escs]
    split
    · have := escs_length r (i + 1) true; simp only [List.length_cons]; omega
    · have := escs_length r (i + 1) false; simp only [List.length_cons]; omega
theorem strs_append : ∀ {vs : List Value} {ys : List Str} {vs' : List Value} {ys' : List Str}, StrsAre vs ys → StrsAre vs' ys' → StrsAre (vs ++ vs') (ys ++ ys')
  | _, _, _, _, .nil, h => h
  | _, _, _, _, .cons y t h0, h => .cons y t (strs_append h0 h)
theorem strs_len : ∀ {vs : List Value} {ys : List Str}, StrsAre vs ys → vs.length = ys.length
  | _, _, .nil => rfl
  | _, _, .cons y t h0 => congrArg (· + 1) (strs_len h0)
theorem join_flat : ∀ (l : List (List Nat)), Txt.join (Str.ofString "") (l.map fun c => ⟨c.toArray⟩) = ⟨l.flatten.toArray⟩ := by
  intro l
  unfold Txt.join
  rw [StrLaws.glued_eq_join]
  induction l with
  | nil => rfl
  | cons c r ih =>
    cases r with
    | nil => show (⟨c.toArray⟩ : Str) = _; simp
    | cons d r =>
      show (⟨c.toArray⟩ : Str) ++ Str.ofString "" ++ Str.join (Str.ofString "") (List.map (fun c => ⟨c.toArray⟩) (d :: r)) = _
      rw [ih]
      show (⟨c.toArray ++ #[] ++ (d :: r).flatten.toArray⟩ : Str) = _
      simp
theorem inv_end {h₀ : Heap} {L : Addr} {J : (Str → Option Value) → List (Addr × Obj) → Prop} {m' : Str → Option Value} {own : List (Addr × Obj)} {a : Addr} {o : Obj} {s₁ : Shared} {h' : Heap} {tk : Nat} (F : Fr h₀ L h' m') (N : News h₀ L h' ((a, o) :: own)) (hj : J m' [(a, o)]) :
    InvEndN h₀ L J own [a] s₁ { s₁ with heap := h', toks := tk } :=
  ⟨h', tk, m', _, [(a, o)], rfl, F, N, fun _ hp => List.mem_cons.mpr (.inl (List.mem_singleton.mp hp)), fun _ hp => List.mem_cons_of_mem _ hp, rfl, hj⟩
theorem slice_mid {x : Str} {a b : Nat} (h1 : a ≤ b) (h2 : b ≤ x.cps.toList.length) : Txt.slice x (some (a : Int)) (some (b : Int)) = ⟨((x.cps.toList.drop a).take (b - a)).toArray⟩ := by
  have := eq_of_beq (slice_closes (x := x) (i := a) (j := b) ⟨by omega, by omega, by omega⟩)
  rw [this, show ((b : Int) - a).toNat = b - a by omega]; simp
theorem slice_tail {x : Str} {a : Nat} (h2 : a ≤ x.cps.toList.length) : Txt.slice x (some (a : Int)) none = ⟨(x.cps.toList.drop a).toArray⟩ := by
  have := eq_of_beq (slice_closes_fromL (x := x) (i := a) (b := x.length) (by omega) (by rw [← toList_len]; omega) rfl)
  rw [this, ← toList_len]
  congr 2
  rw [List.take_of_length_le (by rw [List.length_drop]; omega)]; simp
theorem strip_call {w : World} {mg mb : Str → Option Value} {mean : ExcName → Option Value} {loose : List Str} {A : Around} {s : Shared} {Q E : Value → Shared → Prop} {x : Str} {t : Tok} :
  A.handled = none → A.depth + 10 < recursionLimit → A.units + 100 < cLine → (hd.heap_39 w.params).In s.heap → Top hd.view_39 loose mean mg mb s.heap →
  x.cps.all (· < 128) = true → x.cps.size < 1000 →
  (∀ t' s', (∀ b o, s.heap.get? b = some o → s'.heap.get? b = some o) → Later s s' → Q (.str ⟨(strip x.cps.toList).toArray⟩ t') s') →
  wpAny (model Challenge.rw_pd0041_01.row.prog w) A (call (.ref 35) [.str x t]) Q E s := by
  k_fill
  intro hh hd hu X T hasc hlen hQ
  refine wpAny_call (enter_def [(Str.ofString "addr", .str x t)] X T.nolimit (by omega) rfl rfl (.of_eq rfl) rfl ?_)
  intro h₁ F N
  rw [map1] at F
  dsimp only
  have hfo := StrLaws.found_one x 34
  k_steps
  · rename_i ha
    rw [show (⟨#[34]⟩ : Str) = Str.ofString "\"" from rfl, ha] at hfo
    have h34 : ¬ 34 ∈ x.cps.toList := by simpa using hfo
    have := fun tk => hQ t { s with heap := h₁, toks := tk } F.keep ((Later.refl s).heap _ _)
    unfold strip at this
    rw [if_neg h34] at this
    exact this _
  · rename _ = false => ha
    rw [show (⟨#[34]⟩ : Str) = Str.ofString "\"" from rfl, ha] at hfo
    have h34 : 34 ∈ x.cps.toList := by simpa using hfo
    refine wpAny_For ?_
    k_steps
    rename Fr _ _ _ _ => F2
    rename News _ _ _ _ => N2
    rename_i l' _ _ _
    have hz := F2.ns.lt
    have hn0 : ∀ p ∈ [(l', W.listOf #[] 0)], p.1 < _ := fun p hp => Heap.lt_size (N2 p hp).1
    refine iter_make (h₀ := s.heap) hh (by show A.depth + 1 + 6 < _; omega) (by show A.units + 3 + 60 < _; omega) X T F2.keep (Nat.le_of_lt hz) hasc hlen ?_
    intro h2 tk2 gs hbare k2 hG
    refine wpAny_pyIter_gen hG.1 ?_
    generalize hYS : escs 0 false x.cps.toList = YS at hG
    generalize htxt : x.cps.toList = txt at *
    have htl : txt.length = x.cps.size := by rw [← htxt]; simp
    have inv := fun k (hk : k ≤ YS.length) => stRun_inv (txt := txt) (YS := YS) (hYS ▸ escs_sorted txt 0 false (by simp)) (fun y hy => escs_lt (hYS ▸ hy)) k hk
    refine for_gen' (h₀ := s.heap) (fun k m news => m (Str.ofString "addr") = some (.str x t) ∧ m (Str.ofString "result") = some (.ref l') ∧ (∃ t1, m (Str.ofString "start") = some (.int ((stRun txt (YS.take k)).1 : Int) t1)) ∧
      (∃ v, m (Str.ofString "open_pos") = some v ∧ optV (stRun txt (YS.take k)).2.1 v) ∧ ∃ vs' e, news = [(l', W.listOf vs'.toArray e)] ∧ StrsAre vs' ((stRun txt (YS.take k)).2.2.map fun c => ⟨c.toArray⟩)) hh (by show A.depth + 1 < _; omega) hG rfl rfl rfl (F2.keeps k2) (N2.grown k2) hz hn0 ?_ ?_ ?_
    · exact ⟨rfl, rfl, ⟨_, rfl⟩, ⟨_, rfl, rfl⟩, [], 0, rfl, .nil⟩
    · rintro k p c tp u m₁ news₁ s₁ own hys ⟨hm1, hm2, ⟨t1, hm3⟩, ⟨v, hm4, hv⟩, vs', e, rfl, hS⟩ hadr hoff hlat F₁ N₁
      clear F2 N2
      have hk : k < YS.length := (List.getElem?_eq_some_iff.mp hys).1
      obtain ⟨i1, i2, i3⟩ := inv k (Nat.le_of_lt hk)
      rw [stRun_succ hys]
      generalize hσ : stRun txt (YS.take k) = σ at *
      obtain ⟨st, op, rs⟩ := σ
      rw [expl4 hm1 hm2 hm3 hm4] at F₁
      dsimp only [List.cons_append, List.nil_append, List.map_cons, List.map_nil] at F₁ N₁ hv hS i1 i2 i3 hoff ⊢
      have hvl : vs'.length ≤ 2000 := by
        have h1 := strs_len hS
        have h2 := stRun_len (txt := txt) (YS.take k) (0, none, [])
        have h3 := escs_length txt 0 false
        have h4 : (stRun txt (YS.take k)).2.2.length ≤ 0 + (YS.take k).length := h2
        rw [hσ] at h4
        rw [hYS] at h3
        rw [List.length_map] at h1
        rw [List.length_take] at h4
        dsimp only at h4
        omega
      rcases op with _ | o
      · cases hv
        k_steps
        · rename _ = true => hc
          rw [show Str.ofString "\"" = ⟨#[34]⟩ from rfl, one_eq, decide_eq_true_eq] at hc
          rename Fr _ _ _ _ => F3
          rename News _ _ _ _ => N3
          subst hc
          exact inv_end F3 N3 ⟨rfl, rfl, ⟨_, rfl⟩, ⟨_, rfl, _, rfl⟩, _, _, rfl, hS⟩
        · rename _ = false => hc
          rw [show Str.ofString "\"" = ⟨#[34]⟩ from rfl, one_eq, decide_eq_false_iff_not] at hc
          rename Fr _ _ _ _ => F3
          rename News _ _ _ _ => N3
          have e1 : stStep txt (st, none, rs) (p, c) = (st, none, rs) := by unfold stStep; rw [if_neg hc]
          rw [e1]
          exact inv_end F3 N3 ⟨rfl, rfl, ⟨_, rfl⟩, ⟨_, rfl, rfl⟩, _, _, rfl, hS⟩
      · obtain ⟨t2, rfl⟩ := hv
        obtain ⟨j1, j2⟩ := i3 o rfl
        have e2 : Txt.slice x (some (st : Int)) (some (o : Int)) = ⟨((txt.drop st).take (o - st)).toArray⟩ := by rw [slice_mid j1 (by rw [htxt]; omega), htxt]
        k_steps
        · rename _ = true => hc
          rename _ ≠ _ => ho
          rename Fr _ _ _ _ => F3
          rename News _ _ _ _ => N3
          rw [show Str.ofString "\"" = ⟨#[34]⟩ from rfl, one_eq, decide_eq_true_eq] at hc
          subst hc
          rw [e2, List.push_toArray] at N3
          have e1 : stStep txt (st, some o, rs) (p, [34]) = (p + 1, none, rs ++ [(txt.drop st).take (o - st)]) := by unfold stStep; rw [if_pos rfl]; dsimp only; rw [if_pos (by omega)]
          rw [e1]
          refine inv_end F3 N3 ⟨rfl, rfl, ⟨_, rfl⟩, ⟨_, rfl, rfl⟩, _, _, rfl, ?_⟩
          rw [List.map_append]
          exact strs_append hS (.cons _ _ .nil)
        · rename (_ : Int) = _ => ho
          rename _ = true => hc
          rename Fr _ _ _ _ => F3
          rename News _ _ _ _ => N3
          rw [show Str.ofString "\"" = ⟨#[34]⟩ from rfl, one_eq, decide_eq_true_eq] at hc
          subst hc
          have e1 : stStep txt (st, some o, rs) (p, [34]) = (p + 1, none, rs) := by unfold stStep; rw [if_pos rfl]; dsimp only; rw [if_neg (by omega)]
          rw [e1]
          exact inv_end F3 N3 ⟨rfl, rfl, ⟨_, rfl⟩, ⟨_, rfl, rfl⟩, _, _, rfl, hS⟩
        · rename _ = false => hc
          rw [show Str.ofString "\"" = ⟨#[34]⟩ from rfl, one_eq, decide_eq_false_iff_not] at hc
          rename Fr _ _ _ _ => F3
          rename News _ _ _ _ => N3
          have e1 : stStep txt (st, some o, rs) (p, c) = (st, some o, rs) := by unfold stStep; rw [if_neg hc]
          rw [e1]
          exact inv_end F3 N3 ⟨rfl, rfl, ⟨_, rfl⟩, ⟨_, rfl, _, rfl⟩, _, _, rfl, hS⟩
    · rintro m₁ news₁ s₁ ⟨hm1, hm2, ⟨t1, hm3⟩, ⟨v, hm4, hv⟩, vs', e, rfl, hS⟩ hadr hlat F₁ N₁
      clear F2 N2
      obtain ⟨i1, i2, i3⟩ := inv YS.length (Nat.le_refl _)
      have hvl : vs'.length ≤ 2000 := by
        have h1 := strs_len hS
        have h2 := stRun_len (txt := txt) YS (0, none, [])
        have h3 := escs_length txt 0 false
        have h4 : (stRun txt YS).2.2.length ≤ 0 + YS.length := h2
        rw [hYS] at h3
        rw [List.length_map, List.take_length] at h1
        omega
      rw [List.take_length] at *
      have hstr : strip txt = ((stRun txt YS).2.2 ++ (if (stRun txt YS).1 < txt.length then [txt.drop (stRun txt YS).1] else [])).flatten := by unfold strip; rw [if_pos h34, hYS]
      generalize hσ : stRun txt YS = σ at *
      obtain ⟨st, op, rs⟩ := σ
      rw [expl4 hm1 hm2 hm3 hm4] at F₁
      dsimp only at F₁ hstr hS ⊢
      have e2 : Txt.slice x (some (st : Int)) none = ⟨(txt.drop st).toArray⟩ := by rw [slice_tail (by rw [htxt]; exact i2), htxt]
      have hsum : ∀ l ∈ rs ++ (if st < txt.length then [txt.drop st] else []), l.length ≤ 999 := by
        have h1 := stRun_each (txt := txt) YS (0, none, []) (by simp)
        rw [show List.foldl (stStep txt) (0, none, []) YS = stRun txt YS from rfl, hσ] at h1
        intro l hl
        rcases List.mem_append.mp hl with hl | hl
        · have := h1 l hl; omega
        · split at hl
          · rw [List.mem_singleton.mp hl, List.length_drop]; omega
          · cases hl
      have hrl : rs.length ≤ 1000 := by
        have h1 := stRun_len (txt := txt) YS (0, none, [])
        have h3 := escs_length txt 0 false
        rw [show List.foldl (stStep txt) (0, none, []) YS = stRun txt YS from rfl, hσ] at h1
        rw [hYS] at h3
        dsimp only [List.length_nil] at h1
        omega
      have hjs : ∀ (L : List (List Nat)), L.length ≤ 1001 → (∀ l ∈ L, l.length ≤ 999) → ((L.map fun c => (⟨c.toArray⟩ : Str)).map (·.length)).sum + (L.map fun c => (⟨c.toArray⟩ : Str)).length ≤ 1048576 := by
        intro L h1 h2
        have h3 := StrLaws.sumLen_le (B := 999) (L.map fun c => (⟨c.toArray⟩ : Str)) (by
          intro y hy
          obtain ⟨c, hc, rfl⟩ := List.mem_map.mp hy
          exact h2 c hc)
        rw [List.length_map] at h3 ⊢
        omega
      k_steps
      refine P.len_str (by show ¬ (x.cps.size : Int) ≥ _; omega) ?_
      k_steps
      · rename (_ : Int) < _ => hlt
        rename Fr _ _ _ _ => F3
        rename News _ _ _ _ => N3
        have hlt' : st < txt.length := by rw [htl]; exact Int.ofNat_lt.mp hlt
        rw [e2, List.push_toArray] at N3
        rw [if_pos hlt'] at hstr hsum
        refine join_listW (ys := (rs ++ [txt.drop st]).map fun c => ⟨c.toArray⟩) (N3.isList (.head _)) ?_ (by decide) (hjs _ (by rw [List.length_append]; simp; omega) hsum) ?_
        · rw [List.map_append]
          exact strs_append hS (.cons _ _ .nil)
        · intro t' k'
          rw [join_flat, ← hstr]
          refine hQ _ _ F3.keep ?_
          obtain ⟨_, _, gs', rfl, hb⟩ := hlat
          exact ⟨_, _, gs', rfl, fun q => hb (fun y hy => by rcases Array.mem_push.mp hy with hy | rfl; exact q y hy; exact hbare)⟩
      · rename ¬ _ => hlt
        have hlt' : ¬ st < txt.length := by rw [htl]; exact fun h => hlt (Int.ofNat_lt.mpr h)
        rw [if_neg hlt', List.append_nil] at hstr hsum
        refine join_listW (ys := rs.map fun c => ⟨c.toArray⟩) (N₁.isList (.head _)) hS (by decide) (hjs _ (by omega) hsum) ?_
        intro t' k'
        rw [join_flat, ← hstr]
        refine hQ _ _ F₁.keep ?_
        obtain ⟨_, _, gs', rfl, hb⟩ := hlat
        exact ⟨_, _, gs', rfl, fun q => hb (fun y hy => by rcases Array.mem_push.mp hy with hy | rfl; exact q y hy; exact hbare)⟩
end Mine
end
-- part Ck41
theorem Mine.calm_Ck41 : True := by
  w_top off
  exact trivial
section
open PySem PySem.W PyProof.Rows
set_option maxRecDepth 100000
set_option maxHeartbeats 8000000
namespace Mine
/-- what _check_parenthesis answers from a count on -/
def ckL : List (Nat × List Nat) → Int → Bool
  | [], n => n == 0
  | y :: r, n => if y.2 = [40] then ckL r (n + 1) else if y.2 = [41] then (if n - 1 < 0 then false else ckL r (n - 1)) else ckL r n
theorem ckL_step {YS : List (Nat × List Nat)} {k : Nat} {y : Nat × List Nat} (h : YS[k]? = some y) (n : Int) :
    ckL (YS.drop k) n = if y.2 = [40] then ckL (YS.drop (k + 1)) (n + 1) else if y.2 = [41] then (if n - 1 < 0 then false else ckL (YS.drop (k + 1)) (n - 1)) else ckL (YS.drop (k + 1)) n := by
  obtain ⟨hk, e⟩ := List.getElem?_eq_some_iff.mp h
  rw [List.drop_eq_getElem_cons hk, e]
  rfl
theorem inv_end0 {h₀ : Heap} {L : Addr} {J : (Str → Option Value) → List (Addr × Obj) → Prop} {m' : Str → Option Value} {own : List (Addr × Obj)} {s₁ : Shared} {h' : Heap} {tk : Nat} (F : Fr h₀ L h' m') (N : News h₀ L h' own) (hj : J m' []) :
    InvEndN h₀ L J own [] s₁ { s₁ with heap := h', toks := tk } :=
  ⟨h', tk, m', _, [], rfl, F, N, (fun _ hp => by cases hp), fun _ hp => hp, rfl, hj⟩
theorem Later.trans {a b c : Shared} (x : Later a b) (y : Later b c) : Later a c := by
  obtain ⟨_, _, _, rfl, h1⟩ := x
  obtain ⟨_, _, _, rfl, h2⟩ := y
  exact ⟨_, _, _, rfl, fun q => h2 (h1 q)⟩
theorem check_call {w : World} {mg mb : Str → Option Value} {mean : ExcName → Option Value} {loose : List Str} {A : Around} {s : Shared} {Q E : Value → Shared → Prop} {x : Str} {t : Tok} :
  A.handled = none → A.depth + 12 < recursionLimit → A.units + 120 < cLine → (hd.heap_39 w.params).In s.heap → Top hd.view_39 loose mean mg mb s.heap →
  x.cps.all (· < 128) = true → x.cps.size < 1000 → ¬ 34 ∈ x.cps.toList →
  (∀ s', (∀ b o, s.heap.get? b = some o → s'.heap.get? b = some o) → Later s s' → Q (.bool (ckL (escs 0 false x.cps.toList) 0)) s') →
  wpAny (model Challenge.rw_pd0041_01.row.prog w) A (call (.ref 42) [.str x t]) Q E s := by
  k_fill
  intro hh hd hu X T hasc hlen h34 hQ
  refine wpAny_call (enter_def [(Str.ofString "addr", .str x t)] X T.nolimit (by omega) rfl rfl (.of_eq rfl) rfl ?_)
  intro h₁ F N
  rw [map1] at F
  dsimp only
  k_steps
  refine strip_call hh (by show A.depth + 1 + 10 < _; omega) (by show A.units + 3 + 100 < _; omega) (X.keeps F.keep) (T.keeps F.keep) hasc hlen ?_
  intro t' s' k2 hl
  replace F := F.keeps k2
  replace N := N.grown k2
  have e0 : strip x.cps.toList = x.cps.toList := by unfold strip; rw [if_neg h34]
  rw [e0]
  replace hl : Later s s' := Later.trans ((Later.refl s).heap _ _) hl
  clear k2
  obtain ⟨h2, tk2, gs2, rfl, hb2⟩ := hl
  k_steps
  refine wpAny_For ?_
  k_steps
  rename Fr _ _ _ _ => F2
  rename News _ _ _ _ => N2
  have hz := F2.ns.lt
  refine iter_make (h₀ := s.heap) hh (by show A.depth + 1 + 6 < _; omega) (by show A.units + 3 + 60 < _; omega) X T F2.keep (Nat.le_of_lt hz) hasc hlen ?_
  intro h3 tk3 gs hbare k3 hG
  refine wpAny_pyIter_gen hG.1 ?_
  generalize hYS : escs 0 false x.cps.toList = YS at *
  dsimp only at hYS hG
  have fin : ∀ s₁ (h : Heap) (tk : Nat), Later { s with heap := h3, toks := tk3, gens := gs2.push gs } s₁ → Later s { s₁ with heap := h, toks := tk } := by
    rintro _ h tk ⟨_, _, gs', rfl, hb⟩
    exact ⟨_, _, gs', rfl, fun q => hb (fun y hy => by rcases Array.mem_push.mp hy with hy | rfl; exact hb2 q y hy; exact hbare)⟩
  refine for_gen' (h₀ := s.heap) (fun k m news => news = [] ∧ ∃ n t1, m (Str.ofString "opens") = some (.int n t1) ∧ ckL YS 0 = ckL (YS.drop k) n) hh (by show A.depth + 1 < _; omega) hG rfl rfl rfl (F2.keeps k3) (N2.grown k3) hz (fun p hp => by cases hp) ?_ ?_ ?_
  · exact ⟨rfl, _, _, rfl, rfl⟩
  · rintro k p c tp u m₁ news₁ s₁ own hys ⟨rfl, n, t1, hm1, hv⟩ hadr hoff hlat F₁ N₁
    clear F2 N2
    rw [expl1 hm1] at F₁
    rw [ckL_step hys] at hv
    dsimp only [List.cons_append, List.nil_append, List.map_cons, List.map_nil] at F₁ N₁ hoff hv ⊢
    k_steps
    · rename _ = true => hc
      rename Fr _ _ _ _ => F3
      rename News _ _ _ _ => N3
      rw [show Str.ofString "(" = ⟨#[40]⟩ from rfl, one_eq, decide_eq_true_eq] at hc
      rw [if_pos hc] at hv
      exact inv_end0 F3 N3 ⟨rfl, _, _, rfl, hv⟩
    all_goals (rename (_ == Str.ofString "(") = false => hc; rw [show Str.ofString "(" = ⟨#[40]⟩ from rfl, one_eq, decide_eq_false_iff_not] at hc; rw [if_neg hc] at hv)
    · rename _ = true => hc2
      rename Int.lt _ _ => hn
      rw [show Str.ofString ")" = ⟨#[41]⟩ from rfl, one_eq, decide_eq_true_eq] at hc2
      rename Fr _ _ _ _ => F3
      rw [if_pos hc2, if_pos hn] at hv
      rw [hv] at hQ
      exact hQ _ F3.keep (fin _ _ _ hlat)
    · rename _ = true => hc2
      rename ¬ (_ : Int) < _ => hn
      rw [show Str.ofString ")" = ⟨#[41]⟩ from rfl, one_eq, decide_eq_true_eq] at hc2
      rename Fr _ _ _ _ => F3
      rename News _ _ _ _ => N3
      rw [if_pos hc2, if_neg hn] at hv
      exact inv_end0 F3 N3 ⟨rfl, _, _, rfl, hv⟩
    · rename _ = false => hc2
      rw [show Str.ofString ")" = ⟨#[41]⟩ from rfl, one_eq, decide_eq_false_iff_not] at hc2
      rw [if_neg hc2] at hv
      exact inv_end0 F₁ N₁ ⟨rfl, _, _, rfl, hv⟩
  · rintro m₁ news₁ s₁ ⟨rfl, n, t1, hm1, hv⟩ hadr hlat F₁ N₁
    clear F2 N2
    rw [expl1 hm1] at F₁
    rw [List.drop_length] at hv
    dsimp only at F₁ ⊢
    k_steps
    rw [hv] at hQ
    exact hQ _ F₁.keep (fin _ _ _ hlat)
end Mine
end
-- part Pb41
theorem Mine.calm_Pb41 : True := by
  w_top off
  exact trivial
section
open PySem PySem.W PyProof.Rows
namespace Mine
/-- the sixes of three octets, as they are written one by one -/
def sx : List Int → List Int
  | a :: b :: c :: r => (a / 4) % 64 :: ((a * 256 + b) / 16) % 64 :: ((b * 256 + c) / 64) % 64 :: (b * 256 + c) % 64 :: sx r
  | [a, b] => [(a / 4) % 64, ((a * 256 + b) / 16) % 64]
  | [a] => [(a / 4) % 64]
  | [] => []
theorem sx0 (j : Nat) : ∀ (ns : List Int) (b : Int), ns[3 * j]? = some b → sx (ns.take (3 * j + 1)) = sx (ns.take (3 * j)) ++ [(b / 4) % 64] := by
  induction j with
  | zero =>
    intro ns b h
    match ns, h with
    | n :: r, h => simp at h; subst h; simp [sx]
  | succ j ih =>
    intro ns b h
    match ns, h with
    | n1 :: n2 :: n3 :: r, h =>
      have := ih r b (by simpa [Nat.mul_add] using h)
      have e : 3 * (j + 1) = 3 * j + 1 + 1 + 1 := by omega
      rw [e]
      simp only [List.take_succ_cons, sx, this, List.cons_append]
    | [], h => simp at h
    | [_], h => (have := (List.getElem?_eq_some_iff.mp h).1; simp at this <;> omega)
    | [_, _], h => (have := (List.getElem?_eq_some_iff.mp h).1; simp at this <;> omega)
theorem sx1 (j : Nat) : ∀ (ns : List Int) (a b : Int), ns[3 * j]? = some a → ns[3 * j + 1]? = some b → sx (ns.take (3 * j + 2)) = sx (ns.take (3 * j + 1)) ++ [((a * 256 + b) / 16) % 64] := by
  induction j with
  | zero =>
    intro ns a b h1 h2
    match ns, h1, h2 with
    | n :: n2 :: r, h1, h2 => simp at h1 h2; subst h1 h2; simp [sx]
    | [n], h1, h2 => simp at h2
  | succ j ih =>
    intro ns a b h1 h2
    match ns, h1, h2 with
    | n1 :: n2 :: n3 :: r, h1, h2 =>
      have := ih r a b (by simpa [Nat.mul_add] using h1) (by simpa [Nat.mul_add] using h2)
      have e : 3 * (j + 1) = 3 * j + 1 + 1 + 1 := by omega
      rw [e]
      show sx (List.take (3 * j + 2 + 1 + 1 + 1) _) = sx (List.take (3 * j + 1 + 1 + 1 + 1) _) ++ _
      simp only [List.take_succ_cons, sx, this, List.cons_append]
    | [], h1, _ => simp at h1
    | [_], h1, _ => (have := (List.getElem?_eq_some_iff.mp h1).1; simp at this <;> omega)
    | [_, _], h1, _ => (have := (List.getElem?_eq_some_iff.mp h1).1; simp at this <;> omega)
theorem sx2 (j : Nat) : ∀ (ns : List Int) (a b : Int), ns[3 * j + 1]? = some a → ns[3 * j + 2]? = some b → sx (ns.take (3 * j + 3)) = sx (ns.take (3 * j + 2)) ++ [((a * 256 + b) / 64) % 64, (a * 256 + b) % 64] := by
  induction j with
  | zero =>
    intro ns a b h1 h2
    match ns, h1, h2 with
    | n :: n2 :: n3 :: r, h1, h2 => simp at h1 h2; subst h1 h2; simp [sx]
    | [n, _], h1, h2 => simp at h2
    | [n], h1, h2 => simp at h2
  | succ j ih =>
    intro ns a b h1 h2
    match ns, h1, h2 with
    | n1 :: n2 :: n3 :: r, h1, h2 =>
      have := ih r a b (by simpa [Nat.mul_add] using h1) (by simpa [Nat.mul_add] using h2)
      have e : 3 * (j + 1) = 3 * j + 1 + 1 + 1 := by omega
      rw [e]
      show sx (List.take (3 * j + 3 + 1 + 1 + 1) _) = sx (List.take (3 * j + 2 + 1 + 1 + 1) _) ++ _
      simp only [List.take_succ_cons, sx, this, List.cons_append]
    | [], h1, _ => simp at h1
    | [_], h1, _ => (have := (List.getElem?_eq_some_iff.mp h1).1; simp at this <;> omega)
    | [_, _], h1, _ => (have := (List.getElem?_eq_some_iff.mp h1).1; simp at this <;> omega)
theorem sx_in : ∀ ns, ∀ n ∈ sx ns, 0 ≤ n ∧ n < 64
  | a :: b :: c :: r, n, h => by
    have ih := sx_in r
    simp only [sx, List.mem_cons] at h
    rcases h with rfl | rfl | rfl | rfl | h
    · omega
    · omega
    · omega
    · omega
    · exact ih n h
  | [a, b], n, h => by
    simp only [sx, List.mem_cons, List.not_mem_nil, or_false] at h
    rcases h with rfl | rfl <;> omega
  | [a], n, h => by
    simp only [sx, List.mem_cons, List.not_mem_nil, or_false] at h
    subst h; omega
  | [], n, h => by simp [sx] at h
theorem sx_length : ∀ ns, (sx ns).length ≤ 2 * ns.length
  | a :: b :: c :: r => by have := sx_length r; simp [sx]; omega
  | [a, b] => by simp [sx]
  | [a] => by simp [sx]
  | [] => by simp [sx]
theorem bitOr_add (x y : Int) : Builtin.bitOr x y = x + y - Builtin.bitAnd x y := by
  have h1 := bitXor_and x y
  have h2 : Builtin.bitXor x y = Builtin.bitOr x y - Builtin.bitAnd x y := rfl
  omega
theorem and256 (a b : Nat) (h : b < 256) : (a * 256) &&& b = 0 := by
  apply Nat.eq_of_testBit_eq
  intro i
  rw [Nat.testBit_and, Nat.zero_testBit]
  by_cases hi : i < 8
  · have : (a * 256).testBit i = false := by
      rw [show a * 256 = 2 ^ 8 * a by omega, Nat.testBit_two_pow_mul]
      simp; omega
    simp [this]
  · have : b.testBit i = false := Nat.testBit_lt_two_pow (Nat.lt_of_lt_of_le h (by
      show 2 ^ 8 ≤ 2 ^ i
      exact Nat.pow_le_pow_right (by omega) (by omega)))
    simp [this]
theorem or256 {lc b : Int} (h0 : 0 ≤ lc) (hb0 : 0 ≤ b) (hb : b < 256) : Builtin.bitOr (lc * 2 ^ Int.toNat 8) b = lc * 256 + b := by
  have e : lc * 2 ^ Int.toNat 8 = lc * 256 := by rfl
  rw [e, bitOr_add]
  have : Builtin.bitAnd (lc * 256) b = 0 := by
    unfold Builtin.bitAnd
    rw [decide_eq_true (by omega : 0 ≤ lc * 256), decide_eq_true hb0]
    show (((lc * 256).toNat &&& b.toNat : Nat) : Int) = 0
    have e2 : (lc * 256).toNat = lc.toNat * 256 := by omega
    rw [e2, and256 _ _ (by omega)]; rfl
  omega
/-- what leftchar holds behind an octet -/
theorem lc_next {lc b : Int} (h0 : 0 ≤ lc) (hb0 : 0 ≤ b) (hb : b < 256) : Builtin.bitAnd (Builtin.bitOr (lc * 2 ^ Int.toNat 8) b) 65535 = (lc % 256) * 256 + b := by
  rw [or256 h0 hb0 hb, bitAnd_m16]; omega
end Mine
end
-- part B2a41
theorem Mine.calm_B2a41 : True := by
  w_top off
  exact trivial
section
open PySem PySem.W PyProof.Rows
namespace Mine
set_option maxRecDepth 100000
set_option maxHeartbeats 8000000
local macro_rules | `(tactic| walk_at "call type:type") => `(tactic| ((with_reducible show wpAny _ _ (call _ [Value.bytes _ _]) _ _ _); refine call_type_of (Tx := "bytes") rfl (by decide +kernel) ?_))
theorem buffer_call {w : World} {mg mb : Str → Option Value} {mean : ExcName → Option Value} {loose : List Str} {A : Around} {s : Shared} {Q E : Value → Shared → Prop} {b : Array UInt8} {t : Tok} :
  A.handled = none → A.depth + 3 < recursionLimit → A.units + 20 < cLine → (hd.heap_39 w.params).In s.heap → Top hd.view_39 loose mean mg mb s.heap →
  (∀ h' tk', (∀ b o, s.heap.get? b = some o → h'.get? b = some o) → Q (.bytes b t) { s with heap := h', toks := tk' }) →
  wpAny (model Challenge.rw_pd0041_01.row.prog w) A (call (.ref 49) [.bytes b t]) Q E s := by
  k_fill
  intro hh hd hu X T hQ
  refine wpAny_call (enter_def [(Str.ofString "data", .bytes b t)] X T.nolimit (by omega) rfl rfl (.of_eq rfl) rfl ?_)
  intro h₁ F N
  rw [map1] at F
  dsimp only
  k_steps
  exact hQ _ _ (Fr.keep (by assumption))
theorem truth_call {w : World} {mg mb : Str → Option Value} {mean : ExcName → Option Value} {loose : List Str} {A : Around} {s : Shared} {Q E : Value → Shared → Prop} :
  A.handled = none → A.depth + 3 < recursionLimit → A.units + 20 < cLine → (hd.heap_39 w.params).In s.heap → Top hd.view_39 loose mean mg mb s.heap →
  (∀ h' tk', (∀ b o, s.heap.get? b = some o → h'.get? b = some o) → Q (.bool false) { s with heap := h', toks := tk' }) →
  wpAny (model Challenge.rw_pd0041_01.row.prog w) A (call (.ref 56) [.bool false]) Q E s := by
  k_fill
  intro hh hd hu X T hQ
  refine wpAny_call (enter_def [(Str.ofString "x", .bool false)] X T.nolimit (by omega) rfl rfl (.of_eq rfl) rfl ?_)
  intro h₁ F N
  rw [map1] at F
  dsimp only
  k_steps
  exact hQ _ _ (Fr.keep (by assumption))
/-- the alphabet's codes -/
def tab : List Int := (List.range 26).map (fun i : Nat => (65 + i : Int)) ++ (List.range 26).map (fun i : Nat => (97 + i : Int)) ++ (List.range 10).map (fun i : Nat => (48 + i : Int)) ++ [43, 47]
def tabAt (n : Int) : Int := tab.getD n.toNat 0
theorem lc_in {lc b : Int} (hb0 : 0 ≤ b) (hb : b < 256) : 0 ≤ lc % 256 * 256 + b ∧ lc % 256 * 256 + b < 65536 := by omega
theorem tab_in' : ∀ k : Nat, k < 64 → 0 ≤ tab.getD k 0 ∧ tab.getD k 0 < 256 := by decide +kernel
theorem tab_in (n : Int) (h0 : 0 ≤ n) (h1 : n < 64) : 0 ≤ tabAt n ∧ tabAt n < 256 := tab_in' n.toNat (by omega)
theorem val0 {p b : Int} : Builtin.bitAnd ((p * 256 + b).fdiv (2 ^ (2 * ((0 : Nat) : Int) + 8 - 6).toNat)) 63 = (b / 4) % 64 := by
  show Builtin.bitAnd ((p * 256 + b).fdiv 4) 63 = _
  rw [bitAnd_m6, Int.fdiv_eq_ediv_of_nonneg _ (by decide)]; omega
theorem val1 {p b : Int} : Builtin.bitAnd ((p * 256 + b).fdiv (2 ^ (2 * ((1 : Nat) : Int) + 8 - 6).toNat)) 63 = ((p * 256 + b) / 16) % 64 := by
  show Builtin.bitAnd ((p * 256 + b).fdiv 16) 63 = _
  rw [bitAnd_m6, Int.fdiv_eq_ediv_of_nonneg _ (by decide)]
theorem val2 {p b : Int} : Builtin.bitAnd ((p * 256 + b).fdiv (2 ^ (2 * ((2 : Nat) : Int) + 8 - 6).toNat)) 63 = ((p * 256 + b) / 64) % 64 := by
  show Builtin.bitAnd ((p * 256 + b).fdiv 64) 63 = _
  rw [bitAnd_m6, Int.fdiv_eq_ediv_of_nonneg _ (by decide)]
theorem val3 {p b : Int} : Builtin.bitAnd ((p * 256 + b).fdiv (2 ^ (2 * ((2 : Nat) : Int) + 8 - 6 - 6).toNat)) 63 = (p * 256 + b) % 64 := by
  show Builtin.bitAnd ((p * 256 + b).fdiv 1) 63 = _
  rw [bitAnd_m6, Int.fdiv_eq_ediv_of_nonneg _ (by decide)]; omega
theorem b2a_call {w : World} {mg mb : Str → Option Value} {mean : ExcName → Option Value} {loose : List Str} {A : Around} {s : Shared} {Q E : Value → Shared → Prop} {ns : List Int} {t : Tok} :
  A.handled = none → A.depth + 5 < recursionLimit → A.units + 40 < cLine → (hd.heap_39 w.params).In s.heap → Top hd.view_39 loose mean mg mb s.heap →
  KBa.In ns → ns.length < 100 → ns.length % 3 = 0 →
  (∀ t h' tk', (∀ b o, s.heap.get? b = some o → h'.get? b = some o) → Q (.bytes (byteArr ((sx ns).map tabAt)) t) { s with heap := h', toks := tk' }) →
  wpAny (model Challenge.rw_pd0041_01.row.prog w) A (call (.ref 64) [.bytes (byteArr ns) t] [(Str.ofString "newline", .bool false)]) Q E s := by
  k_fill
  intro hh hd hu X T hns hlen hl3 hQ
  refine wpAny_call (enter_def [(Str.ofString "data", .bytes (byteArr ns) t), (Str.ofString "newline", .bool false)] X T.nolimit (by omega) rfl rfl (.of_eq rfl) rfl ?_)
  intro h₁ F N
  rw [map2] at F
  dsimp only
  k_steps
  refine buffer_call hh (by show A.depth + 1 + 3 < _; omega) (by show A.units + 3 + 20 < _; omega) (X.keeps F.keep) (T.keeps F.keep) ?_
  intro h2 tk2 k2
  replace F := F.keeps k2
  replace N := N.grown k2
  k_steps
  rename_i F' N'
  refine truth_call hh (by show A.depth + 1 + 3 < _; omega) (by show A.units + 3 + 20 < _; omega) (X.keeps F'.keep) (T.keeps F'.keep) ?_
  intro h3 tk3 k3
  replace F' := F'.keeps k3
  replace N' := N'.grown k3
  k_steps
  rename_i l' _ _ _ _ _ F4 N4
  clear k2 k3
  refine iter_bytes (ks := ns) (fun k m news => m (Str.ofString "out") = some (.ref l') ∧ m (Str.ofString "newline") = some (.bool false) ∧ (∃ t1, m (Str.ofString "leftbits") = some (.int (2 * ((k % 3 : Nat) : Int)) t1)) ∧ ∃ lc t2, m (Str.ofString "leftchar") = some (.int lc t2) ∧ 0 ≤ lc ∧ lc < 65536 ∧ (0 < k → ns[k - 1]? = some (lc % 256)) ∧
     ∃ vs' e, news = [(l', W.listOf vs'.toArray e)] ∧ IntsAre vs' ((sx (ns.take k)).map tabAt)) hh (KBa.ints_make hns) F4 N4 ?_ ?_ ?_
  · exact ⟨rfl, rfl, ⟨_, rfl⟩, _, _, rfl, by decide, by decide, (fun h => absurd h (by decide)), [], 0, rfl, .nil⟩
  · rintro k b tb m₁ news₁ h tk I oI hlt hkb ⟨hm1, hm2, ⟨t1, hm3⟩, lc, t2, hm4, hlo, hhi, hlast, vs', e, rfl, hI⟩ hoff F₁ N₁
    clear F4 N4
    have hI0 : @Ne Nat l' I := hoff _ (.head _)
    obtain ⟨hb0, hb1⟩ := hns b (List.mem_of_getElem? hkb)
    have hlc := lc_next hlo hb0 hb1
    obtain ⟨hc0, hc1⟩ := lc_in (lc := lc) hb0 hb1
    have hvl : vs'.length ≤ 200 := by
      have h1 := hI.length
      have h2 := sx_length (ns.take k)
      have h3 := List.length_take_le k ns
      rw [List.length_map] at h1
      omega
    have hk3 : k % 3 = 0 ∨ k % 3 = 1 ∨ k % 3 = 2 := by omega
    rcases hk3 with h3 | h3 | h3
    · obtain ⟨j, rfl⟩ : ∃ j, k = 3 * j := ⟨k / 3, by omega⟩
      rw [h3] at hm3
      rw [expl4 hm1 hm2 hm3 hm4] at F₁
      dsimp only at F₁ ⊢
      k_steps
      rename_i F5 N5
      rw [hlc] at F5 ⊢
      rw [val0]
      refine KBw.item_K (ks := tab) (by rfl) (by decide) (by omega) (by show _ < (64 : Int); omega) ?_
      intro ti tki hti0 hti1
      k_steps
      rename_i F6 N6
      rw [List.push_toArray] at N6
      refine ⟨_, _, _, _, rfl, F6, N6, (by k_all), rfl, rfl, ?_, _, _, rfl, hc0, hc1, ?_, _, _, rfl, ?_⟩
      · rw [show (3 * j + 1) % 3 = 1 by omega]; exact ⟨_, rfl⟩
      · intro _; rw [show 3 * j + 1 - 1 = 3 * j by omega, hkb]; congr 1; omega
      · rw [sx0 j ns b hkb, List.map_append]
        exact hI.append (.cons _ _ .nil)
    · obtain ⟨j, rfl⟩ : ∃ j, k = 3 * j + 1 := ⟨k / 3, by omega⟩
      rw [h3] at hm3
      rw [expl4 hm1 hm2 hm3 hm4] at F₁
      dsimp only at F₁ ⊢
      k_steps
      rename_i F5 N5
      rw [hlc] at F5 ⊢
      rw [val1]
      refine KBw.item_K (ks := tab) (by rfl) (by decide) (by omega) (by show _ < (64 : Int); omega) ?_
      intro ti tki hti0 hti1
      k_steps
      rename_i F6 N6
      rw [List.push_toArray] at N6
      refine ⟨_, _, _, _, rfl, F6, N6, (by k_all), rfl, rfl, ?_, _, _, rfl, hc0, hc1, ?_, _, _, rfl, ?_⟩
      · rw [show (3 * j + 1 + 1) % 3 = 2 by omega]; exact ⟨_, rfl⟩
      · intro _; rw [show 3 * j + 1 + 1 - 1 = 3 * j + 1 by omega, hkb]; congr 1; omega
      · rw [sx1 j ns (lc % 256) b (hlast (by omega)) hkb, List.map_append]
        exact hI.append (.cons _ _ .nil)
    · obtain ⟨j, rfl⟩ : ∃ j, k = 3 * j + 2 := ⟨k / 3, by omega⟩
      rw [h3] at hm3
      rw [expl4 hm1 hm2 hm3 hm4] at F₁
      dsimp only at F₁ ⊢
      k_steps
      rename_i F5 N5
      rw [hlc] at F5 ⊢
      rw [val2]
      refine KBw.item_K (ks := tab) (by rfl) (by decide) (by omega) (by show _ < (64 : Int); omega) ?_
      intro ti tki hti0 hti1
      k_steps
      rw [val3]
      refine KBw.item_K (ks := tab) (by rfl) (by decide) (by omega) (by show _ < (64 : Int); omega) ?_
      intro tj tkj htj0 htj1
      k_steps
      rename_i F6 N6
      rw [List.push_toArray] at N6
      refine ⟨_, _, _, _, rfl, F6, N6, (by k_all), rfl, rfl, ?_, _, _, rfl, hc0, hc1, ?_, _, _, rfl, ?_⟩
      · rw [show (3 * j + 2 + 1) % 3 = 0 by omega]; exact ⟨_, rfl⟩
      · intro _; rw [show 3 * j + 2 + 1 - 1 = 3 * j + 2 by omega, hkb]; congr 1; omega
      · rw [sx2 j ns (lc % 256) b (hlast (by omega)) hkb, List.map_append, List.append_assoc]
        exact hI.append (.cons _ _ (.cons _ _ .nil))
  · rintro h tk m₁ news₁ ⟨hm1, hm2, ⟨t1, hm3⟩, lc, t2, hm4, hlo, hhi, hlast, vs', e, rfl, hI⟩ F₁ N₁
    clear F4 N4
    rw [hl3] at hm3
    rw [expl4 hm1 hm2 hm3 hm4] at F₁
    rw [List.take_of_length_le (Nat.le_refl _)] at hI
    dsimp only
    k_steps
    refine KBa.make_K F₁ N₁ hh (News.isList N₁ (.head _)) hI ?_ ?_ ?_
    · intro n hn
      obtain ⟨i, hi, rfl⟩ := List.mem_map.mp hn
      have := sx_in ns i hi
      exact tab_in _ this.1 this.2
    · rw [List.length_map]; have := sx_length ns; omega
    · intro h' t' k F' N' _
      exact hQ t' h' k F'.keep
end Mine
end
-- part Rl41
theorem Mine.calm_Rl41 : True := by
  w_top off
  exact trivial
section
open PySem PySem.W PyProof.Rows
set_option maxRecDepth 100000
namespace Mine
open Builtin
theorem slot_bytes_translate : Slot "bytes" "translate" "bytes.translate" :=
  .of (owner := "bytes") (n := "translate") (by rw [typeLookup_type, builtinLookup_eq_fast]; kernel_rfl) (by decide +kernel) (by decide +kernel) (by decide +kernel)
    (by first | exact .inl (by decide +kernel) | exact .inr (by decide +kernel)) (by rw [isSubtype_type]; kernel_rfl)
theorem type_bytes_translate : typeOf (.builtin "bytes.translate") = pure (.type "method_descriptor") := by show builtinType _ = _; rw [builtinType_eq_fast]; kernel_rfl
theorem entry_bytes_translate : entryFor table "bytes.translate" = some Builtin.«bytes.translate» := entryFor_of_tree (by kernel_rfl)
theorem args_bytes_translate_2 (a b : Value) : argsOk "bytes.translate" ⟨[a, b], []⟩ := by
  unfold argsOk; rw [signature?_of (id := "bytes.translate") (n := ['e', 't', 'a', 'l', 's', 'n', 'a', 'r', 't']) (o := ['s', 'e', 't', 'y', 'b']) (by kernel_rfl) FB.owner_bytes]; kernel_rfl
/-- b.translate(table): octet by octet -/
def trans (tb b : Array UInt8) : Array UInt8 := b.map fun c => tb.getD c.toNat c
theorem filter_none (b : Array UInt8) : (b.filter fun x => !(#[] : Array UInt8).contains x) = b := by
  have : (fun x : UInt8 => !(#[] : Array UInt8).contains x) = fun _ => true := by funext x; simp
  rw [this]; simp
section
variable {prog : Program} {w : World} {M : Model} {A : Around} {E : Value → Shared → Prop} {s : Shared} {tb b : Array UInt8} {t u : Tok}
theorem meets_translate (hsz : tb.size = 256) (hb : b.size ≤ sizeLine) :
    Meets (Builtin.«bytes.translate» ⟨[.bytes b t, .bytes tb u], []⟩) (fun _ R s => ∀ t' k, R (.ok (.ret (.bytes (trans tb b) t'))) { s with toks := k }) := by
  refine .of_wp fun prog w A R s h => ?_
  unfold Builtin.«bytes.translate» Bytes.translateM
  dsimp only [List.length_cons, List.length_nil, List.any_nil, List.head?_nil]
  simp only [KBd.like_eq, pure_bind]
  have e1 : (tb.size != 256) = false := by rw [hsz]; rfl
  rw [if_neg (by decide : ¬ (0 + 1 + 0 > 2)), if_neg Bool.false_ne_true, if_neg (show ¬ ((Value.bytes tb u == Value.none) = true) from Bool.false_ne_true), e1, if_neg Bool.false_ne_true]
  show wpAny _ _ (Bytes.payload (.bytes b t) >>= fun r => _) _ _ s
  refine wpAny_bind (wpAny_of_eq (a := b) rfl ?_)
  rw [filter_none]
  show wpAny _ _ (if ((trans tb b) == b) = true then _ else _) _ _ s
  by_cases e : (trans tb b == b) = true
  · rw [if_pos e]
    have e' : trans tb b = b := eq_of_beq e
    refine wpAny_bind (wpAny_rule ?_)
    refine wpAny_bind (wpAny_of_eq (a := .bytes b t) rfl (wpAny_pure ⟨_, rfl, ?_⟩))
    have := h t s.toks
    rw [e'] at this
    exact this
  · rw [if_neg e]
    have hz : (trans tb b).size ≤ sizeLine := by simpa [trans] using hb
    refine wpAny_bind ?_
    show wpAny _ _ (mkBytes (trans tb b)) _ _ s
    unfold mkBytes
    rw [if_neg (Nat.not_lt.mpr hz)]
    exact wpAny_bind (wpAny_fresh (wpAny_pure (wpAny_pure ⟨_, rfl, h s.toks (s.toks + 1)⟩)))
theorem translate_call {Q : Value → Shared → Prop} (hsz : tb.size = 256) (hb : b.size ≤ sizeLine) (h : ∀ t' k, Q (.bytes (trans tb b) t') { s with toks := k }) :
    wpAny (model prog w) A (call (.builtin "bytes.translate") [.bytes b t, .bytes tb u]) Q E s :=
  call_meets slot_bytes_translate (typeIs_bytes _ _ _) entry_bytes_translate (args_bytes_translate_2 _ _) (meets_translate hsz hb) h
theorem translate_method {pl : Sem Bool} {Q : Value × List Value → Shared → Prop} (h : Q (.builtin "bytes.translate", [.bytes b t]) s) : wpAny M A (getMethod (.bytes b t) "translate" pl) Q E s := by
  with_reducible exact KBd.method_of (.bytes b t) (typeIs_bytes _ _ _) slot_bytes_translate type_bytes_translate KBd.noRef h
end
/-- bytes.maketrans(b'+/', two octets) -/
def alt (x y : UInt8) : Array UInt8 := (((Array.range 256).map (·.toUInt8)).setIfInBounds 43 x).setIfInBounds 47 y
theorem alt_size (x y : UInt8) : (alt x y).size = 256 := by simp [alt]
theorem plain_maketrans : plainId "bytes.maketrans" = true := by decide +kernel
theorem entry_maketrans : entryFor table "bytes.maketrans" = some Builtin.«bytes.maketrans» := entryFor_of_tree (by kernel_rfl)
theorem check_maketrans {x y : UInt8} {t u : Tok} : checkBuiltinCall "bytes.maketrans" ⟨[.bytes #[43, 47] t, .bytes #[x, y] u], []⟩ = pure () := by kernel_rfl
theorem find_maketrans {K : Frag} : findCls K (.type "bytes") (.type "type") (Str.ofString "maketrans") = some (.val (.builtin "bytes.maketrans")) := by rfl
theorem maketrans_run {M : Model} {A : Around} {E : Value → Shared → Prop} {s : Shared} {x y : UInt8} {t u : Tok} {P : PySem.Fin → Shared → Prop} (h : ∀ t' k, P (.done (.ret (.bytes (alt x y) t'))) { s with toks := k }) :
    wpAny M A (Builtin.«bytes.maketrans» ⟨[.bytes #[43, 47] t, .bytes #[x, y] u], []⟩) P E s := by
  unfold Builtin.«bytes.maketrans» Bytes.maketransM
  dsimp only [List.length_cons, List.length_nil, List.headD_cons]
  refine wpAny_bind (wpAny_of_eq (a := ()) rfl ?_)
  refine wpAny_bind (wpAny_of_eq (a := ()) rfl ?_)
  refine wpAny_bind (wpAny_of_eq KBd.like_eq ?_)
  refine wpAny_bind (wpAny_of_eq KBd.like_eq ?_)
  rw [if_neg (show ¬ ((#[43, 47] : Array UInt8).size != (#[x, y] : Array UInt8).size) = true from Bool.false_ne_true)]
  refine wpAny_bind ?_
  show wpAny _ _ (mkBytes (alt x y)) _ _ s
  unfold mkBytes
  rw [if_neg (Nat.not_lt.mpr (by rw [alt_size, sizeLine_eq]; decide))]
  exact wpAny_bind (wpAny_fresh (wpAny_pure (wpAny_pure (h s.toks (s.toks + 1)))))
theorem maketrans_call {prog : Program} {w : World} {A : Around} {E : Value → Shared → Prop} {s : Shared} {x y : UInt8} {t u : Tok} {Q : Value → Shared → Prop} (h : ∀ t' k, Q (.bytes (alt x y) t') { s with toks := k }) :
    wpAny (model prog w) A (call (.builtin "bytes.maketrans") [.bytes #[43, 47] t, .bytes #[x, y] u]) Q E s := by
  refine wpAny_call (codeAny_call_builtin plain_maketrans entry_maketrans ?_)
  rw [check_maketrans]
  exact wpAny_pure (maketrans_run h)
theorem maketrans_method {prog : Program} {w : World} {A : Around} {E : Value → Shared → Prop} {s : Shared} {K : Frag} {pl : Sem Bool} {Q : Value × List Value → Shared → Prop} (X : K.In s.heap)
    (h : Q (.builtin "bytes.maketrans", []) { s with toks := s.toks + 1 }) :
    wpAny (model prog w) A (getMethod (.type "bytes") (Str.ofString "maketrans") pl) Q E s := by
  have hstub : opaqueClassAbove (.type "bytes") = pure none := by unfold opaqueClassAbove; dsimp only; rw [show Manifest.isStub "bytes" = false by decide +kernel]; rfl
  have ht : typeOf (.type "bytes") = pure (.type "type") := by first | rfl | kernel_rfl
  have L0 : Looks (model prog w) s.heap (typeOf (.type "bytes")) (.type "type") := Looks.of_pure ht
  have hg : findIn K (.type "type") "__getattribute__" = some (some (.builtin "type.__getattribute__")) := type_tga
  unfold getMethod specialOf
  refine wpAny_bind (wpAny_bind (L0.here ((looks_findIn X hg).here ?_)))
  dsimp only
  rw [if_pos canon_tga]
  refine wpAny_bind (wpAny_mono (Q := fun v => Q (v, [])) (E := E) ?_ (fun _ _ z => wpAny_pure z) fun _ _ z => z)
  have LO : Looks (model prog w) s.heap (opaqueClassAbove (.type "bytes")) none := Looks.of_pure hstub
  refine cls_open X LO L0 hg (looks_hook X (r := none) (by rfl)) (by show subIn K _ _ = _; rfl) find_maketrans ?_
  show wpAny _ _ (ret (.builtin "bytes.maketrans")) _ _ _
  refine wpAny_pure ?_
  exact wpAny_pure h
theorem road_ascii {id : String} {b : Array UInt8} : _codecs.decodeRoad id b (PySem.Str.ofString "ascii") none [] = (_codecs.runDecoder id _codecs.asciiDecoder none true b 0 [] >>= fun r => mkStr ⟨r.1⟩) := by kernel_rfl
theorem run_loop {b : Array UInt8} {σ : Type} (hb : b.size ≤ sizeLine) (F : Nat → (Nat × Array Nat × σ) → Sem (ForInStep (Nat × Array Nat × σ)))
    (hF : ∀ i p out st, p < b.size → out.size ≤ sizeLine → F i (p, out, st) = pure (.yield (p + 1, out ++ #[(b.getD p 0).toNat], st))) (st : σ) :
    ∀ n k, k + n = b.size → forIn (List.range' k n) (k, ((b.toList.take k).map (·.toNat)).toArray, st) F = pure (b.size, b.map (·.toNat), st) := by
  intro n
  induction n with
  | zero =>
    intro k hk
    obtain rfl : k = b.size := by omega
    have e : ((b.toList.take b.size).map (·.toNat)).toArray = b.map (·.toNat) := by
      apply Array.ext'
      rw [List.take_of_length_le (by simp)]
      simp
    rw [e]
    rfl
  | succ n ih =>
    intro k hk
    have hlt : k < b.size := by omega
    rw [List.range'_succ, List.forIn_cons, hF k k _ st hlt (by simp; omega)]
    rw [pure_bind]
    show forIn (List.range' (k + 1) n) _ F = _
    rw [← ih (k + 1) (by omega)]
    congr 2
    congr 1
    have e : b.toList.take (k + 1) = b.toList.take k ++ [b.getD k 0] := by
      rw [List.take_add_one]
      congr 1
      simp [hlt, Array.getD]
    rw [e]
    simp
theorem run_ascii {id : String} {b : Array UInt8} (h : ∀ c ∈ b.toList, c.toNat < 128) (hb : b.size ≤ sizeLine) : _codecs.runDecoder id _codecs.asciiDecoder none true b 0 [] = pure (b.map (·.toNat), b.size) := by
  unfold _codecs.runDecoder
  dsimp only
  simp only [Std.Legacy.Range.forIn_eq_forIn_range', Std.Legacy.Range.size]
  have hn : (b.size - 0 + 1 - 1) / 1 = b.size := by simp
  rw [hn]
  have := fun F hF => run_loop (σ := _codecs.Faults) hb F hF {} b.size 0 (by omega)
  simp only [List.take_zero, List.map_nil] at this
  rw [this]
  · rfl
  · intro i p out st hp hout
    dsimp only
    rw [if_neg (by omega), if_neg (by omega)]
    have hc : (b.getD p 0).toNat < 128 := by
      have e : b.getD p 0 = b[p] := by simp [Array.getD, hp]
      rw [e]
      exact h _ (by simp)
    have e : _codecs.asciiDecoder.find true b p = .text [(b.getD p 0).toNat] (p + 1) := by
      show (if (b.getD p 0).toNat < 128 then _ else _) = _
      rw [if_pos hc]; rfl
    rw [e]
theorem entry_decode2 {c : UInt8} {cs : List UInt8} {t u : Tok} : «bytes.decode» ⟨[.bytes (c :: cs).toArray t, .str (Str.ofString "ascii") u], []⟩ = (mkStr (PySem.Str.ofString "utf-8") >>= fun _ => mkStr (PySem.Str.ofString "ascii") >>= fun e => mkStr (PySem.Str.ofString "bytes.decode") >>= fun d =>
    call (.builtin "_codecs.decode.text") [.bytes (c :: cs).toArray t, e, .none, d] >>= fun v => ret v) := by kernel_rfl
theorem args_bytes_decode_2 (a b : Value) : argsOk "bytes.decode" ⟨[a, b], []⟩ := by
  unfold argsOk; rw [signature?_of (id := "bytes.decode") (n := ['e', 'd', 'o', 'c', 'e', 'd']) (o := ['s', 'e', 't', 'y', 'b']) (by kernel_rfl) FB.owner_bytes]; kernel_rfl
section
variable {b : Array UInt8} {c : UInt8} {cs : List UInt8} {t u : Tok}
theorem meets_textA {t1 t2 : Tok} {d : PySem.Str} (h : ∀ c ∈ b.toList, c.toNat < 128) (hb : b.size ≤ sizeLine) :
    Meets («_codecs.decode.text» ⟨[.bytes b t, .str (PySem.Str.ofString "ascii") t1, .none, .str d t2], []⟩) (fun _ R s => R (.ok (.ret (.str ⟨b.map (·.toNat)⟩ s.toks))) { s with toks := s.toks + 1 }) := by
  refine .of_wp fun prog w A R s hS => ?_
  show wpAny _ _ (Bytes.bytesLike _ (.bytes b t) >>= fun r => _) _ _ s
  refine wpAny_bind (wpAny_of_eq KBd.like_eq ?_)
  refine wpAny_bind (wpAny_of_eq KBd.held_eq ?_)
  show wpAny _ _ (_codecs.decodeRoad _ b (PySem.Str.ofString "ascii") none [] >>= fun v => _) _ _ s
  rw [road_ascii, run_ascii h hb]
  refine wpAny_bind (wpAny_bind (wpAny_pure ?_))
  exact wpAny_mkStr (wpAny_pure ⟨_, rfl, hS⟩) (by show (b.map (·.toNat)).size ≤ sizeLine; simpa using hb)
theorem meets_decodeA (h : ∀ x ∈ (c :: cs), x.toNat < 128) (hb : (c :: cs).length ≤ sizeLine) :
    Meets («bytes.decode» ⟨[.bytes (c :: cs).toArray t, .str (Str.ofString "ascii") u], []⟩) (fun _ R s => ∀ t' k, R (.ok (.ret (.str ⟨((c :: cs).map (·.toNat)).toArray⟩ t'))) { s with toks := k }) := by
  refine .of_wp fun prog w A R s hS => ?_
  rw [entry_decode2]
  refine wpAny_bind (wpAny_mkStr ?_ (by decide))
  refine wpAny_bind (wpAny_mkStr ?_ (by decide))
  refine wpAny_bind (wpAny_mkStr ?_ (by decide))
  refine wpAny_bind (call_function_meets KBd.kind_text KBd.plain_text KBd.entry_text (KBd.args_text _ _ _ _) (meets_textA h (by simpa using hb)) (wpAny_pure ⟨_, rfl, ?_⟩))
  rw [List.map_toArray]
  exact hS _ _
end
theorem decodeA {prog : Program} {w : World} {A : Around} {E : Value → Shared → Prop} {s : Shared} {ns : List Int} {t u : Tok} {Q : Value → Shared → Prop} (hne : ns ≠ []) (h : ∀ n ∈ ns, 0 ≤ n ∧ n < 128) (hb : ns.length ≤ sizeLine)
    (hQ : ∀ t' k, Q (.str ⟨(ns.map Int.toNat).toArray⟩ t') { s with toks := k }) :
    wpAny (model prog w) A (call (.builtin "bytes.decode") [.bytes (byteArr ns) t, .str (Str.ofString "ascii") u]) Q E s := by
  have e : byteArr ns = (ns.map fun n => n.toNat.toUInt8).toArray := rfl
  have e2 : ns.map Int.toNat = (ns.map fun n => n.toNat.toUInt8).map (·.toNat) := by
    rw [List.map_map]
    apply List.map_congr_left
    intro n hn
    have := h n hn
    show n.toNat = (n.toNat.toUInt8).toNat
    rw [show (n.toNat.toUInt8).toNat = n.toNat % 256 from rfl]
    omega
  have h2 : ∀ x ∈ (ns.map fun n => n.toNat.toUInt8), x.toNat < 128 := by
    intro x hx
    obtain ⟨n, hn, rfl⟩ := List.mem_map.mp hx
    have := h n hn
    rw [show (n.toNat.toUInt8).toNat = n.toNat % 256 from rfl]
    omega
  have hl : (ns.map fun n => n.toNat.toUInt8).length ≤ sizeLine := by simpa using hb
  rw [e2] at hQ
  rw [e]
  cases hl2 : (ns.map fun n => n.toNat.toUInt8) with
  | nil => exact absurd (List.map_eq_nil_iff.mp hl2) hne
  | cons c cs =>
    rw [hl2] at h2 hl hQ
    exact call_meets FB.slot_bytes_decode (typeIs_bytes _ _ _) FB.entry_bytes_decode (args_bytes_decode_2 _ _) (meets_decodeA h2 hl) hQ
end Mine
end
-- part B6441
theorem Mine.calm_B6441 : True := by
  w_top off
  exact trivial
section
open PySem PySem.W PyProof.Rows
namespace Mine
set_option maxRecDepth 100000
set_option maxHeartbeats 8000000
theorem b64_call {w : World} {mg mb : Str → Option Value} {mean : ExcName → Option Value} {loose : List Str} {A : Around} {s : Shared} {Q E : Value → Shared → Prop} {ns : List Int} {t u : Tok} {x y : UInt8} :
  A.handled = none → A.depth + 8 < recursionLimit → A.units + 60 < cLine → (hd.heap_39 w.params).In s.heap → Top hd.view_39 loose mean mg mb s.heap →
  KBa.In ns → ns.length < 100 → ns.length % 3 = 0 →
  (∀ t h' tk', (∀ b o, s.heap.get? b = some o → h'.get? b = some o) → Q (.bytes (trans (alt x y) (byteArr ((sx ns).map tabAt))) t) { s with heap := h', toks := tk' }) →
  wpAny (model Challenge.rw_pd0041_01.row.prog w) A (call (.ref 72) [.bytes (byteArr ns) t, .bytes #[x, y] u]) Q E s := by
  k_fill
  intro hh hd hu X T hns hlen hl3 hQ
  refine wpAny_call (enter_def [(Str.ofString "s", .bytes (byteArr ns) t), (Str.ofString "altchars", .bytes #[x, y] u)] X T.nolimit (by omega) rfl rfl (BindsTo.of_defaults rfl (X 65 _ rfl) rfl rfl rfl) rfl ?_)
  intro h₁ F N
  rw [map2] at F
  dsimp only
  k_steps
  refine b2a_call hh (by show A.depth + 1 + 5 < _; omega) (by show A.units + 3 + 40 < _; omega) (X.keeps F.keep) (T.keeps F.keep) hns hlen hl3 ?_
  intro t2 h2 tk2 k2
  replace F := F.keeps k2
  replace N := N.grown k2
  k_steps
  refine translate_method ?_
  k_steps
  rename Fr _ _ _ _ => F2
  refine maketrans_method (X.keeps F2.keep) ?_
  k_steps
  refine maketrans_call ?_
  intro t3 k3
  k_steps
  refine translate_call (alt_size _ _) ?_ ?_
  · show ((List.map tabAt (sx ns)).map _).toArray.size ≤ sizeLine
    rw [List.size_toArray, List.length_map, List.length_map, sizeLine_eq]; have := sx_length ns; omega
  intro t4 k4
  exact hQ t4 _ k4 F2.keep
end Mine
end
-- part Oct41
theorem Mine.calm_Oct41 : True := by
  w_top off
  exact trivial
section
open PySem PySem.W PyProof.Rows
namespace Mine
set_option maxRecDepth 100000
set_option maxHeartbeats 8000000
def octI : List Int → List Int
  | a :: b :: c :: d :: r => (((a*64+b)*64+c)*64+d).fdiv 65536 :: ((((a*64+b)*64+c)*64+d).fdiv 256).fmod 256 :: (((a*64+b)*64+c)*64+d).fmod 256 :: octI r
  | _ => []
theorem octI_step (ns : List Int) (i q : Nat) (hl : ns.length = 4 * q) (hi : i < q) (a b c d : Int) (ha : ns.getD (4*i) 0 = a) (hb : ns.getD (4*i+1) 0 = b) (hc : ns.getD (4*i+2) 0 = c) (hd : ns.getD (4*i+3) 0 = d) :
    octI (ns.take (4*(i+1))) = octI (ns.take (4*i)) ++ [(((a*64+b)*64+c)*64+d).fdiv 65536, ((((a*64+b)*64+c)*64+d).fdiv 256).fmod 256, (((a*64+b)*64+c)*64+d).fmod 256] := by
  induction i generalizing ns q with
  | zero =>
    match ns, hl with
    | n1 :: n2 :: n3 :: n4 :: r, _ =>
      simp at ha hb hc hd
      subst ha hb hc hd
      simp [octI]
    | [], hl => simp at hl; omega
    | [_], hl => simp at hl; omega
    | [_, _], hl => simp at hl; omega
    | [_, _, _], hl => simp at hl; omega
  | succ i ih =>
    match ns, hl with
    | n1 :: n2 :: n3 :: n4 :: r, hl =>
      have := ih r (q - 1) (by simp at hl; omega) (by omega) (by simpa [Nat.mul_add] using ha) (by simpa [Nat.mul_add] using hb) (by simpa [Nat.mul_add] using hc) (by simpa [Nat.mul_add] using hd)
      have e1 : 4 * (i + 1 + 1) = 4 * (i + 1) + 1 + 1 + 1 + 1 := by omega
      have e2 : 4 * (i + 1) = 4 * i + 1 + 1 + 1 + 1 := by omega
      rw [e1, List.take_succ_cons, List.take_succ_cons, List.take_succ_cons, List.take_succ_cons, octI, this]
      rw [e2, List.take_succ_cons, List.take_succ_cons, List.take_succ_cons, List.take_succ_cons, octI]
      rfl
    | [], hl => simp at hl; omega
    | [_], hl => simp at hl; omega
    | [_, _], hl => simp at hl; omega
    | [_, _, _], hl => simp at hl; omega
theorem octI_length : ∀ ns : List Int, (octI ns).length ≤ ns.length
  | a :: b :: c :: d :: r => by have := octI_length r; simp [octI]; omega
  | [] => by simp [octI]
  | [_] => by simp [octI]
  | [_, _] => by simp [octI]
  | [_, _, _] => by simp [octI]
theorem octI_in : ∀ ns : List Int, (∀ n ∈ ns, 0 ≤ n ∧ n < 64) → KBa.In (octI ns)
  | a :: b :: c :: d :: r, h => by
    have ih := octI_in r fun n hn => h n (by simp [hn])
    have h1 := h a (by simp); have h2 := h b (by simp); have h3 := h c (by simp); have h4 := h d (by simp)
    intro n hn
    simp only [octI, List.mem_cons] at hn
    rcases hn with rfl | rfl | rfl | hn
    · rw [Int.fdiv_eq_ediv_of_nonneg _ (by omega)]; omega
    · rw [Int.fdiv_eq_ediv_of_nonneg _ (by omega), Int.fmod_eq_emod_of_nonneg _ (by omega)]; omega
    · rw [Int.fmod_eq_emod_of_nonneg _ (by omega)]; omega
    · exact ih n hn
  | [], _ => by intro n hn; simp [octI] at hn
  | [_], _ => by intro n hn; simp [octI] at hn
  | [_, _], _ => by intro n hn; simp [octI] at hn
  | [_, _, _], _ => by intro n hn; simp [octI] at hn
theorem range4 : ∀ q, q < 16 → Builtin.Range.small 0 (((4 * q : Nat) : Int)) 4 = true ∧ Builtin.Range.rangeSize 0 (((4 * q : Nat) : Int)) 4 = (q : Int) := by decide +kernel
theorem octets_call {w : World} {mg mb : Str → Option Value} {mean : ExcName → Option Value} {loose : List Str} {A : Around} {s : Shared} {Q E : Value → Shared → Prop} {l : Addr} {vs : List Value} {ns : List Int} {q : Nat} :
  A.handled = none → A.depth + 3 < recursionLimit → A.units + 20 < cLine → (hd.heap_39 w.params).In s.heap → Top hd.view_39 loose mean mg mb s.heap →
  s.heap.IsList l vs.toArray → IntsAre vs ns → ns.length = 4 * q → q < 16 → (∀ n ∈ ns, 0 ≤ n ∧ n < 64) →
  (∀ t h' tk', (∀ b o, s.heap.get? b = some o → h'.get? b = some o) → Q (.bytes (byteArr (octI ns)) t) { s with heap := h', toks := tk' }) →
  wpAny (model Challenge.rw_pd0041_01.row.prog w) A (call (.ref 79) [.ref l]) Q E s := by
  k_fill
  intro hh hd hu X T hl hi hlen hq hb hQ
  refine wpAny_call ?_
  refine call_plain_ret (binds := [(Str.ofString "sixes", .ref l)]) (by omega) (X 79 _ rfl) rfl T.nolimit (codeRec_of X (by rfl)) rfl (locs rfl) ?_
  intro h₁ F
  rw [map1] at F
  have N : News s.heap s.heap.objs.size h₁ [] := News.nil
  k_steps
  rename_i l' _ _ hB F' N' hC tkC t₁ u₁ v₁ hr F₀ N₀ kp
  clear F' N'
  refine iter_range (n := q) (fun i m news => m (Str.ofString "octets") = some (.ref l') ∧ m (Str.ofString "sixes") = some (.ref l) ∧ ∃ vs' e, news = [(l', W.listOf vs'.toArray e)] ∧ IntsAre vs' (octI (ns.take (4*i)))) hh hr ?_ ?_ F₀ N₀ ?_ ?_ ?_
  · rw [hlen]; exact (range4 q hq).1
  · rw [hlen]; exact (range4 q hq).2
  · exact ⟨rfl, rfl, [], 0, rfl, .nil⟩
  · rintro i t m₁ news₁ h tk I oI hi' ⟨hm1, hm2, vs', e, rfl, hI⟩ hoff F₁ N₁
    clear F₀ N₀ hr kp
    have hI0 : @Ne Nat l' I := hoff _ (.head _)
    rw [expl2 hm1 hm2] at F₁
    dsimp only at F₁ ⊢
    k_steps
    refine iadd_K (by assumption) (by assumption) (by k_mem) (by k_upd) ?_ ?_
    · have h1 := hI.length
      have h2 := octI_length (List.take (4 * i) ns)
      have h3 := List.length_take_le (4 * i) ns
      simp only [List.length_cons, List.length_nil]
      omega
    intro h2 F2 N2
    k_steps
    rename_i F3 N3
    refine ⟨_, _, _, _, rfl, F3, (fun p hp => N3 p (List.mem_cons_of_mem _ hp)), (by k_all), rfl, rfl, _, _, rfl, ?_⟩
    rw [octI_step ns i q hlen hi' _ _ _ _ rfl rfl rfl rfl]
    have e0 : (0 + (i : Int) * 4).toNat = 4 * i := by omega
    have e1 : (0 + (i : Int) * 4 + 1).toNat = 4 * i + 1 := by omega
    have e2 : (0 + (i : Int) * 4 + 2).toNat = 4 * i + 2 := by omega
    have e3 : (0 + (i : Int) * 4 + 3).toNat = 4 * i + 3 := by omega
    refine hI.append ?_
    rw [e0, e1, e2, e3]
    exact .cons _ _ (.cons _ _ (.cons _ _ .nil))
  · rintro h tk m₁ news₁ ⟨hm1, hm2, vs', e, rfl, hI⟩ F₁ N₁
    clear F₀ N₀ hr kp
    rw [expl2 hm1 hm2] at F₁
    rw [List.take_of_length_le (by omega)] at hI
    have hIn := octI_in ns hb
    dsimp only
    k_steps
    refine KBa.make_K F₁ N₁ hh (News.isList N₁ (.head _)) hI hIn ?_ ?_
    · have := octI_length ns; omega
    · intro h' t' k F' N' _
      exact hQ t' h' k F'.keep
end Mine
end
-- part Cs41
theorem Mine.calm_Cs41 : True := by
  w_top off
  exact trivial
section
open PySem PySem.W PyProof.Rows PySem.Calls PyProof.Rows.LCg
set_option maxRecDepth 100000
namespace Mine
/-- how an element of a comprehension must be made -/
def EltEnd (h₀ : Heap) (L : Addr) (m : Str → Option Value) (s₂ : Shared) (led : List (Addr × Obj)) (R : Value → Prop) (v : Value) (s₃ : Shared) : Prop :=
  R v ∧ ∃ h' tk', s₃ = { s₂ with heap := h', toks := tk' } ∧ Fr h₀ L h' m ∧ News h₀ L h' led
section
variable {prog : Program} {w : World} {A : Around} {E : Value → Shared → Prop} {s₂ : Shared} {h₀ : Heap} {L : Addr} {m : Str → Option Value} {news : List (Addr × Obj)} {env : Env}
/-- the loop of [elt for x in ..], by the rules of the iterator -/
theorem seq_loop {iter elt : Expr} {x : Str} {px : Pos} {scope : Scope} {cl : List (Str × Addr)} {pos : Pos} {R : Result → Shared → Prop} {I : Addr} {fp : List Addr} {n : Nat} {P : Nat → Value → Prop} {St : Nat → Heap → Prop} {Rv : Nat → Value → Prop}
    (Wk : Walks prog w A I fp [I] n P St) (F : Fr h₀ L s₂.heap m) (N : News h₀ L s₂.heap news) (hst : St 0 s₂.heap) (hfp : ∀ b ∈ fp, b = I ∨ (∃ o, (b, o) ∈ news) ∨ ∃ o, h₀.get? b = some o) (hIf : I ∈ fp) (hSt : ∀ i h, St i h → ∃ o, h.get? I = some o)
    (hIL : I ≠ L) (hI0 : h₀.get? I = none) (off : ∀ p ∈ news, p.1 ≠ I) (hsz : n ≤ sizeLine)
    (hkind : scope.kind = .function) (hxx : scope.names.lookup x = some .local)
    (el : ∀ C D oC oI ys i v m₃ h tk (E' : Value → Shared → Prop), i < n → P i v → NsObj oC m₃ → m₃ x = some v → @Ne Nat C D → @Ne Nat C I → @Ne Nat D I → (∀ p ∈ news, p.1 ≠ C ∧ p.1 ≠ D ∧ p.1 ≠ I) → Fr h₀ L h m → News h₀ L h ((C, oC) :: (D, lst ys) :: (I, oI) :: news) →
      wpAny (model prog w) A (eval elt (compEnvC scope cl C env)) (EltEnd h₀ L m s₂ ((C, oC) :: (D, lst ys) :: (I, oI) :: news) (Rv i)) E' { s₂ with heap := h, toks := tk })
    {C D : Addr} {h : Heap} {tk : Nat} (hCD : @Ne Nat C D) (hCge : s₂.heap.objs.size ≤ C) (hDge : s₂.heap.objs.size ≤ D) (hC0 : h₀.get? C = none) (hD0 : h₀.get? D = none) (hCL : @Ne Nat C L) (hDL : @Ne Nat D L) (F₁ : Fr h₀ L h m) (N₁ : News h₀ L h ((D, lst []) :: news)) (hns : h.Ns C (fun _ => none))
    (hk : ∀ b o, s₂.heap.get? b = some o → h.get? b = some o) (off₂ : ∀ p ∈ news, p.1 ≠ C ∧ p.1 ≠ D)
    (fin : ∀ h tk ys m', Fr h₀ L h m → News h₀ L h ((D, lst ys) :: news) → h.Ns C m' → ys.length = n → (∀ i v, ys[i]? = some v → Rv i v) → R (.ok .next) { s₂ with heap := h, toks := tk }) :
    codeAny (model prog w) A (.compLoop (.ListComp elt [⟨.Name x px, iter, [], 0⟩] scope pos) 0 (.ref I) (.ref D) (compEnvC scope cl C env)) R { s₂ with heap := h, toks := tk } := by
  obtain ⟨oI₀, hoI₀⟩ := hSt _ _ hst
  have lt_I : I < s₂.heap.objs.size := Heap.lt_size hoI₀
  have hCI : C ≠ I := Nat.ne_of_gt (Nat.lt_of_lt_of_le lt_I hCge)
  have hDI : D ≠ I := Nat.ne_of_gt (Nat.lt_of_lt_of_le lt_I hDge)
  have hx' : (compEnvC scope cl C env).kindOf x = some .local := lookup_relabel_local hxx
  have hp : ((compEnvC scope cl C env).scope.kind == .class || ((compEnvC scope cl C env).scope.kind == .module && (compEnvC scope cl C env).locals != (compEnvC scope cl C env).globals)) = false := by simp [compEnvC, relabel, hkind]
  have nL : ∀ c o, h₀.get? c = some o → c ≠ C ∧ c ≠ D ∧ c ≠ I := fun c o q => ⟨(fun z => by rw [z, hC0] at q; cases q), (fun z => by rw [z, hD0] at q; cases q), (fun z => by rw [z, hI0] at q; cases q)⟩
  have fpC : ∀ b ∈ fp, b ≠ C ∧ b ≠ D := fun b hb => by
    rcases hfp b hb with rfl | ⟨o, ho⟩ | ⟨o, ho⟩
    · exact ⟨Ne.symm hCI, Ne.symm hDI⟩
    · exact off₂ _ ho
    · exact ⟨(nL b o ho).1, (nL b o ho).2.1⟩
  refine codeAny_compLoop_list (fun k s' => ∃ h tk i ys m₂, s' = { s₂ with heap := h, toks := tk } ∧ i ≤ n ∧ k = n + 1 - i ∧ Fr h₀ L h m ∧ News h₀ L h ((D, lst ys) :: news) ∧ h.Ns C m₂ ∧ St i h ∧ ys.length = i ∧ (∀ i v, ys[i]? = some v → Rv i v)) ?_ (n + 1)
    ⟨h, tk, 0, [], _, rfl, Nat.zero_le _, rfl, F₁, N₁, hns, Wk.frame 0 _ _ hst fun b _ o q => hk b o q, rfl, fun i v q => by simp at q⟩
  rintro k s' ⟨h, tk, i, ys, m₂, rfl, hi, rfl, F', N', hns', hst', hyl, hyR⟩
  by_cases hlt : i < n
  · refine Wk.item i _ _ _ hlt hst' fun v h₁ tk₁ hPv hst₁ hk₁ => ?_
    refine wpAny_assign_Name (wpAny_storeName_local hx' (hns'.at' fun o q => hk₁ _ o (by simpa using hCI) q) (fun h₃ hn₃ hs₃ => ?_) hp)
    have up : ∀ c o, c ≠ I → c ≠ C → h.get? c = some o → h₃.get? c = some o := fun c o h1 h2 q => hs₃.extBut c o h2 (hk₁ c o (by simpa using h1) q)
    obtain ⟨oC, heC, hoC⟩ := ns_obj hn₃
    have hst₃ : St (i + 1) h₃ := Wk.frame _ _ _ hst₁ fun b hb o q => hs₃.extBut b o (fpC b hb).1 q
    obtain ⟨oI, hoI⟩ := hSt _ _ hst₃
    have F₃ : Fr h₀ L h₃ m := ⟨F'.ns.at' fun o q => up _ o (Ne.symm hIL) (Ne.symm hCL) q, fun c o q => up c o (nL c o q).2.2 (nL c o q).1 (F'.keep c o q), F'.above⟩
    have N₃ : News h₀ L h₃ ((C, oC) :: (D, lst ys) :: (I, oI) :: news) := fun p hp' => by
      rcases List.mem_cons.mp hp' with rfl | hp'
      · exact ⟨heC, hCL, hC0⟩
      rcases List.mem_cons.mp hp' with rfl | hp'
      · have z := N' (D, lst ys) (.head _)
        exact ⟨up _ _ hDI (Ne.symm hCD) z.1, z.2⟩
      rcases List.mem_cons.mp hp' with rfl | hp'
      · exact ⟨hoI, hIL, hI0⟩
      · have z := N' p (.tail _ hp')
        exact ⟨up _ _ (off p hp') (off₂ p hp').1 z.1, z.2⟩
    refine wpAny_mono (el C D oC oI ys i v _ h₃ _ _ hlt hPv hoC (by simp) hCD hCI hDI (fun p hp => ⟨(off₂ p hp).1, (off₂ p hp).2, off p hp⟩) F₃ N₃) (fun v' s₄ h₄ => ?_) fun _ _ q => q
    obtain ⟨hR, h4, tk4, rfl, F₄, N₄⟩ := h₄
    have hd4 := (N₄ _ (.tail _ (.head _))).1
    refine append_at (hsz := by show ys.toArray.size ≤ sizeLine; rw [List.size_toArray]; omega) hd4 fun h₅ hs₅ hD₅ => ?_
    refine ⟨n + 1 - (i + 1), by omega, h₅, _, i + 1, ys ++ [v'], _, rfl, hlt, rfl, F₄.change hs₅ hDL hD0, fun p hp' => ?_, (hoC.ns (N₄ _ (.head _)).1).sameBut hs₅ hCD, ?_, by simp [hyl], ?_⟩
    · rcases List.mem_cons.mp hp' with rfl | hp'
      · exact ⟨hD₅.trans (congrArg some (lst_snoc _ _)), hDL, hD0⟩
      · have z := N₄ p (.tail _ (.tail _ (.tail _ hp')))
        exact ⟨hs₅.extBut _ _ (off₂ p hp').2 z.1, z.2⟩
    · refine Wk.frame (i + 1) h₃ h₅ hst₃ fun b hb o q => hs₅.extBut b o (fpC b hb).2 ?_
      rcases hfp b hb with rfl | ⟨o', ho'⟩ | ⟨o', ho'⟩
      · have z := (N₄ _ (.tail _ (.tail _ (.head _)))).1
        have e1 : o = oI := Option.some.inj (q.symm.trans hoI)
        rw [e1]; exact z
      · have z3 := (N₃ _ (.tail _ (.tail _ (.tail _ ho')))).1
        have e1 : o = o' := Option.some.inj (q.symm.trans z3)
        rw [e1]; exact (N₄ _ (.tail _ (.tail _ (.tail _ ho')))).1
      · have e1 : o = o' := Option.some.inj (q.symm.trans (F₃.keep _ _ ho'))
        rw [e1]; exact F₄.keep _ _ ho'
    · intro j u e
      rw [List.getElem?_append] at e
      split at e
      · exact hyR j u e
      · rename_i hj
        have : j = i := by
          have := (List.getElem?_eq_some_iff.mp e).1
          simp at this; omega
        subst this
        rw [hyl, Nat.sub_self] at e
        cases e; exact hR
  · have hin : i = n := Nat.le_antisymm hi (Nat.not_lt.mp hlt)
    subst hin
    refine Wk.done _ _ _ hst' fun h₂ tk₂ hk₂ => ?_
    have up₂ : ∀ c o, c ≠ I → h.get? c = some o → h₂.get? c = some o := fun c o h1 q => hk₂ c o (by simpa using h1) q
    refine fin h₂ tk₂ ys m₂ ⟨F'.ns.at' fun o q => up₂ _ o (Ne.symm hIL) q, fun c o q => up₂ c o (nL c o q).2.2 (F'.keep c o q), F'.above⟩ (fun p hp' => ?_) (hns'.at' fun o q => up₂ _ o hCI q) hyl hyR
    rcases List.mem_cons.mp hp' with rfl | hp'
    · have z := N' (D, lst ys) (.head _)
      exact ⟨up₂ _ _ hDI z.1, z.2⟩
    · have z := N' p (.tail _ hp')
      exact ⟨up₂ _ _ (off p hp') z.1, z.2⟩
/-- [elt for x in ..], by the rules of the iterator -/
theorem seq_src0 {iter elt : Expr} {x : Str} {px : Pos} {scope : Scope} {cl : List (Str × Addr)} {pos : Pos} {Q : Value → Shared → Prop} {I : Addr} {fp : List Addr} {n : Nat} {P : Nat → Value → Prop} {St : Nat → Heap → Prop} {Rv : Nat → Value → Prop}
    (Wk : Walks prog w A I fp [I] n P St) (F : Fr h₀ L s₂.heap m) (N : News h₀ L s₂.heap news) (hst : St 0 s₂.heap) (hfp : ∀ b ∈ fp, b = I ∨ (∃ o, (b, o) ∈ news) ∨ ∃ o, h₀.get? b = some o) (hIf : I ∈ fp) (hSt : ∀ i h, St i h → ∃ o, h.get? I = some o)
    (hIL : I ≠ L) (hI0 : h₀.get? I = none) (off : ∀ p ∈ news, p.1 ≠ I) (hsz : n ≤ sizeLine)
    (hkind : scope.kind = .function) (hxx : scope.names.lookup x = some .local)
    (el : ∀ C D oC oI ys i v m₃ h tk (E' : Value → Shared → Prop), i < n → P i v → NsObj oC m₃ → m₃ x = some v → @Ne Nat C D → @Ne Nat C I → @Ne Nat D I → (∀ p ∈ news, p.1 ≠ C ∧ p.1 ≠ D ∧ p.1 ≠ I) → Fr h₀ L h m → News h₀ L h ((C, oC) :: (D, lst ys) :: (I, oI) :: news) →
      wpAny (model prog w) A (eval elt (compEnvC scope cl C env)) (EltEnd h₀ L m s₂ ((C, oC) :: (D, lst ys) :: (I, oI) :: news) (Rv i)) E' { s₂ with heap := h, toks := tk })
    (fin : ∀ D h tk ys, Fr h₀ L h m → News h₀ L h ((D, lst ys) :: news) → (∀ p ∈ news, p.1 ≠ D) → s₂.heap.objs.size ≤ D → ys.length = n → (∀ i v, ys[i]? = some v → Rv i v) → Q (.ref D) { s₂ with heap := h, toks := tk }) :
    CompSrc prog w A h₀ L (.ListComp elt [⟨.Name x px, iter, [], 0⟩] scope pos) (fun C => compEnvC scope cl C env) Q (.ref I) s₂ := by
  refine ⟨I, news, m, rfl, F, N, fun s' Q' E' hk hq => Wk.self 0 s' Q' E' (Wk.frame 0 _ _ hst fun b _ o q => hk b o q) hq, ?_⟩
  intro C D h tk hCD hCge hDge hC0 hD0 hCL hDL F₁ N₁ hns hk off₂
  exact seq_loop Wk F N hst hfp hIf hSt hIL hI0 off hsz hkind hxx el hCD hCge hDge hC0 hD0 hCL hDL F₁ N₁ hns hk off₂ fun h' tk' ys m' F' N' hC' hyl hyR =>
    ⟨h', tk', m', ys, news, rfl, rfl, F', N', hC', fun p hp => (off₂ p hp).1, fun h'' F'' N'' => fin D h'' tk' ys F'' N'' (fun p hp => (off₂ p hp).2) hDge hyl hyR⟩
/-- how the loop of y = [..] must end, y a local -/
def CompDoneU (h₀ : Heap) (L C D : Addr) (y : Str) (m : Str → Option Value) (s₂ : Shared) (Q : Flow → Shared → Prop) (r : Result) (s' : Shared) : Prop :=
  ∃ h tk m' ys news', r = .ok .next ∧ s' = { s₂ with heap := h, toks := tk } ∧ Fr h₀ L h m ∧ News h₀ L h ((D, lst ys) :: news') ∧ h.Ns C m' ∧ (∀ p ∈ news', p.1 ≠ C) ∧
    ∀ h'' tk'', Fr h₀ L h'' (fun z => if z = y then some (.ref D) else m z) → News h₀ L h'' ((D, lst ys) :: news') → Q .next { s₂ with heap := h'', toks := tk'' }
def CompSrcU (prog : Program) (w : World) (A : Around) (h₀ : Heap) (L : Addr) (y : Str) (e : Expr) (env' : Addr → Env) (Q : Flow → Shared → Prop) (it : Value) (s₂ : Shared) : Prop :=
  ∃ I news m, it = .ref I ∧ Fr h₀ L s₂.heap m ∧ News h₀ L s₂.heap news ∧
    (∀ s' (Q' : Value → Shared → Prop) (E' : Value → Shared → Prop), (∀ b o, s₂.heap.get? b = some o → s'.heap.get? b = some o) → Q' (.ref I) s' → wpAny (model prog w) A (pyIter (.ref I)) Q' E' s') ∧
    ∀ C D h tk, @Ne Nat C D → s₂.heap.objs.size ≤ C → s₂.heap.objs.size ≤ D → h₀.get? C = none → h₀.get? D = none → @Ne Nat C L → @Ne Nat D L → Fr h₀ L h m → News h₀ L h ((D, lst []) :: news) → h.Ns C (fun _ => none) →
      (∀ b o, s₂.heap.get? b = some o → h.get? b = some o) → (∀ p ∈ news, p.1 ≠ C ∧ p.1 ≠ D) →
      codeAny (model prog w) A (.compLoop e 0 (.ref I) (.ref D) (env' C)) (CompDoneU h₀ L C D y m s₂ Q) { s₂ with heap := h, toks := tk }
theorem comp_enterU {s : Shared} {elt target iter : Expr} {ifs : List Expr} {rest : List Comprehension} {scope : Scope} {cl : List (Str × Addr)} {pos spos py : Pos} {y : Str} {Q : Flow → Shared → Prop} (hLe : env.locals = L)
    (hsw : swapsWith (.ListComp elt (⟨target, iter, ifs, 0⟩ :: rest) scope pos) (some (.Name y py)) spos.line env = pure true)
    (hclos : closureFor scope env = pure cl) (hcell : ∀ y ∈ scope.names, y.2 ≠ .cell) (hkind : scope.kind = .function) (hnames : ∀ x ∈ scope.names, x.2 = .local → scope.names.lookup x.1 = some .local)
    (hy : env.kindOf y = some .local) (hp : (env.scope.kind == .class || (env.scope.kind == .module && env.locals != env.globals)) = false)
    (h : wpAny (model prog w) A (eval iter env) (fun xv s₁ => wpAny (model prog w) A (pyIter xv) (CompSrcU prog w A h₀ L y (.ListComp elt (⟨target, iter, ifs, 0⟩ :: rest) scope pos) (fun C => compEnvC scope cl C env) Q) E s₁) E s)
    (hs : ∀ x, foldedSetIterable iter env x = pure x := by intro _; rfl) :
    wpAny (model prog w) A (exec (.Assign [.Name y py] (.ListComp elt (⟨target, iter, ifs, 0⟩ :: rest) scope pos) spos) env) Q E s := by
  subst hLe
  rw [exec_Assign_Name_used _ _ _ _ hsw]
  refine wpAny_bind (wpAny_standAt (wpAny_bind ?_))
  show wpAny _ A (do let _ ← comprehension (.ListComp elt (⟨target, iter, ifs, 0⟩ :: rest) scope pos) scope env _ (newList []) false (eval iter env) (some (assign (.Name y py) env))) _ _ s
  refine wpAny_bind (wpAny_mono (wpAny_comprehension_free (use := some (assign (.Name y py) env)) (Q := fun _ s' => Q .next s') rfl hs hclos hkind hnames
    (wpAny_mono h (fun xv s₁ h₁ => wpAny_mono h₁ (fun it s₂ h₂ => ?_) fun _ _ e => e) fun _ _ e => e)) (fun _ s' hq => wpAny_pure (wpAny_pure hq)) fun _ _ e => e)
  obtain ⟨I, news, m, rfl, F, N, self, go⟩ := h₂
  refine wpAny_newObj_type (wpAny_newFunctionEnv hcell (by intro y hy; simp at hy) (fun h₁ hns₁ hsb₁ => ?_) hkind)
  dsimp only at hns₁ hsb₁ ⊢
  generalize hH2 : s₂.heap.push { cls := .type "list", dict := none, data := .seq ([] : List Value).toArray } = H2 at hns₁ hsb₁ ⊢
  have hC : H2.objs.size = s₂.heap.objs.size + 1 := by rw [← hH2, Heap.size_push]
  have hDC : s₂.heap.objs.size ≠ H2.objs.size := by rw [hC]; exact Nat.ne_of_lt (Nat.lt_succ_self _)
  have below : ∀ b, b < s₂.heap.objs.size → b ≠ H2.objs.size ∧ b ≠ s₂.heap.objs.size := fun b hb => ⟨by rw [hC]; exact Nat.ne_of_lt (Nat.lt_succ_of_lt hb), Nat.ne_of_lt hb⟩
  have old : ∀ b o, s₂.heap.get? b = some o → h₁.get? b = some o := fun b o e => hsb₁.extBut b o (below b (Heap.lt_size e)).1 (Heap.get?_push_of_some _ (hH2 ▸ Heap.get?_push_of_some _ e))
  have hacc : h₁.get? s₂.heap.objs.size = some (lst []) := hsb₁.extBut _ _ hDC (Heap.get?_push_of_some _ (hH2 ▸ Heap.get?_push_size _ rfl))
  have fresh₀ : ∀ a, s₂.heap.objs.size ≤ a → h₀.get? a = none := fun a ha => by
    cases e : h₀.get? a with
    | none => rfl
    | some o' => exact absurd (Heap.lt_size (F.keep a o' e)) (Nat.not_lt.mpr ha)
  have hD₀ : h₀.get? s₂.heap.objs.size = none := fresh₀ _ (Nat.le_refl _)
  have hC₀ : h₀.get? H2.objs.size = none := fresh₀ _ (by rw [hC]; exact Nat.le_succ _)
  have hLlt : env.locals < s₂.heap.objs.size := F.ns.lt
  have hDL : s₂.heap.objs.size ≠ env.locals := Ne.symm (below _ hLlt).2
  have hCL : H2.objs.size ≠ env.locals := Ne.symm (below _ hLlt).1
  have loop : ∀ s₃ : Shared, s₃ = { s₂ with heap := h₁, toks := s₂.toks + ([] : List (Str × Value)).length } →
      codeAny (model prog w) A (.compLoop (.ListComp elt (⟨target, iter, ifs, 0⟩ :: rest) scope pos) 0 (.ref I) (.ref s₂.heap.objs.size) (compEnvC scope cl H2.objs.size env))
        (compPost (model prog w) A E (some (assign (.Name y py) env)) (fun _ s' => Q .next s') (.ref s₂.heap.objs.size) H2.objs.size) s₃ := by
    rintro s₃ rfl
    refine codeAny_mono (go H2.objs.size s₂.heap.objs.size h₁ _ (Ne.symm hDC) (by rw [hC]; exact Nat.le_succ _) (Nat.le_refl _) hC₀ hD₀ hCL hDL (F.keeps old) (fun p hp => ?_) hns₁ old fun p hp => below _ (Heap.lt_size (N p hp).1)) fun r s' hr => ?_
    · rcases List.mem_cons.mp hp with rfl | hp
      · exact ⟨hacc, hDL, hD₀⟩
      · exact ⟨old _ _ (N p hp).1, (N p hp).2⟩
    · obtain ⟨h', tk, m', ys, news', rfl, rfl, F', N', hC', off, k⟩ := hr
      show wpAny _ A (assign (.Name y py) env (.ref s₂.heap.objs.size)) _ _ _
      refine wpAny_assign_Name (wpAny_storeName_local hy F'.ns (fun h₂ hn₂ hs₂ => ?_) hp)
      have hL₀ : h₀.get? env.locals = none := Heap.get?_none_of_le F'.above
      have F₂ : Fr h₀ env.locals h₂ (fun z => if z = y then some (.ref s₂.heap.objs.size) else m z) := ⟨hn₂, fun b o e => hs₂.extBut b o (fun q => by rw [q, hL₀] at e; cases e) (F'.keep b o e), F'.above⟩
      refine ⟨m', hC'.sameBut hs₂ hCL, fun h'' hs'' => k h'' _ (F₂.change hs'' hCL hC₀) (fun p hp => ?_)⟩
      have z : h₂.get? p.1 = some p.2 := hs₂.extBut _ _ (N' p hp).2.1 (N' p hp).1
      refine ⟨hs''.extBut _ _ ?_ z, (N' p hp).2⟩
      rcases List.mem_cons.mp hp with rfl | hp
      · exact hDC
      · exact off p hp
  exact codeAny_compStart_list (loop _ rfl) (self _ _ _ old (loop _ rfl))
/-- y = [elt for x in ..], y a local -/
theorem seq_srcU {y : Str} {iter elt : Expr} {x : Str} {px : Pos} {scope : Scope} {cl : List (Str × Addr)} {pos : Pos} {Q : Flow → Shared → Prop} {I : Addr} {fp : List Addr} {n : Nat} {P : Nat → Value → Prop} {St : Nat → Heap → Prop} {Rv : Nat → Value → Prop}
    (Wk : Walks prog w A I fp [I] n P St) (F : Fr h₀ L s₂.heap m) (N : News h₀ L s₂.heap news) (hst : St 0 s₂.heap) (hfp : ∀ b ∈ fp, b = I ∨ (∃ o, (b, o) ∈ news) ∨ ∃ o, h₀.get? b = some o) (hIf : I ∈ fp) (hSt : ∀ i h, St i h → ∃ o, h.get? I = some o)
    (hIL : I ≠ L) (hI0 : h₀.get? I = none) (off : ∀ p ∈ news, p.1 ≠ I) (hsz : n ≤ sizeLine)
    (hkind : scope.kind = .function) (hxx : scope.names.lookup x = some .local)
    (el : ∀ C D oC oI ys i v m₃ h tk (E' : Value → Shared → Prop), i < n → P i v → NsObj oC m₃ → m₃ x = some v → @Ne Nat C D → @Ne Nat C I → @Ne Nat D I → (∀ p ∈ news, p.1 ≠ C ∧ p.1 ≠ D ∧ p.1 ≠ I) → Fr h₀ L h m → News h₀ L h ((C, oC) :: (D, lst ys) :: (I, oI) :: news) →
      wpAny (model prog w) A (eval elt (compEnvC scope cl C env)) (EltEnd h₀ L m s₂ ((C, oC) :: (D, lst ys) :: (I, oI) :: news) (Rv i)) E' { s₂ with heap := h, toks := tk })
    (fin : ∀ D h tk ys, Fr h₀ L h (fun z => if z = y then some (.ref D) else m z) → News h₀ L h ((D, lst ys) :: news) → (∀ p ∈ news, p.1 ≠ D) → s₂.heap.objs.size ≤ D → ys.length = n → (∀ i v, ys[i]? = some v → Rv i v) → Q .next { s₂ with heap := h, toks := tk }) :
    CompSrcU prog w A h₀ L y (.ListComp elt [⟨.Name x px, iter, [], 0⟩] scope pos) (fun C => compEnvC scope cl C env) Q (.ref I) s₂ := by
  refine ⟨I, news, m, rfl, F, N, fun s' Q' E' hk hq => Wk.self 0 s' Q' E' (Wk.frame 0 _ _ hst fun b _ o q => hk b o q) hq, ?_⟩
  intro C D h tk hCD hCge hDge hC0 hD0 hCL hDL F₁ N₁ hns hk off₂
  exact seq_loop Wk F N hst hfp hIf hSt hIL hI0 off hsz hkind hxx el hCD hCge hDge hC0 hD0 hCL hDL F₁ N₁ hns hk off₂ fun h' tk' ys m' F' N' hC' hyl hyR =>
    ⟨h', tk', m', ys, news, rfl, rfl, F', N', hC', fun p hp => (off₂ p hp).1, fun h'' tk'' F'' N'' => fin D h'' tk'' ys F'' N'' (fun p hp => (off₂ p hp).2) hDge hyl hyR⟩
end
end Mine
end
-- part Pl41
theorem Mine.calm_Pl41 : True := by
  w_top off
  exact trivial
section
open PySem PySem.W PyProof.Rows
namespace Mine
theorem sx_octI : ∀ (q : Nat) (xs : List Int), xs.length = 4 * q → (∀ n ∈ xs, 0 ≤ n ∧ n < 64) → sx (octI xs) = xs
  | 0, xs, hl, _ => by
    have : xs = [] := List.length_eq_zero_iff.mp (by omega)
    subst this; rfl
  | q + 1, a :: b :: c :: d :: r, hl, h => by
    have ha := h a (by simp)
    have hb := h b (by simp)
    have hc := h c (by simp)
    have hd := h d (by simp)
    have ih := sx_octI q r (by simp at hl; omega) fun n hn => h n (by simp [hn])
    simp only [octI, sx, ih]
    rw [Int.fdiv_eq_ediv_of_nonneg _ (by decide), Int.fdiv_eq_ediv_of_nonneg _ (by decide), Int.fmod_eq_emod_of_nonneg _ (by decide), Int.fmod_eq_emod_of_nonneg _ (by decide)]
    congr 1
    · omega
    congr 1
    · omega
    congr 1
    · omega
    congr 1
    omega
  | q + 1, [], hl, _ => by simp at hl
  | q + 1, [_], hl, _ => by simp at hl; omega
  | q + 1, [_, _], hl, _ => by simp at hl; omega
  | q + 1, [_, _, _], hl, _ => by simp at hl; omega
/-- the code of a six, written with the altchars x and y -/
def code (x y n : Int) : Int := if n = 62 then x else if n = 63 then y else tabAt n
theorem alt40 : ∀ k : Nat, k < 64 → (alt 40 41).getD ((tab.getD k 0).toNat.toUInt8).toNat ((tab.getD k 0).toNat.toUInt8) = (code 40 41 (k : Int)).toNat.toUInt8 := by decide +kernel
theorem alt34 : ∀ k : Nat, k < 64 → (alt 34 92).getD ((tab.getD k 0).toNat.toUInt8).toNat ((tab.getD k 0).toNat.toUInt8) = (code 34 92 (k : Int)).toNat.toUInt8 := by decide +kernel
theorem trans_map {x y : UInt8} {x' y' : Int} (h : ∀ k : Nat, k < 64 → (alt x y).getD ((tab.getD k 0).toNat.toUInt8).toNat ((tab.getD k 0).toNat.toUInt8) = (code x' y' (k : Int)).toNat.toUInt8)
    {rs : List Int} (hr : ∀ n ∈ rs, 0 ≤ n ∧ n < 64) : trans (alt x y) (byteArr (rs.map tabAt)) = byteArr (rs.map (code x' y')) := by
  unfold trans byteArr
  rw [List.map_toArray, List.map_map, List.map_map, List.map_map]
  congr 1
  apply List.map_congr_left
  intro n hn
  obtain ⟨h0, h1⟩ := hr n hn
  have := h n.toNat (by omega)
  rw [show ((n.toNat : Nat) : Int) = n by omega] at this
  exact this
theorem code40_in : ∀ k : Nat, k < 64 → 0 ≤ code 40 41 (k : Int) ∧ code 40 41 (k : Int) < 128 ∧ code 40 41 (k : Int) ≠ 34 ∧ code 40 41 (k : Int) ≠ 92 ∧ (code 40 41 (k : Int) = 40 ↔ k = 62) ∧ (code 40 41 (k : Int) = 41 ↔ k = 63) := by decide +kernel
theorem code34_in : ∀ k : Nat, k < 64 → 0 ≤ code 34 92 (k : Int) ∧ code 34 92 (k : Int) < 128 ∧ (code 34 92 (k : Int) = 34 ↔ k = 62) ∧ (code 34 92 (k : Int) = 92 ↔ k = 63) := by decide +kernel
end Mine
end
-- part Pc41
theorem Mine.calm_Pc41 : True := by
  w_top off
  exact trivial
section
open PySem PySem.W PyProof.Rows
namespace Mine
/-- the count along a walk -/
def ckS : List Int → Int → Bool
  | [], c => c == 0
  | d :: r, c => if c + d < 0 then false else ckS r (c + d)
theorem ckS_iff : ∀ (ds : List Int) (c : Int), 0 ≤ c → (ckS ds c = true ↔ (∀ j, j ≤ ds.length → 0 ≤ c + (ds.take j).sum) ∧ c + ds.sum = 0)
  | [], c, hc => by
    simp only [ckS, beq_iff_eq, List.length_nil, List.take_nil, List.sum_nil]
    constructor
    · intro h; exact ⟨fun j _ => by omega, by omega⟩
    · rintro ⟨_, h⟩; omega
  | d :: r, c, hc => by
    simp only [ckS]
    split
    · rename_i h
      constructor
      · intro q; cases q
      · rintro ⟨q, _⟩
        have := q 1 (by simp)
        simp at this
        omega
    · rename_i h
      rw [ckS_iff r (c + d) (by omega)]
      constructor
      · rintro ⟨h1, h2⟩
        refine ⟨fun j hj => ?_, by rw [List.sum_cons]; omega⟩
        cases j with
        | zero => simp; omega
        | succ j =>
          have := h1 j (by simpa using hj)
          rw [List.take_succ_cons, List.sum_cons]
          omega
      · rintro ⟨h1, h2⟩
        refine ⟨fun j hj => ?_, by rw [List.sum_cons] at h2; omega⟩
        have := h1 (j + 1) (by simpa using hj)
        rw [List.take_succ_cons, List.sum_cons] at this
        omega
theorem ring_sums (st : List Int) (k : Nat) (hk : k < st.length) :
    ((∀ j, j ≤ (st.drop k ++ st.take k).length → 0 ≤ 0 + ((st.drop k ++ st.take k).take j).sum) ∧ 0 + (st.drop k ++ st.take k).sum = 0) ↔ (st.sum = 0 ∧ ∀ i, i < st.length → (st.take k).sum ≤ (st.take i).sum) := by
  have hs : (st.take k).sum + (st.drop k).sum = st.sum := by rw [← List.sum_append, List.take_append_drop]
  have ha : ∀ j, (st.take (k + j)).sum = (st.take k).sum + ((st.drop k).take j).sum := fun j => by rw [List.take_add, List.sum_append]
  have hl : (st.drop k ++ st.take k).length = st.length := by rw [List.length_append, List.length_drop, List.length_take]; omega
  have hsum : (st.drop k ++ st.take k).sum = st.sum := by rw [List.sum_append]; omega
  rw [hl, hsum]
  constructor
  · rintro ⟨h1, h2⟩
    refine ⟨by omega, fun i hi => ?_⟩
    by_cases hik : k ≤ i
    · have q := h1 (i - k) (by omega)
      rw [List.take_append_of_le_length (by rw [List.length_drop]; omega)] at q
      have q2 := ha (i - k)
      rw [show k + (i - k) = i by omega] at q2
      omega
    · have q := h1 (st.length - k + i) (by omega)
      rw [List.take_append, List.take_of_length_le (by rw [List.length_drop]; omega), List.sum_append, List.length_drop, show st.length - k + i - (st.length - k) = i by omega, List.take_take, Nat.min_eq_left (by omega)] at q
      omega
  · rintro ⟨h1, h2⟩
    refine ⟨fun j hj => ?_, by omega⟩
    by_cases hjk : j < st.length - k
    · rw [List.take_append_of_le_length (by rw [List.length_drop]; omega)]
      have q := h2 (k + j) (by omega)
      have := ha j
      omega
    · rw [List.take_append, List.take_of_length_le (by rw [List.length_drop]; omega), List.sum_append, List.length_drop, List.take_take, Nat.min_eq_left (by omega)]
      have q := h2 (j - (st.length - k)) (by omega)
      omega
def stepOf (n : Int) : Int := if n = 62 then 1 else if n = 63 then -1 else 0
/-- a writing's codes -/
def codes (x y : Int) (rs : List Int) : List Nat := rs.map fun n => (code x y n).toNat
theorem code40 {n : Int} (h : 0 ≤ n ∧ n < 64) : 0 ≤ code 40 41 n ∧ code 40 41 n < 128 ∧ code 40 41 n ≠ 34 ∧ code 40 41 n ≠ 92 ∧ (code 40 41 n = 40 ↔ n = 62) ∧ (code 40 41 n = 41 ↔ n = 63) := by
  have := code40_in n.toNat (by omega)
  rw [show ((n.toNat : Nat) : Int) = n by omega] at this
  refine ⟨this.1, this.2.1, this.2.2.1, this.2.2.2.1, this.2.2.2.2.1.trans (by omega), this.2.2.2.2.2.trans (by omega)⟩
theorem code34 {n : Int} (h : 0 ≤ n ∧ n < 64) : 0 ≤ code 34 92 n ∧ code 34 92 n < 128 ∧ (code 34 92 n = 34 ↔ n = 62) ∧ (code 34 92 n = 92 ↔ n = 63) := by
  have := code34_in n.toNat (by omega)
  rw [show ((n.toNat : Nat) : Int) = n by omega] at this
  refine ⟨this.1, this.2.1, this.2.2.1.trans (by omega), this.2.2.2.trans (by omega)⟩
theorem ckL_codes : ∀ (rs : List Int) (i : Nat) (c : Int), (∀ n ∈ rs, 0 ≤ n ∧ n < 64) → 0 ≤ c → ckL (escs i false (codes 40 41 rs)) c = ckS (rs.map stepOf) c
  | [], i, c, _, _ => rfl
  | n :: r, i, c, h, hc => by
    obtain ⟨h1, h2, h3, h4, h5, h6⟩ := code40 (h n (List.mem_cons_self ..))
    have hr : ∀ n ∈ r, 0 ≤ n ∧ n < 64 := fun n hn => h n (List.mem_cons_of_mem _ hn)
    have e : escs i false (codes 40 41 (n :: r)) = (i, [(code 40 41 n).toNat]) :: escs (i + 1) false (codes 40 41 r) := by
      show escs i false ((code 40 41 n).toNat :: codes 40 41 r) = _
      simp only [escs]
      rw [if_neg (by omega)]
    rw [e]
    simp only [ckL, List.map_cons, ckS, List.cons.injEq, and_true]
    by_cases h62 : n = 62
    · have q := h5.mpr h62
      rw [if_pos (by omega), ckL_codes r (i + 1) (c + 1) hr (by omega), show stepOf n = 1 by simp [stepOf, h62], if_neg (by omega)]
    · by_cases h63 : n = 63
      · have q := h6.mpr h63
        have hst : stepOf n = -1 := by simp [stepOf, h63]
        rw [if_neg (by omega), if_pos (by omega), hst]
        split
        · rw [if_pos (by omega)]
        · rw [if_neg (by omega), ckL_codes r (i + 1) (c - 1) hr (by omega)]; rfl
      · have q1 : code 40 41 n ≠ 40 := fun z => h62 (h5.mp z)
        have q2 : code 40 41 n ≠ 41 := fun z => h63 (h6.mp z)
        rw [if_neg (by omega), if_neg (by omega), ckL_codes r (i + 1) c hr hc, show stepOf n = 0 by simp [stepOf, h62, h63], if_neg (by omega), Int.add_zero]
/-- what _check_parenthesis says of the ring cut at a place -/
theorem check_law {ns : List Int} {k : Nat} (hk : k < ns.length) (hr : ∀ n ∈ ns, 0 ≤ n ∧ n < 64) :
    (ckL (escs 0 false (codes 40 41 (ns.drop k ++ ns.take k))) 0 = true) ↔ ((ns.map stepOf).sum = 0 ∧ ∀ i, i < ns.length → ((ns.map stepOf).take k).sum ≤ ((ns.map stepOf).take i).sum) := by
  rw [ckL_codes _ _ _ (fun n hn => hr n (by rcases List.mem_append.mp hn with h | h; exact List.mem_of_mem_drop h; exact List.mem_of_mem_take h)) (by decide), ckS_iff _ _ (by decide), List.map_append, List.map_drop, List.map_take, ring_sums _ _ (by rw [List.length_map]; exact hk), List.length_map]
end Mine
end
-- part Pq41
theorem Mine.calm_Pq41 : True := by
  w_top off
  exact trivial
section
open PySem PySem.W PyProof.Rows
namespace Mine
/-- the sixes in pairs of a 63 and the six behind it, or alone -/
def un : List Int → List (List Int)
  | [] => []
  | n :: r => if n = 63 then (match r with | [] => [[63]] | s :: r' => [63, s] :: un r') else [n] :: un r
theorem un_ne {n : Int} (h : ¬ n = 63) (r : List Int) : un (n :: r) = [n] :: un r := by cases r <;> simp [un, h]
theorem un_63 (s : Int) (r : List Int) : un (63 :: s :: r) = [63, s] :: un r := by simp [un]
theorem un_fold : ∀ (k : Nat) (rs : List Int), rs.length ≤ k → ∀ us, (rs.foldl unStep (us, false)).1 = us ++ un rs
  | _, [], _, us => by simp [un]
  | 0, _ :: _, h, _ => by simp at h
  | k + 1, n :: r, h, us => by
    rw [List.foldl_cons]
    by_cases h63 : n = 63
    · subst h63
      cases r with
      | nil => simp [unStep, un]
      | cons s r' =>
        rw [List.foldl_cons]
        have e : unStep (unStep (us, false) 63) s = (us ++ [[63, s]], false) := by simp [unStep]
        rw [e, un_fold k r' (by simp at h; omega)]
        simp [un]
    · have e : unStep (us, false) n = (us ++ [[n]], false) := by simp [unStep, h63]
      rw [e, un_fold k r (by simp at h; omega), un_ne h63]
      simp
theorem unRun_un (rs : List Int) : (unRun rs).1 = un rs := by
  unfold unRun
  rw [un_fold rs.length rs (Nat.le_refl _)]; rfl
theorem un_flat : ∀ (k : Nat) (rs : List Int), rs.length ≤ k → (un rs).flatten = rs
  | _, [], _ => by simp [un]
  | 0, _ :: _, h => by simp at h
  | k + 1, n :: r, h => by
    by_cases h63 : n = 63
    · subst h63
      cases r with
      | nil => simp [un]
      | cons s r' =>
        have := un_flat k r' (by simp at h; omega)
        simp [un, this]
    · have := un_flat k r (by simp at h; omega)
      rw [un_ne h63]
      simp [this]
/-- what is left of the units; the second argument holds what stands from an odd mark on -/
def lo : List (List Int) → Option (List Int) → List Int
  | [], none => []
  | [], some p => p
  | u :: r, none => if u = [62] then lo r (some u) else u ++ lo r none
  | u :: r, some p => if u = [62] then lo r none else lo r (some (p ++ u))
/-- all the sixes lie within the six bits -/
def In6 (rs : List Int) : Prop := ∀ n ∈ rs, 0 ≤ n ∧ n < 64
theorem codes_append (x y : Int) (a b : List Int) : codes x y (a ++ b) = codes x y a ++ codes x y b := List.map_append ..
/-- the signs that the generator yields of the units, begun at a place -/
def its : Nat → List (List Int) → List (Nat × List Nat)
  | _, [] => []
  | i, u :: r => (i + u.length - 1, codes 34 92 u) :: its (i + u.length) r
theorem escs_un : ∀ (k : Nat) (rs : List Int), rs.length ≤ k → In6 rs → ∀ i, escs i false (codes 34 92 rs) = its i (un rs)
  | _, [], _, _, i => by simp [un, its, codes, escs]
  | 0, _ :: _, h, _, _ => by simp at h
  | k + 1, n :: r, h, hr, i => by
    obtain ⟨h1, h2, h3, h4⟩ := code34 (hr n (List.mem_cons_self ..))
    by_cases h63 : n = 63
    · subst h63
      have e92 : (code 34 92 63).toNat = 92 := by decide
      cases r with
      | nil =>
        show escs i false [(code 34 92 63).toNat] = _
        rw [e92]
        simp [escs, un, its, codes, e92]
      | cons s r' =>
        show escs i false ((code 34 92 63).toNat :: (code 34 92 s).toNat :: codes 34 92 r') = _
        rw [e92]
        have := escs_un k r' (by simp at h; omega) (fun n hn => hr n (by simp [hn])) (i + 2)
        simp [escs, un, its, codes, e92] at this ⊢
        exact this
    · have q : (code 34 92 n).toNat ≠ 92 := by
        have : code 34 92 n ≠ 92 := fun z => h63 (h4.mp z)
        omega
      show escs i false ((code 34 92 n).toNat :: codes 34 92 r) = _
      have := escs_un k r (by simp at h; omega) (fun n hn => hr n (by simp [hn])) (i + 1)
      rw [un_ne h63]
      simp [escs, its, codes, q] at this ⊢
      exact this
theorem codes_mark {u : List Int} (hu : In6 u) : codes 34 92 u = [34] ↔ u = [62] := by
  constructor
  · intro h
    match u, hu, h with
    | [n], hu, h =>
      have q := code34 (hu n (by simp))
      simp only [codes, List.map_cons, List.map_nil, List.cons.injEq, and_true] at h
      rw [q.2.2.1.mp (by omega)]
    | [], _, h => simp [codes] at h
    | _ :: _ :: _, _, h => simp [codes] at h
  · rintro rfl; decide
theorem codes_len (x y : Int) (u : List Int) : (codes x y u).length = u.length := List.length_map ..
/-- the end of the fold of _strip_quoted_realnames, from a unit's beginning on -/
theorem strip_fold (txt : List Nat) : ∀ (us : List (List Int)) (p : Nat) (st : Nat) (op : Option Nat) (pend : List Int) (rs : List (List Nat)), (∀ u ∈ us, In6 u ∧ u ≠ []) → txt.drop p = codes 34 92 us.flatten → p ≤ txt.length → st ≤ p →
    (∀ q, op = some q → st ≤ q ∧ q ≤ p ∧ codes 34 92 pend = (txt.drop q).take (p - q)) →
    ((its p us).foldl (stStep txt) (st, op, rs)).2.2.flatten ++ txt.drop ((its p us).foldl (stStep txt) (st, op, rs)).1 =
      rs.flatten ++ match op with
        | none => (txt.drop st).take (p - st) ++ codes 34 92 (lo us none)
        | some q => (txt.drop st).take (q - st) ++ codes 34 92 (lo us (some pend))
  | [], p, st, op, pend, rs, _, hd, hp, hst, hop => by
    have hpl : p = txt.length := by
      have := congrArg List.length hd
      rw [List.length_drop] at this
      simp [codes] at this; omega
    simp only [its, List.foldl_nil]
    cases op with
    | none =>
      simp only [lo]
      rw [List.take_of_length_le (by rw [List.length_drop]; omega)]
      simp [codes]
    | some q =>
      obtain ⟨h1, h2, h3⟩ := hop q rfl
      simp only [lo]
      rw [h3, List.take_of_length_le (l := txt.drop q) (by rw [List.length_drop]; omega)]
      congr 1
      rw [show txt.drop q = (txt.drop st).drop (q - st) by rw [List.drop_drop]; congr 1; omega, List.take_append_drop]
  | u :: r, p, st, op, pend, rs, hu, hd, hp, hst, hop => by
    obtain ⟨hu6, hune⟩ := hu u (List.mem_cons_self ..)
    have hr : ∀ v ∈ r, In6 v ∧ v ≠ [] := fun v hv => hu v (List.mem_cons_of_mem _ hv)
    have hul : 0 < u.length := List.length_pos_iff.mpr hune
    rw [List.flatten_cons, codes_append] at hd
    have hlen : p + u.length ≤ txt.length := by
      have := congrArg List.length hd
      rw [List.length_drop, List.length_append, codes_len] at this
      omega
    have hd' : txt.drop (p + u.length) = codes 34 92 r.flatten := by
      rw [← List.drop_drop, hd, List.drop_append, codes_len, Nat.sub_self, List.drop_of_length_le (by rw [codes_len]; exact Nat.le_refl _)]
      rfl
    have hu' : (txt.drop p).take u.length = codes 34 92 u := by rw [hd, List.take_append_of_le_length (by rw [codes_len]; exact Nat.le_refl _), List.take_of_length_le (by rw [codes_len]; exact Nat.le_refl _)]
    have ext : ∀ a, a ≤ p → (txt.drop a).take (p + u.length - a) = (txt.drop a).take (p - a) ++ codes 34 92 u := fun a ha => by
      rw [show p + u.length - a = (p - a) + u.length by omega, List.take_add, List.drop_drop, show a + (p - a) = p by omega, hu']
    simp only [its, List.foldl_cons]
    by_cases hm : u = [62]
    · have hc : codes 34 92 u = [34] := (codes_mark hu6).mpr hm
      have hl1 : u.length = 1 := by rw [hm]; rfl
      cases op with
      | none =>
        have e : stStep txt (st, none, rs) (p + u.length - 1, codes 34 92 u) = (st, some p, rs) := by
          unfold stStep; rw [if_pos hc, hl1]; rfl
        rw [e, strip_fold txt r (p + u.length) st (some p) u rs hr hd' hlen (by omega) (fun q hq => by
          cases hq
          exact ⟨hst, by omega, by rw [show p + u.length - p = u.length by omega, hu']⟩)]
        simp only [lo, if_pos hm]
      | some q =>
        obtain ⟨h1, h2, h3⟩ := hop q rfl
        have e : stStep txt (st, some q, rs) (p + u.length - 1, codes 34 92 u) = (p + 1, none, if st ≠ q then rs ++ [(txt.drop st).take (q - st)] else rs) := by
          unfold stStep; rw [if_pos hc, hl1]; rfl
        rw [e, strip_fold txt r (p + u.length) (p + 1) none [] _ hr hd' hlen (by omega) (fun q hq => by cases hq)]
        simp only [lo, if_pos hm]
        rw [hl1, Nat.sub_self, List.take_zero, List.nil_append]
        split
        · rw [List.flatten_append]; simp
        · rename_i hne
          have : st = q := by omega
          subst this
          simp
    · have hc : ¬ codes 34 92 u = [34] := fun z => hm ((codes_mark hu6).mp z)
      have e : stStep txt (st, op, rs) (p + u.length - 1, codes 34 92 u) = (st, op, rs) := by unfold stStep; rw [if_neg hc]
      cases op with
      | none =>
        rw [e, strip_fold txt r (p + u.length) st none [] rs hr hd' hlen (by omega) (fun q hq => by cases hq)]
        simp only [lo, if_neg hm]
        rw [ext st hst, codes_append, List.append_assoc]
      | some q =>
        obtain ⟨h1, h2, h3⟩ := hop q rfl
        rw [e, strip_fold txt r (p + u.length) st (some q) (pend ++ u) rs hr hd' hlen (by omega) (fun q' hq => by
          cases hq
          exact ⟨h1, by omega, by rw [codes_append, h3, ext q h2]⟩)]
        simp only [lo, if_neg hm]
theorem un_in : ∀ (k : Nat) (rs : List Int), rs.length ≤ k → In6 rs → ∀ u ∈ un rs, In6 u ∧ u ≠ []
  | _, [], _, _, u, hu => by simp [un] at hu
  | 0, _ :: _, h, _, _, _ => by simp at h
  | k + 1, n :: r, h, hr, u, hu => by
    by_cases h63 : n = 63
    · subst h63
      cases r with
      | nil =>
        simp [un] at hu
        subst hu
        exact ⟨fun n hn => hr n hn, by simp⟩
      | cons s r' =>
        rw [un_63] at hu
        rcases List.mem_cons.mp hu with rfl | hu
        · exact ⟨fun n hn => hr n (by simp at hn ⊢; rcases hn with h | h <;> simp [h]), by simp⟩
        · exact un_in k r' (by simp at h; omega) (fun n hn => hr n (by simp [hn])) u hu
    · rw [un_ne h63] at hu
      rcases List.mem_cons.mp hu with rfl | hu
      · exact ⟨fun n hn => hr n (by simp at hn ⊢; simp [hn]), by simp⟩
      · exact un_in k r (by simp at h; omega) (fun n hn => hr n (by simp [hn])) u hu
theorem lo_plain : ∀ us : List (List Int), (∀ u ∈ us, u ≠ [62]) → lo us none = us.flatten
  | [], _ => rfl
  | u :: r, h => by
    simp only [lo]
    rw [if_neg (h u (List.mem_cons_self ..)), lo_plain r fun v hv => h v (List.mem_cons_of_mem _ hv), List.flatten_cons]
/-- what _strip_quoted_realnames leaves of the second writing -/
theorem strip_law {rs : List Int} (hr : In6 rs) : strip (codes 34 92 rs) = codes 34 92 (lo (un rs) none) := by
  unfold strip
  have hfl := un_flat rs.length rs (Nat.le_refl _)
  split
  · have key := strip_fold (codes 34 92 rs) (un rs) 0 0 none [] [] (un_in rs.length rs (Nat.le_refl _) hr) (by rw [hfl]; rfl) (Nat.zero_le _) (Nat.le_refl _) (fun q hq => by cases hq)
    rw [escs_un rs.length rs (Nat.le_refl _) hr 0]
    unfold stRun
    simp only [List.flatten_nil, List.nil_append, Nat.sub_self, List.take_zero] at key
    rw [← key, List.flatten_append]
    congr 1
    split
    · simp
    · rw [List.drop_of_length_le (by omega)]; rfl
  · rename_i h34
    rw [lo_plain _ fun u hu e => ?_, hfl]
    subst e
    apply h34
    have h62 : (62 : Int) ∈ rs := by rw [← hfl]; exact List.mem_flatten.mpr ⟨_, hu, by simp⟩
    exact List.mem_map.mpr ⟨62, h62, by decide⟩
end Mine
end
-- part Ph41
theorem Mine.calm_Ph41 : True := by
  w_top off
  exact trivial
section
open PySem PySem.W PyProof.Rows
namespace Mine
theorem marks_append (xs ys : List (List Int)) : marksOf (xs ++ ys) = marksOf xs ++ (marksOf ys).map (· + xs.length) := by
  unfold marksOf
  rw [List.length_append, List.range_add, List.filter_append]
  congr 1
  · apply List.filter_congr
    intro i hi
    rw [List.getElem?_append_left (List.mem_range.mp hi)]
  · rw [List.filter_map]
    have : ((fun i => (xs ++ ys)[i]? == some [62]) ∘ fun x => xs.length + x) = fun i => ys[i]? == some [62] := by
      funext i
      show ((xs ++ ys)[xs.length + i]? == some [62]) = _
      rw [List.getElem?_append_right (by omega), show xs.length + i - xs.length = i by omega]
    rw [this]
    apply List.map_congr_left
    intro a _
    omega
theorem marks_none {xs : List (List Int)} (h : ∀ u ∈ xs, u ≠ [62]) : marksOf xs = [] := by
  unfold marksOf
  rw [List.filter_eq_nil_iff]
  intro i hi
  have hlt := List.mem_range.mp hi
  rw [List.getElem?_eq_getElem hlt]
  have := h xs[i] (List.getElem_mem hlt)
  simpa using this
theorem hidden_cons (a b : Nat) (mk : List Nat) : hiddenOf (a :: b :: mk) = ((List.range (b + 1 - a)).map fun j : Nat => (a : Int) + (j : Int)) ++ hiddenOf mk := by
  unfold hiddenOf
  rw [show (a :: b :: mk).length / 2 = mk.length / 2 + 1 by simp only [List.length_cons]; omega, List.range_succ_eq_map, List.flatMap_cons, List.flatMap_map]
  congr 1
theorem hidden_shift (c : Nat) (mk : List Nat) : hiddenOf (mk.map (· + c)) = (hiddenOf mk).map (· + (c : Int)) := by
  unfold hiddenOf
  rw [List.length_map, List.map_flatMap]
  rw [List.flatMap_def, List.flatMap_def]
  congr 1
  apply List.map_congr_left
  intro k hk
  have hk' := List.mem_range.mp hk
  have g : ∀ j, j < mk.length → (mk.map (· + c)).getD j 0 = mk.getD j 0 + c := fun j hj => by
    simp [List.getD_eq_getElem?_getD, hj]
  rw [g (2 * k) (by omega), g (2 * k + 1) (by omega), show mk.getD (2 * k + 1) 0 + c + 1 - (mk.getD (2 * k) 0 + c) = mk.getD (2 * k + 1) 0 + 1 - mk.getD (2 * k) 0 by omega, List.map_map]
  apply List.map_congr_left
  intro j _
  show ((mk.getD (2 * k) 0 + c : Nat) : Int) + (j : Int) = ((mk.getD (2 * k) 0 : Nat) : Int) + (j : Int) + (c : Int)
  omega
def keptOf (us : List (List Int)) (hid : List Int) : List Int := ((List.range us.length).filter fun i : Nat => !decide ((i : Int) ∈ hid)).flatMap fun i => us.getD i []
theorem flat_range : ∀ us : List (List Int), (List.range us.length).flatMap (fun i => us.getD i []) = us.flatten := by
  intro us
  rw [List.flatMap_def]
  congr 1
  apply List.ext_getElem?
  intro i
  by_cases h : i < us.length
  · rw [List.getElem?_map, List.getElem?_range h, List.getElem?_eq_getElem h]
    simp [List.getD_eq_getElem?_getD, h]
  · rw [List.getElem?_eq_none (by simp; omega), List.getElem?_eq_none (by omega)]
theorem kept_all (us : List (List Int)) : keptOf us [] = us.flatten := by
  unfold keptOf
  rw [List.filter_eq_self.mpr (by simp), flat_range]
theorem lo_pre : ∀ (pre us : List (List Int)), (∀ u ∈ pre, u ≠ [62]) → lo (pre ++ us) none = pre.flatten ++ lo us none
  | [], us, _ => rfl
  | u :: r, us, h => by
    show lo (u :: (r ++ us)) none = _
    simp only [lo]
    rw [if_neg (h u (List.mem_cons_self ..)), lo_pre r us fun v hv => h v (List.mem_cons_of_mem _ hv), List.flatten_cons, List.append_assoc]
theorem lo_mid : ∀ (mid us : List (List Int)) (p : List Int), (∀ u ∈ mid, u ≠ [62]) → lo (mid ++ us) (some p) = lo us (some (p ++ mid.flatten))
  | [], us, p, _ => by simp
  | u :: r, us, p, h => by
    show lo (u :: (r ++ us)) (some p) = _
    simp only [lo]
    rw [if_neg (h u (List.mem_cons_self ..)), lo_mid r us (p ++ u) fun v hv => h v (List.mem_cons_of_mem _ hv), List.flatten_cons, List.append_assoc]
theorem first_mark : ∀ us : List (List Int), (∀ u ∈ us, u ≠ [62]) ∨ ∃ pre rest, us = pre ++ [62] :: rest ∧ ∀ u ∈ pre, u ≠ [62]
  | [] => .inl (by simp)
  | u :: r => by
    by_cases h : u = [62]
    · exact .inr ⟨[], r, by rw [h]; rfl, by simp⟩
    · rcases first_mark r with q | ⟨pre, rest, e, q⟩
      · left
        intro v hv
        rcases List.mem_cons.mp hv with rfl | hv
        · exact h
        · exact q v hv
      · right
        refine ⟨u :: pre, rest, by rw [e]; rfl, ?_⟩
        intro v hv
        rcases List.mem_cons.mp hv with rfl | hv
        · exact h
        · exact q v hv
theorem marks_one : marksOf [[62]] = [0] := by decide
theorem hidden_one (a : Nat) : hiddenOf [a] = [] := by simp [hiddenOf]
theorem kept_split {pre rest : List (List Int)} {blk : List (List Int)} {hid : List Int} (hpos : ∀ x ∈ hid, 0 ≤ x) :
    keptOf (pre ++ blk ++ rest) (((List.range blk.length).map fun j : Nat => (pre.length : Int) + (j : Int)) ++ hid.map (· + ((pre.length + blk.length : Nat) : Int))) = pre.flatten ++ keptOf rest hid := by
  unfold keptOf
  rw [List.length_append, List.length_append, List.range_add, List.range_add, List.filter_append, List.filter_append, List.flatMap_append, List.flatMap_append]
  have mem : ∀ x : Int, x ∈ (((List.range blk.length).map fun j : Nat => (pre.length : Int) + (j : Int)) ++ hid.map (· + ((pre.length + blk.length : Nat) : Int))) ↔ (((pre.length : Int) ≤ x ∧ x < (pre.length : Int) + (blk.length : Int)) ∨ (x - ((pre.length + blk.length : Nat) : Int)) ∈ hid) := by
    intro x
    rw [List.mem_append, List.mem_map, List.mem_map]
    constructor
    · rintro (⟨j, hj, rfl⟩ | ⟨y, hy, rfl⟩)
      · have := List.mem_range.mp hj; left; omega
      · right; rw [show y + ((pre.length + blk.length : Nat) : Int) - ((pre.length + blk.length : Nat) : Int) = y by omega]; exact hy
    · rintro (h | h)
      · left; exact ⟨(x - pre.length).toNat, List.mem_range.mpr (by omega), by omega⟩
      · right; exact ⟨_, h, by omega⟩
  congr 1
  · have e1 : (List.range pre.length).filter (fun i : Nat => !decide ((i : Int) ∈ (((List.range blk.length).map fun j : Nat => (pre.length : Int) + (j : Int)) ++ hid.map (· + ((pre.length + blk.length : Nat) : Int))))) = List.range pre.length := by
      rw [List.filter_eq_self]
      intro i hi
      have hi' := List.mem_range.mp hi
      rw [Bool.not_eq_true', decide_eq_false_iff_not, mem]
      rintro (h | h)
      · omega
      · have := hpos _ h; omega
    have e2 : ((List.range blk.length).map (pre.length + ·)).filter (fun i : Nat => !decide ((i : Int) ∈ (((List.range blk.length).map fun j : Nat => (pre.length : Int) + (j : Int)) ++ hid.map (· + ((pre.length + blk.length : Nat) : Int))))) = [] := by
      rw [List.filter_eq_nil_iff]
      intro i hi
      obtain ⟨j, hj, rfl⟩ := List.mem_map.mp hi
      have hj' := List.mem_range.mp hj
      rw [Bool.not_eq_true, Bool.not_eq_false', decide_eq_true_eq, mem]
      left; omega
    rw [e1, e2, List.flatMap_nil, List.append_nil, ← flat_range pre, List.flatMap_def, List.flatMap_def]
    congr 1
    apply List.map_congr_left
    intro i hi
    have hi' := List.mem_range.mp hi
    rw [List.getD_eq_getElem?_getD, List.getD_eq_getElem?_getD, List.append_assoc, List.getElem?_append_left hi']
  · rw [List.filter_map, List.flatMap_map]
    have e3 : ((fun i : Nat => !decide ((i : Int) ∈ (((List.range blk.length).map fun j : Nat => (pre.length : Int) + (j : Int)) ++ hid.map (· + ((pre.length + blk.length : Nat) : Int))))) ∘ fun x => pre.length + blk.length + x) = fun i : Nat => !decide ((i : Int) ∈ hid) := by
      funext i
      show (!decide (((pre.length + blk.length + i : Nat) : Int) ∈ _)) = _
      congr 1
      rw [decide_eq_decide, mem]
      constructor
      · rintro (h | h)
        · omega
        · rw [show ((pre.length + blk.length + i : Nat) : Int) - ((pre.length + blk.length : Nat) : Int) = (i : Int) by omega] at h; exact h
      · intro h
        right
        rw [show ((pre.length + blk.length + i : Nat) : Int) - ((pre.length + blk.length : Nat) : Int) = (i : Int) by omega]; exact h
    rw [e3, List.flatMap_def, List.flatMap_def]
    congr 1
    apply List.map_congr_left
    intro i _
    rw [List.getD_eq_getElem?_getD, List.getD_eq_getElem?_getD, List.getElem?_append_right (by rw [List.length_append]; omega), List.length_append, show pre.length + blk.length + i - (pre.length + blk.length) = i by omega]
theorem hidden_pos (mk : List Nat) : ∀ x ∈ hiddenOf mk, 0 ≤ x := by
  intro x hx
  unfold hiddenOf at hx
  obtain ⟨k, _, hx⟩ := List.mem_flatMap.mp hx
  obtain ⟨j, _, rfl⟩ := List.mem_map.mp hx
  omega
theorem kept_lo : ∀ (k : Nat) (us : List (List Int)), us.length ≤ k → keptOf us (hiddenOf (marksOf us)) = lo us none := by
  intro k
  induction k with
  | zero =>
    intro us h
    have : us = [] := List.length_eq_zero_iff.mp (by omega)
    subst this; rfl
  | succ k ih =>
    intro us h
    rcases first_mark us with q | ⟨pre, t, rfl, q⟩
    · rw [marks_none q, show hiddenOf [] = [] from rfl, kept_all, lo_plain us q]
    · rcases first_mark t with q2 | ⟨mid, rest, rfl, q2⟩
      · have em : marksOf (pre ++ [62] :: t) = [pre.length] := by
          rw [show pre ++ [62] :: t = pre ++ ([[62]] ++ t) from rfl, marks_append, marks_append, marks_none q, marks_none q2, marks_one]; simp
        rw [em, hidden_one, kept_all, lo_pre _ _ q]
        simp only [lo, if_true]
        have := lo_mid t [] [62] q2
        rw [List.append_nil] at this
        rw [this]
        simp [lo]
      · have em : marksOf (pre ++ [62] :: (mid ++ [62] :: rest)) = pre.length :: (pre.length + 1 + mid.length) :: (marksOf rest).map (· + (pre.length + (mid.length + 2))) := by
          rw [show pre ++ [62] :: (mid ++ [62] :: rest) = pre ++ ([[62]] ++ (mid ++ ([[62]] ++ rest))) from rfl, marks_append, marks_append, marks_append, marks_append, marks_none q, marks_none q2, marks_one]
          simp only [List.nil_append, List.map_append, List.map_map, List.map_cons, List.map_nil, List.length_cons, List.length_nil, List.cons_append]
          congr 1
          · omega
          congr 1
          · omega
          apply List.map_congr_left
          intro a _
          show a + (0 + 1) + mid.length + (0 + 1) + pre.length = a + (pre.length + (mid.length + 2))
          omega
        rw [em, hidden_cons, hidden_shift]
        have ks := kept_split (pre := pre) (blk := [62] :: (mid ++ [[62]])) (rest := rest) (hid := hiddenOf (marksOf rest)) (hidden_pos _)
        have e1 : pre ++ [62] :: (mid ++ [62] :: rest) = pre ++ [62] :: (mid ++ [[62]]) ++ rest := by simp
        have e2 : ([62] :: (mid ++ [[62]]) : List (List Int)).length = mid.length + 2 := by simp
        rw [e2] at ks
        rw [show pre.length + 1 + mid.length + 1 - pre.length = mid.length + 2 by omega, e1, ks, ih rest (by simp at h; omega), ← e1, lo_pre _ _ q]
        simp only [lo, if_true]
        rw [lo_mid mid _ _ q2]
        simp only [lo, if_true]
theorem left_law (rs : List Int) : leftL rs = lo (un rs) none := by
  have := kept_lo (un rs).length (un rs) (Nat.le_refl _)
  rw [← this]
  unfold leftL keptOf
  rw [unRun_un]
end Mine
end
-- part Fr41
theorem Mine.calm_Fr41 : True := by
  w_top off
  exact trivial
section
open PySem PySem.W PyProof.Rows
set_option maxRecDepth 100000
namespace Mine
/-- how a turn of the law's for must end: generators may have been made -/
def TurnG (h₀ : Heap) (L : Addr) (J : (Str → Option Value) → Prop) (led : List (Addr × Obj)) (s : Shared) (Q : Flow → Shared → Prop) (f : Flow) (s₂ : Shared) : Prop :=
  match f with
  | .ret v => Q (.ret v) s₂
  | .brk => Q .next s₂
  | _ => ∃ m', Fr h₀ L s₂.heap m' ∧ News h₀ L s₂.heap led ∧ J m' ∧ Later s s₂
section
variable {prog : Program} {w : World} {A : Around} {s : Shared} {env : Env} {h₀ : Heap}
theorem for_range_g {x : Str} {px : Pos} {body : List Stmt} {R : Result → Shared → Prop} {n : Nat} {m₀ : Str → Option Value} {news : List (Addr × Obj)} {I : Addr} (J : (Str → Option Value) → Prop)
    (hh : A.handled = none) (hx : env.kindOf x = some .local) (hp : (env.scope.kind == .class || (env.scope.kind == .module && env.locals != env.globals)) = false)
    (F : Fr h₀ env.locals s.heap m₀) (N : News h₀ env.locals s.heap news) (hI : IsRangeIter s.heap I 0 n 1) (hI0 : h₀.get? I = none) (hIL : I ≠ env.locals) (off : ∀ p ∈ news, p.1 ≠ I) (hj : J m₀)
    (turn : ∀ k t m₁ oI s₁, k < n → J m₁ → Later s s₁ → Fr h₀ env.locals s₁.heap (fun y => if y = x then some (.int (k : Nat) t) else m₁ y) → News h₀ env.locals s₁.heap ((I, oI) :: news) →
      wpAny (model prog w) A (execs body env) (TurnG h₀ env.locals J ((I, oI) :: news) s (fun f s' => R (.ok f) s')) (fun _ _ => False) s₁)
    (done : ∀ m₁ s₁, J m₁ → Later s s₁ → Fr h₀ env.locals s₁.heap m₁ → News h₀ env.locals s₁.heap news → R (.ok .next) s₁) :
    codeAny (model prog w) A (.forLoop (.Name x px) (.ref I) body [] env) R s := by
  have Wk := Walks.range (prog := prog) (w := w) hh I 0 1 n
  refine codeAny_forLoop_any (fun q s' => ∃ k m₁, q = n + 1 - k ∧ k ≤ n ∧ IsRangeIter s'.heap I (0 + (k : Nat) * 1) ((n : Int) - (k : Nat)) 1 ∧ Fr h₀ env.locals s'.heap m₁ ∧ News h₀ env.locals s'.heap news ∧ J m₁ ∧ Later s s') ?_ (n + 1)
    ⟨0, m₀, rfl, Nat.zero_le _, by simpa using hI, F, N, hj, Later.refl s⟩
  rintro q s' ⟨k, m₁, rfl, hk, hI', F', N', hJ, hlat⟩
  by_cases hlt : k < n
  · refine Wk.item k _ _ _ hlt hI' fun v h₁ tk₁ hPv hst₁ hk₁ => ?_
    obtain ⟨t, rfl⟩ := hPv
    refine wpAny_of_eq (a := ()) rfl ?_
    refine wpAny_assign_Name (wpAny_storeName_local hx (F'.ns.at' fun o q => hk₁ _ o (by simpa using Ne.symm hIL) q) (fun h₃ hn₃ hs₃ => ?_) hp)
    have hL0 : h₀.get? env.locals = none := Heap.get?_none_of_le F'.above
    have up : ∀ c o, c ≠ I → c ≠ env.locals → s'.heap.get? c = some o → h₃.get? c = some o := fun c o h1 h2 q => hs₃.extBut c o h2 (hk₁ c o (by simpa using h1) q)
    have F₃ : Fr h₀ env.locals h₃ _ := ⟨hn₃, fun c o q => up c o (fun z => by rw [z, hI0] at q; cases q) (fun z => by rw [z, hL0] at q; cases q) (F'.keep c o q), F'.above⟩
    obtain ⟨oI, hoI, hI₃⟩ : ∃ oI : Obj, (∀ h : Heap, h.get? I = some oI → IsRangeIter h I (0 + ((k + 1 : Nat) : Nat) * 1) ((n : Int) - ((k + 1 : Nat) : Nat)) 1) ∧ h₃.get? I = some oI := ⟨_, fun _ q => q, hs₃.extBut _ _ hIL hst₁⟩
    have N₃ : News h₀ env.locals h₃ ((I, oI) :: news) := fun p hp' => by
      rcases List.mem_cons.mp hp' with rfl | hp'
      · exact ⟨hI₃, hIL, hI0⟩
      · have z := N' p hp'
        exact ⟨up _ _ (off p hp') z.2.1 z.1, z.2⟩
    rw [show (0 : Int) + (k : Nat) * 1 = (k : Int) by omega] at F₃
    refine wpAny_mono (turn k t m₁ _ _ hlt hJ (hlat.heap h₃ _) F₃ N₃) (fun f s₂ hf => ?_) fun _ _ (x : False) => x.elim
    have fin : (∃ m', Fr h₀ env.locals s₂.heap m' ∧ News h₀ env.locals s₂.heap ((I, oI) :: news) ∧ J m' ∧ Later s s₂) → ∃ q, q < n + 1 - k ∧ ∃ k' m₁, q = n + 1 - k' ∧ k' ≤ n ∧ IsRangeIter s₂.heap I (0 + (k' : Nat) * 1) ((n : Int) - (k' : Nat)) 1 ∧ Fr h₀ env.locals s₂.heap m₁ ∧ News h₀ env.locals s₂.heap news ∧ J m₁ ∧ Later s s₂ := by
      rintro ⟨m', F₄, N₄, hJ', hl'⟩
      exact ⟨n + 1 - (k + 1), by omega, k + 1, m', rfl, hlt, hoI _ (N₄ _ (.head _)).1, F₄, fun p hp => N₄ p (.tail _ hp), hJ', hl'⟩
    cases f with
    | ret v => exact hf
    | brk => exact hf
    | next => exact fin hf
    | cont => exact fin hf
  · have hin : k = n := Nat.le_antisymm hk (Nat.not_lt.mp hlt)
    subst hin
    refine Wk.done _ _ _ hI' fun h₂ tk₂ hk₂ => ?_
    have up₂ : ∀ c o, c ≠ I → s'.heap.get? c = some o → h₂.get? c = some o := fun c o h1 q => hk₂ c o (by simpa using h1) q
    refine wpAny_execs_nil (done m₁ _ hJ (hlat.heap _ _) ⟨F'.ns.at' fun o q => up₂ _ o (Ne.symm hIL) q, fun c o q => up₂ c o (fun z => by rw [z, hI0] at q; cases q) (F'.keep c o q), F'.above⟩ fun p hp' => ?_)
    have z := N' p hp'
    exact ⟨up₂ _ _ (off p hp') z.1, z.2⟩
end
end Mine
end
-- part Px41
theorem Mine.calm_Px41 : True := by
  w_top off
  exact trivial
section
open PySem PySem.W PyProof.Rows PySem.Calls PyProof.Rows.LCg
namespace Mine
set_option maxRecDepth 100000
set_option maxHeartbeats 8000000
theorem octI_len3 : ∀ (q : Nat) (xs : List Int), xs.length = 4 * q → (octI xs).length = 3 * q
  | 0, xs, hl => by
    have : xs = [] := List.length_eq_zero_iff.mp (by omega)
    subst this; rfl
  | q + 1, a :: b :: c :: d :: r, hl => by
    have ih := octI_len3 q r (by simp at hl; omega)
    simp only [octI, List.length_cons, ih]
    omega
  | q + 1, [], hl => by simp at hl
  | q + 1, [_], hl => by simp at hl; omega
  | q + 1, [_, _], hl => by simp at hl; omega
  | q + 1, [_, _, _], hl => by simp at hl; omega
theorem codes_lt40 {rs : List Int} (h : In6 rs) : ∀ c ∈ codes 40 41 rs, c < 128 := fun c hc => by
  obtain ⟨n, hn, rfl⟩ := List.mem_map.mp hc
  have := code40 (h n hn)
  have := this.2.1
  omega
theorem codes_lt34 {rs : List Int} (h : In6 rs) : ∀ c ∈ codes 34 92 rs, c < 128 := fun c hc => by
  obtain ⟨n, hn, rfl⟩ := List.mem_map.mp hc
  have := code34 (h n hn)
  have := this.2.1
  omega
theorem codes_no34 {rs : List Int} (h : In6 rs) : ¬ 34 ∈ codes 40 41 rs := fun hc => by
  obtain ⟨n, hn, he⟩ := List.mem_map.mp hc
  have := (code40 (h n hn)).2.2.1
  have := (code40 (h n hn)).1
  omega
theorem all_lt {a : Array Nat} (h : ∀ c ∈ a.toList, c < 128) : a.all (· < 128) = true := by
  rw [← Array.all_toList, List.all_eq_true]
  intro c hc
  exact decide_eq_true (h c hc)
def TestF (h₀ : Heap) (L : Addr) (led : List (Addr × Obj)) (m : Str → Option Value) (s : Shared) (b : Bool) (s₂ : Shared) : Prop := b = false ∧ ∃ h' tk', s₂ = { s with heap := h', toks := tk' } ∧ Fr h₀ L h' m ∧ News h₀ L h' led
theorem if_not {prog : Program} {w : World} {A : Around} {s : Shared} {env : Env} {Q : Flow → Shared → Prop} {E : Value → Shared → Prop} {test : Expr} {body rest : List Stmt} {pos : Pos} {h₀ : Heap} {L : Addr} {led : List (Addr × Obj)} {m : Str → Option Value}
    (_ : Fr h₀ L s.heap m) (_ : News h₀ L s.heap led) (h : wpAny (model prog w) A (isTrue test env (eval test env)) (TestF h₀ L led m s) E s)
    (k : ∀ h' tk', Fr h₀ L h' m → News h₀ L h' led → wpAny (model prog w) A (execs rest env) Q E { s with heap := h', toks := tk' }) : wpAny (model prog w) A (execs (.If test body [] pos :: rest) env) Q E s := by
  refine wpAny_execs_cons (wpAny_If (wpAny_mono h (fun b s₂ hb => ?_) fun _ _ x => x))
  obtain ⟨rfl, h', tk', rfl, F, N⟩ := hb
  exact wpAny_execs_nil (k h' tk' F N)
theorem test_sum {bb : Bool} {ns ss : List Int} {P : Prop} (hck : bb = true ↔ (ns.map stepOf).sum = 0 ∧ P) (hss : ss = ns.map stepOf) (h : ss.sum ≠ 0) : (bb != (ss.sum == 0)) = false := by
  have hb : bb = false := by
    cases bb
    · rfl
    · exact absurd (hck.mp rfl).1 (by rw [← hss]; exact h)
  rw [hb, beq_false_of_ne h]
  rfl
theorem test_min {bb : Bool} {ns ss hs : List Int} {k q : Nat} {M : Int} (hck : bb = true ↔ (ns.map stepOf).sum = 0 ∧ ∀ i, i < ns.length → ((ns.map stepOf).take k).sum ≤ ((ns.map stepOf).take i).sum)
    (hhs : hs = (List.range (4 * q)).map (fun i => ((ns.map stepOf).take i).sum)) (hss : ss = ns.map stepOf) (hk : k < 4 * q) (hlen : ns.length = 4 * q) (h : ss.sum = 0) (hM : M ∈ hs) (hle : ∀ a ∈ hs, M ≤ a) : (bb != (hs.getD ((k : Int)).toNat 0 == M)) = false := by
  have hg : hs.getD ((k : Int)).toNat 0 = ((ns.map stepOf).take k).sum := by
    rw [Int.toNat_natCast, hhs, List.getD_eq_getElem?_getD, List.getElem?_map, List.getElem?_range hk]; rfl
  have hmem : ∀ i, i < 4 * q → ((ns.map stepOf).take i).sum ∈ hs := fun i hi => by rw [hhs]; exact List.mem_map.mpr ⟨i, List.mem_range.mpr hi, rfl⟩
  rw [hg]
  have key : bb = (((ns.map stepOf).take k).sum == M) := by
    rw [Bool.eq_iff_iff, hck, beq_iff_eq]
    constructor
    · rintro ⟨_, h2⟩
      have h3 := hle _ (hmem k hk)
      rw [hhs] at hM
      obtain ⟨i, hi, rfl⟩ := List.mem_map.mp hM
      have := h2 i (by rw [hlen]; exact List.mem_range.mp hi)
      omega
    · intro he
      refine ⟨by rw [← hss]; exact h, fun i hi => ?_⟩
      rw [he]
      exact hle _ (hmem i (by omega))
  rw [key]
  simp
end Mine
end
-- part Ro41
theorem Mine.calm_Ro41 : True := by
  w_top off
  exact trivial
section
open PySem PySem.W PyProof.Rows PySem.Calls PyProof.Rows.LCg
namespace Mine
set_option maxRecDepth 100000
set_option maxHeartbeats 8000000
/-- how the writing of the ring from a place on must end -/
def RotEnd (h₀ : Heap) (L : Addr) (m : Str → Option Value) (led : List (Addr × Obj)) (s : Shared) (rs : List Int) (v : Value) (s₃ : Shared) : Prop :=
  ∃ D ws h' tk', v = .ref D ∧ s₃ = { s with heap := h', toks := tk' } ∧ Fr h₀ L h' m ∧ News h₀ L h' ((D, W.listOf ws.toArray 0) :: led) ∧ IntsAre ws rs
theorem rot_eval {w : World} {mg mb : Str → Option Value} {mean : ExcName → Option Value} {loose : List Str} {s : Shared} {h₀ : Heap} {S D D2 L fa cd I : Addr} {vs ys ys2 : List Value} {ns : List Int} {q k : Nat} {e : Nat} {m : Str → Option Value} {o1 o2 oI : Obj} {tp : Tok} {p1 p2 p3 p4 p5 p6 p7 p8 p9 : Pos} {E : Value → Shared → Prop}
    {name qual : Str} {params : Arguments} {body : List Stmt} {scope : Scope} {dV kV doc pm cdv ct oc : Value} {an od : Option Addr} {osl : Array (Option Value)} :
  (hd.heap_39 w.params).lookup 89 = some ⟨oc, od, .func (fnOf name qual params body scope dV kV doc pm an cdv ct), osl⟩ →
  (hd.heap_39 w.params).In h₀ → Top hd.view_39 loose mean mg mb h₀ → IntsAre vs ns → ns.length = 4 * q → q < 16 → k < 4 * q →
  m (Str.ofString "place") = some (.int (k : Int) tp) → m (Str.ofString "sixes") = some (.ref S) →
  Fr h₀ L s.heap m → News h₀ L s.heap [(I, oI), (D2, lst ys2), (D, lst ys), (S, W.listOf vs.toArray e), (L + 1 + 1, o2), (L + 1, o1)] →
  wpAny (model Challenge.rw_pd0041_01.row.prog w) (callerA.deeper (envOfC (Str.ofString "law") scope L fa (.ref cd)))
    (eval (.BinOp (.Subscript (.Name (Str.ofString "sixes") p1) (.Slice (some (.Name (Str.ofString "place") p2)) none none p3) p4) .Add (.Subscript (.Name (Str.ofString "sixes") p5) (.Slice none (some (.Name (Str.ofString "place") p6)) none p7) p8) p9) (envOfC (Str.ofString "law") scope L fa (.ref cd)))
    (RotEnd h₀ L m [(I, oI), (D2, lst ys2), (D, lst ys), (S, W.listOf vs.toArray e), (L + 1 + 1, o2), (L + 1, o1)] s (ns.drop k ++ ns.take k)) E s := by
  k_fill
  intro ho
  cases ho
  intro X T hi hlen hq hk hm1 hm2 F N
  rw [expl2' hm1 hm2] at F
  k_steps
  rename_i D' ws' h' F' N' hI' l1
  rw [Int.toNat_natCast] at hI'
  refine ⟨_, _, _, _, rfl, rfl, by rw [expl2' hm1 hm2]; exact F', fun p hp => ?_, hI'⟩
  rcases List.mem_cons.mp hp with rfl | hp
  · exact N' _ (.head _)
  · exact N' p (.tail _ (.tail _ (.tail _ hp)))
end Mine
end
-- part Py41
theorem Mine.calm_Py41 : True := by
  w_top off
  exact trivial
section
open PySem PySem.W PyProof.Rows
namespace Mine
theorem lo_mem : ∀ (us : List (List Int)) (p : Option (List Int)) (n : Int), n ∈ lo us p → n ∈ us.flatten ∨ ∃ p', p = some p' ∧ n ∈ p'
  | [], none, n, h => by simp [lo] at h
  | [], some p, n, h => .inr ⟨p, rfl, by simpa [lo] using h⟩
  | u :: us, none, n, h => by
    simp only [lo] at h
    split at h
    · rcases lo_mem us _ n h with h | ⟨p', hp, hn⟩
      · exact .inl (by simp only [List.flatten_cons, List.mem_append]; exact .inr h)
      · cases hp
        exact .inl (by simp only [List.flatten_cons, List.mem_append]; exact .inl hn)
    · rcases List.mem_append.mp h with h | h
      · exact .inl (by simp only [List.flatten_cons, List.mem_append]; exact .inl h)
      · rcases lo_mem us _ n h with h | ⟨p', hp, hn⟩
        · exact .inl (by simp only [List.flatten_cons, List.mem_append]; exact .inr h)
        · cases hp
  | u :: us, some p, n, h => by
    simp only [lo] at h
    split at h
    · rcases lo_mem us _ n h with h | ⟨p', hp, hn⟩
      · exact .inl (by simp only [List.flatten_cons, List.mem_append]; exact .inr h)
      · cases hp
    · rcases lo_mem us _ n h with h | ⟨p', hp, hn⟩
      · exact .inl (by simp only [List.flatten_cons, List.mem_append]; exact .inr h)
      · cases hp
        rcases List.mem_append.mp hn with hn | hn
        · exact .inr ⟨p, rfl, hn⟩
        · exact .inl (by simp only [List.flatten_cons, List.mem_append]; exact .inl hn)
theorem lo_len : ∀ (us : List (List Int)) (p : Option (List Int)), (lo us p).length ≤ us.flatten.length + (p.getD []).length
  | [], none => by simp [lo]
  | [], some p => by simp [lo]
  | u :: us, none => by
    simp only [lo, List.flatten_cons, List.length_append]
    split
    · have := lo_len us (some u)
      simp only [Option.getD_some] at this
      omega
    · have := lo_len us none
      simp only [Option.getD_none, List.length_nil] at this
      rw [List.length_append]
      omega
  | u :: us, some p => by
    simp only [lo, List.flatten_cons, List.length_append, Option.getD_some]
    split
    · have := lo_len us none
      simp only [Option.getD_none, List.length_nil] at this
      omega
    · have := lo_len us (some (p ++ u))
      simp only [Option.getD_some, List.length_append] at this
      omega
theorem left_in {rs : List Int} (h : In6 rs) : In6 (leftL rs) := fun n hn => by
  rw [left_law] at hn
  rcases lo_mem _ _ _ hn with hn | ⟨p', hp, _⟩
  · rw [un_flat rs.length rs (Nat.le_refl _)] at hn
    exact h n hn
  · cases hp
theorem left_len (rs : List Int) : (leftL rs).length ≤ rs.length := by
  rw [left_law]
  have := lo_len (un rs) none
  rw [un_flat rs.length rs (Nat.le_refl _)] at this
  simpa using this
end Mine
end
-- part Tb41
theorem Mine.calm_Tb41 : True := by
  w_top off
  exact trivial
section
open PySem PySem.W PyProof.Rows PySem.Calls PyProof.Rows.LCg
namespace Mine
set_option maxRecDepth 100000
set_option maxHeartbeats 8000000
theorem frame_at {h₀ h : Heap} {L : Addr} {m : Str → Option Value} (F : Fr h₀ L h m) : ∃ o, h.get? L = some o := by
  obtain ⟨o, es, ep, ho, _⟩ := F.ns
  exact ⟨o, ho⟩
theorem alpha_in : ∀ k : Nat, k < 64 → (seqIndex? (k : Int) (Str.ofString "ABCDEFGHIJKLMNOPQRSTUVWXYZabcdefghijklmnopqrstuvwxyz0123456789\"\\").length).bind ((Str.ofString "ABCDEFGHIJKLMNOPQRSTUVWXYZabcdefghijklmnopqrstuvwxyz0123456789\"\\").cps[·]?) = some (code 34 92 (k : Int)).toNat := by decide +kernel
theorem alpha_at {n : Int} (h : 0 ≤ n ∧ n < 64) : (seqIndex? n (Str.ofString "ABCDEFGHIJKLMNOPQRSTUVWXYZabcdefghijklmnopqrstuvwxyz0123456789\"\\").length).bind ((Str.ofString "ABCDEFGHIJKLMNOPQRSTUVWXYZabcdefghijklmnopqrstuvwxyz0123456789\"\\").cps[·]?) = some (code 34 92 n).toNat := by
  have := alpha_in n.toNat (by omega)
  rw [show ((n.toNat : Nat) : Int) = n by omega] at this
  exact this
theorem strs_of {rs : List Int} : ∀ {ys : List Value} {ls : List Int}, ys.length = ls.length → (∀ (i : Nat) (v : Value), ys[i]? = some v → ∃ (n : Int) (t : Tok), ls[i]? = some n ∧ v = Value.str ⟨#[(code 34 92 n).toNat]⟩ t) → StrsAre ys (ls.map fun n => ⟨#[(code 34 92 n).toNat]⟩)
  | [], [], _, _ => .nil
  | y :: ys, l :: ls, hl, h => by
    obtain ⟨n, t, hn, rfl⟩ := h 0 y rfl
    cases hn
    exact .cons _ _ (strs_of (rs := rs) (by simpa using hl) fun i v q => by simpa using h (i + 1) v (by simpa using q))
  | [], _ :: _, hl, _ => by simp at hl
  | _ :: _, [], hl, _ => by simp at hl
theorem join_one (ls : List Int) : Txt.join (Str.ofString "") (ls.map fun n => ⟨#[(code 34 92 n).toNat]⟩) = ⟨(codes 34 92 ls).toArray⟩ := by
  have := join_flat (ls.map fun n => [(code 34 92 n).toNat])
  rw [List.map_map] at this
  rw [show (ls.map fun n => (⟨#[(code 34 92 n).toNat]⟩ : Str)) = ls.map ((fun c => (⟨c.toArray⟩ : Str)) ∘ fun n => [(code 34 92 n).toNat]) from rfl, this]
  clear this
  congr 2
  unfold codes
  induction ls with
  | nil => rfl
  | cons l ls ih => simp_all
theorem sum_one (ls : List Int) : ((ls.map fun n => (⟨#[(code 34 92 n).toNat]⟩ : Str)).map (·.length)).sum = ls.length := by
  induction ls with
  | nil => rfl
  | cons l ls ih =>
    rw [List.map_cons, List.map_cons, List.sum_cons, ih, List.length_cons]
    show 1 + ls.length = _
    omega
theorem law_turn2 {w : World} {mg mb : Str → Option Value} {mean : ExcName → Option Value} {loose : List Str} {s s₁ : Shared} {Qf : Flow → Shared → Prop} {S D D2 L fa cd I : Addr} {vs ys ys2 : List Value} {ns : List Int} {q k : Nat} {e : Nat} {m : Str → Option Value} {o1 o2 oI : Obj} {ta tp to : Tok}
    {name qual : Str} {params : Arguments} {st1 st2 st3 st4 st5 b1 b2 b3 : Stmt} {tgt it : Expr} {brest orelse body : List Stmt} {pf : Pos} {scope : Scope} {dV kV doc pm cdv ct oc : Value} {an od : Option Addr} {osl : Array (Option Value)} :
  (hd.heap_39 w.params).lookup 89 = some ⟨oc, od, .func (fnOf name qual params (st1 :: st2 :: st3 :: st4 :: st5 :: .For tgt it (b1 :: b2 :: b3 :: brest) orelse pf :: body) scope dV kV doc pm an cdv ct), osl⟩ →
  (hd.heap_39 w.params).In s.heap → Top hd.view_39 loose mean mg mb s.heap → IntsAre vs ns → ns.length = 4 * q → 0 < q → q < 16 → k < 4 * q → In6 ns →
  s.heap.objs.size = L → m (Str.ofString "place") = some (.int (k : Int) tp) → m (Str.ofString "sixes") = some (.ref S) → m (Str.ofString "heights") = some (.ref D2) → m (Str.ofString "octets") = some (.bytes (byteArr (octI (ns.drop k ++ ns.take k))) to) →
  o1.data = .cell (some (.ref D)) → o2.data = .cell (some (.str (Str.ofString "ABCDEFGHIJKLMNOPQRSTUVWXYZabcdefghijklmnopqrstuvwxyz0123456789\"\\") ta)) →
  Fr s.heap L s₁.heap m → News s.heap L s₁.heap [(I, oI), (D2, lst ys2), (D, lst ys), (S, W.listOf vs.toArray e), (L + 1 + 1, o2), (L + 1, o1)] → Later s s₁ →
  wpAny (model Challenge.rw_pd0041_01.row.prog w) (callerA.deeper (envOfC (Str.ofString "law") scope L fa (.ref cd))) (execs brest (envOfC (Str.ofString "law") scope L fa (.ref cd)))
    (TurnG s.heap L (fun m => m (Str.ofString "sixes") = some (.ref S) ∧ m (Str.ofString "heights") = some (.ref D2)) [(I, oI), (D2, lst ys2), (D, lst ys), (S, W.listOf vs.toArray e), (L + 1 + 1, o2), (L + 1, o1)] s Qf) (fun _ _ => False) s₁ := by
  k_fill
  intro ho
  cases ho
  intro X T hi hlen hq0 hq hk hrng hL hm1 hm2 hm3 hm4 d1 d2 F N hlat
  rw [expl4 hm1 hm2 hm3 hm4] at F
  have hrl : (ns.drop k ++ ns.take k).length = 4 * q := by rw [List.length_append, List.length_drop, List.length_take]; omega
  have hr6 : In6 (ns.drop k ++ ns.take k) := fun n hn => hrng n (by rcases List.mem_append.mp hn with h | h; exact List.mem_of_mem_drop h; exact List.mem_of_mem_take h)
  obtain ⟨h, tk, gs, rfl, hbr⟩ := hlat
  dsimp only at F N ⊢
  have hol : (octI (ns.drop k ++ ns.take k)).length = 3 * q := octI_len3 q _ hrl
  have hoi : KBa.In (octI (ns.drop k ++ ns.take k)) := octI_in _ hr6
  have hsx := sx_octI q _ hrl hr6
  generalize hrs : ns.drop k ++ ns.take k = rs at *
  have hcod : ∀ x y : Int, (rs.map (code x y)).map Int.toNat = codes x y rs := fun x y => by rw [List.map_map]; rfl
  have hne : ∀ x y : Int, rs.map (code x y) ≠ [] := fun x y z => by
    have := congrArg List.length z
    rw [List.length_map, hrl, List.length_nil] at this
    omega
  k_steps
  refine b64_call (x := 34) (y := 92) rfl (by show callerA.depth + 1 + 8 < recursionLimit; decide) (by show callerA.units + 3 + 60 < cLine; decide) (X.keeps F.keep) (T.keeps F.keep) hoi (by omega) (by omega) ?_
  intro t2 h2 tk2 k2
  rw [hsx, trans_map alt34 hr6]
  replace F := F.keeps k2
  replace N := N.grown k2
  clear k2
  k_steps
  refine decodeA (hne _ _) (fun n hn => ?_) (by rw [List.length_map, hrl]; exact Nat.le_trans (show 4 * q ≤ 64 by omega) (by decide)) ?_
  · obtain ⟨n', hn', rfl⟩ := List.mem_map.mp hn
    exact ⟨(code34 (hr6 n' hn')).1, (code34 (hr6 n' hn')).2.1⟩
  intro t3 tk3
  rw [hcod]
  k_steps
  refine strip_call rfl (by show callerA.depth + 1 + 10 < recursionLimit; decide) (by show callerA.units + 3 + 100 < cLine; decide) (X.keeps F.keep) (T.keeps F.keep) ?_ ?_ ?_
  · exact all_lt (by rw [show (Str.mk (codes 34 92 rs).toArray).cps.toList = codes 34 92 rs from rfl]; exact codes_lt34 hr6)
  · show (codes 34 92 rs).toArray.size < 1000
    rw [List.size_toArray, codes_len, hrl]; omega
  intro t4 s2 k4 hl4
  replace F := F.keeps k4
  replace N := N.grown k4
  clear k4
  obtain ⟨h3, tk4, gs2, rfl, hbr2⟩ := hl4
  dsimp only at F N hbr2 ⊢
  rw [strip_law hr6, ← left_law]
  walk1
  rename Fr _ _ _ _ => F2
  rename News _ _ _ _ => N2
  refine if_not F2 N2 ?_ ?_
  · walk1
    walk1
    walk1
    walk1
    walk1
    walk1
    walk1
    refine comp_enter (h₀ := s.heap) (L := L) rfl (by decide) rfl (by decide) ?_
    walk1
    walk1
    walk1
    walk1
    refine wpAny_mono (rot_eval (E := fun _ _ => False) rfl X T hi hlen hq hk rfl rfl F2 N2) (fun v s3 hv => ?_) (fun _ _ x => x)
    obtain ⟨D', ws, h', tk', rfl, rfl, F3, N3, hI⟩ := hv
    rw [hrs] at hI
    k_steps
    refine left_call rfl (by show callerA.depth + 1 + 3 < recursionLimit; decide) (by show callerA.units + 3 + 100 < cLine; decide) (X.keeps F3.keep) (T.keeps F3.keep) (N3.isList (.head _)) hI (by omega) ?_
    intro a ws2 h4 tk5 k4 hla hna hI2
    have F4 := F3.keeps k4
    have haL : a ≠ L := fun z => by
      obtain ⟨o, ho⟩ := frame_at F3
      rw [z, ho] at hna
      cases hna
    have ha0 : s.heap.get? a = none := by
      cases q : s.heap.get? a with
      | none => rfl
      | some o => rw [F3.keep _ _ q] at hna; cases hna
    have N4 : News s.heap L h4 [(a, lst ws2), (I, oI), (D2, lst ys2), (D, lst ys), (S, W.listOf vs.toArray e), (L + 1 + 1, o2), (L + 1, o1)] := fun p hp => by
      rcases List.mem_cons.mp hp with rfl | hp
      · exact ⟨hla, haL, ha0⟩
      · exact (N3.grown k4) p (.tail _ hp)
    clear F2 N2 N3 F3 hla k4
    refine wpAny_pyIter_list (N4.isList (.head _)) ?_
    have hlt : a < h4.objs.size := Heap.lt_size (N4 _ (.head _)).1
    have h6l := left_in hr6
    have hll := left_len rs
    have hwl : ws2.length ≤ 64 := by rw [hI2.length]; omega
    refine seq_src0 (news := [(a, lst ws2), (I, oI), (D2, lst ys2), (D, lst ys), (S, W.listOf vs.toArray e), (L + 1 + 1, o2), (L + 1, o1)]) (Rv := fun i v => ∃ n t, (leftL rs)[i]? = some n ∧ v = .str ⟨#[(code 34 92 n).toNat]⟩ t) (Walks.list rfl h4.objs.size a (Nat.ne_of_lt hlt) ws2.toArray) (F4.push _) (fun p hp => ⟨Heap.get?_push_of_some _ (N4 p hp).1, (N4 p hp).2⟩) ⟨⟨_, Heap.get?_push_size _ rfl, rfl, rfl⟩, (N4.isList (.head _)).push _⟩ ?_ (List.mem_cons_self ..)
      (fun i h st => let ⟨o, ho, _⟩ := st.1; ⟨o, ho⟩) (new_of F4 (Nat.le_refl _)).2 (new_of F4 (Nat.le_refl _)).1 (fun p hp => Nat.ne_of_lt (Heap.lt_size (N4 p hp).1)) ?_ rfl rfl ?_ ?_
    · intro b hb
      rcases List.mem_cons.mp hb with rfl | hb
      · exact .inl rfl
      · rw [List.mem_singleton.mp hb]; exact .inr (.inl ⟨_, .head _⟩)
    · rw [List.size_toArray]; exact Nat.le_trans hwl (by decide)
    · intro C D5 oC oI5 ys5 i v m₃ h tk E' hin hv hoC hmx hCD hCI hDI hoff F₃ N₃
      obtain ⟨n, t, rfl, hn⟩ := ints_at hI2 (by simpa using hv)
      clear F4 N4
      k_steps
      have hn6 := h6l n (List.mem_of_getElem? hn)
      refine subscriptTail_builtin_flat (typeIs_str _ _ _) slot_str_getitem.lookup (PyProof.Rows.getItem_str (by simp; omega) (alpha_at hn6) ⟨(fun a z => by cases z), ?_⟩) rfl
      exact ⟨⟨n, _, hn, rfl⟩, _, _, rfl, F₃, N₃⟩
    · intro D5 h5 tk6 ys5 F₃ N₃ hoffD hDge hyl hyR
      clear F4 N4
      k_steps
      refine join_listW (ys := (leftL rs).map fun n => ⟨#[(code 34 92 n).toNat]⟩) (N₃.isList (.head _)) (strs_of (rs := rs) (by rw [hyl, List.size_toArray, hI2.length]) hyR) (by decide) (by rw [sum_one, List.length_map]; omega) ?_
      intro t9 tk9
      rw [join_one]
      k_steps
      exact ⟨by simp, _, _, rfl, F₃, fun p hp => N₃ p (.tail _ (.tail _ hp))⟩
  · clear F2 N2
    intro h5 tk5 F N
    k_steps
    exact ⟨_, F, N, ⟨rfl, rfl⟩, _, _, _, rfl, fun z => hbr2 (hbr z)⟩
end Mine
end
-- part Ta41
theorem Mine.calm_Ta41 : True := by
  w_top off
  exact trivial
section
open PySem PySem.W PyProof.Rows PySem.Calls PyProof.Rows.LCg
namespace Mine
set_option maxRecDepth 100000
set_option maxHeartbeats 8000000
theorem law_turn {w : World} {mg mb : Str → Option Value} {mean : ExcName → Option Value} {loose : List Str} {s s₁ : Shared} {Qf : Flow → Shared → Prop} {S D D2 L fa cd I : Addr} {vs ys ys2 : List Value} {ns ss hs : List Int} {q k : Nat} {e : Nat} {m : Str → Option Value} {o1 o2 oI : Obj} {ta tp to : Tok}
    {name qual : Str} {params : Arguments} {st1 st2 st3 st4 st5 b1 : Stmt} {tgt it : Expr} {brest orelse body : List Stmt} {pf : Pos} {scope : Scope} {dV kV doc pm cdv ct oc : Value} {an od : Option Addr} {osl : Array (Option Value)} :
  (hd.heap_39 w.params).lookup 89 = some ⟨oc, od, .func (fnOf name qual params (st1 :: st2 :: st3 :: st4 :: st5 :: .For tgt it (b1 :: brest) orelse pf :: body) scope dV kV doc pm an cdv ct), osl⟩ →
  (hd.heap_39 w.params).In s.heap → Top hd.view_39 loose mean mg mb s.heap → IntsAre vs ns → IntsAre ys ss → IntsAre ys2 hs → ns.length = 4 * q → ss.length = 4 * q → hs.length = 4 * q → 0 < q → q < 16 → k < 4 * q → In6 ns →
  ss = ns.map stepOf → hs = (List.range (4 * q)).map (fun i => ((ns.map stepOf).take i).sum) →
  s.heap.objs.size = L → m (Str.ofString "place") = some (.int (k : Int) tp) → m (Str.ofString "sixes") = some (.ref S) → m (Str.ofString "heights") = some (.ref D2) → m (Str.ofString "octets") = some (.bytes (byteArr (octI (ns.drop k ++ ns.take k))) to) →
  o1.data = .cell (some (.ref D)) → o2.data = .cell (some (.str (Str.ofString "ABCDEFGHIJKLMNOPQRSTUVWXYZabcdefghijklmnopqrstuvwxyz0123456789\"\\") ta)) →
  Fr s.heap L s₁.heap m → News s.heap L s₁.heap [(I, oI), (D2, lst ys2), (D, lst ys), (S, W.listOf vs.toArray e), (L + 1 + 1, o2), (L + 1, o1)] → Later s s₁ →
  wpAny (model Challenge.rw_pd0041_01.row.prog w) (callerA.deeper (envOfC (Str.ofString "law") scope L fa (.ref cd))) (execs brest (envOfC (Str.ofString "law") scope L fa (.ref cd)))
    (TurnG s.heap L (fun m => m (Str.ofString "sixes") = some (.ref S) ∧ m (Str.ofString "heights") = some (.ref D2)) [(I, oI), (D2, lst ys2), (D, lst ys), (S, W.listOf vs.toArray e), (L + 1 + 1, o2), (L + 1, o1)] s Qf) (fun _ _ => False) s₁ := by
  k_fill
  intro ho
  cases ho
  intro X T hi hS hH hlen hlenS hlenH hq0 hq hk hrng hss hhs hL hm1 hm2 hm3 hm4 d1 d2 F N hlat
  rw [expl4 hm1 hm2 hm3 hm4] at F
  have hrl : (ns.drop k ++ ns.take k).length = 4 * q := by rw [List.length_append, List.length_drop, List.length_take]; omega
  have hr6 : In6 (ns.drop k ++ ns.take k) := fun n hn => hrng n (by rcases List.mem_append.mp hn with h | h; exact List.mem_of_mem_drop h; exact List.mem_of_mem_take h)
  obtain ⟨h, tk, gs, rfl, hbr⟩ := hlat
  dsimp only at F N ⊢
  have hol : (octI (ns.drop k ++ ns.take k)).length = 3 * q := octI_len3 q _ hrl
  have hoi : KBa.In (octI (ns.drop k ++ ns.take k)) := octI_in _ hr6
  have hsx := sx_octI q _ hrl hr6
  generalize hrs : ns.drop k ++ ns.take k = rs at *
  have hcod : ∀ x y : Int, (rs.map (code x y)).map Int.toNat = codes x y rs := fun x y => by rw [List.map_map]; rfl
  have hne : ∀ x y : Int, rs.map (code x y) ≠ [] := fun x y z => by
    have := congrArg List.length z
    rw [List.length_map, hrl, List.length_nil] at this
    omega
  k_steps
  refine b64_call (x := 40) (y := 41) rfl (by show callerA.depth + 1 + 8 < recursionLimit; decide) (by show callerA.units + 3 + 60 < cLine; decide) (X.keeps F.keep) (T.keeps F.keep) hoi (by omega) (by omega) ?_
  intro t2 h2 tk2 k2
  rw [hsx, trans_map alt40 hr6]
  replace F := F.keeps k2
  replace N := N.grown k2
  clear k2
  k_steps
  refine decodeA (hne _ _) (fun n hn => ?_) (by rw [List.length_map, hrl]; exact Nat.le_trans (show 4 * q ≤ 64 by omega) (by decide)) ?_
  · obtain ⟨n', hn', rfl⟩ := List.mem_map.mp hn
    exact ⟨(code40 (hr6 n' hn')).1, (code40 (hr6 n' hn')).2.1⟩
  intro t3 tk3
  rw [hcod]
  k_steps
  refine check_call rfl (by show callerA.depth + 1 + 12 < recursionLimit; decide) (by show callerA.units + 3 + 120 < cLine; decide) (X.keeps F.keep) (T.keeps F.keep) ?_ ?_ ?_ ?_
  · exact all_lt (by rw [show (Str.mk (codes 40 41 rs).toArray).cps.toList = codes 40 41 rs from rfl]; exact codes_lt40 hr6)
  · show (codes 40 41 rs).toArray.size < 1000
    rw [List.size_toArray, codes_len, hrl]; omega
  · exact codes_no34 hr6
  intro s2 k4 hl4
  replace F := F.keeps k4
  replace N := N.grown k4
  clear k4
  obtain ⟨h3, tk4, gs2, rfl, hbr2⟩ := hl4
  dsimp only at F N hbr2 ⊢
  have hck := check_law (ns := ns) (k := k) (by omega) hrng
  rw [hrs] at hck
  generalize ckL (escs 0 false (codes 40 41 rs)) 0 = bb at *
  walk1
  rename Fr _ _ _ _ => F2
  rename News _ _ _ _ => N2
  refine if_not F2 N2 ?_ ?_
  · k_steps
    · rename_i a2 t5 h5 M5 t6 k5 F' N' ha hb
      exact ⟨test_min hck hhs hss hk hlen a2 ha hb, _, _, rfl, F', N'⟩
    · rename_i F' N' ha
      exact ⟨test_sum hck hss ha, _, _, rfl, F', N'⟩
  · clear F2 N2
    intro h5 tk5 F N
    refine law_turn2 rfl X T hi hlen hq0 hq hk hrng hL rfl rfl rfl (by rw [hrs]; rfl) d1 d2 F N ⟨_, _, _, rfl, fun z => hbr2 (hbr z)⟩
end Mine
end
-- part Tc41
theorem Mine.calm_Tc41 : True := by
  w_top off
  exact trivial
section
open PySem PySem.W PyProof.Rows PySem.Calls PyProof.Rows.LCg
namespace Mine
set_option maxRecDepth 100000
set_option maxHeartbeats 8000000
theorem turnG_base {h₀ h : Heap} {L : Addr} {J : (Str → Option Value) → Prop} {led : List (Addr × Obj)} {s : Shared} {tk : Nat} {Q : Flow → Shared → Prop} {f : Flow} {s₂ : Shared} (hf : TurnG h₀ L J led s Q f s₂) : TurnG h₀ L J led { s with heap := h, toks := tk } Q f s₂ := by
  cases f <;> exact hf
theorem law_for {w : World} {mg mb : Str → Option Value} {mean : ExcName → Option Value} {loose : List Str} {s : Shared} {Q : Flow → Shared → Prop} {E : Value → Shared → Prop} {S D D2 L fa cd : Addr} {vs ys ys2 : List Value} {ns ss hs : List Int} {q : Nat} {h₁ : Heap} {tk e : Nat} {m : Str → Option Value} {o1 o2 : Obj} {ta : Tok}
    {name qual : Str} {params : Arguments} {st1 st2 st3 st4 st5 : Stmt} {body : List Stmt} {scope : Scope} {dV kV doc pm cdv ct oc : Value} {an od : Option Addr} {osl : Array (Option Value)} :
  (hd.heap_39 w.params).lookup 89 = some ⟨oc, od, .func (fnOf name qual params (st1 :: st2 :: st3 :: st4 :: st5 :: body) scope dV kV doc pm an cdv ct), osl⟩ →
  (hd.heap_39 w.params).In s.heap → Top hd.view_39 loose mean mg mb s.heap → IntsAre vs ns → IntsAre ys ss → IntsAre ys2 hs → ns.length = 4 * q → ss.length = 4 * q → hs.length = 4 * q → 0 < q → q < 16 → In6 ns →
  ss = ns.map stepOf → hs = (List.range (4 * q)).map (fun i => ((ns.map stepOf).take i).sum) →
  s.heap.objs.size = L → m (Str.ofString "sixes") = some (.ref S) → m (Str.ofString "heights") = some (.ref D2) → o1.data = .cell (some (.ref D)) → o2.data = .cell (some (.str (Str.ofString "ABCDEFGHIJKLMNOPQRSTUVWXYZabcdefghijklmnopqrstuvwxyz0123456789\"\\") ta)) →
  Fr s.heap L h₁ m → News s.heap L h₁ [(D2, lst ys2), (D, lst ys), (S, W.listOf vs.toArray e), (L + 1 + 1, o2), (L + 1, o1)] →
  (∀ s', (∀ b o, s.heap.get? b = some o → s'.heap.get? b = some o) → Later s s' → Q (.ret (.bool true)) s') →
  wpAny (model Challenge.rw_pd0041_01.row.prog w) (callerA.deeper (envOfC (Str.ofString "law") scope L fa (.ref cd))) (execs body (envOfC (Str.ofString "law") scope L fa (.ref cd))) Q E { s with heap := h₁, toks := tk } := by
  k_fill
  intro ho
  cases ho
  intro X T hi hS hH hlen hlenS hlenH hq0 hq hrng hss hhs hL hm1 hm2 d1 d2 F N hQ
  rw [expl2' hm1 hm2] at F
  have hvl' : vs.length = 4 * q := by rw [hi.length, hlen]
  have hyl' : ys.length = 4 * q := by rw [hS.length, hlenS]
  have hyl2' : ys2.length = 4 * q := by rw [hH.length, hlenH]
  refine wpAny_execs_cons (wpAny_For ?_)
  k_steps
  rename_i h5 tk5 t5 u5 v5 hr5 F5 N5 k5
  rw [hlen] at hr5
  refine wpAny_pyIter_range hr5 (by have := small_of (a := 0) (n := 4 * q) (by omega) (by omega); simpa using this) ?_
  rw [rangeSize_of]
  refine for_range_g (h₀ := s.heap) (n := 4 * q) (I := h5.objs.size) (fun m => m (Str.ofString "sixes") = some (.ref S) ∧ m (Str.ofString "heights") = some (.ref D2)) rfl rfl rfl (F5.push _) (fun p hp => ⟨Heap.get?_push_of_some _ (N5 p hp).1, (N5 p hp).2⟩) (by simpa using Heap.get?_push_size _ rfl) (new_of F5 (Nat.le_refl _)).1 (new_of F5 (Nat.le_refl _)).2 (fun p hp => Nat.ne_of_lt (Heap.lt_size (N5 p hp).1)) ⟨rfl, rfl⟩ ?_ ?_
  · rintro k t m₁ oI s₁ hk ⟨hm1, hm2⟩ hlat F₁ N₁
    clear F5 N5
    rw [expl2' hm1 hm2] at F₁
    obtain ⟨hh, tkk, gs, rfl, hbr⟩ := hlat
    dsimp only at F₁ N₁ ⊢
    have hrl : (ns.drop k ++ ns.take k).length = 4 * q := by rw [List.length_append, List.length_drop, List.length_take]; omega
    have hr6 : In6 (ns.drop k ++ ns.take k) := fun n hn => hrng n (by rcases List.mem_append.mp hn with h | h; exact List.mem_of_mem_drop h; exact List.mem_of_mem_take h)
    walk1
    walk1
    walk1
    walk1
    walk1
    walk1
    refine wpAny_mono (rot_eval (E := fun _ _ => False) rfl X T hi hlen hq hk rfl rfl F₁ N₁) (fun v s3 hv => ?_) (fun _ _ x => x)
    obtain ⟨D', ws, h', tk', rfl, rfl, F3, N3, hI⟩ := hv
    k_steps
    refine octets_call rfl (by show callerA.depth + 1 + 3 < recursionLimit; decide) (by show callerA.units + 3 + 20 < cLine; decide) (X.keeps F3.keep) (T.keeps F3.keep) (N3.isList (.head _)) hI hrl hq hr6 ?_
    intro t2 h2 tk2 k2
    have F := F3.keeps k2
    have N := N3.grown k2
    clear F3 N3 k2 F₁ N₁
    walk1
    rename Fr _ _ _ _ => F4
    rename News _ _ _ _ => N4
    refine wpAny_mono (law_turn (s := s) rfl X T hi hS hH hlen hlenS hlenH hq0 hq hk hrng hss hhs hL rfl rfl rfl rfl d1 d2 F4 (fun p hp => N4 p (.tail _ hp)) ⟨_, _, _, rfl, hbr⟩) (fun f s₂ hf => turnG_base hf) (fun _ _ x => x)
  · rintro m₁ s₁ ⟨hm1, hm2⟩ hlat F₁ N₁
    clear F5 N5
    obtain ⟨hh, tkk, gs, rfl, hbr⟩ := hlat
    dsimp only at F₁ N₁ ⊢
    k_steps
    exact hQ _ F₁.keep ⟨_, _, _, rfl, hbr⟩
end Mine
end
-- part Td41
theorem Mine.calm_Td41 : True := by
  w_top off
  exact trivial
section
open PySem PySem.W PyProof.Rows PySem.Calls PyProof.Rows.LCg
namespace Mine
set_option maxRecDepth 100000
set_option maxHeartbeats 8000000
theorem step_is {ns : List Int} {i : Nat} {n k : Int} {t : Tok} (h : stepOf n = k) (hn : ns[i]? = some n) : ∃ n' t', ns[i]? = some n' ∧ Value.int k t = .int (stepOf n') t' := ⟨n, t, hn, by rw [h]⟩
theorem law_rest {w : World} {mg mb : Str → Option Value} {mean : ExcName → Option Value} {loose : List Str} {s : Shared} {Q : Flow → Shared → Prop} {E : Value → Shared → Prop} {S L fa cd : Addr} {vs : List Value} {ns : List Int} {q : Nat} {h₁ : Heap} {tk e : Nat} {m : Str → Option Value} {o1 o2 : Obj}
    {name qual : Str} {params : Arguments} {st1 st2 : Stmt} {body : List Stmt} {scope : Scope} {dV kV doc pm cdv ct oc : Value} {an od : Option Addr} {osl : Array (Option Value)} :
  (hd.heap_39 w.params).lookup 89 = some ⟨oc, od, .func (fnOf name qual params (st1 :: st2 :: body) scope dV kV doc pm an cdv ct), osl⟩ →
  (hd.heap_39 w.params).In s.heap → Top hd.view_39 loose mean mg mb s.heap → IntsAre vs ns → ns.length = 4 * q → 0 < q → q < 16 → In6 ns →
  s.heap.objs.size = L → m (Str.ofString "sixes") = some (.ref S) → o1.data = .cell none → o2.data = .cell none → Fr s.heap L h₁ m → News s.heap L h₁ [(S, W.listOf vs.toArray e), (L + 1 + 1, o2), (L + 1, o1)] → L + 1 + 1 < S →
  (∀ s', (∀ b o, s.heap.get? b = some o → s'.heap.get? b = some o) → Later s s' → Q (.ret (.bool true)) s') →
  wpAny (model Challenge.rw_pd0041_01.row.prog w) (callerA.deeper (envOfC (Str.ofString "law") scope L fa (.ref cd))) (execs body (envOfC (Str.ofString "law") scope L fa (.ref cd))) Q E { s with heap := h₁, toks := tk } := by
  k_fill
  intro ho
  cases ho
  intro X T hi hlen hq0 hq hrng hL hm d1 d2 F N hSL hQ
  rw [expl1 hm] at F
  refine wpAny_execs_cons (wpAny_Assign_Name ?_)
  refine comp_enter (h₀ := s.heap) (L := L) rfl (by decide) rfl (by decide) ?_
  k_steps
  refine wpAny_pyIter_list (N.isList (.head _)) ?_
  have hlt : S < h₁.objs.size := Heap.lt_size (N _ (.head _)).1
  refine seq_src0 (news := [(S, W.listOf vs.toArray e), (L + 1 + 1, o2), (L + 1, o1)]) (Rv := fun i v => ∃ n t, ns[i]? = some n ∧ v = .int (stepOf n) t) (Walks.list rfl h₁.objs.size S (Nat.ne_of_lt hlt) vs.toArray) (F.push _) (fun p hp => ⟨Heap.get?_push_of_some _ (N p hp).1, (N p hp).2⟩) ⟨⟨_, Heap.get?_push_size _ rfl, rfl, rfl⟩, (N.isList (.head _)).push _⟩ ?_ (List.mem_cons_self ..)
    (fun i h st => let ⟨o, ho, _⟩ := st.1; ⟨o, ho⟩) (new_of F (Nat.le_refl _)).2 (new_of F (Nat.le_refl _)).1 (fun p hp => Nat.ne_of_lt (Heap.lt_size (N p hp).1)) ?_ rfl rfl ?_ ?_
  · intro b hb
    rcases List.mem_cons.mp hb with rfl | hb
    · exact .inl rfl
    · rw [List.mem_singleton.mp hb]; exact .inr (.inl ⟨_, .head _⟩)
  · rw [List.size_toArray, hi.length, hlen]; exact Nat.le_trans (show 4 * q ≤ 64 by omega) (by decide)
  · intro C D oC oI ys i v m₃ h tk E' hin hv hoC hmx hCD hCI hDI hoff F₃ N₃
    obtain ⟨n, t, rfl, hn⟩ := ints_at hi (by simpa using hv)
    k_steps
    all_goals (rename Fr _ _ _ _ => F4; rename News _ _ _ _ => N4; refine ⟨step_is ?_ hn, _, _, rfl, F4, fun p hp => N4 p (.tail _ hp)⟩; unfold stepOf; simp [*])
  · intro D h3 tk3 ys F₃ N₃ hoffD hDge hyl hyR
    have hS' : IntsAre ys (ns.map stepOf) := ints_of (by rw [hyl, List.length_map]; simp [hi.length]) fun j v q => by
      obtain ⟨n, t, hn, rfl⟩ := hyR j v q
      exact ⟨_, _, rfl, by rw [List.getElem?_map, hn]; rfl⟩
    have hDS : @Ne Nat S D := hoffD _ (.head _)
    have hD2 : @Ne Nat (L + 1 + 1) D := hoffD _ (.tail _ (.head _))
    have hD1 : @Ne Nat (L + 1) D := hoffD _ (.tail _ (.tail _ (.head _)))
    clear F N
    walk1
    rename_i h4 o1' F4 N4 d4
    dsimp only [List.cons_append, List.nil_append] at N4
    have hyl' : ys.length = 4 * q := by rw [hyl, List.size_toArray, hi.length, hlen]
    have hvl' : vs.length = 4 * q := by rw [hi.length, hlen]
    refine wpAny_execs_cons ?_
    refine comp_enterU (h₀ := s.heap) (L := L) rfl rfl rfl (by decide) rfl (by decide) rfl rfl ?_
    k_steps
    rename_i h5 tk5 t5 u5 v5 hr5 F5 N5 k5
    rw [hlen] at hr5
    refine wpAny_pyIter_range hr5 (by have := small_of (a := 0) (n := 4 * q) (by omega) (by omega); simpa using this) ?_
    rw [rangeSize_of]
    refine seq_srcU (Rv := fun i v => ∃ t, v = .int (((ns.map stepOf).take i).sum) t) (Walks.range rfl h5.objs.size 0 1 (4 * q)) (F5.push _) (fun p hp => ⟨Heap.get?_push_of_some _ (N5 p hp).1, (N5 p hp).2⟩) (by simpa using Heap.get?_push_size _ rfl) (fun b hb => .inl (List.mem_singleton.mp hb)) (List.mem_cons_self ..)
      (fun i h st => ⟨_, st⟩) (new_of F5 (Nat.le_refl _)).2 (new_of F5 (Nat.le_refl _)).1 (fun p hp => Nat.ne_of_lt (Heap.lt_size (N5 p hp).1)) (Nat.le_trans (show 4 * q ≤ 64 by omega) (by decide)) rfl rfl ?_ ?_
    · intro C D2 oC oI ys2 i v m₃ h tk E' hin hv hoC hmx hCD hCI hDI hoff F₃ N₃
      obtain ⟨t, rfl⟩ := hv
      rw [show (0 : Int) + (i : Nat) * 1 = (i : Int) by omega] at hmx
      k_steps
      rename Fr _ _ _ _ => F6
      rename News _ _ _ _ => N6
      rw [Int.toNat_natCast]
      exact ⟨⟨_, rfl⟩, _, _, rfl, F6, fun p hp => N6 p (.tail _ hp)⟩
    · intro D2 h6 tk6 ys2 F₃ N₃ hoffD2 hDge2 hyl2 hyR2
      have hH : IntsAre ys2 ((List.range (4 * q)).map fun i => ((ns.map stepOf).take i).sum) := ints_of (by rw [hyl2]; simp) fun j v q' => by
        obtain ⟨t, rfl⟩ := hyR2 j v q'
        have hj : j < 4 * q := by have := (List.getElem?_eq_some_iff.mp q').1; omega
        exact ⟨_, _, rfl, by rw [List.getElem?_map, List.getElem?_range hj]; rfl⟩
      have hED : @Ne Nat D D2 := hoffD2 _ (.head _)
      have hES : @Ne Nat S D2 := hoffD2 _ (.tail _ (.head _))
      have hE2 : @Ne Nat (L + 1 + 1) D2 := hoffD2 _ (.tail _ (.tail _ (.head _)))
      have hE1 : @Ne Nat (L + 1) D2 := hoffD2 _ (.tail _ (.tail _ (.tail _ (.head _))))
      clear F5 N5
      refine wpAny_execs_cons (wpAny_Assign_Name ?_)
      walk1
      walk1
      rename_i h7 o2' F7 N7 d7
      dsimp only [List.cons_append, List.nil_append] at N7
      exact law_for (s := s) rfl X T hi hS' hH hlen (by rw [List.length_map, hlen]) (by simp) hq0 hq hrng rfl rfl hL rfl rfl d4 d7 F7 N7 hQ
end Mine
end
-- part Te41
theorem Mine.calm_Te41 : True := by
  w_top off
  exact trivial
section
open PySem PySem.W PyProof.Rows
namespace Mine
set_option maxRecDepth 100000
set_option maxHeartbeats 8000000
/-- the sixes before and behind their filling up -/
abbrev six0 (script : List Int) : List Int := (List.take 8 script ++ [0, 1, 0, 1]).map fun k' : Int => if k'.fmod 5 = 0 then 62 else if k'.fmod 5 = 1 then 63 else if k'.fmod 5 = 2 then 62 else if k'.fmod 5 = 3 then 63 else if k'.fmod 5 = 4 then (k'.fdiv 5).fmod 62 else k'
abbrev sixAll (script : List Int) : List Int := six0 script ++ (List.replicate ((-((six0 script).length : Int)).fmod 4).toNat [0]).flatten
theorem len0 (script : List Int) : (six0 script).length = min 8 script.length + 4 := by simp [six0]
theorem flat_rep : ∀ n : Nat, (List.replicate n [(0 : Int)]).flatten = List.replicate n 0
  | 0 => rfl
  | n + 1 => by rw [List.replicate_succ, List.flatten_cons, flat_rep n]; rfl
theorem fmod4 (n : Nat) : ((-(n : Int)).fmod 4) = (-(n : Int)) % 4 := Int.fmod_eq_emod_of_nonneg _ (by decide)
theorem lenAll (script : List Int) : ∃ q, (sixAll script).length = 4 * q ∧ 0 < q ∧ q < 16 := by
  have h0 := len0 script
  refine ⟨(sixAll script).length / 4, ?_⟩
  rw [sixAll, flat_rep, List.length_append, List.length_replicate, fmod4]
  omega
theorem pad_room (script : List Int) : (six0 script).length + (List.replicate ((-((six0 script).length : Int)).fmod 4).toNat [(0 : Int)]).flatten.length ≤ sizeLine := by
  obtain ⟨q, h, _, h2⟩ := lenAll script
  rw [← List.length_append]
  rw [show (six0 script ++ (List.replicate ((-((six0 script).length : Int)).fmod 4).toNat [(0 : Int)]).flatten).length = 4 * q from h, sizeLine_eq]
  omega
theorem in6All (script : List Int) : In6 (sixAll script) := by
  intro n hn
  rcases List.mem_append.mp hn with h | h
  · obtain ⟨k, _, rfl⟩ := List.mem_map.mp h
    have h1 := Int.fmod_nonneg_of_pos k (show (0 : Int) < 5 by decide)
    have h2 := Int.fmod_lt_of_pos k (show (0 : Int) < 5 by decide)
    have h3 := Int.fmod_nonneg_of_pos (k.fdiv 5) (show (0 : Int) < 62 by decide)
    have h4 := Int.fmod_lt_of_pos (k.fdiv 5) (show (0 : Int) < 62 by decide)
    split
    · omega
    split
    · omega
    split
    · omega
    split
    · omega
    split
    · omega
    · omega
  · rw [flat_rep] at h
    obtain ⟨_, rfl⟩ := List.mem_replicate.mp h
    exact ⟨by decide, by decide⟩
theorem law_walk {w : World} {mg mb : Str → Option Value} {mean : ExcName → Option Value} {loose : List Str} {s : Shared} {Q : Flow → Shared → Prop} {E : Value → Shared → Prop} {l L fa cd : Addr} {vs : List Value} {script : List Int} {h₁ : Heap} {tk : Nat} {m : Str → Option Value} {o1 o2 : Obj}
    {name qual : Str} {params : Arguments} {body : List Stmt} {scope : Scope} {dV kV doc pm cdv ct oc : Value} {an od : Option Addr} {osl : Array (Option Value)} :
  (hd.heap_39 w.params).lookup 89 = some ⟨oc, od, .func (fnOf name qual params body scope dV kV doc pm an cdv ct), osl⟩ →
  (hd.heap_39 w.params).In s.heap → Top hd.view_39 loose mean mg mb s.heap → s.heap.IsList l vs.toArray → IntsAre vs script → script.length ≤ 63 →
  s.heap.objs.size = L → m (Str.ofString "script") = some (.ref l) → o1.data = .cell none → o2.data = .cell none → Fr s.heap L h₁ m → News s.heap L h₁ [(L + 1 + 1, o2), (L + 1, o1)] →
  (∀ s', (∀ b o, s.heap.get? b = some o → s'.heap.get? b = some o) → Later s s' → Q (.ret (.bool true)) s') →
  wpAny (model Challenge.rw_pd0041_01.row.prog w) (callerA.deeper (envOfC (Str.ofString "law") scope L fa (.ref cd))) (execs body (envOfC (Str.ofString "law") scope L fa (.ref cd))) Q E { s with heap := h₁, toks := tk } := by
  k_fill
  intro ho
  cases ho
  intro X T hl hi hlen hL hm d1 d2 F N hQ
  rw [expl1 hm] at F
  k_steps
  rename_i hI8 hL8 D1 h1x tkx o1x l2 h2 F2 N2 l3 D3 h3 F3 N3 i3 n3 s3 e3 e4 e5 l4
  refine kmk_add_ints F3 N3 (N3.isList (.tail _ (.tail _ (.head _)))) (N3.isList (.head _)) hI8 i3 ?_ (pad_room script)
  intro D4 us h4 F4 N4 l5 hI4
  walk1
  rename Fr _ _ _ _ => F5
  rename News _ _ _ _ => N5
  obtain ⟨q, hq, hq0, hq1⟩ := lenAll script
  refine law_rest (s := s) (S := D4) (vs := us) (ns := sixAll script) (e := 0) rfl X T hI4 hq hq0 hq1 (in6All script) hL rfl d1 d2 F5 (fun p hp => N5 p ?_) ?_ hQ
  · rcases List.mem_cons.mp hp with rfl | hp
    · simp
    · simp only [List.mem_cons, List.not_mem_nil, or_false] at hp ⊢
      rcases hp with rfl | rfl <;> simp
  · have := l5 (L + 1 + 1, o2) (by simp)
    exact this
end Mine
end
-- part Tf41
theorem Mine.calm_Tf41 : True := by
  w_top off
  exact trivial
section
open PySem PySem.W PyProof.Rows PySem.Calls PyProof.Rows.LCg
namespace Mine
set_option maxRecDepth 100000
set_option maxHeartbeats 8000000
/-- how the law ends: True, no exception, the generators that are left asleep bare -/
theorem law_good {cl : Str → Option Addr} {mean : ExcName → Option Value} {args : List WData} {s₁ s' : Shared} (hg : s₁.gens = #[]) (k : ∀ b o, s₁.heap.get? b = some o → s'.heap.get? b = some o) (l : Later s₁ s') :
    GoodWG Challenge.rw_pd0041_01.row.claim cl mean args s₁ (.ok (.ret (.bool true))) s' := by
  obtain ⟨h, tk, gs, rfl, hb⟩ := l
  exact ⟨.inl ⟨_, .bool true, [], rfl, fun _ => rfl, .bool true, postW_of (r := Challenge.rw_pd0041_01.row.toRowW) (X := true) (by wrow_shape) (by wtm_val) rfl, fun _ => ⟨.nil, fun _ h => by cases h⟩⟩, .of_keep k, rfl, hb (AllBare.of_eq hg)⟩
theorem last : PySem.Challenge.rw_pd0041_01.Holds := by
  apply hd
  w_strict (
    k_fill
    intro w s₀ s₁ mg mb G Y fa o pm cd doc dV kV ho hd' hcd hD hmg hg args vals as hpre hlay hrd hwl hlo
    have KX := kIn_of Y
    have X := (Ground.X G).1
    have V := (Ground.X G).2
    try w_nolog (first | (have GL := glob_more (Ground.glob G (by first | k_qdec | decide +kernel) (by first | k_qdec | decide +kernel)) V) | (have GL := glob_more (Ground.glob G (by decide +kernel)) V))
    refine Ground.open G ?_
    intro T B D TE TW
    try (refine guard_noD D (by decide +kernel) ?_; clear D)
    obtain ⟨_, _, M⟩ := bmod_of_top T
    have TA := at_of_top T
    try (obtain ⟨_, _, he, B0⟩ := based_of_top T rfl hmg ho hd'; have he' : cd = _ := he; subst he'; clear he)
    clear hmg
    wrow_args hpre hlay hrd hwl hlo
    all_goals (
      refine enter_call ?_
      w_top on
      have K0 := below_caller (Top.heap T)
      w_call any ho hd' hcd hD T F
      clear hd' TA)
    refine law_walk (s := s₁) rfl KX T (by assumption) (by assumption) (by omega) rfl rfl ?_ ?_ (by assumption) (by assumption) (fun s' k l => law_good hg k l)
    all_goals assumption)
end Mine
end
set_option maxRecDepth 100000 in
set_option maxHeartbeats 8000000 in
theorem PySem.Challenge.cw_pd0041_01_holds : PySem.Challenge.rw_pd0041_01.Holds :=
  Mine.last
