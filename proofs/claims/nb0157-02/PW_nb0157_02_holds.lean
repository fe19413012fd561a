import PyProof.Rows.All
import Wide.All
import OpenK.AllK
import Wide.FinOn
import KE.KFromBytes
import PySem.Challenge.RW_nb0157_02
set_option Elab.async false
set_option maxRecDepth 100000
set_option maxHeartbeats 8000000
set_option linter.unusedVariables false
open PySem PySem.W PyProof.Rows
namespace Mine
section
open PySem PySem.W PyProof.Rows
section
theorem PySem.W.holds_open {r : OpenRow} {q : Program} {loose : List Str} {Xt : Shared → Bool} {XP : (Str → Option Value) → Heap → Prop} {α : Type} {Yf : Shared → α} {Ya : World → α} {YP : World → Heap → Prop} {d : DefRec} {kwd : List (Str × Expr)} {N : Nat}
    (left : ∀ w, (openEnds treeTable r.prog w N).map (fun s => (openSeen q loose (importedModules r.prog.main.body) Xt true s, Yf s)) = some (openGood q loose, Ya w)) (hY : ∀ w s, Yf s = Ya w → YP w s.heap) (hYk : ∀ w h h', YP w h → (∀ b o, h.get? b = some o → h'.get? b = some o) → YP w h')
    (hX : ∀ s, Xt s = true → XP (s.heap.nsMap mainGlobals) s.heap) (hXk : ∀ mg h h', XP mg h → (∀ b o, h.get? b = some o → h'.get? b = some o) → XP mg h')
    (hdef : defOf q r.name = some (d, kwd)) (hp : r.prog.theDef r.name = some (d.params, d.body, d.scope)) (hk : kwWritten? d.params.kwonlyargs d.params.kw_defaults = some kwd) (hRf : ∀ s, Xt s = true → RecFacts r.records s.heap) (hwr : (!r.writes || r.records.isEmpty) = true)
    (k1 : r.wellSaid = true) (ok : (chainsOk q && opensWell r.prog && (frees r.toRowW && r.within.isEmpty)) = true) (hb : r.prog.bare) (hw : r.toRowW.promised)
    (call : WalkO q loose XP YP r.toRowW d kwd fun f vs => PySem.call f vs) : r.Holds :=
  _root_.PySem.W.holds_open left hY hYk hX hXk hdef hp hk hRf hwr k1 ok hb hw call
open_top hd for PySem.Challenge.rw_nb0157_02
end
end

theorem off_Top02 : True := by
  w_top off
  trivial

section
open PySem PySem.W PyProof.Rows
section

noncomputable def PsIn (m : Str → Option Value) (ps : List (Str × Value)) : Prop := ∀ p ∈ ps, m p.1 = some p.2

theorem kst_self {m : Str → Option Value} {ps : List (Str × Value)} (h : PsIn m ps) : kstB m ps = m := by
  funext y
  exact kstB_eq h fun _ => rfl

theorem fr_ps {h₀ h : Heap} {L : Addr} {m : Str → Option Value} {ps : List (Str × Value)} (F : Fr h₀ L h m) (hk : PsIn m ps) : Fr h₀ L h (kstB m ps) := by
  rw [kst_self hk]; exact F

theorem ps_nil {m : Str → Option Value} : PsIn m [] := fun _ h => nomatch h
theorem ps_cons {m : Str → Option Value} {x : Str} {v : Value} {ps : List (Str × Value)} (h : m x = some v) (r : PsIn m ps) : PsIn m ((x, v) :: ps) := fun p hp => by
  rcases List.mem_cons.mp hp with rfl | hp
  · exact h
  · exact r p hp

theorem ps_str {m : Str → Option Value} {x y z : Str} {t : Tok} {ps : List (Str × Value)} (e : y = z) (h : m x = some (.str y t)) (r : PsIn m ps) : PsIn m ((x, .str z t) :: ps) := ps_cons (e ▸ h) r

theorem ps_int {m : Str → Option Value} {x : Str} {y z : Int} {t : Tok} {ps : List (Str × Value)} (e : y = z) (h : m x = some (.int y t)) (r : PsIn m ps) : PsIn m ((x, .int z t) :: ps) := ps_cons (e ▸ h) r

noncomputable def WEnd {σ : Type} (h₀ : Heap) (L : Addr) (s : Shared) (ps : σ → List (Str × Value)) (Led : σ → List (Addr × Obj)) (P : σ → Prop) (μ : σ → Nat) (n : Nat) (s₂ : Shared) : Prop :=
  ∃ (c' : σ) (h' : Heap) (tk : Nat) (m' : Str → Option Value) (news' : List (Addr × Obj)), s₂ = { s with heap := h', toks := tk } ∧ Fr h₀ L h' m' ∧ News h₀ L h' news' ∧ (∀ p ∈ Led c', p ∈ news') ∧ PsIn m' (ps c') ∧ P c' ∧ μ c' < n
noncomputable def WPost {σ : Type} (h₀ : Heap) (L : Addr) (s : Shared) (ps : σ → List (Str × Value)) (Led : σ → List (Addr × Obj)) (P : σ → Prop) (μ : σ → Nat) (Q : Flow → Shared → Prop) (n : Nat) (f : Flow) (s₂ : Shared) : Prop :=
  match f with
  | .ret v => Q (.ret v) s₂
  | .brk => Q .next s₂
  | _ => WEnd h₀ L s ps Led P μ n s₂

section
variable {prog : Program} {w : World} {A : Around} {E : Value → Shared → Prop} {Q : Flow → Shared → Prop} {s : Shared} {env : Env} {h₀ : Heap} {L : Addr}

theorem WEnd.intro {σ : Type} {ps : σ → List (Str × Value)} {Led : σ → List (Addr × Obj)} {P : σ → Prop} {μ : σ → Nat} {n : Nat} {h' : Heap} {tk : Nat} {m' : Str → Option Value} {news' : List (Addr × Obj)} (c' : σ)
    (F : Fr h₀ L h' m') (N : News h₀ L h' news') (hn : ∀ p ∈ Led c', p ∈ news') (hk : PsIn m' (ps c')) (hp : P c') (hm : μ c' < n) :
    WEnd h₀ L s ps Led P μ n { s with heap := h', toks := tk } := ⟨c', h', tk, m', news', rfl, F, N, hn, hk, hp, hm⟩

theorem while_ps {σ : Type} {test : Expr} {body : List Stmt} {pos : Pos} {m : Str → Option Value} {news : List (Addr × Obj)}
    (ps : σ → List (Str × Value)) (Led : σ → List (Addr × Obj)) (P R : σ → Prop) (μ : σ → Nat) (c₀ : σ)
    (F : Fr h₀ L s.heap m) (N : News h₀ L s.heap news) (hn : ∀ p ∈ Led c₀, p ∈ news) (hk : PsIn m (ps c₀)) (hp : P c₀)
    (turn : ∀ (c : σ) (u : Str → Option Value) (h : Heap) (tk : Nat), P c → Fr h₀ L h (kstB u (ps c)) → News h₀ L h (Led c) →
      wpAny (model prog w) A (isTrue test env (eval test env)) (fun b s₂ =>
        if b = true then wpAny (model prog w) A (execs body env) (WPost h₀ L s ps Led P μ Q (μ c)) E s₂ else WEnd h₀ L s ps Led R (fun _ => 0) 1 s₂) E { s with heap := h, toks := tk })
    (fin : ∀ (c : σ) (u : Str → Option Value) (h : Heap) (tk : Nat), R c → Fr h₀ L h (kstB u (ps c)) → News h₀ L h (Led c) → Q .next { s with heap := h, toks := tk })
    (hE : PassesOwn (model prog w) A env E := by passes_own) :
    wpAny (model prog w) A (exec (.While test body [] pos) env) Q E s := by
  refine While_inv2 (fun n m nx => ∃ c : σ, μ c = n ∧ (∀ p ∈ Led c, p ∈ nx) ∧ PsIn m (ps c) ∧ P c) F N ⟨c₀, rfl, hn, hk, hp⟩ ?_ hE
  rintro n m₁ nx h tk F₁ N₁ ⟨c, hsz, hl, h1, hp'⟩
  subst hsz
  refine wpAny_mono (turn c m₁ h tk hp' (fr_ps F₁ h1) (fun p hp => N₁ p (hl p hp))) (fun b s₂ p => ?_) fun _ _ x => x
  cases b with
  | false =>
    simp only [Bool.false_eq_true, if_false] at p ⊢
    obtain ⟨c', h', tk', m', news', rfl, F', N', hn', hk', hp9, _⟩ := p
    exact fin c' m' h' tk' hp9 (fr_ps F' hk') (fun p hp => N' p (hn' p hp))
  | true =>
    simp only [if_true] at p ⊢
    refine wpAny_mono p (fun f s₃ q => ?_) fun _ _ x => x
    cases f with
    | ret v => exact q
    | brk => exact q
    | next =>
      obtain ⟨c', h', tk', m', news', rfl, F', N', hn', hk', hp9, hm9⟩ := q
      exact ⟨h', tk', m', news', μ c', rfl, F', N', hm9, c', rfl, hn', hk', hp9⟩
    | cont =>
      obtain ⟨c', h', tk', m', news', rfl, F', N', hn', hk', hp9, hm9⟩ := q
      exact ⟨h', tk', m', news', μ c', rfl, F', N', hm9, c', rfl, hn', hk', hp9⟩

noncomputable def Seq (prog : Program) (w : World) (A : Around) (rest : List Stmt) (env : Env) (Q : Flow → Shared → Prop) (E : Value → Shared → Prop) (f : Flow) (s' : Shared) : Prop :=
  match f with
  | .next => wpAny (model prog w) A (execs rest env) Q E s'
  | f => Q f s'
theorem execs_cons' {st : Stmt} {rest : List Stmt} (h : wpAny (model prog w) A (exec st env) (Seq prog w A rest env Q E) E s) : wpAny (model prog w) A (execs (st :: rest) env) Q E s :=
  wpAny_execs_cons (wpAny_mono h (fun f _ q => by cases f <;> exact q) fun _ _ x => x)
theorem Seq.next {rest : List Stmt} (h : wpAny (model prog w) A (execs rest env) Q E s) : Seq prog w A rest env Q E .next s := h
theorem Seq.ret {rest : List Stmt} {v : Value} (h : Q (.ret v) s) : Seq prog w A rest env Q E (.ret v) s := h
theorem Seq.brk {rest : List Stmt} (h : Q .brk s) : Seq prog w A rest env Q E .brk s := h
theorem Seq.cont {rest : List Stmt} (h : Q .cont s) : Seq prog w A rest env Q E .cont s := h

noncomputable def SPost {σ : Type} (h₀ : Heap) (L : Addr) (s : Shared) (ps : σ → List (Str × Value)) (Led : σ → List (Addr × Obj)) (R : σ → Prop) (f : Flow) (s₂ : Shared) : Prop :=
  match f with
  | .next => WEnd h₀ L s ps Led R (fun _ => 0) 1 s₂
  | _ => False

theorem stmt_ps {σ : Type} {st : Stmt} {rest : List Stmt} {m : Str → Option Value} (_F : Fr h₀ L s.heap m)
    (ps : σ → List (Str × Value)) (Led : σ → List (Addr × Obj)) (R : σ → Prop)
    (h1 : wpAny (model prog w) A (exec st env) (SPost h₀ L s ps Led R) E s)
    (fin : ∀ (c : σ) (u : Str → Option Value) (h : Heap) (tk : Nat), R c → Fr h₀ L h (kstB u (ps c)) → News h₀ L h (Led c) → wpAny (model prog w) A (execs rest env) Q E { s with heap := h, toks := tk }) :
    wpAny (model prog w) A (execs (st :: rest) env) Q E s := by
  refine wpAny_execs_cons (wpAny_mono h1 (fun f s₂ h => ?_) fun _ _ x => x)
  cases f with
  | next =>
    obtain ⟨c', h', tk', m', news', rfl, F', N', hn', hk', hp9, _⟩ := h
    exact fin c' m' h' tk' hp9 (fr_ps F' hk') (fun p hp => N' p (hn' p hp))
  | brk => exact h.elim
  | cont => exact h.elim
  | ret v => exact h.elim

noncomputable def FPost {σ : Type} (h₀ : Heap) (L : Addr) (s : Shared) (ps : σ → List (Str × Value)) (Led : σ → List (Addr × Obj)) (tl : List (Addr × Obj)) (J : σ → Prop) (Q : Flow → Shared → Prop) (f : Flow) (s₂ : Shared) : Prop :=
  match f with
  | .ret v => Q (.ret v) s₂
  | .brk => Q .next s₂
  | _ => WEnd h₀ L s ps (fun c => Led c ++ tl) J (fun _ => 0) 1 s₂

theorem FPost.ret {σ : Type} {ps : σ → List (Str × Value)} {Led : σ → List (Addr × Obj)} {tl : List (Addr × Obj)} {J : σ → Prop} {s₂ : Shared} {v : Value} (h : Q (.ret v) s₂) : FPost h₀ L s ps Led tl J Q (.ret v) s₂ := h
theorem FPost.brk {σ : Type} {ps : σ → List (Str × Value)} {Led : σ → List (Addr × Obj)} {tl : List (Addr × Obj)} {J : σ → Prop} {s₂ : Shared} (h : Q .next s₂) : FPost h₀ L s ps Led tl J Q .brk s₂ := h
theorem WPost.ret {σ : Type} {ps : σ → List (Str × Value)} {Led : σ → List (Addr × Obj)} {P : σ → Prop} {μ : σ → Nat} {n : Nat} {s₂ : Shared} {v : Value} (h : Q (.ret v) s₂) : WPost h₀ L s ps Led P μ Q n (.ret v) s₂ := h
theorem loop_ps {σ : Type} {x : Str} {body : List Stmt} {I : Addr} {fp wr : List Addr} {n : Nat} {P : Nat → Value → Prop} {St : Nat → Heap → Prop} {m : Str → Option Value} {news : List (Addr × Obj)}
    (W : Walks prog w A I fp wr n P St) (ps : σ → List (Str × Value)) (Led : σ → List (Addr × Obj)) (J : Nat → σ → Prop) (c₀ : σ)
    (hLf : env.locals ∉ fp) (hwr : ∀ b ∈ wr, h₀.get? b = none) (hfpL : ∀ b ∈ fp, b ∉ (Led c₀).map (·.1)) (hadr : ∀ c, (Led c).map (·.1) = (Led c₀).map (·.1))
    (hnw : ∀ p ∈ news, p.1 ∉ wr) (happ : ∀ p ∈ news, p.1 ∉ (Led c₀).map (·.1))
    (hst : St 0 s.heap) (F : Fr h₀ env.locals s.heap m) (N : News h₀ env.locals s.heap (Led c₀ ++ news)) (hk : PsIn m (ps c₀)) (h0 : J 0 c₀)
    (turn : ∀ (i : Nat) (v : Value) (c : σ) (u : Str → Option Value) (h : Heap) (tk : Nat) (tl : List (Addr × Obj)), i < n → P i v → J i c → (∀ p ∈ news, p ∈ tl) → (∀ p ∈ tl, p.1 ∉ (Led c₀).map (·.1)) →
      Fr h₀ env.locals h (fun y => if y = x then some v else kstB u (ps c) y) → News h₀ env.locals h (Led c ++ tl) →
      wpAny (model prog w) A (execs body env) (FPost h₀ env.locals s ps Led tl (J (i + 1)) Q) E { s with heap := h, toks := tk })
    (fin : ∀ (c : σ) (u : Str → Option Value) (h : Heap) (tk : Nat), J n c → Fr h₀ env.locals h (kstB u (ps c)) → News h₀ env.locals h (Led c ++ news) → Q .next { s with heap := h, toks := tk }) :
    LoopAtV prog w A h₀ env x body Q E (.ref I) s := by
  have off : ∀ c, ∀ p ∈ Led c ++ news, p.1 ∉ wr := fun c p hp => by
    rcases List.mem_append.mp hp with h | h
    · intro hb
      refine hfpL p.1 (W.sub _ hb) ?_
      rw [← hadr c]
      exact List.mem_map.mpr ⟨p, h, rfl⟩
    · exact hnw p h
  refine ⟨I, fp, wr, n, P, St, m, Led c₀ ++ news, (fun i m₁ nx => ∃ c, nx = Led c ++ news ∧ PsIn m₁ (ps c) ∧ J i c), rfl, W, hLf, hwr, off c₀, hst, F, N, ⟨c₀, rfl, hk, h0⟩, ?_, ?_⟩
  · rintro i v m₁ nx s₁ own ⟨h, tk, rfl⟩ hin hP ⟨c, rfl, hk', hJ⟩ hoff hown _ _ _ F₁ N₁
    have Ntl : News h₀ env.locals h (Led c ++ (own ++ news)) := fun p hp => N₁ p (by
      rcases List.mem_append.mp hp with h | h
      · exact List.mem_append_right _ (List.mem_append_left _ h)
      · rcases List.mem_append.mp h with h | h
        · exact List.mem_append_left _ h
        · exact List.mem_append_right _ (List.mem_append_right _ h))
    have Fk : Fr h₀ env.locals h (fun y => if y = x then some v else kstB m₁ (ps c) y) := by rw [kst_self hk']; exact F₁
    refine wpAny_mono (turn i v c m₁ h tk (own ++ news) hin hP hJ (fun p hp => List.mem_append_right _ hp) (fun p hp => ?_) Fk Ntl) (fun f s₂ q => ?_) fun _ _ e => e
    · rcases List.mem_append.mp hp with h | h
      · exact hfpL _ (hown p h)
      · exact happ p h
    · have conv : WEnd h₀ env.locals s ps (fun c => Led c ++ (own ++ news)) (J (i + 1)) (fun _ => 0) 1 s₂ →
          LoopStepU h₀ env.locals wr own (fun m₁ nx => ∃ c, nx = Led c ++ news ∧ PsIn m₁ (ps c) ∧ J (i + 1) c) { s with heap := h, toks := tk } .next s₂ := by
        rintro ⟨c', h', tk', m', news', rfl, F', N', hn', hk9, hJ9, _⟩
        refine ⟨rfl, h', tk', m', Led c' ++ news, rfl, F', fun p hp => N' p (hn' p ?_), off c', c', rfl, hk9, hJ9⟩
        rcases List.mem_append.mp hp with h | h
        · exact List.mem_append_right _ (List.mem_append_left _ h)
        · rcases List.mem_append.mp h with h | h
          · exact List.mem_append_left _ h
          · exact List.mem_append_right _ (List.mem_append_right _ h)
      cases f with
      | ret v => exact .ret q
      | brk => exact .brk q
      | next => exact .next (conv q)
      | cont => exact .cont (conv q)
  · rintro h' tk m' nx F' N' _ ⟨c, rfl, hk', hJ⟩
    exact fin c m' h' tk hJ (fr_ps F' hk') N'

theorem iter_range_ps0 {σ : Type} {x : Str} {body : List Stmt} {r : Addr} {a b : Int} {t₀ u₀ v₀ : Tok} {n : Nat} {m : Str → Option Value} {news : List (Addr × Obj)}
    (hh : A.handled = none) (hr : IsRange s.heap r a b 1 t₀ u₀ v₀) (hsmall : Builtin.Range.small a b 1 = true) (hn : Builtin.Range.rangeSize a b 1 = (n : Int))
    (ps : σ → List (Str × Value)) (Led : σ → List (Addr × Obj)) (J : Nat → σ → Prop) (c₀ : σ) (hadr : ∀ c, (Led c).map (·.1) = (Led c₀).map (·.1))
    (F : Fr h₀ env.locals s.heap m) (N : News h₀ env.locals s.heap (Led c₀ ++ news)) (happ : ∀ p ∈ news, p.1 ∉ (Led c₀).map (·.1)) (hk : PsIn m (ps c₀)) (h0 : J 0 c₀)
    (turn : ∀ (i : Nat) (t : Tok) (c : σ) (u : Str → Option Value) (h : Heap) (tk : Nat) (tl : List (Addr × Obj)), i < n → J i c → (∀ p ∈ news, p ∈ tl) → (∀ p ∈ tl, p.1 ∉ (Led c₀).map (·.1)) →
      Fr h₀ env.locals h (fun y => if y = x then some (.int (a + i) t) else kstB u (ps c) y) → News h₀ env.locals h (Led c ++ tl) →
      wpAny (model prog w) A (execs body env) (FPost h₀ env.locals s ps Led tl (J (i + 1)) Q) E { s with heap := h, toks := tk })
    (fin : ∀ (c : σ) (u : Str → Option Value) (h : Heap) (tk : Nat), J n c → Fr h₀ env.locals h (kstB u (ps c)) → News h₀ env.locals h (Led c ++ news) → Q .next { s with heap := h, toks := tk }) :
    wpAny (model prog w) A (pyIter (.ref r)) (fun it s₂ => LoopAtV prog w A h₀ env x body Q E it s₂) E s := by
  refine wpAny_pyIter_range hr hsmall ?_
  have old : ∀ p ∈ Led c₀ ++ news, p.1 < s.heap.objs.size := fun p hp => Heap.lt_size (N p hp).1
  refine loop_ps (s := { s with heap := _ }) (Walks.range hh s.heap.objs.size a 1 n) ps Led J c₀ ?_ ?_ ?_ hadr ?_ happ (by show IsRangeIter _ _ _ _ _; rw [hn]; simpa using Heap.get?_push_size _ rfl) (F.push _) (fun p hp => ⟨Heap.get?_push_of_some _ (N p hp).1, (N p hp).2⟩) hk h0 ?_ ?_
  · intro hm
    exact absurd F.ns.lt ((List.mem_singleton.mp hm) ▸ Nat.lt_irrefl _)
  · intro b hb
    rw [List.mem_singleton.mp hb]
    exact next_is_new F
  · intro b hb hI
    obtain ⟨p, hp, e⟩ := List.mem_map.mp hI
    have := old p (List.mem_append_left _ hp)
    rw [List.mem_singleton.mp hb] at e
    exact absurd this (e ▸ Nat.lt_irrefl _)
  · intro p hp hI
    have := old p (List.mem_append_right _ hp)
    rw [List.mem_singleton.mp hI] at this
    exact absurd this (Nat.lt_irrefl _)
  · rintro i v c u h tk tl hin ⟨t, rfl⟩ hJ hsub hap F₁ N₁
    have e : a + (i : Int) * 1 = a + i := by omega
    rw [e] at F₁
    exact turn i t c u h tk tl hin hJ hsub hap F₁ N₁
  · exact fin

theorem iter_range_ps {σ : Type} {L : Addr} {x : Str} {body : List Stmt} {r : Addr} {a b : Int} {t₀ u₀ v₀ : Tok} {n : Nat} {m : Str → Option Value} {news : List (Addr × Obj)}
    (hh : A.handled = none) (hr : IsRange s.heap r a b 1 t₀ u₀ v₀) (hsmall : Builtin.Range.small a b 1 = true) (hn : Builtin.Range.rangeSize a b 1 = (n : Int))
    (ps : σ → List (Str × Value)) (Led : σ → List (Addr × Obj)) (J : Nat → σ → Prop) (c₀ : σ) (hadr : ∀ c, (Led c).map (·.1) = (Led c₀).map (·.1))
    (F : Fr h₀ L s.heap m) (N : News h₀ L s.heap (Led c₀ ++ news)) (happ : ∀ p ∈ news, p.1 ∉ (Led c₀).map (·.1)) (hk : PsIn m (ps c₀)) (h0 : J 0 c₀)
    (turn : ∀ (i : Nat) (t : Tok) (c : σ) (u : Str → Option Value) (h : Heap) (tk : Nat) (tl : List (Addr × Obj)), i < n → J i c → (∀ p ∈ news, p ∈ tl) → (∀ p ∈ tl, p.1 ∉ (Led c₀).map (·.1)) →
      Fr h₀ L h (fun y => if y = x then some (.int (a + i) t) else kstB u (ps c) y) → News h₀ L h (Led c ++ tl) →
      wpAny (model prog w) A (execs body env) (FPost h₀ L s ps Led tl (J (i + 1)) Q) E { s with heap := h, toks := tk })
    (fin : ∀ (c : σ) (u : Str → Option Value) (h : Heap) (tk : Nat), J n c → Fr h₀ L h (kstB u (ps c)) → News h₀ L h (Led c ++ news) → Q .next { s with heap := h, toks := tk })
    (hL : env.locals = L := by rfl) :
    wpAny (model prog w) A (pyIter (.ref r)) (fun it s₂ => LoopAtV prog w A h₀ env x body Q E it s₂) E s := by
  subst hL
  exact iter_range_ps0 hh hr hsmall hn ps Led J c₀ hadr F N happ hk h0 turn fin

theorem iter_list_ps0 {σ : Type} {x : Str} {body : List Stmt} {l : Addr} {vs : List Value} {m : Str → Option Value} {news : List (Addr × Obj)}
    (hh : A.handled = none) (hl : s.heap.IsList l vs.toArray) (hlL : l ≠ env.locals)
    (ps : σ → List (Str × Value)) (Led : σ → List (Addr × Obj)) (J : Nat → σ → Prop) (c₀ : σ) (hadr : ∀ c, (Led c).map (·.1) = (Led c₀).map (·.1)) (hlA : l ∉ (Led c₀).map (·.1))
    (F : Fr h₀ env.locals s.heap m) (N : News h₀ env.locals s.heap (Led c₀ ++ news)) (happ : ∀ p ∈ news, p.1 ∉ (Led c₀).map (·.1)) (hk : PsIn m (ps c₀)) (h0 : J 0 c₀)
    (turn : ∀ (i : Nat) (v : Value) (c : σ) (u : Str → Option Value) (h : Heap) (tk : Nat) (tl : List (Addr × Obj)), i < vs.length → vs[i]? = some v → J i c → (∀ p ∈ news, p ∈ tl) → (∀ p ∈ tl, p.1 ∉ (Led c₀).map (·.1)) →
      Fr h₀ env.locals h (fun y => if y = x then some v else kstB u (ps c) y) → News h₀ env.locals h (Led c ++ tl) →
      wpAny (model prog w) A (execs body env) (FPost h₀ env.locals s ps Led tl (J (i + 1)) Q) E { s with heap := h, toks := tk })
    (fin : ∀ (c : σ) (u : Str → Option Value) (h : Heap) (tk : Nat), J vs.length c → Fr h₀ env.locals h (kstB u (ps c)) → News h₀ env.locals h (Led c ++ news) → Q .next { s with heap := h, toks := tk }) :
    wpAny (model prog w) A (pyIter (.ref l)) (fun it s₂ => LoopAtV prog w A h₀ env x body Q E it s₂) E s := by
  obtain ⟨ol, hol, _⟩ := id hl
  have hlt : l < s.heap.objs.size := Heap.lt_size hol
  have hne : l ≠ s.heap.objs.size := Nat.ne_of_lt hlt
  refine wpAny_pyIter_list hl ?_
  have W := Walks.list (prog := prog) (w := w) hh s.heap.objs.size l hne vs.toArray
  have old : ∀ p ∈ Led c₀ ++ news, p.1 < s.heap.objs.size := fun p hp => Heap.lt_size (N p hp).1
  have hsz : vs.toArray.size = vs.length := by simp
  refine loop_ps (s := { s with heap := _ }) W ps Led J c₀ ?_ ?_ ?_ hadr ?_ happ ⟨⟨_, Heap.get?_push_size _ rfl, rfl, rfl⟩, hl.at fun o e => Heap.get?_push_of_some _ e⟩ (F.push _) (fun p hp => ⟨Heap.get?_push_of_some _ (N p hp).1, (N p hp).2⟩) hk h0 ?_ ?_
  · intro hm
    rcases List.mem_cons.mp hm with e | hm
    · exact absurd F.ns.lt (e ▸ Nat.lt_irrefl _)
    · exact hlL (List.mem_singleton.mp hm).symm
  · intro b hb
    rw [List.mem_singleton.mp hb]
    exact next_is_new F
  · intro b hb hI
    rcases List.mem_cons.mp hb with e | hb
    · obtain ⟨p, hp, e'⟩ := List.mem_map.mp hI
      have := old p (List.mem_append_left _ hp)
      rw [e] at e'
      exact absurd this (e' ▸ Nat.lt_irrefl _)
    · rw [List.mem_singleton.mp hb] at hI
      exact hlA hI
  · intro p hp hI
    have := old p (List.mem_append_right _ hp)
    rw [List.mem_singleton.mp hI] at this
    exact absurd this (Nat.lt_irrefl _)
  · rintro i v c u h tk tl hin hv hJ hsub hap F₁ N₁
    exact turn i v c u h tk tl (hsz ▸ hin) (by simpa using hv) hJ hsub hap F₁ N₁
  · rw [hsz]; exact fin

theorem iter_list_ps {σ : Type} {L : Addr} {x : Str} {body : List Stmt} {l : Addr} {vs : List Value} {m : Str → Option Value} {news : List (Addr × Obj)}
    (hh : A.handled = none) (hl : s.heap.IsList l vs.toArray) (hlL : l ≠ L)
    (ps : σ → List (Str × Value)) (Led : σ → List (Addr × Obj)) (J : Nat → σ → Prop) (c₀ : σ) (hadr : ∀ c, (Led c).map (·.1) = (Led c₀).map (·.1)) (hlA : l ∉ (Led c₀).map (·.1))
    (F : Fr h₀ L s.heap m) (N : News h₀ L s.heap (Led c₀ ++ news)) (happ : ∀ p ∈ news, p.1 ∉ (Led c₀).map (·.1)) (hk : PsIn m (ps c₀)) (h0 : J 0 c₀)
    (turn : ∀ (i : Nat) (v : Value) (c : σ) (u : Str → Option Value) (h : Heap) (tk : Nat) (tl : List (Addr × Obj)), i < vs.length → vs[i]? = some v → J i c → (∀ p ∈ news, p ∈ tl) → (∀ p ∈ tl, p.1 ∉ (Led c₀).map (·.1)) →
      Fr h₀ L h (fun y => if y = x then some v else kstB u (ps c) y) → News h₀ L h (Led c ++ tl) →
      wpAny (model prog w) A (execs body env) (FPost h₀ L s ps Led tl (J (i + 1)) Q) E { s with heap := h, toks := tk })
    (fin : ∀ (c : σ) (u : Str → Option Value) (h : Heap) (tk : Nat), J vs.length c → Fr h₀ L h (kstB u (ps c)) → News h₀ L h (Led c ++ news) → Q .next { s with heap := h, toks := tk })
    (hL : env.locals = L := by rfl) :
    wpAny (model prog w) A (pyIter (.ref l)) (fun it s₂ => LoopAtV prog w A h₀ env x body Q E it s₂) E s := by
  subst hL
  exact iter_list_ps0 hh hl hlL ps Led J c₀ hadr hlA F N happ hk h0 turn fin

theorem for_at {x : Str} {px pos : Pos} {iter : Expr} {body : List Stmt} {m : Str → Option Value} (_F : Fr h₀ env.locals s.heap m) (hx : env.kindOf x = some .local)
    (hp : (env.scope.kind == .class || (env.scope.kind == .module && env.locals != env.globals)) = false)
    (h : wpAny (model prog w) A (eval iter env) (fun xv s₁ => wpAny (model prog w) A (pyIter xv) (fun it s₂ => LoopAtV prog w A h₀ env x body Q E it s₂) E s₁) E s)
    (hs : ∀ x, foldedSetIterable iter env x = pure x := by intro _; rfl)
    (hE : PassesOwn (model prog w) A env E := by passes_own) :
    wpAny (model prog w) A (exec (.For (.Name x px) iter body [] pos) env) Q E s := For_invV h₀ hx hp h hs hE
theorem own_off {tl : List (Addr × Obj)} {adr : List Addr} (h : ∀ p ∈ tl, p.1 ∉ adr) : OwnOff tl adr := fun p hp _ hb e => h p hp (e ▸ hb)
end

noncomputable def Claim (prog : Program) (w : World) (K : Frag) (p : Program) (loose : List Str) (mean : ExcName → Option Value) (mg mb : Str → Option Value) (f : Addr) (D U : Nat) (news : List (Addr × Obj)) (vs : List Value) (R : Tok → Value) : Prop :=
  ∀ (dp un : Nat) (gd : Option (List Code)) (cn : Str) (cs : Scope) (a : Addr) (ccd : Value) (cl : List (Str × Addr)) (outer : List Env) (A₀ : Around) (base h₀ : Heap) (L : Addr) (m : Str → Option Value) (s : Shared) (Q E : Value → Shared → Prop),
    Below A₀ base outer h₀ → Fr h₀ L s.heap m → K.In h₀ → News h₀ L s.heap news → Top p loose mean mg mb h₀ → cs.kind = .function →
    dp + D < recursionLimit → un + U < cLine → (∀ (t : Tok) (h' : Heap) (tk' : Nat), Fr h₀ L h' m → News h₀ L h' news → Q (R t) { s with heap := h', toks := tk' }) →
      wpAny (model prog w) (ktrTop dp un gd cn cs L a ccd cl outer) (call (.ref f) vs) Q E s
theorem Claim.use {prog : Program} {w : World} {K : Frag} {p : Program} {loose : List Str} {mean : ExcName → Option Value} {mg mb : Str → Option Value} {f : Addr} {D U : Nat} {news : List (Addr × Obj)} {vs : List Value} {R : Tok → Value}
    {dp un : Nat} {gd : Option (List Code)} {cn : Str} {cs : Scope} {a : Addr} {ccd : Value} {cl : List (Str × Addr)} {outer : List Env} {A₀ : Around} {base h₀ : Heap} {L : Addr} {m : Str → Option Value} {s : Shared} {Q E : Value → Shared → Prop}
    (hB : Below A₀ base outer h₀) (hF : Fr h₀ L s.heap m) (hX : K.In h₀) (hN : News h₀ L s.heap news) (hT : Top p loose mean mg mb h₀) (hc : cs.kind = .function)
    (C : Claim prog w K p loose mean mg mb f D U news vs R) (hd : dp + D < recursionLimit) (hu : un + U < cLine)
    (ret : ∀ (t : Tok) (h' : Heap) (tk' : Nat), Fr h₀ L h' m → News h₀ L h' news → Q (R t) { s with heap := h', toks := tk' }) :
    wpAny (model prog w) (ktrTop dp un gd cn cs L a ccd cl outer) (call (.ref f) vs) Q E s := C _ _ _ _ _ _ _ _ _ _ _ _ _ _ _ _ _ hB hF hX hN hT hc hd hu ret
theorem Claim.useE {prog : Program} {w : World} {K : Frag} {p : Program} {loose : List Str} {mean : ExcName → Option Value} {mg mb : Str → Option Value} {f : Addr} {D U : Nat} {news : List (Addr × Obj)} {vs vs' : List Value} {R : Tok → Value}
    {dp un : Nat} {gd : Option (List Code)} {cn : Str} {cs : Scope} {a : Addr} {ccd : Value} {cl : List (Str × Addr)} {outer : List Env} {A₀ : Around} {base h₀ : Heap} {L : Addr} {m : Str → Option Value} {s : Shared} {Q E : Value → Shared → Prop}
    (hB : Below A₀ base outer h₀) (hF : Fr h₀ L s.heap m) (hX : K.In h₀) (hN : News h₀ L s.heap news) (hT : Top p loose mean mg mb h₀) (hc : cs.kind = .function)
    (C : Claim prog w K p loose mean mg mb f D U news vs' R) (e : vs' = vs) (hd : dp + D < recursionLimit) (hu : un + U < cLine)
    (ret : ∀ (t : Tok) (h' : Heap) (tk' : Nat), Fr h₀ L h' m → News h₀ L h' news → Q (R t) { s with heap := h', toks := tk' }) :
    wpAny (model prog w) (ktrTop dp un gd cn cs L a ccd cl outer) (call (.ref f) vs) Q E s := e ▸ Claim.use hB hF hX hN hT hc C hd hu ret
theorem name_head {h₀ h : Heap} {L a : Addr} {o : Obj} {news : List (Addr × Obj)} {G : Prop} (_N : News h₀ L h ((a, o) :: news)) (k : ∀ a', a' = a → G) : G := k a rfl
theorem led_push {l : Addr} {us : List Value} {x : Value} {n : Nat} {tl : List (Addr × Obj)} {p : Addr × Obj} (hp : p ∈ (l, W.listOf (us ++ [x]).toArray n) :: tl) : p ∈ (l, W.listOf (us.toArray.push x) n) :: tl := by
  rwa [List.push_toArray]

section
variable {prog : Program} {w : World} {A : Around} {h₀ : Heap} {L : Addr} {m : Str → Option Value} {env : Env} {elt : Expr} {x : Str} {scope : Scope} {cl : List (Str × Addr)} {s : Shared} {S : List (Addr × Obj) → Prop} {P : Nat → Value → Prop} {Fin : List Value → List (Addr × Obj) → Prop}
theorem comp_rest {n : Nat} {news : List (Addr × Obj)} (J : Nat → List Value → List (Addr × Obj) → Prop) (h0 : J 0 [] news)
    (turn : ∀ (i : Nat) (v : Value) (I : Addr) (oI : Obj) (C : Addr) (oC : Obj) (D : Addr) (m₂ : Str → Option Value) (ys : List Value) (nw : List (Addr × Obj)) (h : Heap) (tk : Nat) (E' : Value → Shared → Prop), i < n → P i v → ys.length = i → J i ys nw → LCg.NsObj oC m₂ → m₂ x = some v → Fr h₀ L h m →
      News h₀ L h ((I, oI) :: (C, oC) :: (D, LCg.lst ys) :: nw) → LCg.Off3 I C D nw → ((@Ne Nat I C) ∧ (@Ne Nat I D) ∧ (@Ne Nat C D)) →
      wpAny (model prog w) A (eval elt (compEnvC scope cl C env)) (LCg.CompEnd h₀ L m { s with heap := h, toks := tk } I oI C oC D (LCg.lst ys) S (fun y nw' => J (i + 1) (ys ++ [y]) nw')) E' { s with heap := h, toks := tk })
    (fin : ∀ ys nw, ys.length = n → J n ys nw → Fin ys nw) : LCg.CompRest prog w A h₀ L m env elt x scope cl s S P Fin n 0 [] news := by
  have key : ∀ (j i : Nat) (ys : List Value) (nw : List (Addr × Obj)), i + j = n → ys.length = i → J i ys nw → LCg.CompRest prog w A h₀ L m env elt x scope cl s S P Fin j i ys nw := by
    intro j
    induction j with
    | zero =>
      intro i ys nw hi hl hJ
      have e : i = n := by omega
      subst e
      exact LCg.CompRest.zero (fin ys nw hl hJ)
    | succ j ih =>
      intro i ys nw hi hl hJ
      refine LCg.CompRest.succ ?_
      intro v I oI C oC D m₂ h tk E' hv hC hx F N off ne
      refine wpAny_mono (turn i v I oI C oC D m₂ ys nw h tk E' (by omega) hv hl hJ hC hx F N off ne) (fun y s₂ hq => ?_) fun _ _ e => e
      obtain ⟨h', tk', nw', e, F', N', off', hS, hJ'⟩ := hq
      exact ⟨h', tk', nw', e, F', N', off', hS, ih (i + 1) _ _ (by omega) (by simp [hl]) hJ'⟩
  exact key n 0 [] news (by omega) rfl h0
theorem comp_same {n : Nat} {news : List (Addr × Obj)} (J : Nat → List Value → Prop) (h0 : J 0 [])
    (turn : ∀ (i : Nat) (v : Value) (I : Addr) (oI : Obj) (C : Addr) (oC : Obj) (D : Addr) (m₂ : Str → Option Value) (ys : List Value) (h : Heap) (tk : Nat) (E' : Value → Shared → Prop), i < n → P i v → ys.length = i → J i ys → LCg.NsObj oC m₂ → m₂ x = some v → Fr h₀ L h m →
      News h₀ L h ((I, oI) :: (C, oC) :: (D, LCg.lst ys) :: news) → LCg.Off3 I C D news → ((@Ne Nat I C) ∧ (@Ne Nat I D) ∧ (@Ne Nat C D)) →
      wpAny (model prog w) A (eval elt (compEnvC scope cl C env)) (LCg.CompEnd h₀ L m { s with heap := h, toks := tk } I oI C oC D (LCg.lst ys) S (fun y nw' => nw' = news ∧ J (i + 1) (ys ++ [y]))) E' { s with heap := h, toks := tk })
    (fin : ∀ ys, ys.length = n → J n ys → Fin ys news) : LCg.CompRest prog w A h₀ L m env elt x scope cl s S P Fin n 0 [] news := by
  refine comp_rest (fun i ys nw => nw = news ∧ J i ys) ⟨rfl, h0⟩ ?_ ?_
  · rintro i v I oI C oC D m₂ ys nw h tk E' hi hv hl ⟨rfl, hJ⟩ hC hx F N off ne
    exact turn i v I oI C oC D m₂ ys h tk E' hi hv hl hJ hC hx F N off ne
  · rintro ys nw hl ⟨rfl, hJ⟩
    exact fin ys hl hJ
end

end
end

section
open PySem PySem.W PyProof.Rows
section
noncomputable def LawEnd (h₀ : Heap) (L : Addr) (s : Shared) (f : Flow) (s' : Shared) : Prop := ∃ h' tk nw m', f = .ret (.bool true) ∧ s' = { s with heap := h', toks := tk } ∧ Fr h₀ L h' m' ∧ News h₀ L h' nw
noncomputable def LawWalk (nm : Str) (sc : Scope) (body : List Stmt) : Prop := ∀ (w : World) (p : Program) (loose : List Str) (mean : ExcName → Option Value) (mg mb : Str → Option Value) (fa : Addr) (cd : Value) (h₀ : Heap) (L l : Addr) (u : Str → Option Value) (vs : List Value) (ns : List Int) (s : Shared) (oT oB oR oD oA : Obj) (vT vB vR vD vA : Option Value),
  Below callerA h₀ [] h₀ → Fr h₀ L s.heap (kstB u [("script", .ref l)]) → (Mine.hd.heap_39 w.params).In h₀ → News h₀ L s.heap [(L + 1 + 1 + 1 + 1 + 1, oT), (L + 1 + 1 + 1 + 1, oB), (L + 1 + 1 + 1, oR), (L + 1 + 1, oD), (L + 1, oA)] →
  oT.data = .cell vT → oB.data = .cell vB → oR.data = .cell vR → oD.data = .cell vD → oA.data = .cell vA → Top p loose mean mg mb h₀ →
  h₀.IsList l vs.toArray → IntsAre vs ns → ns.length ≤ 63 →
  wpAny (model Challenge.rw_nb0157_02.row.prog w) (callerA.deeper (envOfC nm sc L fa cd)) (execs body (envOfC nm sc L fa cd)) (LawEnd h₀ L s) (fun _ _ => False) s
noncomputable def lawOf : { x : Str × Scope × List Stmt // LawWalk x.1 x.2.1 x.2.2 → PySem.Challenge.rw_nb0157_02.Holds } := ⟨(_, _, _), fun key => by
    refine Mine.hd ?_
    w_strict (k_go0; dsimp only at *; refine wpAny_mono (key _ _ _ _ _ _ _ _ _ _ _ _ _ _ _ _ _ _ _ _ _ _ _ _ _ (by k_asm) (fr_ps (by k_asm) (ps_cons rfl ps_nil)) (by k_asm) (by k_asm) (by assumption) (by assumption) (by assumption) (by assumption) (by assumption) (by k_asm) (by assumption) (by assumption) (by omega)) ?_ (fun _ _ h => False.elim h); rintro f s' ⟨h', tk, nw, m', rfl, rfl, F9, N9⟩; (k_end; wrow_close))⟩
end
end

theorem off_LTop2 : True := by
  w_top off
  trivial

section
open PySem PySem.W PyProof.Rows
section
noncomputable def preN : List Nat → List Nat → Nat
  | x :: xs, y :: ys => if x = y then preN xs ys + 1 else 0
  | _, _ => 0

theorem preN_le_left : ∀ a b : List Nat, preN a b ≤ a.length
  | [], _ => by simp [preN]
  | _ :: _, [] => by simp [preN]
  | x :: xs, y :: ys => by
    simp only [preN]; split
    · simp only [List.length_cons]; have := preN_le_left xs ys; omega
    · exact Nat.zero_le _
theorem preN_le_right : ∀ a b : List Nat, preN a b ≤ b.length
  | [], _ => by simp [preN]
  | _ :: _, [] => by simp [preN]
  | x :: xs, y :: ys => by
    simp only [preN]; split
    · simp only [List.length_cons]; have := preN_le_right xs ys; omega
    · exact Nat.zero_le _
theorem preN_more : ∀ {a b : List Nat} {k : Nat}, k ≤ preN a b → ∀ x, a[k]? = some x → b[k]? = some x → k + 1 ≤ preN a b
  | [], _, _, _, _, h, _ => by simp at h
  | _ :: _, [], _, _, _, _, h => by simp at h
  | x :: xs, y :: ys, 0, _, z, h1, h2 => by
    simp at h1 h2; subst h1; subst h2; simp [preN]
  | x :: xs, y :: ys, k + 1, hk, z, h1, h2 => by
    simp only [preN] at hk ⊢
    split at hk
    · rename_i e; rw [if_pos e]
      have := preN_more (a := xs) (b := ys) (k := k) (by omega) z (by simpa using h1) (by simpa using h2)
      omega
    · omega
theorem preN_stop : ∀ {a b : List Nat} {k : Nat}, k ≤ preN a b → (∀ x, a[k]? = some x → b[k]? = some x → False) → k = preN a b
  | [], _, _, hk, _ => by simp [preN] at hk ⊢; exact hk
  | _ :: _, [], _, hk, _ => by simp [preN] at hk ⊢; exact hk
  | x :: xs, y :: ys, 0, _, h => by
    simp only [preN]
    split
    · rename_i e; subst e; exact (h x rfl rfl).elim
    · rfl
  | x :: xs, y :: ys, k + 1, hk, h => by
    simp only [preN] at hk ⊢
    split at hk
    · rename_i e; rw [if_pos e]
      have := preN_stop (a := xs) (b := ys) (k := k) (by omega) (fun z h1 h2 => h z (by simpa using h1) (by simpa using h2))
      omega
    · omega

theorem item_nat {l : List Nat} {k : Nat} (h : k < l.length) : Txt.item ⟨l.toArray⟩ (k : Int) = ⟨#[l[k]]⟩ :=
  PyProof.Rows.item_meets (x := ⟨l.toArray⟩) (by omega) (by simp [h])
theorem item_neg {l : List Nat} {k : Nat} (h0 : 0 < k) (h : k ≤ l.length) : Txt.item ⟨l.toArray⟩ (-(k : Int)) = ⟨#[l[l.length - k]]⟩ := by
  have := beq_iff_eq.mp (item_closes_neg (x := ⟨l.toArray⟩) (i := -(k : Int)) (j := -(k : Int) + l.length) (by omega) (by simp [Str.length]; omega) (by simp [Str.length]))
  rw [this]
  have e : (-(k : Int) + (l.length : Int)).toNat = l.length - k := by omega
  rw [e]
  have h2 : l.length - k < l.length := by omega
  simp [Array.getD, h2]
theorem slice_drop {l : List Nat} {k : Nat} (h : k ≤ l.length) : Txt.slice ⟨l.toArray⟩ (some (k : Int)) none = ⟨(l.drop k).toArray⟩ := by
  rw [slice_from_eq (x := ⟨l.toArray⟩) (i := k) (b := l.length) (by omega) (by simp [Str.length]; omega) (by simp [Str.length])]
  congr 2
  simp only [Int.toNat_natCast]
  rw [List.take_of_length_le]
  rw [List.length_drop]; omega
theorem slice_neg {l : List Nat} {k : Nat} (h0 : 0 < k) (h : k ≤ l.length) : Txt.slice ⟨l.toArray⟩ none (some (-(k : Int))) = ⟨(l.take (l.length - k)).toArray⟩ := by
  have := beq_iff_eq.mp (slice_closes_to_neg (x := ⟨l.toArray⟩) (j := -(k : Int)) (k := -(k : Int) + l.length) (by omega) (by simp [Str.length]; omega) (by simp [Str.length]))
  rw [this]
  congr 2
  have e : (-(k : Int) + (l.length : Int) - 0).toNat = l.length - k := by omega
  rw [e]; simp
end
section
theorem lev1_more {a b : Str} {la lb : List Nat} {k : Nat} (ea : a = ⟨la.toArray⟩) (eb : b = ⟨lb.toArray⟩) (hk : k ≤ preN la lb) (h1 : k < la.length) (h2 : k < lb.length)
    (h : (Txt.item a (k : Int) == Txt.item b (k : Int)) = true) : k + 1 ≤ preN la lb := by
  subst ea; subst eb
  rw [item_nat h1, item_nat h2] at h
  have e : la[k] = lb[k] := by simpa using beq_iff_eq.mp h
  exact preN_more hk la[k] (by simp [h1]) (by rw [e]; simp [h2])
theorem lev1_stop {a b : Str} {la lb : List Nat} {k : Nat} (ea : a = ⟨la.toArray⟩) (eb : b = ⟨lb.toArray⟩) (hk : k ≤ preN la lb) (h1 : k < la.length) (h2 : k < lb.length)
    (h : (Txt.item a (k : Int) == Txt.item b (k : Int)) = false) : k = preN la lb := by
  subst ea; subst eb
  rw [item_nat h1, item_nat h2] at h
  refine preN_stop hk fun x hx hy => ?_
  have e1 : la[k] = x := by simpa [h1] using hx
  have e2 : lb[k] = x := by simpa [h2] using hy
  rw [e1, e2] at h
  simp at h
end
section
open PySem.Builtin PySem.Builtin.Str in
theorem slice_all (x : Str) : Txt.slice x none none = x := by
  have h : (strSliceIndices none none 1 x.length).length = x.length := by
    unfold strSliceIndices sliceRange
    simp only [show (1 : Int) > 0 by decide, if_true, List.length_map, List.length_range]
    split <;> (try simp only [Int.ediv_one]) <;> omega
  unfold Txt.slice
  rw [h]
  simp
section
variable {prog : Program} {w : World} {A : Around} {E : Value → Shared → Prop} {s : Shared} {h₀ : Heap} {L : Addr} {m : Str → Option Value} {news : List (Addr × Obj)} {Q : Value → Shared → Prop} {x : Str} {t : Tok} {value slice : PySem.Expr}
theorem slice_none (hF : Fr h₀ L s.heap m) (hN : News h₀ L s.heap news) (h : ∀ h' t' k, Fr h₀ L h' m → News h₀ L h' news → Q (.str x t') { s with heap := h', toks := k })
    (hs : subscripted slice false (.str x t) (.ref s.heap.objs.size) = operate [.ref s.heap.objs.size, .str x t] (getItem (.str x t) (.ref s.heap.objs.size)) := by with_unfolding_all rfl)
    (ht : ∀ r, letTemporaryGo value (.str x t) r = pure () := by intro _; with_unfolding_all rfl) (hsz : x.length ≤ sizeLine := by size_fits) :
    wpAny (model prog w) A (subscriptTail value slice (.str x t) (.ref s.heap.objs.size)) Q E { s with heap := s.heap.push { cls := .type "slice", data := .fields #[.none, .none, .none] } } :=
  slice_strN_nn hF hN (fun h' t' k a b => by rw [slice_all]; exact h h' t' k a b) hs ht hsz
end
theorem lev2_more {a b : Str} {la lb : List Nat} {j : Nat} (ea : a = ⟨la.toArray⟩) (eb : b = ⟨lb.toArray⟩) (hk : j ≤ preN la.reverse lb.reverse) (h1 : j < la.length) (h2 : j < lb.length) {i : Int} (hi : i = -(j : Int) - 1)
    (h : (Txt.item a i == Txt.item b i) = true) : j + 1 ≤ preN la.reverse lb.reverse := by
  subst ea; subst eb
  have e0 : i = -((j + 1 : Nat) : Int) := by omega
  rw [e0, item_neg (by omega) (by omega), item_neg (by omega) (by omega)] at h
  have e : la[la.length - (j + 1)] = lb[lb.length - (j + 1)] := by simpa using beq_iff_eq.mp h
  refine preN_more hk (la[la.length - (j + 1)]) ?_ ?_
  · rw [List.getElem?_reverse h1, List.getElem?_eq_getElem (by omega)]; congr 2; omega
  · rw [List.getElem?_reverse h2, List.getElem?_eq_getElem (by omega), e]; congr 2; omega
theorem lev2_stop {a b : Str} {la lb : List Nat} {j : Nat} (ea : a = ⟨la.toArray⟩) (eb : b = ⟨lb.toArray⟩) (hk : j ≤ preN la.reverse lb.reverse) (h1 : j < la.length) (h2 : j < lb.length) {i : Int} (hi : i = -(j : Int) - 1)
    (h : (Txt.item a i == Txt.item b i) = false) : j = preN la.reverse lb.reverse := by
  subst ea; subst eb
  have e0 : i = -((j + 1 : Nat) : Int) := by omega
  rw [e0, item_neg (by omega) (by omega), item_neg (by omega) (by omega)] at h
  refine preN_stop hk fun x hx hy => ?_
  rw [List.getElem?_reverse h1, List.getElem?_eq_getElem (by omega)] at hx
  rw [List.getElem?_reverse h2, List.getElem?_eq_getElem (by omega)] at hy
  have e1 : la[la.length - (j + 1)] = x := by rw [← Option.some.inj hx]; congr 1; omega
  have e2 : lb[lb.length - (j + 1)] = x := by rw [← Option.some.inj hy]; congr 1; omega
  rw [e1, e2] at h
  simp at h
end
end

section
open PySem PySem.W PyProof.Rows
section
noncomputable def subN (c x : Nat) : Int := if c = x then 0 else if Txt.lower ⟨#[c]⟩ = Txt.lower ⟨#[x]⟩ then 1 else 2
noncomputable def inn (c : Nat) : List Nat → List Int → Int → Int → Int → List Int × Int × Int
  | x :: xs, r :: rs, d, res, mn =>
    let res' := min (min res r + 2) (d + subN c x)
    let q := inn c xs rs r res' (if res' < mn then res' else mn)
    (res' :: q.1, q.2)
  | _, _, _, res, mn => ([], res, mn)
noncomputable def out (a : List Nat) (mc : Int) : List Nat → Nat → List Int → Int → Int
  | [], _, _, res => res
  | c :: cs, i, row, _ =>
    let q := inn c a row ((i : Int) * 2) ((i : Int) * 2) 9223372036854775807
    if q.2.2 > mc then mc + 1 else out a mc cs (i + 1) q.1 q.2.1
noncomputable def levA (a b : List Nat) : List Nat := if b.length < a.length then b else a
noncomputable def levB (a b : List Nat) : List Nat := if b.length < a.length then a else b
noncomputable def levT (a b : List Nat) (mc : Int) : Int :=
  if a.length = 0 ∨ b.length = 0 then 2 * ((a.length : Int) + b.length)
  else if 40 < a.length ∨ 40 < b.length then mc + 1
  else if mc < ((levB a b).length - (levA a b).length : Int) * 2 then mc + 1
  else out (levA a b) mc (levB a b) 0 (rangeInts 2 2 (levA a b).length) 0
noncomputable def levP (a b : List Nat) : List Nat × List Nat := (a.drop (preN a b), b.drop (preN a b))
noncomputable def levS (a b : List Nat) : List Nat × List Nat := (a.take (a.length - preN a.reverse b.reverse), b.take (b.length - preN a.reverse b.reverse))
noncomputable def levF (a b : List Nat) (mc : Int) : Int :=
  if a = b then 0 else levT (levS (levP a b).1 (levP a b).2).1 (levS (levP a b).1 (levP a b).2).2 mc

theorem levT_empty {a b : List Nat} {mc : Int} (h : a.length = 0 ∨ b.length = 0) : levT a b mc = 2 * ((a.length : Int) + b.length) := by
  unfold levT; rw [if_pos h]
theorem levT_long {a b : List Nat} {mc : Int} (h1 : a.length ≠ 0) (h2 : b.length ≠ 0) (h : 40 < a.length ∨ 40 < b.length) : levT a b mc = mc + 1 := by
  unfold levT; rw [if_neg (by omega), if_pos h]
theorem levT_far {a b : List Nat} {mc : Int} (h1 : a.length ≠ 0) (h2 : b.length ≠ 0) (h3 : ¬ 40 < a.length) (h4 : ¬ 40 < b.length) (h : mc < ((levB a b).length - (levA a b).length : Int) * 2) : levT a b mc = mc + 1 := by
  unfold levT; rw [if_neg (by omega), if_neg (by omega), if_pos h]
theorem levT_dp {a b : List Nat} {mc : Int} (h1 : a.length ≠ 0) (h2 : b.length ≠ 0) (h3 : ¬ 40 < a.length) (h4 : ¬ 40 < b.length) (h : ¬ mc < ((levB a b).length - (levA a b).length : Int) * 2) :
    levT a b mc = out (levA a b) mc (levB a b) 0 (rangeInts 2 2 (levA a b).length) 0 := by
  unfold levT; rw [if_neg (by omega), if_neg (by omega), if_neg h]
theorem levF_ne {a b : List Nat} {mc : Int} {k j : Nat} {a1 b1 a2 b2 : List Nat} (h : a ≠ b) (hk : k = preN a b) (e1 : a1 = a.drop k) (e2 : b1 = b.drop k) (hj : j = preN a1.reverse b1.reverse) (e3 : a1.take (a1.length - j) = a2) (e4 : b1.take (b1.length - j) = b2) :
    levF a b mc = levT a2 b2 mc := by
  subst hk; subst e1; subst e2; subst hj; subst e3; subst e4
  unfold levF; rw [if_neg h]; rfl
end
section
section
variable {prog : Program} {w : World} {A : Around} {E : Value → Shared → Prop} {s : Shared} {h₀ : Heap} {L : Addr} {m : Str → Option Value} {news : List (Addr × Obj)}
theorem ints_of_items {a c : Int} : ∀ {us : List Value} {n : Nat}, us.length = n → (∀ (j : Nat) (v : Value), us[j]? = some v → ∃ t, v = Value.int (a + j * c) t) → IntsAre us (rangeInts a c n) := by
  intro us n hn h
  subst hn
  have key : ∀ (us : List Value) (k : Nat), (∀ (j : Nat) (v : Value), us[j]? = some v → ∃ t, v = Value.int (a + ((k + j : Nat) : Int) * c) t) → IntsAre us ((List.range' k us.length).map fun i => a + (i : Nat) * c) := by
    intro us
    induction us with
    | nil => intro k _; exact .nil
    | cons v r ih =>
      intro k h
      obtain ⟨t, rfl⟩ := h 0 v rfl
      have := ih (k + 1) (fun j v hv => by have := h (j + 1) v (by simpa using hv); rwa [show k + (j + 1) = k + 1 + j by omega] at this)
      simpa [List.range'_succ] using IntsAre.cons (a + ((k : Nat) : Int) * c) t this
  have := key us 0 (fun j v hv => by simpa using h j v hv)
  unfold rangeInts
  rw [List.range_eq_range']
  exact this
theorem list_range_led {r : Addr} {a b c : Int} {t u v : Tok} {n : Nat} {Q : Value → Shared → Prop} (hh : A.handled = none) (F : Fr h₀ L s.heap m) (N : News h₀ L s.heap news) (hr : IsRange s.heap r a b c t u v) (hsmall : Builtin.Range.small a b c = true) (hn : Builtin.Range.rangeSize a b c = (n : Int)) (hz : n ≤ 2 ^ 24)
    (h : ∀ D us c' h' tk, Fr h₀ L h' m → News h₀ L h' ((D, listOf (List.toArray us) c') :: news) → (∀ p ∈ news, p.1 < D) → IntsAre us (rangeInts a c n) → Q (.ref D) { s with heap := h', toks := tk }) :
    wpAny (model prog w) A (call (.type "list") [.ref r]) Q E s := by
  refine call_list_range hh hr hsmall hn hz fun h' tk acc c hk hD hI => ?_
  have hD' : h'.get? s.heap.objs.size = some (listOf (List.toArray acc.toList) c) := by
    rw [Array.toArray_toList]
    exact hD
  exact h _ acc.toList c h' tk (F.keeps hk) (news_pushed F N hk hD' rfl) (fun p hp => Heap.lt_size (N p hp).1) (ints_of_items (by rw [Array.length_toList]; exact hI.1) fun j v hj => hI.2 j v (by rw [← hj, Array.getElem?_toList]))
theorem size_two (n : Nat) : Builtin.Range.rangeSize 2 (2 * ((n : Int) + 1)) 2 = n := by
  unfold Builtin.Range.rangeSize
  rw [if_pos (by decide)]
  split
  · have : (2 * ((n : Int) + 1) - 2 - 1) = 2 * n - 1 := by omega
    rw [this]; omega
  · omega
theorem fits62 {i : Int} (h1 : -4611686018427387904 ≤ i) (h2 : i < 4611686018427387904) : Builtin.Range.rangeFitsLong i = true := by
  unfold Builtin.Range.rangeFitsLong
  rw [Bool.and_eq_true]
  exact ⟨decide_eq_true (by omega), decide_eq_true (by omega)⟩
theorem small_two {n : Nat} (hn : n ≤ 4096) : Builtin.Range.small 2 (2 * ((n : Int) + 1)) 2 = true := by
  unfold Builtin.Range.small
  rw [size_two, fits62 (by omega) (by omega), fits62 (i := 2 * ((n : Int) + 1)) (by omega) (by omega), fits62 (i := (n : Int)) (by omega) (by omega)]
  rw [if_pos (by decide), fits62 (by omega) (by omega)]
  simp
end
end
section
noncomputable def InnAt (c : Nat) (a : List Nat) (row0 : List Int) (d0 mn0 : Int) (i : Nat) (row : List Int) (dist res mn : Int) : Prop :=
  row.length = a.length ∧ inn c a row0 d0 d0 mn0 = (row.take i ++ (inn c (a.drop i) (row.drop i) dist res mn).1, (inn c (a.drop i) (row.drop i) dist res mn).2)
theorem InnAt.start {c : Nat} {a : List Nat} {row0 : List Int} {d0 mn0 : Int} (h : row0.length = a.length) : InnAt c a row0 d0 mn0 0 row0 d0 d0 mn0 := ⟨h, by simp⟩
theorem InnAt.step {c : Nat} {a : List Nat} {row0 : List Int} {d0 mn0 : Int} {i : Nat} {row : List Int} {dist res mn : Int} (h : InnAt c a row0 d0 mn0 i row dist res mn) (hi : i < a.length)
    {r x res' mn' : _} (hr : r = row.getD i 0) (hx : x = a.getD i 0) (hres : res' = min (min res r + 2) (dist + subN c x)) (hmn : mn' = if res' < mn then res' else mn) :
    InnAt c a row0 d0 mn0 (i + 1) (row.set i res') r res' mn' := by
  obtain ⟨hl, he⟩ := h
  have hi' : i < row.length := by omega
  refine ⟨by simpa using hl, ?_⟩
  rw [he]
  have e1 : a.drop i = x :: a.drop (i + 1) := by
    rw [List.drop_eq_getElem_cons hi, hx]; simp [hi]
  have e2 : row.drop i = r :: row.drop (i + 1) := by
    rw [List.drop_eq_getElem_cons hi', hr]; simp [hi']
  rw [e1, e2]
  simp only [inn]
  rw [← hres, ← hmn]
  have e3 : (row.set i res').drop (i + 1) = row.drop (i + 1) := by
    rw [List.drop_set_of_lt (by omega)]
  have e4 : (row.set i res').take (i + 1) = row.take i ++ [res'] := by
    rw [List.take_add_one, List.take_set_of_le (by omega)]
    simp [hi']
  rw [e3, e4]
  simp
theorem InnAt.done {c : Nat} {a : List Nat} {row0 : List Int} {d0 mn0 : Int} {row : List Int} {dist res mn : Int} (h : InnAt c a row0 d0 mn0 a.length row dist res mn) : inn c a row0 d0 d0 mn0 = (row, res, mn) := by
  obtain ⟨hl, he⟩ := h
  rw [he]
  simp [inn, ← hl]
theorem out_stop {a : List Nat} {mc : Int} {b : List Nat} {i : Nat} {row row' : List Int} {res res' mn : Int} {x : Nat} (hi : i < b.length) (hx : x = b.getD i 0) (h : inn x a row ((i : Int) * 2) ((i : Int) * 2) 9223372036854775807 = (row', res', mn)) (hm : mn > mc) :
    out a mc (b.drop i) i row res = mc + 1 := by
  have e1 : b.drop i = x :: b.drop (i + 1) := by
    rw [List.drop_eq_getElem_cons hi, hx]; simp [hi]
  rw [e1]
  simp only [out]
  rw [h, if_pos hm]
theorem out_go {a : List Nat} {mc : Int} {b : List Nat} {i : Nat} {row row' : List Int} {res res' mn : Int} {x : Nat} (hi : i < b.length) (hx : x = b.getD i 0) (h : inn x a row ((i : Int) * 2) ((i : Int) * 2) 9223372036854775807 = (row', res', mn)) (hm : ¬ mn > mc) :
    out a mc (b.drop i) i row res = out a mc (b.drop (i + 1)) (i + 1) row' res' := by
  have e1 : b.drop i = x :: b.drop (i + 1) := by
    rw [List.drop_eq_getElem_cons hi, hx]; simp [hi]
  rw [e1]
  simp only [out]
  rw [h, if_neg hm]
theorem ints_set {us : List Value} {row : List Int} (h : IntsAre us row) (i : Nat) (v : Int) (t : Tok) : IntsAre (us.set i (.int v t)) (row.set i v) := by
  induction h generalizing i with
  | nil => exact .nil
  | cons n t' h ih =>
    cases i with
    | zero => exact .cons _ _ h
    | succ i => exact .cons _ _ (ih i)
end
end

section
open PySem PySem.W PyProof.Rows
section
noncomputable def subF (a b : Str) : Int := if a = b then 0 else if Txt.lower a = Txt.lower b then 1 else 2

theorem sub_c {w : World} {p : Program} {loose : List Str} {mean : ExcName → Option Value} {mg mb : Str → Option Value} {news : List (Addr × Obj)} {a b : Str} {ta tb : Tok} (ha : a.length ≤ 4096) (hb : b.length ≤ 4096) :
   Claim Challenge.rw_nb0157_02.row.prog w (Mine.hd.heap_39 w.params) p loose mean mg mb 77 1 8 news [.str a ta, .str b tb] (fun t => .int (subF a b) t) := by
  intro dp un gd cn cs ad ccd cl outer A₀ base h₀ L m s Q E hB hF hX hN hT hcs hdp hun hret
  refine wpAny_call ?_
  k_dflt cell_enter
  k_steps
  · exact cb_retI (Q := Q) (s := s) hret (by rename (a == b) = true => e; rw [subF, if_pos (beq_iff_eq.mp e)]) (by k_asm) (by k_asm)
  · exact cb_retI (Q := Q) (s := s) hret (by rename (a == b) = false => e1; rename (Txt.lower a == Txt.lower b) = true => e2; rw [subF, if_neg (by simpa using e1), if_pos (beq_iff_eq.mp e2)]) (by k_asm) (by k_asm)
  · exact cb_retI (Q := Q) (s := s) hret (by rename (a == b) = false => e1; rename (Txt.lower a == Txt.lower b) = false => e2; rw [subF, if_neg (by simpa using e1), if_neg (by simpa using e2)]) (by k_asm) (by k_asm)
theorem subF_N (c x : Nat) : subF ⟨#[c]⟩ ⟨#[x]⟩ = subN c x := by
  unfold subF subN
  by_cases h : c = x
  · subst h; simp
  · rw [if_neg h, if_neg (by intro e; apply h; simpa using e)]
theorem InnAt.turn {c : Nat} {a : List Nat} {row0 : List Int} {d0 mn0 : Int} {i : Nat} {row : List Int} {dist res mn V mn' : Int} {a3 : Str} (h : InnAt c a row0 d0 mn0 i row dist res mn) (hi : i < a.length) (ea : a3 = ⟨a.toArray⟩)
    (hV : V = if dist + subF ⟨#[c]⟩ (Txt.item a3 (i : Int)) < (if row.getD i 0 < res then row.getD i 0 else res) + 2 then dist + subF ⟨#[c]⟩ (Txt.item a3 (i : Int)) else (if row.getD i 0 < res then row.getD i 0 else res) + 2)
    (hmn : mn' = if V < mn then V else mn) : InnAt c a row0 d0 mn0 (i + 1) (row.set i V) (row.getD i 0) V mn' := by
  refine h.step hi rfl rfl ?_ hmn
  rw [ea, item_nat hi, subF_N] at hV
  have e : a.getD i 0 = a[i] := by simp [hi]
  rw [e, hV]
  generalize row.getD i 0 = r
  generalize subN c a[i] = q
  split <;> split <;> omega
end
end

local macro_rules | `(tactic| walk_at "execs cons") => `(tactic| (k_here; (with_reducible refine execs_cons' ?_); (try (conv => arg 6; dsimp only)); (try k_gentoks); k_fold))
local macro_rules | `(tactic| walk_at "Seq") => `(tactic| first | (with_reducible refine Seq.next ?_) | (with_reducible refine Seq.ret ?_) | (with_reducible refine Seq.brk ?_) | (with_reducible refine Seq.cont ?_))
local macro_rules | `(tactic| walk_at "FPost") => `(tactic| (with_reducible refine FPost.ret ?_))
local macro_rules | `(tactic| k_room) => `(tactic| ktr_room)

section
open PySem PySem.W PyProof.Rows
section


local macro_rules | `(tactic| walk_at "subscriptTail Name Slice str ref") => `(tactic| ((with_reducible show wpAny _ _ (subscriptTail _ (PySem.Expr.Slice none (some (PySem.Expr.BoolOp _ _ _)) none _) _ _) _ _ _); (with_reducible rename Fr _ _ _ _ => F'); (with_reducible rename News _ _ _ _ => N'); refine slice_none (s := ⟨_, _, _, _, _⟩) F' N' ?_; intro _ _ _ _ _))

local macro_rules | `(tactic| walk_at "call ref") => `(tactic| (k_here; (with_reducible show wpAny _ _ (call (Value.ref 77) [Value.str _ _, Value.str _ _]) _ _ _); k_dflt (refine' Claim.use ?k1 ?k2 ?k3 ?k4 ?k5 ?kK (sub_c ?ha ?hb) ?kd ?ku ?_; (case k1 => k_asm); (case k2 => k_asm); (case k3 => k_asm); (case k4 => k_asm); (case k5 => k_asm); (case kK => first | exact rfl | assumption); (case ha => first | omega | exact (show 1 ≤ 4096 by decide)); (case hb => first | omega | exact (show 1 ≤ 4096 by decide)); (case kd => ktr_room); (case ku => ktr_units); k_whole); intro t9 h9 tk9 F9 N9; (try dsimp only); (try k_sweep)))

structure InSt where
  us : List Value
  row : List Int
  d : Int
  res : Int
  mn : Int
  t1 : Tok
  t2 : Tok
  t3 : Tok
  t4 : Tok

theorem lev_c {w : World} {p : Program} {loose : List Str} {mean : ExcName → Option Value} {mg mb : Str → Option Value} {news : List (Addr × Obj)} {la lb : List Nat} {mc : Int} {ta tb tm : Tok} (hle1 : la.length ≤ 4096) (hle2 : lb.length ≤ 4096) :
   Claim Challenge.rw_nb0157_02.row.prog w (Mine.hd.heap_39 w.params) p loose mean mg mb 84 3 24 news [.str ⟨la.toArray⟩ ta, .str ⟨lb.toArray⟩ tb, .int mc tm] (fun t => .int (levF la lb mc) t) := by
  obtain ⟨a, ea⟩ : ∃ a : Str, a = ⟨la.toArray⟩ := ⟨_, rfl⟩
  obtain ⟨b, eb⟩ : ∃ b : Str, b = ⟨lb.toArray⟩ := ⟨_, rfl⟩
  rw [← ea, ← eb]
  have hla : a.length = la.length := by rw [ea]; simp [Str.length]
  have hlb : b.length = lb.length := by rw [eb]; simp [Str.length]
  intro dp un gd cn cs ad ccd cl outer A₀ base h₀ L m s Q E hB hF hX hN hT hcs hdp hun hret
  rw [← hla] at hle1
  rw [← hlb] at hle2
  refine wpAny_call ?_
  k_dflt cell_enter
  (repeat' (first | (k_unfold; first | walk_at "Seq" | (try dsimp only)) | ((fail_if_success ((first | with_reducible show wpAny _ _ (exec (PySem.Stmt.While _ _ _ _) _) _ _ _ | with_reducible show wpAny _ _ (exec (PySem.Stmt.For _ _ _ _ _) _) _ _ _ | with_reducible show wpAny _ _ (pyIter _) _ _ _ | with_reducible show wpAny _ _ (call (Value.type "list") _) _ _ _ | with_reducible show wpAny _ _ (call (Value.builtin "str.join") _) _ _ _ | with_reducible show wpAny _ _ (eval (PySem.Expr.ListComp _ [PySem.Comprehension.mk (PySem.Expr.Tuple _ _ _) _ _ _] _ _) _) _ _ _ | with_reducible show LCg.CompSrc _ _ _ _ _ _ _ _ _ _ _ _ _ _ | with_reducible show wpAny _ _ (execs (PySem.Stmt.If (PySem.Expr.Compare _ [CmpOp.Lt] _ _) [PySem.Stmt.Assign [PySem.Expr.Tuple _ _ _] _ _] _ _ :: _) _) _ _ _))); first | (k_end; wrow_close) | walk1 | (dsimp only; walk1) | (leave1; walk_say "STEP leave1"; try dsimp only) | fail "no step")))
  · exact cb_retI (Q := Q) (s := s) hret (by
      rename (a == b) = true => e
      have e' := beq_iff_eq.mp e
      rw [ea, eb] at e'
      rw [levF, if_pos (by simpa using e')]) (by k_asm) (by k_asm)
  try k_fold
  refine while_ps (fun c : Nat × Tok => [("pre", .int c.1 c.2), ("a", .str a ta), ("b", .str b tb), ("max_cost", .int mc tm)]) (fun _ => news)
    (fun c => c.1 ≤ preN la lb) (fun c => c.1 = preN la lb) (fun c => preN la lb - c.1) (0, _) (by k_asm) (by k_asm) (fun p hp => hp) (by (((repeat (first | refine ps_cons rfl ?_ | refine ps_str (by assumption) rfl ?_ | refine ps_int (by omega) rfl ?_)); exact ps_nil))) (Nat.zero_le _) ?turn ?fin
  case turn =>
    rintro ⟨k, t⟩ u h tk hk F N
    dsimp only [kstB] at hk F ⊢
    have hk1 := preN_le_left la lb
    have hk2 := preN_le_right la lb
    k_sweep
    (repeat' (first | (k_unfold; first | walk_at "Seq" | (try dsimp only)) | ((fail_if_success ((first | with_reducible show wpAny _ _ (exec (PySem.Stmt.While _ _ _ _) _) _ _ _ | with_reducible show wpAny _ _ (exec (PySem.Stmt.For _ _ _ _ _) _) _ _ _ | with_reducible show wpAny _ _ (pyIter _) _ _ _ | with_reducible show wpAny _ _ (call (Value.type "list") _) _ _ _ | with_reducible show wpAny _ _ (call (Value.builtin "str.join") _) _ _ _ | with_reducible show wpAny _ _ (eval (PySem.Expr.ListComp _ [PySem.Comprehension.mk (PySem.Expr.Tuple _ _ _) _ _ _] _ _) _) _ _ _ | with_reducible show LCg.CompSrc _ _ _ _ _ _ _ _ _ _ _ _ _ _ | with_reducible show wpAny _ _ (execs (PySem.Stmt.If (PySem.Expr.Compare _ [CmpOp.Lt] _ _) [PySem.Stmt.Assign [PySem.Expr.Tuple _ _ _] _ _] _ _ :: _) _) _ _ _))); first | (k_end; wrow_close) | walk1 | (dsimp only; walk1) | (leave1; walk_say "STEP leave1"; try dsimp only) | fail "no step")))
    · exact WEnd.intro (k + 1, _) (by k_asm) (by k_asm) (fun p hp => hp) (by (((repeat (first | refine ps_cons rfl ?_ | refine ps_str (by assumption) rfl ?_ | refine ps_int (by omega) rfl ?_)); exact ps_nil))) (lev1_more ea eb hk (by omega) (by omega) (by assumption)) (by have := lev1_more ea eb hk (by omega) (by omega) (by assumption); dsimp only; omega)
    · exact WEnd.intro (k, t) (by k_asm) (by k_asm) (fun p hp => hp) (by (((repeat (first | refine ps_cons rfl ?_ | refine ps_str (by assumption) rfl ?_ | refine ps_int (by omega) rfl ?_)); exact ps_nil))) (lev1_stop ea eb hk (by omega) (by omega) (by assumption)) (by decide)
    · exact WEnd.intro (k, t) (by k_asm) (by k_asm) (fun p hp => hp) (by (((repeat (first | refine ps_cons rfl ?_ | refine ps_str (by assumption) rfl ?_ | refine ps_int (by omega) rfl ?_)); exact ps_nil))) (by dsimp only; omega) (by decide)
    · exact WEnd.intro (k, t) (by k_asm) (by k_asm) (fun p hp => hp) (by (((repeat (first | refine ps_cons rfl ?_ | refine ps_str (by assumption) rfl ?_ | refine ps_int (by omega) rfl ?_)); exact ps_nil))) (by dsimp only; omega) (by decide)
  case fin =>
    rintro ⟨k, t⟩ u h tk hk F N
    dsimp only [kstB] at hk F ⊢
    k_sweep
    (repeat' (first | (k_unfold; first | walk_at "Seq" | (try dsimp only)) | ((fail_if_success ((first | with_reducible show wpAny _ _ (exec (PySem.Stmt.While _ _ _ _) _) _ _ _ | with_reducible show wpAny _ _ (exec (PySem.Stmt.For _ _ _ _ _) _) _ _ _ | with_reducible show wpAny _ _ (pyIter _) _ _ _ | with_reducible show wpAny _ _ (call (Value.type "list") _) _ _ _ | with_reducible show wpAny _ _ (call (Value.builtin "str.join") _) _ _ _ | with_reducible show wpAny _ _ (eval (PySem.Expr.ListComp _ [PySem.Comprehension.mk (PySem.Expr.Tuple _ _ _) _ _ _] _ _) _) _ _ _ | with_reducible show LCg.CompSrc _ _ _ _ _ _ _ _ _ _ _ _ _ _ | with_reducible show wpAny _ _ (execs (PySem.Stmt.If (PySem.Expr.Compare _ [CmpOp.Lt] _ _) [PySem.Stmt.Assign [PySem.Expr.Tuple _ _ _] _ _] _ _ :: _) _) _ _ _))); first | (k_end; wrow_close) | walk1 | (dsimp only; walk1) | (leave1; walk_say "STEP leave1"; try dsimp only) | fail "no step")))
    have hk1 := preN_le_left la lb
    have hk2 := preN_le_right la lb
    obtain ⟨la1, ela1⟩ : ∃ l, l = la.drop k := ⟨_, rfl⟩
    obtain ⟨lb1, elb1⟩ : ∃ l, l = lb.drop k := ⟨_, rfl⟩
    obtain ⟨a1, ea1⟩ : ∃ x : Str, x = ⟨la1.toArray⟩ := ⟨_, rfl⟩
    obtain ⟨b1, eb1⟩ : ∃ x : Str, x = ⟨lb1.toArray⟩ := ⟨_, rfl⟩
    have es1 : Txt.slice a (some ↑k) none = a1 := by rw [ea, ea1, ela1]; exact slice_drop (by omega)
    have es2 : Txt.slice b (some ↑k) none = b1 := by rw [eb, eb1, elb1]; exact slice_drop (by omega)
    have hla1 : a1.length = la1.length := by rw [ea1]; simp [Str.length]
    have hle3 : a1.length ≤ 4096 := by rw [hla1, ela1, List.length_drop]; omega
    have hlb1 : b1.length = lb1.length := by rw [eb1]; simp [Str.length]
    have hle4 : b1.length ≤ 4096 := by rw [hlb1, elb1, List.length_drop]; omega
    have hj1 := preN_le_left la1.reverse lb1.reverse
    have hj2 := preN_le_right la1.reverse lb1.reverse
    rw [List.length_reverse] at hj1 hj2
    with_reducible show wpAny _ _ _ _ _ _
    try k_fold
    refine while_ps (fun c : Nat × Tok × Tok × Tok => [("post", .int (-(c.1 : Int)) c.2.1), ("a", .str a1 c.2.2.1), ("b", .str b1 c.2.2.2), ("max_cost", .int mc tm)]) (fun _ => news)
      (fun c => c.1 ≤ preN la1.reverse lb1.reverse) (fun c => c.1 = preN la1.reverse lb1.reverse) (fun c => preN la1.reverse lb1.reverse - c.1) (0, _, _, _) (by k_asm) (by k_asm) (fun p hp => hp) (by (((repeat (first | refine ps_cons rfl ?_ | refine ps_str (by assumption) rfl ?_ | refine ps_int (by omega) rfl ?_)); exact ps_nil))) (Nat.zero_le _) ?turn ?fin
    case turn =>
      rintro ⟨j, t2, t3, t4⟩ u h tk hj F N
      dsimp only [kstB] at hj F ⊢
      k_sweep
      rcases Nat.eq_zero_or_pos j with hj0 | hj0
      · subst hj0
        simp only [Int.natCast_zero, Int.neg_zero] at F ⊢
        (repeat' (first | (k_unfold; first | walk_at "Seq" | (try dsimp only)) | ((fail_if_success ((first | with_reducible show wpAny _ _ (exec (PySem.Stmt.While _ _ _ _) _) _ _ _ | with_reducible show wpAny _ _ (exec (PySem.Stmt.For _ _ _ _ _) _) _ _ _ | with_reducible show wpAny _ _ (pyIter _) _ _ _ | with_reducible show wpAny _ _ (call (Value.type "list") _) _ _ _ | with_reducible show wpAny _ _ (call (Value.builtin "str.join") _) _ _ _ | with_reducible show wpAny _ _ (eval (PySem.Expr.ListComp _ [PySem.Comprehension.mk (PySem.Expr.Tuple _ _ _) _ _ _] _ _) _) _ _ _ | with_reducible show LCg.CompSrc _ _ _ _ _ _ _ _ _ _ _ _ _ _ | with_reducible show wpAny _ _ (execs (PySem.Stmt.If (PySem.Expr.Compare _ [CmpOp.Lt] _ _) [PySem.Stmt.Assign [PySem.Expr.Tuple _ _ _] _ _] _ _ :: _) _) _ _ _))); first | (k_end; wrow_close) | walk1 | (dsimp only; walk1) | (leave1; walk_say "STEP leave1"; try dsimp only) | fail "no step")))
        · exact WEnd.intro (1, _, t3, t4) (by k_asm) (by k_asm) (fun p hp => hp) (by (((repeat (first | refine ps_cons rfl ?_ | refine ps_str (by assumption) rfl ?_ | refine ps_int (by omega) rfl ?_)); exact ps_nil))) (lev2_more ea1 eb1 hj (by omega) (by omega) rfl (by assumption)) (by have := lev2_more ea1 eb1 hj (by omega) (by omega) rfl (by assumption); dsimp only; omega)
        · exact WEnd.intro (0, t2, t3, t4) (by k_asm) (by k_asm) (fun p hp => hp) (by (((repeat (first | refine ps_cons rfl ?_ | refine ps_str (by assumption) rfl ?_ | refine ps_int (by omega) rfl ?_)); exact ps_nil))) (lev2_stop ea1 eb1 hj (by omega) (by omega) rfl (by assumption)) (by decide)
        · exact WEnd.intro (0, t2, t3, t4) (by k_asm) (by k_asm) (fun p hp => hp) (by (((repeat (first | refine ps_cons rfl ?_ | refine ps_str (by assumption) rfl ?_ | refine ps_int (by omega) rfl ?_)); exact ps_nil))) (by dsimp only; omega) (by decide)
        · exact WEnd.intro (0, t2, t3, t4) (by k_asm) (by k_asm) (fun p hp => hp) (by (((repeat (first | refine ps_cons rfl ?_ | refine ps_str (by assumption) rfl ?_ | refine ps_int (by omega) rfl ?_)); exact ps_nil))) (by dsimp only; omega) (by decide)
      · have sl1 : (Txt.slice a1 none (some (-(j : Int)))).length = la1.length - j := by rw [ea1, slice_neg hj0 (by omega)]; simp [Str.length]
        have sl2 : (Txt.slice b1 none (some (-(j : Int)))).length = lb1.length - j := by rw [eb1, slice_neg hj0 (by omega)]; simp [Str.length]
        have hne : -(j : Int) ≠ 0 := by omega
        have hbe : (-(j : Int) != (0 : Int)) = true := by simpa using hne
        have hm1 : -(j : Int) - 1 = -((j + 1 : Nat) : Int) := by omega
        (repeat' (first | (k_unfold; first | walk_at "Seq" | (try dsimp only)) | ((fail_if_success ((first | with_reducible show wpAny _ _ (exec (PySem.Stmt.While _ _ _ _) _) _ _ _ | with_reducible show wpAny _ _ (exec (PySem.Stmt.For _ _ _ _ _) _) _ _ _ | with_reducible show wpAny _ _ (pyIter _) _ _ _ | with_reducible show wpAny _ _ (call (Value.type "list") _) _ _ _ | with_reducible show wpAny _ _ (call (Value.builtin "str.join") _) _ _ _ | with_reducible show wpAny _ _ (eval (PySem.Expr.ListComp _ [PySem.Comprehension.mk (PySem.Expr.Tuple _ _ _) _ _ _] _ _) _) _ _ _ | with_reducible show LCg.CompSrc _ _ _ _ _ _ _ _ _ _ _ _ _ _ | with_reducible show wpAny _ _ (execs (PySem.Stmt.If (PySem.Expr.Compare _ [CmpOp.Lt] _ _) [PySem.Stmt.Assign [PySem.Expr.Tuple _ _ _] _ _] _ _ :: _) _) _ _ _))); first | (k_end; wrow_close) | walk1 | (dsimp only; walk1) | (leave1; walk_say "STEP leave1"; try dsimp only) | fail "no step")))
        all_goals (repeat (rename ((_ → _ → _) ∧ (_ → _)) => zz; clear zz))
        all_goals first
          | (exfalso; omega)
          | exact WEnd.intro (j, t2, t3, t4) (by k_asm) (by k_asm) (fun p hp => hp) (by (((repeat (first | refine ps_cons rfl ?_ | refine ps_str (by assumption) rfl ?_ | refine ps_int (by omega) rfl ?_)); exact ps_nil))) (lev2_stop ea1 eb1 hj (by omega) (by omega) rfl (by assumption)) (by decide)
          | exact WEnd.intro (j, t2, t3, t4) (by k_asm) (by k_asm) (fun p hp => hp) (by (((repeat (first | refine ps_cons rfl ?_ | refine ps_str (by assumption) rfl ?_ | refine ps_int (by omega) rfl ?_)); exact ps_nil))) (by dsimp only; omega) (by decide)
          | exact WEnd.intro (j + 1, _, t3, t4) (by k_asm) (by k_asm) (fun p hp => hp) (by refine ps_int hm1 rfl ?_; (((repeat (first | refine ps_cons rfl ?_ | refine ps_str (by assumption) rfl ?_ | refine ps_int (by omega) rfl ?_)); exact ps_nil))) (lev2_more ea1 eb1 hj (by omega) (by omega) rfl (by assumption)) (by have := lev2_more ea1 eb1 hj (by omega) (by omega) rfl (by assumption); dsimp only; omega)
    case fin =>
      rintro ⟨j, t2, t3, t4⟩ u h tk hj F N
      dsimp only [kstB] at hj F ⊢
      k_sweep
      have ea2 : (if j = 0 then a1 else Txt.slice a1 none (some (-(j : Int)))) = ⟨(la1.take (la1.length - j)).toArray⟩ := by
        split
        · rename_i e; rw [e, ea1]; simp
        · rw [ea1, slice_neg (by omega) (by omega)]
      have eb2 : (if j = 0 then b1 else Txt.slice b1 none (some (-(j : Int)))) = ⟨(lb1.take (lb1.length - j)).toArray⟩ := by
        split
        · rename_i e; rw [e, eb1]; simp
        · rw [eb1, slice_neg (by omega) (by omega)]
      generalize ela2 : la1.take (la1.length - j) = la2 at *
      generalize elb2 : lb1.take (lb1.length - j) = lb2 at *
      obtain ⟨a2, hea2⟩ : ∃ x : Str, x = ⟨la2.toArray⟩ := ⟨_, rfl⟩
      obtain ⟨b2, heb2⟩ : ∃ x : Str, x = ⟨lb2.toArray⟩ := ⟨_, rfl⟩
      rw [← hea2] at ea2
      rw [← heb2] at eb2
      have hne : j ≠ 0 → (-(j : Int) != (0 : Int)) = true := by intro h; simp; omega
      refine stmt_ps (by k_asm) (fun c : Tok × Tok × Tok => [("post", .int (-(j : Int)) c.1), ("a", .str a2 c.2.1), ("b", .str b1 c.2.2), ("max_cost", .int mc tm)]) (fun _ => news) (fun _ => True) ?h1 ?finA
      case h1 =>
        by_cases hj0 : j = 0
        · rw [if_pos hj0] at ea2
          subst hj0
          simp only [Int.natCast_zero, Int.neg_zero] at F ⊢
          (repeat' (first | (k_unfold; first | walk_at "Seq" | (try dsimp only)) | ((fail_if_success ((first | with_reducible show wpAny _ _ (exec (PySem.Stmt.While _ _ _ _) _) _ _ _ | with_reducible show wpAny _ _ (exec (PySem.Stmt.For _ _ _ _ _) _) _ _ _ | with_reducible show wpAny _ _ (pyIter _) _ _ _ | with_reducible show wpAny _ _ (call (Value.type "list") _) _ _ _ | with_reducible show wpAny _ _ (call (Value.builtin "str.join") _) _ _ _ | with_reducible show wpAny _ _ (eval (PySem.Expr.ListComp _ [PySem.Comprehension.mk (PySem.Expr.Tuple _ _ _) _ _ _] _ _) _) _ _ _ | with_reducible show LCg.CompSrc _ _ _ _ _ _ _ _ _ _ _ _ _ _ | with_reducible show wpAny _ _ (execs (PySem.Stmt.If (PySem.Expr.Compare _ [CmpOp.Lt] _ _) [PySem.Stmt.Assign [PySem.Expr.Tuple _ _ _] _ _] _ _ :: _) _) _ _ _))); first | (k_end; wrow_close) | walk1 | (dsimp only; walk1) | (leave1; walk_say "STEP leave1"; try dsimp only) | fail "no step")))
          exact WEnd.intro (_, _, _) (by k_asm) (by k_asm) (fun p hp => hp) (by (((repeat (first | refine ps_cons rfl ?_ | refine ps_str (by assumption) rfl ?_ | refine ps_int (by omega) rfl ?_)); exact ps_nil))) trivial (by decide)
        · rw [if_neg hj0] at ea2
          have := hne hj0
          (repeat' (first | (k_unfold; first | walk_at "Seq" | (try dsimp only)) | ((fail_if_success ((first | with_reducible show wpAny _ _ (exec (PySem.Stmt.While _ _ _ _) _) _ _ _ | with_reducible show wpAny _ _ (exec (PySem.Stmt.For _ _ _ _ _) _) _ _ _ | with_reducible show wpAny _ _ (pyIter _) _ _ _ | with_reducible show wpAny _ _ (call (Value.type "list") _) _ _ _ | with_reducible show wpAny _ _ (call (Value.builtin "str.join") _) _ _ _ | with_reducible show wpAny _ _ (eval (PySem.Expr.ListComp _ [PySem.Comprehension.mk (PySem.Expr.Tuple _ _ _) _ _ _] _ _) _) _ _ _ | with_reducible show LCg.CompSrc _ _ _ _ _ _ _ _ _ _ _ _ _ _ | with_reducible show wpAny _ _ (execs (PySem.Stmt.If (PySem.Expr.Compare _ [CmpOp.Lt] _ _) [PySem.Stmt.Assign [PySem.Expr.Tuple _ _ _] _ _] _ _ :: _) _) _ _ _))); first | (k_end; wrow_close) | walk1 | (dsimp only; walk1) | (leave1; walk_say "STEP leave1"; try dsimp only) | fail "no step")))
          exact WEnd.intro (_, _, _) (by k_asm) (by k_asm) (fun p hp => hp) (by (((repeat (first | refine ps_cons rfl ?_ | refine ps_str (by assumption) rfl ?_ | refine ps_int (by omega) rfl ?_)); exact ps_nil))) trivial (by decide)
      clear F N
      rintro ⟨t5, t6, t7⟩ u h tk - F N
      dsimp only [kstB] at F ⊢
      k_sweep
      refine stmt_ps (by k_asm) (fun c : Tok × Tok => [("a", .str a2 c.1), ("b", .str b2 c.2), ("max_cost", .int mc tm)]) (fun _ => news) (fun _ => True) ?h2 ?finB
      case h2 =>
        by_cases hj0 : j = 0
        · rw [if_pos hj0] at eb2
          subst hj0
          simp only [Int.natCast_zero, Int.neg_zero] at F ⊢
          (repeat' (first | (k_unfold; first | walk_at "Seq" | (try dsimp only)) | ((fail_if_success ((first | with_reducible show wpAny _ _ (exec (PySem.Stmt.While _ _ _ _) _) _ _ _ | with_reducible show wpAny _ _ (exec (PySem.Stmt.For _ _ _ _ _) _) _ _ _ | with_reducible show wpAny _ _ (pyIter _) _ _ _ | with_reducible show wpAny _ _ (call (Value.type "list") _) _ _ _ | with_reducible show wpAny _ _ (call (Value.builtin "str.join") _) _ _ _ | with_reducible show wpAny _ _ (eval (PySem.Expr.ListComp _ [PySem.Comprehension.mk (PySem.Expr.Tuple _ _ _) _ _ _] _ _) _) _ _ _ | with_reducible show LCg.CompSrc _ _ _ _ _ _ _ _ _ _ _ _ _ _ | with_reducible show wpAny _ _ (execs (PySem.Stmt.If (PySem.Expr.Compare _ [CmpOp.Lt] _ _) [PySem.Stmt.Assign [PySem.Expr.Tuple _ _ _] _ _] _ _ :: _) _) _ _ _))); first | (k_end; wrow_close) | walk1 | (dsimp only; walk1) | (leave1; walk_say "STEP leave1"; try dsimp only) | fail "no step")))
          exact WEnd.intro (_, _) (by k_asm) (by k_asm) (fun p hp => hp) (by (((repeat (first | refine ps_cons rfl ?_ | refine ps_str (by assumption) rfl ?_ | refine ps_int (by omega) rfl ?_)); exact ps_nil))) trivial (by decide)
        · rw [if_neg hj0] at eb2
          have := hne hj0
          (repeat' (first | (k_unfold; first | walk_at "Seq" | (try dsimp only)) | ((fail_if_success ((first | with_reducible show wpAny _ _ (exec (PySem.Stmt.While _ _ _ _) _) _ _ _ | with_reducible show wpAny _ _ (exec (PySem.Stmt.For _ _ _ _ _) _) _ _ _ | with_reducible show wpAny _ _ (pyIter _) _ _ _ | with_reducible show wpAny _ _ (call (Value.type "list") _) _ _ _ | with_reducible show wpAny _ _ (call (Value.builtin "str.join") _) _ _ _ | with_reducible show wpAny _ _ (eval (PySem.Expr.ListComp _ [PySem.Comprehension.mk (PySem.Expr.Tuple _ _ _) _ _ _] _ _) _) _ _ _ | with_reducible show LCg.CompSrc _ _ _ _ _ _ _ _ _ _ _ _ _ _ | with_reducible show wpAny _ _ (execs (PySem.Stmt.If (PySem.Expr.Compare _ [CmpOp.Lt] _ _) [PySem.Stmt.Assign [PySem.Expr.Tuple _ _ _] _ _] _ _ :: _) _) _ _ _))); first | (k_end; wrow_close) | walk1 | (dsimp only; walk1) | (leave1; walk_say "STEP leave1"; try dsimp only) | fail "no step")))
          exact WEnd.intro (_, _) (by k_asm) (by k_asm) (fun p hp => hp) (by (((repeat (first | refine ps_cons rfl ?_ | refine ps_str (by assumption) rfl ?_ | refine ps_int (by omega) rfl ?_)); exact ps_nil))) trivial (by decide)
      clear F N
      rintro ⟨t8, t9⟩ u h tk - F N
      dsimp only [kstB] at F ⊢
      k_sweep
      have hla2 : a2.length = la2.length := by rw [hea2]; simp [Str.length]
      have hlb2 : b2.length = lb2.length := by rw [heb2]; simp [Str.length]
      have hl2 : a2.length ≤ 4096 := by rw [hla2, ← ela2, List.length_take]; omega
      have hl3 : b2.length ≤ 4096 := by rw [hlb2, ← elb2, List.length_take]; omega
      have hne' : la ≠ lb := by
        intro e
        have hab : (a == b) = true := by rw [ea, eb, e]; exact beq_self_eq_true _
        have hab' : (a == b) = false := by assumption
        rw [hab] at hab'; cases hab'
      have hlev := levF_ne (mc := mc) hne' hk ela1 elb1 hj ela2 elb2
      rw [hlev] at hret
      clear es1 es2 ea2 eb2
      clear hne ela2 elb2 hlev hj hk
      (repeat' (first | (k_unfold; first | walk_at "Seq" | (try dsimp only)) | ((fail_if_success ((first | with_reducible show wpAny _ _ (exec (PySem.Stmt.While _ _ _ _) _) _ _ _ | with_reducible show wpAny _ _ (exec (PySem.Stmt.For _ _ _ _ _) _) _ _ _ | with_reducible show wpAny _ _ (pyIter _) _ _ _ | with_reducible show wpAny _ _ (call (Value.type "list") _) _ _ _ | with_reducible show wpAny _ _ (call (Value.builtin "str.join") _) _ _ _ | with_reducible show wpAny _ _ (eval (PySem.Expr.ListComp _ [PySem.Comprehension.mk (PySem.Expr.Tuple _ _ _) _ _ _] _ _) _) _ _ _ | with_reducible show LCg.CompSrc _ _ _ _ _ _ _ _ _ _ _ _ _ _ | with_reducible show wpAny _ _ (execs (PySem.Stmt.If (PySem.Expr.Compare _ [CmpOp.Lt] _ _) [PySem.Stmt.Assign [PySem.Expr.Tuple _ _ _] _ _] _ _ :: _) _) _ _ _))); first | (k_end; wrow_close) | walk1 | (dsimp only; walk1) | (leave1; walk_say "STEP leave1"; try dsimp only) | fail "no step")))
      all_goals first
        | exact cb_retI (Q := Q) (s := s) hret (by rw [levT_empty (by omega), hla2, hlb2]) (by k_asm) (by k_asm)
        | exact cb_retI (Q := Q) (s := s) hret (levT_long (by omega) (by omega) (by omega)).symm (by k_asm) (by k_asm)
        | skip
      obtain ⟨la3, ela3⟩ : ∃ l, l = levA la2 lb2 := ⟨_, rfl⟩
      obtain ⟨lb3, elb3⟩ : ∃ l, l = levB la2 lb2 := ⟨_, rfl⟩
      obtain ⟨a3, ea3⟩ : ∃ x : Str, x = ⟨la3.toArray⟩ := ⟨_, rfl⟩
      obtain ⟨b3, eb3⟩ : ∃ x : Str, x = ⟨lb3.toArray⟩ := ⟨_, rfl⟩
      refine stmt_ps (by k_asm) (fun c : Tok × Tok => [("a", .str a3 c.1), ("b", .str b3 c.2), ("max_cost", .int mc tm)]) (fun _ => news) (fun _ => True) ?h3 ?finC
      case h3 =>
        (repeat' (first | (k_unfold; first | walk_at "Seq" | (try dsimp only)) | ((fail_if_success ((first | with_reducible show wpAny _ _ (exec (PySem.Stmt.While _ _ _ _) _) _ _ _ | with_reducible show wpAny _ _ (exec (PySem.Stmt.For _ _ _ _ _) _) _ _ _ | with_reducible show wpAny _ _ (pyIter _) _ _ _ | with_reducible show wpAny _ _ (call (Value.type "list") _) _ _ _ | with_reducible show wpAny _ _ (call (Value.builtin "str.join") _) _ _ _ | with_reducible show wpAny _ _ (eval (PySem.Expr.ListComp _ [PySem.Comprehension.mk (PySem.Expr.Tuple _ _ _) _ _ _] _ _) _) _ _ _ | with_reducible show LCg.CompSrc _ _ _ _ _ _ _ _ _ _ _ _ _ _ | with_reducible show wpAny _ _ (execs (PySem.Stmt.If (PySem.Expr.Compare _ [CmpOp.Lt] _ _) [PySem.Stmt.Assign [PySem.Expr.Tuple _ _ _] _ _] _ _ :: _) _) _ _ _))); first | (k_end; wrow_close) | walk1 | (dsimp only; walk1) | (leave1; walk_say "STEP leave1"; try dsimp only) | fail "no step")))
        · have x1 : b2 = a3 := by rw [heb2, ea3, ela3, levA, if_pos (by omega)]
          have x2 : a2 = b3 := by rw [hea2, eb3, elb3, levB, if_pos (by omega)]
          exact WEnd.intro (_, _) (by k_asm) (by k_asm) (by ((intro p hp; first | exact hp | exact List.mem_cons_of_mem _ hp | exact List.mem_cons_of_mem _ (List.mem_cons_of_mem _ hp)))) (by (((repeat (first | refine ps_cons rfl ?_ | refine ps_str (by assumption) rfl ?_ | refine ps_int (by omega) rfl ?_)); exact ps_nil))) trivial (by decide)
        · have x1 : a2 = a3 := by rw [hea2, ea3, ela3, levA, if_neg (by omega)]
          have x2 : b2 = b3 := by rw [heb2, eb3, elb3, levB, if_neg (by omega)]
          exact WEnd.intro (_, _) (by k_asm) (by k_asm) (by ((intro p hp; first | exact hp | exact List.mem_cons_of_mem _ hp | exact List.mem_cons_of_mem _ (List.mem_cons_of_mem _ hp)))) (by (((repeat (first | refine ps_cons rfl ?_ | refine ps_str (by assumption) rfl ?_ | refine ps_int (by omega) rfl ?_)); exact ps_nil))) trivial (by decide)
      clear F N
      rintro ⟨t8, t9⟩ u h tk - F N
      dsimp only [kstB] at F ⊢
      k_sweep
      have hla3 : a3.length = la3.length := by rw [ea3]; simp [Str.length]
      have hlb3 : b3.length = lb3.length := by rw [eb3]; simp [Str.length]
      have hl4 : la3.length ≤ 40 ∧ la3.length ≠ 0 := by rw [ela3]; unfold levA; split <;> omega
      have hl5 : lb3.length ≤ 40 ∧ lb3.length ≠ 0 := by rw [elb3]; unfold levB; split <;> omega
      (repeat' (first | (k_unfold; first | walk_at "Seq" | (try dsimp only)) | ((fail_if_success ((first | with_reducible show wpAny _ _ (exec (PySem.Stmt.While _ _ _ _) _) _ _ _ | with_reducible show wpAny _ _ (exec (PySem.Stmt.For _ _ _ _ _) _) _ _ _ | with_reducible show wpAny _ _ (pyIter _) _ _ _ | with_reducible show wpAny _ _ (call (Value.type "list") _) _ _ _ | with_reducible show wpAny _ _ (call (Value.builtin "str.join") _) _ _ _ | with_reducible show wpAny _ _ (eval (PySem.Expr.ListComp _ [PySem.Comprehension.mk (PySem.Expr.Tuple _ _ _) _ _ _] _ _) _) _ _ _ | with_reducible show LCg.CompSrc _ _ _ _ _ _ _ _ _ _ _ _ _ _ | with_reducible show wpAny _ _ (execs (PySem.Stmt.If (PySem.Expr.Compare _ [CmpOp.Lt] _ _) [PySem.Stmt.Assign [PySem.Expr.Tuple _ _ _] _ _] _ _ :: _) _) _ _ _))); first | (k_end; wrow_close) | walk1 | (dsimp only; walk1) | (leave1; walk_say "STEP leave1"; try dsimp only) | fail "no step")))
      · exact cb_retI (Q := Q) (s := s) hret (levT_far (by omega) (by omega) (by omega) (by omega) (by rw [← ela3, ← elb3]; omega)).symm (by k_asm) (by k_asm)
      have hT : levT la2 lb2 mc = out la3 mc lb3 0 (rangeInts 2 2 la3.length) 0 := by
        rw [ela3, elb3]; exact levT_dp (by omega) (by omega) (by omega) (by omega) (by rw [← ela3, ← elb3]; omega)
      rw [hT] at hret
      clear hT
      refine' list_range_led (a := 2) (b := 2 * ((a3.length : Int) + 1)) (c := 2) (n := la3.length) rfl ?F ?N ?hr (by rw [hla3]; exact small_two (by omega)) (by rw [hla3]; exact size_two _) (by omega) ?_
      case F => k_asm
      case N => k_asm
      case hr => assumption
      intro D us c' h' tk' F' N' l1 hI
      clear hle1 hle2 hk1 hk2 hla hlb ela1 elb1 ea1 eb1 hla1 hle3 hlb1 hle4 hj1 hj2 hea2 heb2 hla2 hlb2 hl2 hl3 hne' ela3 elb3 ea eb
      k_sweep
      (repeat' (first | (k_unfold; first | walk_at "Seq" | (try dsimp only)) | ((fail_if_success ((first | with_reducible show wpAny _ _ (exec (PySem.Stmt.While _ _ _ _) _) _ _ _ | with_reducible show wpAny _ _ (exec (PySem.Stmt.For _ _ _ _ _) _) _ _ _ | with_reducible show wpAny _ _ (pyIter _) _ _ _ | with_reducible show wpAny _ _ (call (Value.type "list") _) _ _ _ | with_reducible show wpAny _ _ (call (Value.builtin "str.join") _) _ _ _ | with_reducible show wpAny _ _ (eval (PySem.Expr.ListComp _ [PySem.Comprehension.mk (PySem.Expr.Tuple _ _ _) _ _ _] _ _) _) _ _ _ | with_reducible show LCg.CompSrc _ _ _ _ _ _ _ _ _ _ _ _ _ _ | with_reducible show wpAny _ _ (execs (PySem.Stmt.If (PySem.Expr.Compare _ [CmpOp.Lt] _ _) [PySem.Stmt.Assign [PySem.Expr.Tuple _ _ _] _ _] _ _ :: _) _) _ _ _))); first | (k_end; wrow_close) | walk1 | (dsimp only; walk1) | (leave1; walk_say "STEP leave1"; try dsimp only) | fail "no step")))
      refine for_at (by k_asm) (by rfl) (by rfl) ?_
      (repeat' (first | (k_unfold; first | walk_at "Seq" | (try dsimp only)) | ((fail_if_success ((first | with_reducible show wpAny _ _ (exec (PySem.Stmt.While _ _ _ _) _) _ _ _ | with_reducible show wpAny _ _ (exec (PySem.Stmt.For _ _ _ _ _) _) _ _ _ | with_reducible show wpAny _ _ (pyIter _) _ _ _ | with_reducible show wpAny _ _ (call (Value.type "list") _) _ _ _ | with_reducible show wpAny _ _ (call (Value.builtin "str.join") _) _ _ _ | with_reducible show wpAny _ _ (eval (PySem.Expr.ListComp _ [PySem.Comprehension.mk (PySem.Expr.Tuple _ _ _) _ _ _] _ _) _) _ _ _ | with_reducible show LCg.CompSrc _ _ _ _ _ _ _ _ _ _ _ _ _ _ | with_reducible show wpAny _ _ (execs (PySem.Stmt.If (PySem.Expr.Compare _ [CmpOp.Lt] _ _) [PySem.Stmt.Assign [PySem.Expr.Tuple _ _ _] _ _] _ _ :: _) _) _ _ _))); first | (k_end; wrow_close) | walk1 | (dsimp only; walk1) | (leave1; walk_say "STEP leave1"; try dsimp only) | fail "no step")))
      refine iter_range_ps (a := 0) (b := (b3.length : Int)) (n := lb3.length) rfl (by assumption) (small_one (by omega) (by omega) (by omega) (by omega)) (by rw [rangeSize_nat]; omega)
        (fun c : List Value × List Int × Int × Tok => [("a", .str a3 t8), ("b", .str b3 t9), ("max_cost", .int mc tm), ("row", .ref D), ("result", .int c.2.2.1 c.2.2.2)])
        (fun c => [(D, W.listOf c.1.toArray c')])
        (fun i c => IntsAre c.1 c.2.1 ∧ c.2.1.length = la3.length ∧ out la3 mc (lb3.drop i) i c.2.1 c.2.2.1 = out la3 mc lb3 0 (rangeInts 2 2 la3.length) 0)
        (us, rangeInts 2 2 la3.length, 0, _) (fun c => rfl) (by k_asm) (show News _ _ _ ((D, W.listOf us.toArray c') :: news) by k_asm) ?ap (by (((repeat (first | refine ps_cons rfl ?_ | refine ps_str (by assumption) rfl ?_ | refine ps_int (by omega) rfl ?_)); exact ps_nil))) ⟨hI, rangeInts_length _ _ _, rfl⟩ ?turn ?fin
      case ap => intro p hp hm; exact absurd (List.mem_singleton.mp hm) (Nat.ne_of_lt (l1 p hp))
      case fin =>
        rintro ⟨us', row', res', t10⟩ u' h2 tk2 ⟨hI2, hlen2, hout⟩ F2 N2
        dsimp only [kstB] at F2 hI2 hlen2 hout ⊢
        have N3 : News _ _ h2 news := fun p hp => N2 p (List.mem_append_right _ hp)
        clear N2
        (repeat' (first | (k_unfold; first | walk_at "Seq" | (try dsimp only)) | ((fail_if_success ((first | with_reducible show wpAny _ _ (exec (PySem.Stmt.While _ _ _ _) _) _ _ _ | with_reducible show wpAny _ _ (exec (PySem.Stmt.For _ _ _ _ _) _) _ _ _ | with_reducible show wpAny _ _ (pyIter _) _ _ _ | with_reducible show wpAny _ _ (call (Value.type "list") _) _ _ _ | with_reducible show wpAny _ _ (call (Value.builtin "str.join") _) _ _ _ | with_reducible show wpAny _ _ (eval (PySem.Expr.ListComp _ [PySem.Comprehension.mk (PySem.Expr.Tuple _ _ _) _ _ _] _ _) _) _ _ _ | with_reducible show LCg.CompSrc _ _ _ _ _ _ _ _ _ _ _ _ _ _ | with_reducible show wpAny _ _ (execs (PySem.Stmt.If (PySem.Expr.Compare _ [CmpOp.Lt] _ _) [PySem.Stmt.Assign [PySem.Expr.Tuple _ _ _] _ _] _ _ :: _) _) _ _ _))); first | (k_end; wrow_close) | walk1 | (dsimp only; walk1) | (leave1; walk_say "STEP leave1"; try dsimp only) | fail "no step")))
        exact cb_retI (Q := Q) (s := s) hret (by rw [← hout]; simp [out]) (by k_asm) (by k_asm)
      case turn =>
        rintro i t11 ⟨us', row', res', t10⟩ u' h2 tk2 tl hi ⟨hI2, hlen2, hout⟩ hsub hap F2 N2
        dsimp only [kstB] at F2 hI2 hlen2 hout ⊢
        have hoff : OwnOff tl [D] := own_off hap
        have N3 : News _ _ h2 ((D, W.listOf us'.toArray c') :: tl) := N2
        clear N2 hap
        rw [Int.zero_add] at F2
        (repeat' (first | (k_unfold; first | walk_at "Seq" | (try dsimp only)) | ((fail_if_success ((first | with_reducible show wpAny _ _ (exec (PySem.Stmt.While _ _ _ _) _) _ _ _ | with_reducible show wpAny _ _ (exec (PySem.Stmt.For _ _ _ _ _) _) _ _ _ | with_reducible show wpAny _ _ (pyIter _) _ _ _ | with_reducible show wpAny _ _ (call (Value.type "list") _) _ _ _ | with_reducible show wpAny _ _ (call (Value.builtin "str.join") _) _ _ _ | with_reducible show wpAny _ _ (eval (PySem.Expr.ListComp _ [PySem.Comprehension.mk (PySem.Expr.Tuple _ _ _) _ _ _] _ _) _) _ _ _ | with_reducible show LCg.CompSrc _ _ _ _ _ _ _ _ _ _ _ _ _ _ | with_reducible show wpAny _ _ (execs (PySem.Stmt.If (PySem.Expr.Compare _ [CmpOp.Lt] _ _) [PySem.Stmt.Assign [PySem.Expr.Tuple _ _ _] _ _] _ _ :: _) _) _ _ _))); first | (k_end; wrow_close) | walk1 | (dsimp only; walk1) | (leave1; walk_say "STEP leave1"; try dsimp only) | fail "no step")))
        refine for_at (by k_asm) (by rfl) (by rfl) ?_
        (repeat' (first | (k_unfold; first | walk_at "Seq" | (try dsimp only)) | ((fail_if_success ((first | with_reducible show wpAny _ _ (exec (PySem.Stmt.While _ _ _ _) _) _ _ _ | with_reducible show wpAny _ _ (exec (PySem.Stmt.For _ _ _ _ _) _) _ _ _ | with_reducible show wpAny _ _ (pyIter _) _ _ _ | with_reducible show wpAny _ _ (call (Value.type "list") _) _ _ _ | with_reducible show wpAny _ _ (call (Value.builtin "str.join") _) _ _ _ | with_reducible show wpAny _ _ (eval (PySem.Expr.ListComp _ [PySem.Comprehension.mk (PySem.Expr.Tuple _ _ _) _ _ _] _ _) _) _ _ _ | with_reducible show LCg.CompSrc _ _ _ _ _ _ _ _ _ _ _ _ _ _ | with_reducible show wpAny _ _ (execs (PySem.Stmt.If (PySem.Expr.Compare _ [CmpOp.Lt] _ _) [PySem.Stmt.Assign [PySem.Expr.Tuple _ _ _] _ _] _ _ :: _) _) _ _ _))); first | (k_end; wrow_close) | walk1 | (dsimp only; walk1) | (leave1; walk_say "STEP leave1"; try dsimp only) | fail "no step")))
        obtain ⟨bc, ebc⟩ : ∃ x, x = lb3.getD i 0 := ⟨_, rfl⟩
        have ebi : Txt.item b3 (i : Int) = ⟨#[bc]⟩ := by rw [eb3, item_nat hi, ebc]; simp [hi]
        refine iter_range_ps (a := 0) (b := (a3.length : Int)) (n := la3.length) rfl (by assumption) (small_one (by omega) (by omega) (by omega) (by omega)) (by rw [rangeSize_nat]; omega)
          (fun c : InSt => [("a", .str a3 t8), ("b", .str b3 t9), ("max_cost", .int mc tm), ("row", .ref D), ("bchar", .str ⟨#[bc]⟩ c.t4), ("distance", .int c.d c.t1), ("result", .int c.res c.t2), ("minimum", .int c.mn c.t3)])
          (fun c => [(D, W.listOf c.us.toArray c')])
          (fun j c => IntsAre c.us c.row ∧ InnAt bc la3 row' ((i : Int) * 2) 9223372036854775807 j c.row c.d c.res c.mn)
          ⟨us', row', (i : Int) * 2, (i : Int) * 2, 9223372036854775807, _, _, _, _⟩ (fun c => rfl) (by k_asm) (show News _ _ _ ((D, W.listOf us'.toArray c') :: tl) by k_asm) ?ap (by (((repeat (first | refine ps_cons rfl ?_ | refine ps_str (by assumption) rfl ?_ | refine ps_int (by omega) rfl ?_)); exact ps_nil))) ⟨hI2, InnAt.start hlen2⟩ ?turn ?fin
        case ap => intro p hp hm; exact hoff p hp _ (List.mem_singleton.mpr rfl) (List.mem_singleton.mp hm)
        case fin =>
          rintro ⟨us2, row2, d2, res2, mn2, t1, t2, t3, t4⟩ u3 h3 tk3 ⟨hI3, hin⟩ F4 N4
          dsimp only [kstB] at F4 hI3 hin ⊢
          have N5 : News _ _ h3 ((D, W.listOf us2.toArray c') :: tl) := N4
          clear N4
          have hinn := hin.done
          k_sweep
          (repeat' (first | (k_unfold; first | walk_at "Seq" | (try dsimp only)) | ((fail_if_success ((first | with_reducible show wpAny _ _ (exec (PySem.Stmt.While _ _ _ _) _) _ _ _ | with_reducible show wpAny _ _ (exec (PySem.Stmt.For _ _ _ _ _) _) _ _ _ | with_reducible show wpAny _ _ (pyIter _) _ _ _ | with_reducible show wpAny _ _ (call (Value.type "list") _) _ _ _ | with_reducible show wpAny _ _ (call (Value.builtin "str.join") _) _ _ _ | with_reducible show wpAny _ _ (eval (PySem.Expr.ListComp _ [PySem.Comprehension.mk (PySem.Expr.Tuple _ _ _) _ _ _] _ _) _) _ _ _ | with_reducible show LCg.CompSrc _ _ _ _ _ _ _ _ _ _ _ _ _ _ | with_reducible show wpAny _ _ (execs (PySem.Stmt.If (PySem.Expr.Compare _ [CmpOp.Lt] _ _) [PySem.Stmt.Assign [PySem.Expr.Tuple _ _ _] _ _] _ _ :: _) _) _ _ _))); first | (k_end; wrow_close) | walk1 | (dsimp only; walk1) | (leave1; walk_say "STEP leave1"; try dsimp only) | fail "no step")))
          · exact cb_retI (Q := Q) (s := s) hret (by rw [← hout]; exact (out_stop hi ebc hinn (by omega)).symm) (by k_asm) (by first | k_asm | (intro p hp; exact (by k_asm : News _ _ _ (_ :: tl)) p (List.mem_cons_of_mem _ (hsub p hp))))
          · exact WEnd.intro (us2, row2, res2, t2) (by k_asm) (by k_asm) (fun p hp => hp) (by (((repeat (first | refine ps_cons rfl ?_ | refine ps_str (by assumption) rfl ?_ | refine ps_int (by omega) rfl ?_)); exact ps_nil))) ⟨hI3, hin.1, (out_go hi ebc hinn (by omega)).symm.trans hout⟩ (by decide)
        case turn =>
          rintro j t20 ⟨us2, row2, d2, res2, mn2, t1, t2, t3, t4⟩ u3 h3 tk3 tl2 hj ⟨hI3, hin⟩ hsub2 hap2 F4 N4
          dsimp only [kstB] at F4 hI3 hin ⊢
          have hoff2 : OwnOff tl2 [D] := own_off hap2
          have N5 : News _ _ h3 ((D, W.listOf us2.toArray c') :: tl2) := N4
          clear N4 hap2
          rw [Int.zero_add] at F4
          have hlen3 : row2.length = la3.length := hin.1
          k_sweep
          (repeat' (first | (k_unfold; first | walk_at "Seq" | (try dsimp only)) | ((fail_if_success ((first | with_reducible show wpAny _ _ (exec (PySem.Stmt.While _ _ _ _) _) _ _ _ | with_reducible show wpAny _ _ (exec (PySem.Stmt.For _ _ _ _ _) _) _ _ _ | with_reducible show wpAny _ _ (pyIter _) _ _ _ | with_reducible show wpAny _ _ (call (Value.type "list") _) _ _ _ | with_reducible show wpAny _ _ (call (Value.builtin "str.join") _) _ _ _ | with_reducible show wpAny _ _ (eval (PySem.Expr.ListComp _ [PySem.Comprehension.mk (PySem.Expr.Tuple _ _ _) _ _ _] _ _) _) _ _ _ | with_reducible show LCg.CompSrc _ _ _ _ _ _ _ _ _ _ _ _ _ _ | with_reducible show wpAny _ _ (execs (PySem.Stmt.If (PySem.Expr.Compare _ [CmpOp.Lt] _ _) [PySem.Stmt.Assign [PySem.Expr.Tuple _ _ _] _ _] _ _ :: _) _) _ _ _))); first | (k_end; wrow_close) | walk1 | (dsimp only; walk1) | (leave1; walk_say "STEP leave1"; try dsimp only) | fail "no step")))
          · exact WEnd.intro ⟨us2.set j (.int _ _), row2.set j _, _, _, _, _, _, _, _⟩ (by k_asm) (by k_asm) (fun p hp => hp) (by (((repeat (first | refine ps_cons rfl ?_ | refine ps_str (by assumption) rfl ?_ | refine ps_int (by omega) rfl ?_)); exact ps_nil))) ⟨ints_set hI3 _ _ _, InnAt.turn hin hj ea3 rfl (if_pos (by assumption)).symm⟩ (by decide)
          · exact WEnd.intro ⟨us2.set j (.int _ _), row2.set j _, _, _, _, _, _, _, _⟩ (by k_asm) (by k_asm) (fun p hp => hp) (by (((repeat (first | refine ps_cons rfl ?_ | refine ps_str (by assumption) rfl ?_ | refine ps_int (by omega) rfl ?_)); exact ps_nil))) ⟨ints_set hI3 _ _ _, InnAt.turn hin hj ea3 rfl (if_neg (by assumption)).symm⟩ (by decide)
end
end

section
open PySem PySem.W PyProof.Rows
section
section
variable {prog : Program} {w : World} {A : Around} {h₀ : Heap} {L : Addr} {m : Str → Option Value} {env : Env} {ct elt : Expr} {x : Str} {scope : Scope} {cl : List (Str × Addr)} {s : Shared} {S : List (Addr × Obj) → Prop} {P : Nat → Value → Prop} {Fin : List Value → List (Addr × Obj) → Prop}
theorem comp_restT {n : Nat} {news : List (Addr × Obj)} (J : Nat → List Value → List (Addr × Obj) → Prop) (h0 : J 0 [] news)
    (turn : ∀ (i : Nat) (v : Value) (I : Addr) (oI : Obj) (C : Addr) (oC : Obj) (D : Addr) (m₂ : Str → Option Value) (ys : List Value) (nw : List (Addr × Obj)) (h : Heap) (tk : Nat) (E' : Value → Shared → Prop), i < n → P i v → J i ys nw → LCg.NsObj oC m₂ → m₂ x = some v → Fr h₀ L h m →
      News h₀ L h ((I, oI) :: (C, oC) :: (D, LCg.lst ys) :: nw) → LCg.Off3 I C D nw → ((@Ne Nat I C) ∧ (@Ne Nat I D) ∧ (@Ne Nat C D)) →
      wpAny (model prog w) A (isTrue ct (compEnvC scope cl C env) (eval ct (compEnvC scope cl C env))) (fun b s' => if b = true then wpAny (model prog w) A (eval elt (compEnvC scope cl C env)) (LCg.CompEnd h₀ L m { s with heap := h, toks := tk } I oI C oC D (LCg.lst ys) S (fun y nw' => J (i + 1) (ys ++ [y]) nw')) E' s'
        else LCg.CompEnd h₀ L m { s with heap := h, toks := tk } I oI C oC D (LCg.lst ys) S (fun _ nw' => J (i + 1) ys nw') Value.none s') E' { s with heap := h, toks := tk })
    (fin : ∀ ys nw, J n ys nw → Fin ys nw) : LCt.CompRestT prog w A h₀ L m env ct elt x scope cl s S P Fin n 0 [] news := by
  have key : ∀ (j i : Nat) (ys : List Value) (nw : List (Addr × Obj)), i + j = n → J i ys nw → LCt.CompRestT prog w A h₀ L m env ct elt x scope cl s S P Fin j i ys nw := by
    intro j
    induction j with
    | zero =>
      intro i ys nw hi hJ
      have e : i = n := by omega
      subst e
      exact LCt.CompRestT.zero (fin ys nw hJ)
    | succ j ih =>
      intro i ys nw hi hJ
      refine LCt.CompRestT.succ ?_
      intro v I oI C oC D m₂ h tk E' hv hC hx F N off ne
      refine wpAny_mono (turn i v I oI C oC D m₂ ys nw h tk E' (by omega) hv hJ hC hx F N off ne) (fun b s₂ hq => ?_) fun _ _ e => e
      cases b with
      | true =>
        simp only [if_true] at hq ⊢
        refine wpAny_mono hq (fun y s₃ hr => ?_) fun _ _ e => e
        obtain ⟨h', tk', nw', e, F', N', off', hS, hJ'⟩ := hr
        exact ⟨h', tk', nw', e, F', N', off', hS, ih (i + 1) _ _ (by omega) hJ'⟩
      | false =>
        simp only [Bool.false_eq_true, if_false] at hq ⊢
        obtain ⟨h', tk', nw', e, F', N', off', hS, hJ'⟩ := hq
        exact ⟨h', tk', nw', e, F', N', off', hS, ih (i + 1) _ _ (by omega) hJ'⟩
  exact key n 0 [] news (by omega) h0
end
section
variable {prog : Program} {w : World} {A : Around} {E : Value → Shared → Prop} {s : Shared} {h₀ : Heap} {L : Addr} {news : List (Addr × Obj)}
theorem item_led {value slice : PySem.Expr} {l : Addr} {arr : Array Value} {c : Nat} {k : Int} {u : Tok} {v : Value} {Q : Value → Shared → Prop}
    (N : News h₀ L s.heap news) (hm : (l, W.listOf arr c) ∈ news) (h0 : 0 ≤ k) (hhi : k < 2 ^ 63) (hx : arr[k.toNat]? = some v) (h : Q v s)
    (hs : subscripted slice false (.ref l) (.int k u) = operate [.ref l, .int k u] (getItem (.ref l) (.int k u)) := by with_unfolding_all rfl) :
    wpAny (model prog w) A (subscriptTail value slice (.ref l) (.int k u)) Q E s :=
  have hl : s.heap.IsList l arr := ⟨_, (N _ hm).1, rfl, _, rfl⟩
  tail_any hl.typeIs slot_list_getitem.lookup (wpAny_getItem_list hl h0 hhi (by simpa using hx) h) hs
end
noncomputable def ClaimM (prog : Program) (w : World) (K : Frag) (p : Program) (loose : List Str) (mean : ExcName → Option Value) (mg mb : Str → Option Value) (f : Addr) (D U : Nat) (news : List (Addr × Obj)) (vs : List Value) (R : Value → List (Addr × Obj) → Prop) : Prop :=
  ∀ (dp un : Nat) (gd : Option (List Code)) (cn : Str) (cs : Scope) (a : Addr) (ccd : Value) (cl : List (Str × Addr)) (outer : List Env) (A₀ : Around) (base h₀ : Heap) (L : Addr) (m : Str → Option Value) (s : Shared) (Q E : Value → Shared → Prop),
    Below A₀ base outer h₀ → Fr h₀ L s.heap m → K.In h₀ → News h₀ L s.heap news → Top p loose mean mg mb h₀ → cs.kind = .function →
    dp + D < recursionLimit → un + U < cLine → (∀ (v : Value) (tl : List (Addr × Obj)) (h' : Heap) (tk' : Nat), R v (tl ++ news) → Fr h₀ L h' m → News h₀ L h' (tl ++ news) → Q v { s with heap := h', toks := tk' }) →
      wpAny (model prog w) (ktrTop dp un gd cn cs L a ccd cl outer) (call (.ref f) vs) Q E s
theorem ClaimM.use {prog : Program} {w : World} {K : Frag} {p : Program} {loose : List Str} {mean : ExcName → Option Value} {mg mb : Str → Option Value} {f : Addr} {D U : Nat} {news : List (Addr × Obj)} {vs : List Value} {R : Value → List (Addr × Obj) → Prop}
    {dp un : Nat} {gd : Option (List Code)} {cn : Str} {cs : Scope} {a : Addr} {ccd : Value} {cl : List (Str × Addr)} {outer : List Env} {A₀ : Around} {base h₀ : Heap} {L : Addr} {m : Str → Option Value} {s : Shared} {Q E : Value → Shared → Prop}
    (hB : Below A₀ base outer h₀) (hF : Fr h₀ L s.heap m) (hX : K.In h₀) (hN : News h₀ L s.heap news) (hT : Top p loose mean mg mb h₀) (hc : cs.kind = .function)
    (C : ClaimM prog w K p loose mean mg mb f D U news vs R) (hd : dp + D < recursionLimit) (hu : un + U < cLine)
    (ret : ∀ (v : Value) (tl : List (Addr × Obj)) (h' : Heap) (tk' : Nat), R v (tl ++ news) → Fr h₀ L h' m → News h₀ L h' (tl ++ news) → Q v { s with heap := h', toks := tk' }) :
    wpAny (model prog w) (ktrTop dp un gd cn cs L a ccd cl outer) (call (.ref f) vs) Q E s := C _ _ _ _ _ _ _ _ _ _ _ _ _ _ _ _ _ hB hF hX hN hT hc hd hu ret
end
end

section
open PySem PySem.W PyProof.Rows
section
inductive All2 {α β : Type} (R : α → β → Prop) : List α → List β → Prop
  | nil : All2 R [] []
  | cons {a b as bs} : R a b → All2 R as bs → All2 R (a :: as) (b :: bs)
theorem All2.length {α β : Type} {R : α → β → Prop} {as : List α} {bs : List β} (h : All2 R as bs) : as.length = bs.length := by
  induction h with
  | nil => rfl
  | cons _ _ ih => simp [ih]
theorem All2.mono {α β : Type} {R R' : α → β → Prop} (k : ∀ a b, R a b → R' a b) {as : List α} {bs : List β} (h : All2 R as bs) : All2 R' as bs := by
  induction h with
  | nil => exact .nil
  | cons h _ ih => exact .cons (k _ _ h) ih
theorem All2.snoc {α β : Type} {R : α → β → Prop} {as : List α} {bs : List β} {a : α} {b : β} (h : All2 R as bs) (r : R a b) : All2 R (as ++ [a]) (bs ++ [b]) := by
  induction h with
  | nil => exact .cons r .nil
  | cons h _ ih => exact .cons h ih
theorem All2.get {α β : Type} {R : α → β → Prop} {as : List α} {bs : List β} (h : All2 R as bs) : ∀ {i : Nat} {a : α}, as[i]? = some a → ∃ b, bs[i]? = some b ∧ R a b := by
  induction h with
  | nil => intro i a h; simp at h
  | cons r _ ih =>
    intro i a h
    cases i with
    | zero => simp at h; subst h; exact ⟨_, rfl, r⟩
    | succ i => simpa using ih (by simpa using h)
theorem All2.drop {α β : Type} {R : α → β → Prop} {as : List α} {bs : List β} (h : All2 R as bs) : ∀ (n : Nat), All2 R (as.drop n) (bs.drop n) := by
  induction h with
  | nil => intro n; simp; exact .nil
  | cons r h ih =>
    intro n
    cases n with
    | zero => exact .cons r h
    | succ n => exact ih n
theorem off1_mem {D : Addr} : ∀ {l : List (Addr × Obj)}, LCg.Off1 D l → ∀ p ∈ l, @Ne Nat p.1 D
  | [], _, _, h => nomatch h
  | _ :: _, x, p, h => by
    rcases List.mem_cons.mp h with rfl | h
    · exact x.1
    · exact off1_mem x.2 p h
theorem extend_nil {prog : Program} {w : World} {A : Around} {E : Value → Shared → Prop} {s : Shared} {h₀ : Heap} {L D b : Addr} {m : Str → Option Value} {news : List (Addr × Obj)} {ys : List Value} {n n2 : Nat} {g : Nat → List (Addr × Obj)} {Q : Value → Shared → Prop}
    (F : Fr h₀ L s.heap m) (N : News h₀ L s.heap news) (hb : (b, W.listOf ys.toArray n2) ∈ news) (U : ∀ k, Upd D (W.listOf #[] n) (W.listOf ys.toArray k) news (g k)) (hz : ys.length ≤ sizeLine)
    (h : ∀ k h', Fr h₀ L h' m → News h₀ L h' (g k) → Q .none { s with heap := h' }) : wpAny (model prog w) A (call (.builtin "list.extend") [.ref D, .ref b]) Q E s := by
  by_cases hy : ys = []
  · subst hy
    exact kxn_extend F N hb rfl (U n) (by simp) (by simp) (by simp) (h n)
  · exact kl_extend F N hb (l := ys) (by simp) (by simpa using hy) (U (n + 1)) (by simp) (by simp) (by simp; omega) (h (n + 1))
theorem isl {h₀ h : Heap} {L l : Addr} {news : List (Addr × Obj)} {arr : Array Value} {c : Nat} (N : News h₀ L h news) (hm : (l, W.listOf arr c) ∈ news) : h.IsList l arr := ⟨_, (N _ hm).1, rfl, c, rfl⟩
theorem isl5 {h₀ h : Heap} {L a : Addr} {arr : Array Value} {n : Nat} {rest : List (Addr × Obj)} {G : Prop} (N : News h₀ L h ((a, W.listOf arr n) :: rest)) (ns : List Int) (hI : IntsAre arr.toList ns)
    (k : ∀ us : List Value, h.IsList a us.toArray → IntsAre us ns → G) : G := k arr.toList ⟨_, (N _ List.mem_cons_self).1, rfl, n, by simp⟩ hI
section
variable {prog : Program} {w : World} {A : Around} {E : Value → Shared → Prop} {s : Shared} {h₀ : Heap} {L l : Addr} {m : Str → Option Value} {news : List (Addr × Obj)} {value slice : PySem.Expr} {vs : List Value} {t : Tok} {e b : Nat} {Q : Value → Shared → Prop}
theorem slice_to (F : Fr h₀ L s.heap m) (N : News h₀ L s.heap news) (hm : (l, W.listOf vs.toArray e) ∈ news) (hz : vs.length ≤ sizeLine)
    (h : ∀ D h', Fr h₀ L h' m → News h₀ L h' ((D, W.listOf (vs.take b).toArray 0) :: news) → (∀ p ∈ news, p.1 < D) → Q (.ref D) { s with heap := h' })
    (hs : subscripted slice false (.ref l) (.ref s.heap.objs.size) = operate [.ref s.heap.objs.size, .ref l] (getItem (.ref l) (.ref s.heap.objs.size)) := by with_unfolding_all rfl) (ht : ∀ r, letTemporaryGo value (.ref l) r = pure () := by intro _; with_unfolding_all rfl) :
    wpAny (model prog w) A (subscriptTail value slice (.ref l) (.ref s.heap.objs.size)) Q E { s with heap := s.heap.push { cls := .type "slice", data := .fields #[.none, .int b t, .none] } } :=
  kmk_slice_lit F N ⟨_, (N _ hm).1, rfl, _, rfl⟩ .none (.int _ _) (by rw [slicePick_upto']) h hs ht (by simpa using hz)
theorem slice_from (F : Fr h₀ L s.heap m) (N : News h₀ L s.heap news) (hm : (l, W.listOf vs.toArray e) ∈ news) (hz : vs.length ≤ sizeLine)
    (h : ∀ D h', Fr h₀ L h' m → News h₀ L h' ((D, W.listOf (vs.drop b).toArray 0) :: news) → (∀ p ∈ news, p.1 < D) → Q (.ref D) { s with heap := h' })
    (hs : subscripted slice false (.ref l) (.ref s.heap.objs.size) = operate [.ref s.heap.objs.size, .ref l] (getItem (.ref l) (.ref s.heap.objs.size)) := by with_unfolding_all rfl) (ht : ∀ r, letTemporaryGo value (.ref l) r = pure () := by intro _; with_unfolding_all rfl) :
    wpAny (model prog w) A (subscriptTail value slice (.ref l) (.ref s.heap.objs.size)) Q E { s with heap := s.heap.push { cls := .type "slice", data := .fields #[.int b t, .none, .none] } } :=
  kmk_slice_lit F N ⟨_, (N _ hm).1, rfl, _, rfl⟩ (.int _ _) .none (by rw [slicePick_from']) h hs ht (by simpa using hz)
end
theorem ints5 {us : List Value} {xs : List Int} (h : IntsAre us xs) (hl : xs.length = 5) : ∃ x0 x1 x2 x3 x4 t0 t1 t2 t3 t4, us = [.int x0 t0, .int x1 t1, .int x2 t2, .int x3 t3, .int x4 t4] := by
  cases h with
  | nil => simp at hl
  | cons x0 t0 h =>
    cases h with
    | nil => simp at hl
    | cons x1 t1 h =>
      cases h with
      | nil => simp at hl
      | cons x2 t2 h =>
        cases h with
        | nil => simp at hl
        | cons x3 t3 h =>
          cases h with
          | nil => simp at hl
          | cons x4 t4 h =>
            cases h with
            | nil => exact ⟨x0, x1, x2, x3, x4, t0, t1, t2, t3, t4, rfl⟩
            | cons _ _ _ => simp at hl
theorem led_one {h₀ h : Heap} {L a : Addr} {o : Obj} {r : List (Addr × Obj)} {G : Prop} (N : News h₀ L h ((a, o) :: r))
    (k : ∀ a' n, a' = a → (a', o) ∈ n → (∀ q ∈ r, q ∈ n) → News h₀ L h n → G) : G := k a _ rfl List.mem_cons_self (fun q hq => List.mem_cons_of_mem _ hq) N
theorem led_up {h₀ h : Heap} {L : Addr} {r t : List (Addr × Obj)} {G : Prop} (N : News h₀ L h r) (hs : ∀ q ∈ t, q ∈ r) (k : ∀ n, (∀ q ∈ r, q ∈ n) → (∀ q ∈ t, q ∈ n) → News h₀ L h n → G) : G := k r (fun _ h => h) hs N
noncomputable def StrsIn (nw : List (Addr × Obj)) (v : Value) (ws : List Str) : Prop := ∃ (l : Addr) (vs : List Value) (ep : Nat), v = .ref l ∧ (l, W.listOf vs.toArray ep) ∈ nw ∧ StrsAre vs ws
theorem StrsIn.mono {nw nw' : List (Addr × Obj)} {v : Value} {ws : List Str} (h : StrsIn nw v ws) (k : ∀ q ∈ nw, q ∈ nw') : StrsIn nw' v ws := let ⟨l, vs, ep, e, hm, hA⟩ := h; ⟨l, vs, ep, e, k _ hm, hA⟩
theorem StrsIn.ref {nw : List (Addr × Obj)} {v : Value} {ws : List Str} (h : StrsIn nw v ws) : ∃ x, v = .ref x := let ⟨l, _, _, e, _⟩ := h; ⟨l, e⟩
noncomputable def ClaimD (prog : Program) (w : World) (K : Frag) (p : Program) (loose : List Str) (mean : ExcName → Option Value) (mg mb : Str → Option Value) (f : Addr) (D U : Nat) (news : List (Addr × Obj)) (vs : List Value) (R : Value → List (Addr × Obj) → Prop) : Prop :=
  ∀ (dp un : Nat) (gd : Option (List Code)) (cn : Str) (cs : Scope) (a : Addr) (ccd : Value) (cl : List (Str × Addr)) (outer : List Env) (A₀ : Around) (base h₀ : Heap) (L : Addr) (m : Str → Option Value) (s : Shared) (Q E : Value → Shared → Prop),
    Below A₀ base outer h₀ → Fr h₀ L s.heap m → K.In h₀ → News h₀ L s.heap news → Top p loose mean mg mb h₀ → cs.kind = .function →
    dp + D < recursionLimit → un + U < cLine → (∀ (v : Value) (tl : List (Addr × Obj)) (h' : Heap) (tk' : Nat), R v tl → Fr h₀ L h' m → News h₀ L h' (tl ++ news) → (∀ p ∈ news, ∀ q ∈ tl, @Ne Nat p.1 q.1) → Q v { s with heap := h', toks := tk' }) →
      wpAny (model prog w) (ktrTop dp un gd cn cs L a ccd cl outer) (call (.ref f) vs) Q E s
theorem ClaimD.use {prog : Program} {w : World} {K : Frag} {p : Program} {loose : List Str} {mean : ExcName → Option Value} {mg mb : Str → Option Value} {f : Addr} {D U : Nat} {news : List (Addr × Obj)} {vs : List Value} {R : Value → List (Addr × Obj) → Prop}
    {dp un : Nat} {gd : Option (List Code)} {cn : Str} {cs : Scope} {a : Addr} {ccd : Value} {cl : List (Str × Addr)} {outer : List Env} {A₀ : Around} {base h₀ : Heap} {L : Addr} {m : Str → Option Value} {s : Shared} {Q E : Value → Shared → Prop}
    (hB : Below A₀ base outer h₀) (hF : Fr h₀ L s.heap m) (hX : K.In h₀) (hN : News h₀ L s.heap news) (hT : Top p loose mean mg mb h₀) (hc : cs.kind = .function)
    (C : ClaimD prog w K p loose mean mg mb f D U news vs R) (hd : dp + D < recursionLimit) (hu : un + U < cLine)
    (ret : ∀ (v : Value) (tl : List (Addr × Obj)) (h' : Heap) (tk' : Nat), R v tl → Fr h₀ L h' m → News h₀ L h' (tl ++ news) → (∀ p ∈ news, ∀ q ∈ tl, @Ne Nat p.1 q.1) → Q v { s with heap := h', toks := tk' }) :
    wpAny (model prog w) (ktrTop dp un gd cn cs L a ccd cl outer) (call (.ref f) vs) Q E s := C _ _ _ _ _ _ _ _ _ _ _ _ _ _ _ _ _ hB hF hX hN hT hc hd hu ret
end
end

section
open PySem PySem.W PyProof.Rows
section
noncomputable def agentLine (a : Str) : Str := Str.ofString "User-agent: " ++ a
noncomputable def delLine : Option Int → List Str
  | none => []
  | some n => [Str.ofString "Crawl-delay: " ++ Str.ofString (toString n)]
noncomputable def textLines (ag : List Str) (dl : Option Int) (ru : List Str) : List Str := ag.map agentLine ++ delLine dl ++ ru
theorem sum_len {B : Nat} : ∀ {l : List Str}, (∀ x ∈ l, x.length ≤ B) → (l.map (·.length)).sum ≤ l.length * B
  | [], _ => by simp
  | x :: l, h => by
    have h1 := h x List.mem_cons_self
    have h2 := sum_len (l := l) fun y hy => h y (List.mem_cons_of_mem _ hy)
    simp only [List.map_cons, List.sum_cons, List.length_cons, Nat.succ_mul]
    omega
theorem agentLine_len {x : Str} (h : x.length ≤ 64) : (agentLine x).length ≤ 80 := by
  unfold agentLine
  rw [Str.length_append, show (Str.ofString "User-agent: ").length = 12 by decide +kernel]
  omega
theorem delLine_len {n : Int} (h0 : 0 ≤ n) (h1 : n < 100) : (Str.ofString "Crawl-delay: " ++ Str.ofString (toString n)).length ≤ 80 := by
  rw [Str.length_append, show (Str.ofString "Crawl-delay: ").length = 13 by decide +kernel]
  have := KT.len_num h0 (Int.lt_of_lt_of_le h1 (by decide))
  omega
theorem lines_fit {ag ru : List Str} {dl : Option Int} (hna : ag.length ≤ 64) (hnb : ru.length ≤ 64) (hsz : ∀ x ∈ ag, x.length ≤ 64) (hsr : ∀ x ∈ ru, x.length ≤ 64) (hdb : ∀ n, dl = some n → 0 ≤ n ∧ n < 100) :
    ((textLines ag dl ru).map (·.length)).sum + (textLines ag dl ru).length * 64 ≤ 16777216 := by
  have hl : (textLines ag dl ru).length ≤ 200 := by
    unfold textLines
    simp only [List.length_append, List.length_map]
    have : (delLine dl).length ≤ 1 := by cases dl <;> simp [delLine]
    omega
  have hb : ∀ x ∈ textLines ag dl ru, x.length ≤ 80 := by
    intro x hx
    unfold textLines at hx
    rcases List.mem_append.mp hx with hx | hx
    · rcases List.mem_append.mp hx with hx | hx
      · obtain ⟨y, hy, rfl⟩ := List.mem_map.mp hx
        exact agentLine_len (hsz y hy)
      · cases dl with
        | none => exact nomatch hx
        | some n =>
          obtain ⟨h0, h1⟩ := hdb n rfl
          simp only [delLine, List.mem_singleton] at hx
          subst hx
          exact delLine_len h0 h1
    · exact Nat.le_trans (hsr x hx) (by decide)
  have := sum_len hb
  have h2 := Nat.mul_le_mul_right 80 hl
  have h3 := Nat.mul_le_mul_right 64 hl
  omega
end
end

section
open PySem PySem.W PyProof.Rows
section
local macro_rules | `(tactic| k_mem) => `(tactic| assumption)
local macro_rules | `(tactic| k_mem) => `(tactic| ((repeat refine List.mem_cons_of_mem _ ?_); assumption))
noncomputable def DelIs (v : Value) : Option Int → Prop
  | none => v = .none
  | some n => ∃ t, v = .int n t
noncomputable def RecIn (w : World) (nw : List (Addr × Obj)) (v : Value) (ag : List Str) (dl : Option Int) (ru : List Str) : Prop :=
  ∃ (x d l1 l2 : Addr) (t1 t2 t3 t4 : Tok) (v1 v2 : List Value) (k1 k2 : Nat) (dv : Value), v = .ref x ∧ (x, instObj 59 d) ∈ nw ∧
    (d, dictOf [⟨PyData.keyHash w.params "useragents", .str "useragents" t1, .ref l1⟩, ⟨PyData.keyHash w.params "rulelines", .str "rulelines" t2, .ref l2⟩, ⟨PyData.keyHash w.params "delay", .str "delay" t3, dv⟩, ⟨PyData.keyHash w.params "req_rate", .str "req_rate" t4, .none⟩] 4) ∈ nw ∧
    (l1, W.listOf v1.toArray k1) ∈ nw ∧ (l2, W.listOf v2.toArray k2) ∈ nw ∧ StrsAre v1 ag ∧ StrsAre v2 ru ∧ DelIs dv dl
theorem name4 {h₀ h : Heap} {L a1 a2 a3 a4 : Addr} {o1 o2 o3 o4 : Obj} {news : List (Addr × Obj)} {G : Prop} (_N : News h₀ L h ((a1, o1) :: (a2, o2) :: (a3, o3) :: (a4, o4) :: news))
    (k : ∀ b1 b2 b3 b4, b1 = a1 → b2 = a2 → b3 = a3 → b4 = a4 → G) : G := k _ _ _ _ rfl rfl rfl rfl
theorem record_c {w : World} {p : Program} {loose : List Str} {mean : ExcName → Option Value} {mg mb : Str → Option Value} {news : List (Addr × Obj)} {a b dv : Value} {ag ru : List Str} {dl : Option Int} (ha : StrsIn news a ag) (hb : StrsIn news b ru) (hd : DelIs dv dl) (hna : ag.length ≤ 64) (hnb : ru.length ≤ 64) :
   ClaimD Challenge.rw_nb0157_02.row.prog w (Mine.hd.heap_39 w.params) p loose mean mg mb 91 4 32 news [a, dv, b] (fun v nw => RecIn w nw v ag dl ru) := by
  obtain ⟨la, va, ea, rfl, hma, hsa⟩ := ha
  obtain ⟨lb, vb, eb, rfl, hmb, hsb⟩ := hb
  intro dp un gd cn cs ad ccd cl outer A₀ base h₀ L m s Q E hB hF hX hN hT hcs hdp hun hret
  refine wpAny_call ?_
  k_dflt cell_enter
  (repeat' (first | (k_unfold; first | walk_at "Seq" | (try dsimp only)) | ((fail_if_success ((first | with_reducible show wpAny _ _ (call (Value.builtin "list.extend") _) _ _ _ | with_reducible show wpAny _ _ (exec (PySem.Stmt.While _ _ _ _) _) _ _ _ | with_reducible show wpAny _ _ (exec (PySem.Stmt.For _ _ _ _ _) _) _ _ _ | with_reducible show wpAny _ _ (pyIter _) _ _ _ | with_reducible show wpAny _ _ (call (Value.type "list") _) _ _ _ | with_reducible show wpAny _ _ (call (Value.builtin "str.join") _) _ _ _ | with_reducible show wpAny _ _ (eval (PySem.Expr.ListComp _ [PySem.Comprehension.mk (PySem.Expr.Tuple _ _ _) _ _ _] _ _) _) _ _ _ | with_reducible show LCg.CompSrc _ _ _ _ _ _ _ _ _ _ _ _ _ _ | with_reducible show wpAny _ _ (execs (PySem.Stmt.If (PySem.Expr.Compare _ [CmpOp.Lt] _ _) [PySem.Stmt.Assign [PySem.Expr.Tuple _ _ _] _ _] _ _ :: _) _) _ _ _))); first | (k_end; wrow_close) | walk1 | (dsimp only; walk1) | (leave1; walk_say "STEP leave1"; try dsimp only) | fail "no step")))
  refine name4 (show News _ _ _ ((_, W.listOf _ _) :: (_, W.listOf _ _) :: (_, instObj _ _) :: (_, dictOf _ _) :: news) by k_asm) ?_
  intro l2 l1 x d e1 e2 e3 e4
  subst e1 e2 e3 e4
  have hla := hsa.len_eq
  have hlb := hsb.len_eq
  have hz1 : va.length ≤ sizeLine := by rw [sizeLine_eq]; omega
  have hz2 : vb.length ≤ sizeLine := by rw [sizeLine_eq]; omega
  refine extend_nil (ys := va) (by k_asm) (show News _ _ _ ((l2, W.listOf _ _) :: (l1, W.listOf _ _) :: (x, instObj _ _) :: (d, dictOf _ _) :: news) by k_asm) (List.mem_cons_of_mem _ (List.mem_cons_of_mem _ (List.mem_cons_of_mem _ (List.mem_cons_of_mem _ hma)))) (fun k => Upd.tail ?u1 (Upd.head ?u2)) hz1 ?_
  case u1 => refine neN ?_; dsimp only; omega
  case u2 => k_all
  intro k1 h1 F1 N1
  k_sweep
  (repeat' (first | (k_unfold; first | walk_at "Seq" | (try dsimp only)) | ((fail_if_success ((first | with_reducible show wpAny _ _ (call (Value.builtin "list.extend") _) _ _ _ | with_reducible show wpAny _ _ (exec (PySem.Stmt.While _ _ _ _) _) _ _ _ | with_reducible show wpAny _ _ (exec (PySem.Stmt.For _ _ _ _ _) _) _ _ _ | with_reducible show wpAny _ _ (pyIter _) _ _ _ | with_reducible show wpAny _ _ (call (Value.type "list") _) _ _ _ | with_reducible show wpAny _ _ (call (Value.builtin "str.join") _) _ _ _ | with_reducible show wpAny _ _ (eval (PySem.Expr.ListComp _ [PySem.Comprehension.mk (PySem.Expr.Tuple _ _ _) _ _ _] _ _) _) _ _ _ | with_reducible show LCg.CompSrc _ _ _ _ _ _ _ _ _ _ _ _ _ _ | with_reducible show wpAny _ _ (execs (PySem.Stmt.If (PySem.Expr.Compare _ [CmpOp.Lt] _ _) [PySem.Stmt.Assign [PySem.Expr.Tuple _ _ _] _ _] _ _ :: _) _) _ _ _))); first | (k_end; wrow_close) | walk1 | (dsimp only; walk1) | (leave1; walk_say "STEP leave1"; try dsimp only) | fail "no step")))
  refine extend_nil (ys := vb) (by k_asm) (show News _ _ _ ((l2, W.listOf _ _) :: (l1, W.listOf _ _) :: (x, instObj _ _) :: (d, dictOf _ _) :: news) by k_asm) (List.mem_cons_of_mem _ (List.mem_cons_of_mem _ (List.mem_cons_of_mem _ (List.mem_cons_of_mem _ hmb)))) (fun k => Upd.head ?u2) hz2 ?_
  case u2 => k_all
  intro k2 h2 F2 N2
  k_sweep
  (repeat' (first | (k_unfold; first | walk_at "Seq" | (try dsimp only)) | ((fail_if_success ((first | with_reducible show wpAny _ _ (call (Value.builtin "list.extend") _) _ _ _ | with_reducible show wpAny _ _ (exec (PySem.Stmt.While _ _ _ _) _) _ _ _ | with_reducible show wpAny _ _ (exec (PySem.Stmt.For _ _ _ _ _) _) _ _ _ | with_reducible show wpAny _ _ (pyIter _) _ _ _ | with_reducible show wpAny _ _ (call (Value.type "list") _) _ _ _ | with_reducible show wpAny _ _ (call (Value.builtin "str.join") _) _ _ _ | with_reducible show wpAny _ _ (eval (PySem.Expr.ListComp _ [PySem.Comprehension.mk (PySem.Expr.Tuple _ _ _) _ _ _] _ _) _) _ _ _ | with_reducible show LCg.CompSrc _ _ _ _ _ _ _ _ _ _ _ _ _ _ | with_reducible show wpAny _ _ (execs (PySem.Stmt.If (PySem.Expr.Compare _ [CmpOp.Lt] _ _) [PySem.Stmt.Assign [PySem.Expr.Tuple _ _ _] _ _] _ _ :: _) _) _ _ _))); first | (k_end; wrow_close) | walk1 | (dsimp only; walk1) | (leave1; walk_say "STEP leave1"; try dsimp only) | fail "no step")))
  refine hret (.ref x) [(l2, W.listOf vb.toArray k2), (l1, W.listOf va.toArray k1), (x, instObj 59 d), (d, _)] _ _ ⟨x, d, l1, l2, _, _, _, _, va, vb, k1, k2, dv, rfl, .tail _ (.tail _ (.head _)), .tail _ (.tail _ (.tail _ (.head _))), .tail _ (.head _), .head _, hsa, hsb, hd⟩ (by k_asm) (by k_asm) ?ne
  case ne =>
    rename (∀ p ∈ news, p.1 < d) => hd0
    rename (d < x) => hdx
    intro p hp q hq
    have z := hd0 p hp
    simp only [List.mem_cons, List.not_mem_nil, or_false] at hq
    rcases hq with rfl | rfl | rfl | rfl
    · exact Nat.ne_of_lt (Nat.lt_trans z (by omega))
    · exact Nat.ne_of_lt (Nat.lt_trans z (by omega))
    · exact Nat.ne_of_lt (Nat.lt_trans z hdx)
    · exact Nat.ne_of_lt z
end
end

section
open PySem PySem.W PyProof.Rows
section
local macro_rules | `(tactic| k_mem) => `(tactic| assumption)
local macro_rules | `(tactic| k_mem) => `(tactic| ((repeat refine List.mem_cons_of_mem _ ?_); assumption))
local macro_rules | `(tactic| walk_at "eval Name") => `(tactic| (k_here; (with_reducible show wpAny _ _ (eval (Expr.Name _ _) (compEnvC _ _ _ _)) _ _ _); k_dflt (first
  | refine LCgL.ld_own (by k_asm) (List.mem_cons_of_mem _ List.mem_cons_self) (by assumption) (by assumption) ?_
  | refine LCgL.ld_global (by k_asm) (by k_asm) (by k_asm) (by k_is) ?_)))
theorem name_tok {h₀ h : Heap} {L D : Addr} {arr : Array Value} {x : Str} {t : Tok} {k : Nat} {news : List (Addr × Obj)} {G : Prop} (_N : News h₀ L h ((D, W.listOf (arr.push (.str x t)) k) :: news)) (g : ∀ t', t = t' → G) : G := g t rfl
theorem text_c {w : World} {p : Program} {loose : List Str} {mean : ExcName → Option Value} {mg mb : Str → Option Value} {news : List (Addr × Obj)} {a b dv : Value} {ag ru : List Str} {dl : Option Int} (ha : StrsIn news a ag) (hb : StrsIn news b ru) (hd : DelIs dv dl) (hna : ag.length ≤ 64) (hnb : ru.length ≤ 64) (hsz : ∀ x ∈ ag, x.length ≤ 64) (hsr : ∀ x ∈ ru, x.length ≤ 64) (hdb : ∀ n, dl = some n → 0 ≤ n ∧ n < 100) :
   Claim Challenge.rw_nb0157_02.row.prog w (Mine.hd.heap_39 w.params) p loose mean mg mb 96 4 32 news [a, dv, b] (fun t => .str (Txt.join (Str.ofString "\n") (textLines ag dl ru)) t) := by
  have hfit := lines_fit hna hnb hsz hsr hdb
  obtain ⟨la, va, ea, rfl, hma, hsa⟩ := ha
  obtain ⟨lb, vb, eb, rfl, hmb, hsb⟩ := hb
  intro dp un gd cn cs ad ccd cl outer A₀ base h₀ L m s Q E hB hF hX hN hT hcs hdp hun hret
  refine wpAny_call ?_
  k_dflt cell_enter
  (repeat' (first | (k_unfold; first | walk_at "Seq" | (try dsimp only)) | ((fail_if_success ((first | with_reducible show wpAny _ _ (exec (PySem.Stmt.Assign [_] (PySem.Expr.ListComp _ _ _ _) _) _) _ _ _ | with_reducible show wpAny _ _ (binaryOp Operator.Add (Value.ref _) (Value.ref _)) _ _ _ | with_reducible show wpAny _ _ (call (Value.builtin "list.append") _) _ _ _ | with_reducible show wpAny _ _ (exec (PySem.Stmt.While _ _ _ _) _) _ _ _ | with_reducible show wpAny _ _ (exec (PySem.Stmt.For _ _ _ _ _) _) _ _ _ | with_reducible show wpAny _ _ (pyIter _) _ _ _ | with_reducible show wpAny _ _ (call (Value.type "list") _) _ _ _ | with_reducible show wpAny _ _ (call (Value.builtin "str.join") _) _ _ _ | with_reducible show wpAny _ _ (eval (PySem.Expr.ListComp _ [PySem.Comprehension.mk (PySem.Expr.Tuple _ _ _) _ _ _] _ _) _) _ _ _ | with_reducible show LCg.CompSrc _ _ _ _ _ _ _ _ _ _ _ _ _ _ | with_reducible show wpAny _ _ (execs (PySem.Stmt.If (PySem.Expr.Compare _ [CmpOp.Lt] _ _) [PySem.Stmt.Assign [PySem.Expr.Tuple _ _ _] _ _] _ _ :: _) _) _ _ _))); first | (k_end; wrow_close) | walk1 | (dsimp only; walk1) | (leave1; walk_say "STEP leave1"; try dsimp only) | fail "no step")))
  have hla := hsa.len_eq
  have hlb := hsb.len_eq
  refine LCg.Assign_ListComp_U (F₀ := by k_asm) (by rfl) (by with_unfolding_all rfl) (by with_unfolding_all rfl) (by decide) (by rfl) (by decide) (by rfl) (by rfl) (by rfl) ?_
  (repeat' (first | (k_unfold; first | walk_at "Seq" | (try dsimp only)) | ((fail_if_success ((first | with_reducible show wpAny _ _ (exec (PySem.Stmt.Assign [_] (PySem.Expr.ListComp _ _ _ _) _) _) _ _ _ | with_reducible show wpAny _ _ (binaryOp Operator.Add (Value.ref _) (Value.ref _)) _ _ _ | with_reducible show wpAny _ _ (call (Value.builtin "list.append") _) _ _ _ | with_reducible show wpAny _ _ (exec (PySem.Stmt.While _ _ _ _) _) _ _ _ | with_reducible show wpAny _ _ (exec (PySem.Stmt.For _ _ _ _ _) _) _ _ _ | with_reducible show wpAny _ _ (pyIter _) _ _ _ | with_reducible show wpAny _ _ (call (Value.type "list") _) _ _ _ | with_reducible show wpAny _ _ (call (Value.builtin "str.join") _) _ _ _ | with_reducible show wpAny _ _ (eval (PySem.Expr.ListComp _ [PySem.Comprehension.mk (PySem.Expr.Tuple _ _ _) _ _ _] _ _) _) _ _ _ | with_reducible show LCg.CompSrc _ _ _ _ _ _ _ _ _ _ _ _ _ _ | with_reducible show wpAny _ _ (execs (PySem.Stmt.If (PySem.Expr.Compare _ [CmpOp.Lt] _ _) [PySem.Stmt.Assign [PySem.Expr.Tuple _ _ _] _ _] _ _ :: _) _) _ _ _))); first | (k_end; wrow_close) | walk1 | (dsimp only; walk1) | (leave1; walk_say "STEP leave1"; try dsimp only) | fail "no step")))
  refine LCg.CompSrc.ledger (its := va.toArray) (by rfl) (by k_asm) (show News _ _ _ news by k_asm) hma (by rw [sizeLine_eq, List.size_toArray]; omega) ?_
  intro g'
  refine comp_same (fun i zs => StrsAre zs ((ag.take i).map agentLine)) .nil ?turn2 ?fin2
  case turn2 =>
    rintro i v I oI C oC D' m₂ zs h tk E' hi hv hl hJ2 hC hx F N off ne
    obtain ⟨y, t, rfl, hyi⟩ := hsa.item i v (by simpa using hv)
    have hys := hsz y (List.mem_of_getElem? hyi)
    (repeat' (first | (k_unfold; first | walk_at "Seq" | (try dsimp only)) | ((fail_if_success ((first | with_reducible show wpAny _ _ (exec (PySem.Stmt.Assign [_] (PySem.Expr.ListComp _ _ _ _) _) _) _ _ _ | with_reducible show wpAny _ _ (binaryOp Operator.Add (Value.ref _) (Value.ref _)) _ _ _ | with_reducible show wpAny _ _ (call (Value.builtin "list.append") _) _ _ _ | with_reducible show wpAny _ _ (exec (PySem.Stmt.While _ _ _ _) _) _ _ _ | with_reducible show wpAny _ _ (exec (PySem.Stmt.For _ _ _ _ _) _) _ _ _ | with_reducible show wpAny _ _ (pyIter _) _ _ _ | with_reducible show wpAny _ _ (call (Value.type "list") _) _ _ _ | with_reducible show wpAny _ _ (call (Value.builtin "str.join") _) _ _ _ | with_reducible show wpAny _ _ (eval (PySem.Expr.ListComp _ [PySem.Comprehension.mk (PySem.Expr.Tuple _ _ _) _ _ _] _ _) _) _ _ _ | with_reducible show LCg.CompSrc _ _ _ _ _ _ _ _ _ _ _ _ _ _ | with_reducible show wpAny _ _ (execs (PySem.Stmt.If (PySem.Expr.Compare _ [CmpOp.Lt] _ _) [PySem.Stmt.Assign [PySem.Expr.Tuple _ _ _] _ _] _ _ :: _) _) _ _ _))); first | (k_end; wrow_close) | walk1 | (dsimp only; walk1) | (leave1; walk_say "STEP leave1"; try dsimp only) | fail "no step")))
    refine LCg.CompEnd.intro (by k_asm) (show News _ _ _ ((I, oI) :: (C, oC) :: (D', LCg.lst zs) :: news) by k_asm) news (fun p hp => hp) off (Or.inr ⟨_, hma, rfl, _, rfl⟩) ⟨rfl, ?_⟩
    rw [List.take_add_one, hyi, List.map_append]
    exact kct_snoc hJ2
  case fin2 =>
    intro zs hzl hZ D6 h6 tk6 F6 N6 o6
    rw [List.size_toArray, hla, List.take_length] at hZ
    rw [List.size_toArray] at hzl
    k_sweep
    (repeat' (first | (k_unfold; first | walk_at "Seq" | (try dsimp only)) | ((fail_if_success ((first | with_reducible show wpAny _ _ (exec (PySem.Stmt.Assign [_] (PySem.Expr.ListComp _ _ _ _) _) _) _ _ _ | with_reducible show wpAny _ _ (binaryOp Operator.Add (Value.ref _) (Value.ref _)) _ _ _ | with_reducible show wpAny _ _ (call (Value.builtin "list.append") _) _ _ _ | with_reducible show wpAny _ _ (exec (PySem.Stmt.While _ _ _ _) _) _ _ _ | with_reducible show wpAny _ _ (exec (PySem.Stmt.For _ _ _ _ _) _) _ _ _ | with_reducible show wpAny _ _ (pyIter _) _ _ _ | with_reducible show wpAny _ _ (call (Value.type "list") _) _ _ _ | with_reducible show wpAny _ _ (call (Value.builtin "str.join") _) _ _ _ | with_reducible show wpAny _ _ (eval (PySem.Expr.ListComp _ [PySem.Comprehension.mk (PySem.Expr.Tuple _ _ _) _ _ _] _ _) _) _ _ _ | with_reducible show LCg.CompSrc _ _ _ _ _ _ _ _ _ _ _ _ _ _ | with_reducible show wpAny _ _ (execs (PySem.Stmt.If (PySem.Expr.Compare _ [CmpOp.Lt] _ _) [PySem.Stmt.Assign [PySem.Expr.Tuple _ _ _] _ _] _ _ :: _) _) _ _ _))); first | (k_end; wrow_close) | walk1 | (dsimp only; walk1) | (leave1; walk_say "STEP leave1"; try dsimp only) | fail "no step")))
    cases dl with
    | none =>
      cases hd
      (repeat' (first | (k_unfold; first | walk_at "Seq" | (try dsimp only)) | ((fail_if_success ((first | with_reducible show wpAny _ _ (exec (PySem.Stmt.Assign [_] (PySem.Expr.ListComp _ _ _ _) _) _) _ _ _ | with_reducible show wpAny _ _ (binaryOp Operator.Add (Value.ref _) (Value.ref _)) _ _ _ | with_reducible show wpAny _ _ (call (Value.builtin "list.append") _) _ _ _ | with_reducible show wpAny _ _ (exec (PySem.Stmt.While _ _ _ _) _) _ _ _ | with_reducible show wpAny _ _ (exec (PySem.Stmt.For _ _ _ _ _) _) _ _ _ | with_reducible show wpAny _ _ (pyIter _) _ _ _ | with_reducible show wpAny _ _ (call (Value.type "list") _) _ _ _ | with_reducible show wpAny _ _ (call (Value.builtin "str.join") _) _ _ _ | with_reducible show wpAny _ _ (eval (PySem.Expr.ListComp _ [PySem.Comprehension.mk (PySem.Expr.Tuple _ _ _) _ _ _] _ _) _) _ _ _ | with_reducible show LCg.CompSrc _ _ _ _ _ _ _ _ _ _ _ _ _ _ | with_reducible show wpAny _ _ (execs (PySem.Stmt.If (PySem.Expr.Compare _ [CmpOp.Lt] _ _) [PySem.Stmt.Assign [PySem.Expr.Tuple _ _ _] _ _] _ _ :: _) _) _ _ _))); first | (k_end; wrow_close) | walk1 | (dsimp only; walk1) | (leave1; walk_say "STEP leave1"; try dsimp only) | fail "no step")))
      refine kmk_add_lit (its := zs.toArray) (its2 := vb.toArray) (zs := zs ++ vb) (by k_asm) (show News _ _ _ ((D6, LCg.lst zs) :: news) by k_asm) (isl (show News _ _ _ ((D6, LCg.lst zs) :: news) by k_asm) (show (D6, LCg.lst zs) ∈ _ from List.mem_cons_self)) (isl (show News _ _ _ ((D6, LCg.lst zs) :: news) by k_asm) (List.mem_cons_of_mem _ hmb)) rfl ?_ (by show zs.length + vb.length ≤ sizeLine; simp only [sizeLine_eq]; omega)
      intro D5 h5 F5 N5 l5
      (repeat' (first | (k_unfold; first | walk_at "Seq" | (try dsimp only)) | ((fail_if_success ((first | with_reducible show wpAny _ _ (exec (PySem.Stmt.Assign [_] (PySem.Expr.ListComp _ _ _ _) _) _) _ _ _ | with_reducible show wpAny _ _ (binaryOp Operator.Add (Value.ref _) (Value.ref _)) _ _ _ | with_reducible show wpAny _ _ (call (Value.builtin "list.append") _) _ _ _ | with_reducible show wpAny _ _ (exec (PySem.Stmt.While _ _ _ _) _) _ _ _ | with_reducible show wpAny _ _ (exec (PySem.Stmt.For _ _ _ _ _) _) _ _ _ | with_reducible show wpAny _ _ (pyIter _) _ _ _ | with_reducible show wpAny _ _ (call (Value.type "list") _) _ _ _ | with_reducible show wpAny _ _ (call (Value.builtin "str.join") _) _ _ _ | with_reducible show wpAny _ _ (eval (PySem.Expr.ListComp _ [PySem.Comprehension.mk (PySem.Expr.Tuple _ _ _) _ _ _] _ _) _) _ _ _ | with_reducible show LCg.CompSrc _ _ _ _ _ _ _ _ _ _ _ _ _ _ | with_reducible show wpAny _ _ (execs (PySem.Stmt.If (PySem.Expr.Compare _ [CmpOp.Lt] _ _) [PySem.Stmt.Assign [PySem.Expr.Tuple _ _ _] _ _] _ _ :: _) _) _ _ _))); first | (k_end; wrow_close) | walk1 | (dsimp only; walk1) | (leave1; walk_say "STEP leave1"; try dsimp only) | fail "no step")))
      refine join_listC (items := (zs ++ vb).toArray) (ys := textLines ag none ru) (isl N5 List.mem_cons_self) ?q1 (by decide) hfit ?_
      case q1 => simpa [textLines, delLine] using hZ.append' hsb
      intro t' k'
      (repeat' (first | (k_unfold; first | walk_at "Seq" | (try dsimp only)) | ((fail_if_success ((first | with_reducible show wpAny _ _ (exec (PySem.Stmt.Assign [_] (PySem.Expr.ListComp _ _ _ _) _) _) _ _ _ | with_reducible show wpAny _ _ (binaryOp Operator.Add (Value.ref _) (Value.ref _)) _ _ _ | with_reducible show wpAny _ _ (call (Value.builtin "list.append") _) _ _ _ | with_reducible show wpAny _ _ (exec (PySem.Stmt.While _ _ _ _) _) _ _ _ | with_reducible show wpAny _ _ (exec (PySem.Stmt.For _ _ _ _ _) _) _ _ _ | with_reducible show wpAny _ _ (pyIter _) _ _ _ | with_reducible show wpAny _ _ (call (Value.type "list") _) _ _ _ | with_reducible show wpAny _ _ (call (Value.builtin "str.join") _) _ _ _ | with_reducible show wpAny _ _ (eval (PySem.Expr.ListComp _ [PySem.Comprehension.mk (PySem.Expr.Tuple _ _ _) _ _ _] _ _) _) _ _ _ | with_reducible show LCg.CompSrc _ _ _ _ _ _ _ _ _ _ _ _ _ _ | with_reducible show wpAny _ _ (execs (PySem.Stmt.If (PySem.Expr.Compare _ [CmpOp.Lt] _ _) [PySem.Stmt.Assign [PySem.Expr.Tuple _ _ _] _ _] _ _ :: _) _) _ _ _))); first | (k_end; wrow_close) | walk1 | (dsimp only; walk1) | (leave1; walk_say "STEP leave1"; try dsimp only) | fail "no step")))
      exact cb_retS (Q := Q) (s := s) hret rfl (by k_asm) (by (first | k_asm | (refine' cb_drop ?n1 ?n2; (case n1 => assumption); (case n2 => kcj_all))))
    | some n =>
      obtain ⟨td, rfl⟩ := hd
      obtain ⟨hn0, hn1⟩ := hdb n rfl
      (repeat' (first | (k_unfold; first | walk_at "Seq" | (try dsimp only)) | ((fail_if_success ((first | with_reducible show wpAny _ _ (exec (PySem.Stmt.Assign [_] (PySem.Expr.ListComp _ _ _ _) _) _) _ _ _ | with_reducible show wpAny _ _ (binaryOp Operator.Add (Value.ref _) (Value.ref _)) _ _ _ | with_reducible show wpAny _ _ (call (Value.builtin "list.append") _) _ _ _ | with_reducible show wpAny _ _ (exec (PySem.Stmt.While _ _ _ _) _) _ _ _ | with_reducible show wpAny _ _ (exec (PySem.Stmt.For _ _ _ _ _) _) _ _ _ | with_reducible show wpAny _ _ (pyIter _) _ _ _ | with_reducible show wpAny _ _ (call (Value.type "list") _) _ _ _ | with_reducible show wpAny _ _ (call (Value.builtin "str.join") _) _ _ _ | with_reducible show wpAny _ _ (eval (PySem.Expr.ListComp _ [PySem.Comprehension.mk (PySem.Expr.Tuple _ _ _) _ _ _] _ _) _) _ _ _ | with_reducible show LCg.CompSrc _ _ _ _ _ _ _ _ _ _ _ _ _ _ | with_reducible show wpAny _ _ (execs (PySem.Stmt.If (PySem.Expr.Compare _ [CmpOp.Lt] _ _) [PySem.Stmt.Assign [PySem.Expr.Tuple _ _ _] _ _] _ _ :: _) _) _ _ _))); first | (k_end; wrow_close) | walk1 | (dsimp only; walk1) | (leave1; walk_say "STEP leave1"; try dsimp only) | fail "no step")))
      refine append_K (its := zs.toArray) (n := zs.length) (D := D6) (by k_asm) (show News _ _ _ ((D6, LCg.lst zs) :: news) by k_asm) (Upd.head (off1_mem o6)) ?_ (by show zs.length ≤ sizeLine; simp only [sizeLine_eq]; omega)
      intro h7 F7 N7
      k_sweep
      (repeat' (first | (k_unfold; first | walk_at "Seq" | (try dsimp only)) | ((fail_if_success ((first | with_reducible show wpAny _ _ (exec (PySem.Stmt.Assign [_] (PySem.Expr.ListComp _ _ _ _) _) _) _ _ _ | with_reducible show wpAny _ _ (binaryOp Operator.Add (Value.ref _) (Value.ref _)) _ _ _ | with_reducible show wpAny _ _ (call (Value.builtin "list.append") _) _ _ _ | with_reducible show wpAny _ _ (exec (PySem.Stmt.While _ _ _ _) _) _ _ _ | with_reducible show wpAny _ _ (exec (PySem.Stmt.For _ _ _ _ _) _) _ _ _ | with_reducible show wpAny _ _ (pyIter _) _ _ _ | with_reducible show wpAny _ _ (call (Value.type "list") _) _ _ _ | with_reducible show wpAny _ _ (call (Value.builtin "str.join") _) _ _ _ | with_reducible show wpAny _ _ (eval (PySem.Expr.ListComp _ [PySem.Comprehension.mk (PySem.Expr.Tuple _ _ _) _ _ _] _ _) _) _ _ _ | with_reducible show LCg.CompSrc _ _ _ _ _ _ _ _ _ _ _ _ _ _ | with_reducible show wpAny _ _ (execs (PySem.Stmt.If (PySem.Expr.Compare _ [CmpOp.Lt] _ _) [PySem.Stmt.Assign [PySem.Expr.Tuple _ _ _] _ _] _ _ :: _) _) _ _ _))); first | (k_end; wrow_close) | walk1 | (dsimp only; walk1) | (leave1; walk_say "STEP leave1"; try dsimp only) | fail "no step")))
      refine name_tok N7 ?_
      intro tq hq
      rw [hq] at N7
      refine kmk_add_lit (its := zs.toArray.push (.str (Str.ofString "Crawl-delay: " ++ Str.ofString (toString n)) tq)) (its2 := vb.toArray) (zs := zs ++ [Value.str (Str.ofString "Crawl-delay: " ++ Str.ofString (toString n)) tq] ++ vb) (by k_asm) N7 (isl N7 List.mem_cons_self) (isl N7 (List.mem_cons_of_mem _ hmb)) ?z1 ?_ ?z2
      case z1 => simp
      case z2 => show (zs.toArray.push _).size + vb.length ≤ sizeLine; simp only [sizeLine_eq, Array.size_push, List.size_toArray]; omega
      intro D5 h5 F5 N5 l5
      (repeat' (first | (k_unfold; first | walk_at "Seq" | (try dsimp only)) | ((fail_if_success ((first | with_reducible show wpAny _ _ (exec (PySem.Stmt.Assign [_] (PySem.Expr.ListComp _ _ _ _) _) _) _ _ _ | with_reducible show wpAny _ _ (binaryOp Operator.Add (Value.ref _) (Value.ref _)) _ _ _ | with_reducible show wpAny _ _ (call (Value.builtin "list.append") _) _ _ _ | with_reducible show wpAny _ _ (exec (PySem.Stmt.While _ _ _ _) _) _ _ _ | with_reducible show wpAny _ _ (exec (PySem.Stmt.For _ _ _ _ _) _) _ _ _ | with_reducible show wpAny _ _ (pyIter _) _ _ _ | with_reducible show wpAny _ _ (call (Value.type "list") _) _ _ _ | with_reducible show wpAny _ _ (call (Value.builtin "str.join") _) _ _ _ | with_reducible show wpAny _ _ (eval (PySem.Expr.ListComp _ [PySem.Comprehension.mk (PySem.Expr.Tuple _ _ _) _ _ _] _ _) _) _ _ _ | with_reducible show LCg.CompSrc _ _ _ _ _ _ _ _ _ _ _ _ _ _ | with_reducible show wpAny _ _ (execs (PySem.Stmt.If (PySem.Expr.Compare _ [CmpOp.Lt] _ _) [PySem.Stmt.Assign [PySem.Expr.Tuple _ _ _] _ _] _ _ :: _) _) _ _ _))); first | (k_end; wrow_close) | walk1 | (dsimp only; walk1) | (leave1; walk_say "STEP leave1"; try dsimp only) | fail "no step")))
      refine join_listC (items := (zs ++ [Value.str (Str.ofString "Crawl-delay: " ++ Str.ofString (toString n)) tq] ++ vb).toArray) (ys := textLines ag (some n) ru) (isl N5 List.mem_cons_self) ?q1 (by decide) hfit ?_
      case q1 => exact StrsAre.append' (StrsAre.append' hZ (.cons _ _ .nil)) hsb
      intro t' k'
      (repeat' (first | (k_unfold; first | walk_at "Seq" | (try dsimp only)) | ((fail_if_success ((first | with_reducible show wpAny _ _ (exec (PySem.Stmt.Assign [_] (PySem.Expr.ListComp _ _ _ _) _) _) _ _ _ | with_reducible show wpAny _ _ (binaryOp Operator.Add (Value.ref _) (Value.ref _)) _ _ _ | with_reducible show wpAny _ _ (call (Value.builtin "list.append") _) _ _ _ | with_reducible show wpAny _ _ (exec (PySem.Stmt.While _ _ _ _) _) _ _ _ | with_reducible show wpAny _ _ (exec (PySem.Stmt.For _ _ _ _ _) _) _ _ _ | with_reducible show wpAny _ _ (pyIter _) _ _ _ | with_reducible show wpAny _ _ (call (Value.type "list") _) _ _ _ | with_reducible show wpAny _ _ (call (Value.builtin "str.join") _) _ _ _ | with_reducible show wpAny _ _ (eval (PySem.Expr.ListComp _ [PySem.Comprehension.mk (PySem.Expr.Tuple _ _ _) _ _ _] _ _) _) _ _ _ | with_reducible show LCg.CompSrc _ _ _ _ _ _ _ _ _ _ _ _ _ _ | with_reducible show wpAny _ _ (execs (PySem.Stmt.If (PySem.Expr.Compare _ [CmpOp.Lt] _ _) [PySem.Stmt.Assign [PySem.Expr.Tuple _ _ _] _ _] _ _ :: _) _) _ _ _))); first | (k_end; wrow_close) | walk1 | (dsimp only; walk1) | (leave1; walk_say "STEP leave1"; try dsimp only) | fail "no step")))
      exact cb_retS (Q := Q) (s := s) hret rfl (by k_asm) (by (first | k_asm | (refine' cb_drop ?n1 ?n2; (case n1 => assumption); (case n2 => kcj_all))))
end
end

section
open PySem PySem.W PyProof.Rows
section
theorem straight_c {w : World} {p : Program} {loose : List Str} {mean : ExcName → Option Value} {mg mb : Str → Option Value} {news : List (Addr × Obj)} {la lb : List Nat} {bd : Int} {ta tb tm : Tok} (hle1 : la.length ≤ 4096) (hle2 : lb.length ≤ 4096)
    (h1 : levF la lb bd = 2 * (((la.length : Int) - lb.length).natAbs : Int)) (h2 : levF lb la (-bd) = 2 * (((la.length : Int) - lb.length).natAbs : Int)) :
   Claim Challenge.rw_nb0157_02.row.prog w (Mine.hd.heap_39 w.params) p loose mean mg mb 115 5 48 news [.str ⟨la.toArray⟩ ta, .str ⟨lb.toArray⟩ tb, .int bd tm] (fun _ => .bool true) := by
  obtain ⟨a, ea⟩ : ∃ a : Str, a = ⟨la.toArray⟩ := ⟨_, rfl⟩
  obtain ⟨b, eb⟩ : ∃ b : Str, b = ⟨lb.toArray⟩ := ⟨_, rfl⟩
  rw [← ea, ← eb]
  have hla : a.length = la.length := by rw [ea]; simp [Str.length]
  have hlb : b.length = lb.length := by rw [eb]; simp [Str.length]
  intro dp un gd cn cs ad ccd cl outer A₀ base h₀ L m s Q E hB hF hX hN hT hcs hdp hun hret
  refine wpAny_call ?_
  k_dflt cell_enter
  (repeat' (first | (k_unfold; first | walk_at "Seq" | (try dsimp only)) | ((fail_if_success ((first | with_reducible show wpAny _ _ (call (Value.ref 84) _) _ _ _ | with_reducible show wpAny _ _ (exec (PySem.Stmt.While _ _ _ _) _) _ _ _ | with_reducible show wpAny _ _ (exec (PySem.Stmt.For _ _ _ _ _) _) _ _ _ | with_reducible show wpAny _ _ (pyIter _) _ _ _ | with_reducible show wpAny _ _ (call (Value.type "list") _) _ _ _ | with_reducible show wpAny _ _ (call (Value.builtin "str.join") _) _ _ _ | with_reducible show wpAny _ _ (eval (PySem.Expr.ListComp _ [PySem.Comprehension.mk (PySem.Expr.Tuple _ _ _) _ _ _] _ _) _) _ _ _ | with_reducible show LCg.CompSrc _ _ _ _ _ _ _ _ _ _ _ _ _ _ | with_reducible show wpAny _ _ (execs (PySem.Stmt.If (PySem.Expr.Compare _ [CmpOp.Lt] _ _) [PySem.Stmt.Assign [PySem.Expr.Tuple _ _ _] _ _] _ _ :: _) _) _ _ _))); first | (k_end; wrow_close) | walk1 | (dsimp only; walk1) | (leave1; walk_say "STEP leave1"; try dsimp only) | fail "no step")))
  k_dflt (refine' Claim.useE ?k1 ?k2 ?k3 ?k4 ?k5 ?kK (lev_c (la := la) (lb := lb) ?ha ?hb) ?ke ?kd ?ku ?_; (case k1 => k_asm); (case k2 => k_asm); (case k3 => k_asm); (case k4 => k_asm); (case k5 => k_asm); (case kK => first | exact rfl | assumption); (case ke => rw [ea, eb]); (case ha => omega); (case hb => omega); (case kd => ktr_room); (case ku => ktr_units); k_whole)
  intro t9 h9 tk9 F9 N9; (try dsimp only); (try k_sweep)
  rw [h1]
  have hdue : (2 * if (a.length : Int) - b.length < 0 then -((a.length : Int) - b.length) else (a.length : Int) - b.length) = 2 * (((la.length : Int) - lb.length).natAbs : Int) := by rw [hla, hlb]; split <;> omega
  (repeat' (first | (k_unfold; first | walk_at "Seq" | (try dsimp only)) | ((fail_if_success ((first | with_reducible show wpAny _ _ (call (Value.ref 84) _) _ _ _ | with_reducible show wpAny _ _ (exec (PySem.Stmt.While _ _ _ _) _) _ _ _ | with_reducible show wpAny _ _ (exec (PySem.Stmt.For _ _ _ _ _) _) _ _ _ | with_reducible show wpAny _ _ (pyIter _) _ _ _ | with_reducible show wpAny _ _ (call (Value.type "list") _) _ _ _ | with_reducible show wpAny _ _ (call (Value.builtin "str.join") _) _ _ _ | with_reducible show wpAny _ _ (eval (PySem.Expr.ListComp _ [PySem.Comprehension.mk (PySem.Expr.Tuple _ _ _) _ _ _] _ _) _) _ _ _ | with_reducible show LCg.CompSrc _ _ _ _ _ _ _ _ _ _ _ _ _ _ | with_reducible show wpAny _ _ (execs (PySem.Stmt.If (PySem.Expr.Compare _ [CmpOp.Lt] _ _) [PySem.Stmt.Assign [PySem.Expr.Tuple _ _ _] _ _] _ _ :: _) _) _ _ _))); first | (k_end; wrow_close) | walk1 | (dsimp only; walk1) | (leave1; walk_say "STEP leave1"; try dsimp only) | fail "no step")))
  rotate_left
  · exfalso
    exact absurd hdue.symm (by assumption)
  k_dflt (refine' Claim.useE ?k1 ?k2 ?k3 ?k4 ?k5 ?kK (lev_c (la := lb) (lb := la) ?ha ?hb) ?ke ?kd ?ku ?_; (case k1 => k_asm); (case k2 => k_asm); (case k3 => k_asm); (case k4 => k_asm); (case k5 => k_asm); (case kK => first | exact rfl | assumption); (case ke => rw [ea, eb]); (case ha => omega); (case hb => omega); (case kd => ktr_room); (case ku => ktr_units); k_whole)
  intro t8 h8 tk8 F8 N8; (try dsimp only); (try k_sweep)
  rw [h2]
  (repeat' (first | (k_unfold; first | walk_at "Seq" | (try dsimp only)) | ((fail_if_success ((first | with_reducible show wpAny _ _ (call (Value.ref 84) _) _ _ _ | with_reducible show wpAny _ _ (exec (PySem.Stmt.While _ _ _ _) _) _ _ _ | with_reducible show wpAny _ _ (exec (PySem.Stmt.For _ _ _ _ _) _) _ _ _ | with_reducible show wpAny _ _ (pyIter _) _ _ _ | with_reducible show wpAny _ _ (call (Value.type "list") _) _ _ _ | with_reducible show wpAny _ _ (call (Value.builtin "str.join") _) _ _ _ | with_reducible show wpAny _ _ (eval (PySem.Expr.ListComp _ [PySem.Comprehension.mk (PySem.Expr.Tuple _ _ _) _ _ _] _ _) _) _ _ _ | with_reducible show LCg.CompSrc _ _ _ _ _ _ _ _ _ _ _ _ _ _ | with_reducible show wpAny _ _ (execs (PySem.Stmt.If (PySem.Expr.Compare _ [CmpOp.Lt] _ _) [PySem.Stmt.Assign [PySem.Expr.Tuple _ _ _] _ _] _ _ :: _) _) _ _ _))); first | (k_end; wrow_close) | walk1 | (dsimp only; walk1) | (leave1; walk_say "STEP leave1"; try dsimp only) | fail "no step")))
  exact cb_retB (Q := Q) (s := s) hret (by rw [hdue]; simp) (by k_asm) (by k_asm)
end
end

section
open PySem PySem.W PyProof.Rows
section
local macro_rules | `(tactic| walk_at "subscriptTail Name Slice str ref") => `(tactic| ((with_reducible show wpAny _ _ (subscriptTail _ (PySem.Expr.Slice none (some (PySem.Expr.BoolOp _ _ _)) none _) _ _) _ _ _); (with_reducible rename Fr _ _ _ _ => F'); (with_reducible rename News _ _ _ _ => N'); refine slice_none (s := ⟨_, _, _, _, _⟩) F' N' ?_; intro _ _ _ _ _))
noncomputable def swapC (c : Nat) : Nat := if 65 ≤ c ∧ c ≤ 90 then c + 32 else if 97 ≤ c ∧ c ≤ 122 then c - 32 else c
noncomputable def newC (x : Int) (n : Nat) (c : Nat) : Nat := if (x.fdiv n).fmod 2 = 0 then 36 else swapC c
noncomputable def priceC (c d : Nat) : Int := if d = c then 0 else if d = swapC c then 1 else 2
noncomputable def dueC (pr bd : Int) : Int := if pr = 0 ∨ pr ≤ bd then pr else bd + 1
theorem str1_eq {x y : Str} {c d : Nat} (ex : x = ⟨#[d]⟩) (ey : y = ⟨#[c]⟩) (h : (x == y) = true) : d = c := by
  have := beq_iff_eq.mp h
  rw [ex, ey] at this
  simpa using this
theorem str1_ne {x y : Str} {c d : Nat} (ex : x = ⟨#[d]⟩) (ey : y = ⟨#[c]⟩) (h : (x == y) = false) : ¬ d = c := by
  rintro rfl
  rw [ex, ey] at h
  simp at h
theorem slice_to_nat {l : List Nat} {k : Nat} (h : k ≤ l.length) : Txt.slice ⟨l.toArray⟩ none (some (k : Int)) = ⟨(l.take k).toArray⟩ := by
  have := beq_iff_eq.mp (slice_closes_toL (x := ⟨l.toArray⟩) (j := (k : Int)) (by omega) (by simp [Str.length]; omega))
  rw [this]
  simp
theorem set_slices {la : List Nat} {P d : Nat} (h : P < la.length) : Txt.slice ⟨la.toArray⟩ none (some (P : Int)) ++ (⟨#[d]⟩ : Str) ++ Txt.slice ⟨la.toArray⟩ (some ((P : Int) + 1)) none = ⟨(la.set P d).toArray⟩ := by
  have e1 : Txt.slice ⟨la.toArray⟩ (some ((P : Int) + 1)) none = ⟨(la.drop (P + 1)).toArray⟩ := by
    have := slice_drop (l := la) (k := P + 1) (by omega)
    simpa using this
  rw [e1, slice_to_nat (by omega)]
  refine Str.ext' ?_
  simp only [Str.cps_append]
  rw [List.set_eq_take_append_cons_drop, if_pos h]
  simp
theorem over_c {w : World} {p : Program} {loose : List Str} {mean : ExcName → Option Value} {mg mb : Str → Option Value} {news : List (Addr × Obj)} {la : List Nat} {x bd : Int} {ta tx tb : Tok} {P c d : Nat} (hle : la.length ≤ 4096) (hP : x.fmod la.length = P) (hPl : P < la.length) (hc : la[P]'hPl = c) (hd : d = newC x la.length c)
    (hsw : Txt.swapcase ⟨#[c]⟩ = ⟨#[swapC c]⟩) (h1 : levF la (la.set P d) bd = dueC (priceC c d) bd) (h2 : levF (la.set P d) la bd = dueC (priceC c d) bd) :
   Claim Challenge.rw_nb0157_02.row.prog w (Mine.hd.heap_39 w.params) p loose mean mg mb 122 5 48 news [.str ⟨la.toArray⟩ ta, .int x tx, .int bd tb] (fun _ => .bool true) := by
  obtain ⟨a, ea⟩ : ∃ a : Str, a = ⟨la.toArray⟩ := ⟨_, rfl⟩
  obtain ⟨oldS, eo⟩ : ∃ a : Str, a = ⟨#[c]⟩ := ⟨_, rfl⟩
  obtain ⟨newS, en⟩ : ∃ a : Str, a = ⟨#[d]⟩ := ⟨_, rfl⟩
  have hit : Txt.item a (P : Int) = oldS := by rw [ea, item_nat hPl, hc, eo]
  rw [← ea]
  rw [← eo] at hsw
  have hla : a.length = la.length := by rw [ea]; simp [Str.length]
  rw [← hla] at hP
  have hpos : (0 : Int) < a.length := by omega
  have hsz : a.length ≤ 4096 := by omega
  intro dp un gd cn cs ad ccd cl outer A₀ base h₀ L m s Q E hB hF hX hN hT hcs hdp hun hret
  refine wpAny_call ?_
  k_dflt cell_enter
  refine stmt_ps (by k_asm) (fun c : Tok => [("place", .int (P : Int) c), ("text", .str a ta), ("x", .int x tx), ("bound", .int bd tb)]) (fun _ => news) (fun _ => True) ?s1 ?f1
  case s1 =>
    (repeat' (first | (k_unfold; first | walk_at "Seq" | (try dsimp only)) | ((fail_if_success ((first | with_reducible show wpAny _ _ (call (Value.ref 84) _) _ _ _ | with_reducible show wpAny _ _ (exec (PySem.Stmt.While _ _ _ _) _) _ _ _ | with_reducible show wpAny _ _ (exec (PySem.Stmt.For _ _ _ _ _) _) _ _ _ | with_reducible show wpAny _ _ (pyIter _) _ _ _ | with_reducible show wpAny _ _ (call (Value.type "list") _) _ _ _ | with_reducible show wpAny _ _ (call (Value.builtin "str.join") _) _ _ _ | with_reducible show wpAny _ _ (eval (PySem.Expr.ListComp _ [PySem.Comprehension.mk (PySem.Expr.Tuple _ _ _) _ _ _] _ _) _) _ _ _ | with_reducible show LCg.CompSrc _ _ _ _ _ _ _ _ _ _ _ _ _ _ | with_reducible show wpAny _ _ (execs (PySem.Stmt.If (PySem.Expr.Compare _ [CmpOp.Lt] _ _) [PySem.Stmt.Assign [PySem.Expr.Tuple _ _ _] _ _] _ _ :: _) _) _ _ _))); first | (k_end; wrow_close) | walk1 | (dsimp only; walk1) | (leave1; walk_say "STEP leave1"; try dsimp only) | fail "no step")))
    exact WEnd.intro _ (by k_asm) (by k_asm) (fun p hp => hp) (by (((repeat (first | refine ps_cons rfl ?_ | refine ps_str (by assumption) rfl ?_ | refine ps_int (by omega) rfl ?_)); exact ps_nil))) trivial (by decide)
  clear hF
  intro t1 u h tk _ F N
  dsimp only [kstB] at F ⊢
  k_sweep
  refine stmt_ps (by k_asm) (fun c : Tok => [("old", .str oldS c), ("place", .int (P : Int) t1), ("text", .str a ta), ("x", .int x tx), ("bound", .int bd tb)]) (fun _ => news) (fun _ => True) ?s2 ?f2
  case s2 =>
    (repeat' (first | (k_unfold; first | walk_at "Seq" | (try dsimp only)) | ((fail_if_success ((first | with_reducible show wpAny _ _ (call (Value.ref 84) _) _ _ _ | with_reducible show wpAny _ _ (exec (PySem.Stmt.While _ _ _ _) _) _ _ _ | with_reducible show wpAny _ _ (exec (PySem.Stmt.For _ _ _ _ _) _) _ _ _ | with_reducible show wpAny _ _ (pyIter _) _ _ _ | with_reducible show wpAny _ _ (call (Value.type "list") _) _ _ _ | with_reducible show wpAny _ _ (call (Value.builtin "str.join") _) _ _ _ | with_reducible show wpAny _ _ (eval (PySem.Expr.ListComp _ [PySem.Comprehension.mk (PySem.Expr.Tuple _ _ _) _ _ _] _ _) _) _ _ _ | with_reducible show LCg.CompSrc _ _ _ _ _ _ _ _ _ _ _ _ _ _ | with_reducible show wpAny _ _ (execs (PySem.Stmt.If (PySem.Expr.Compare _ [CmpOp.Lt] _ _) [PySem.Stmt.Assign [PySem.Expr.Tuple _ _ _] _ _] _ _ :: _) _) _ _ _))); first | (k_end; wrow_close) | walk1 | (dsimp only; walk1) | (leave1; walk_say "STEP leave1"; try dsimp only) | fail "no step")))
    exact WEnd.intro _ (by k_asm) (by k_asm) (fun p hp => hp) (by (((repeat (first | refine ps_cons rfl ?_ | refine ps_str (by assumption) rfl ?_ | refine ps_int (by omega) rfl ?_)); exact ps_nil))) trivial (by decide)
  clear F N
  intro t2 u h tk _ F N
  dsimp only [kstB] at F ⊢
  k_sweep
  have hos : oldS.length ≤ 4096 := by rw [eo]; simp [Str.length]
  refine stmt_ps (by k_asm) (fun c : Tok => [("new", .str newS c), ("old", .str oldS t2), ("place", .int (P : Int) t1), ("text", .str a ta), ("x", .int x tx), ("bound", .int bd tb)]) (fun _ => news) (fun _ => True) ?s3 ?f3
  case s3 =>
    (repeat' (first | (k_unfold; first | walk_at "Seq" | (try dsimp only)) | ((fail_if_success ((first | with_reducible show wpAny _ _ (call (Value.ref 84) _) _ _ _ | with_reducible show wpAny _ _ (exec (PySem.Stmt.While _ _ _ _) _) _ _ _ | with_reducible show wpAny _ _ (exec (PySem.Stmt.For _ _ _ _ _) _) _ _ _ | with_reducible show wpAny _ _ (pyIter _) _ _ _ | with_reducible show wpAny _ _ (call (Value.type "list") _) _ _ _ | with_reducible show wpAny _ _ (call (Value.builtin "str.join") _) _ _ _ | with_reducible show wpAny _ _ (eval (PySem.Expr.ListComp _ [PySem.Comprehension.mk (PySem.Expr.Tuple _ _ _) _ _ _] _ _) _) _ _ _ | with_reducible show LCg.CompSrc _ _ _ _ _ _ _ _ _ _ _ _ _ _ | with_reducible show wpAny _ _ (execs (PySem.Stmt.If (PySem.Expr.Compare _ [CmpOp.Lt] _ _) [PySem.Stmt.Assign [PySem.Expr.Tuple _ _ _] _ _] _ _ :: _) _) _ _ _))); first | (k_end; wrow_close) | walk1 | (dsimp only; walk1) | (leave1; walk_say "STEP leave1"; try dsimp only) | fail "no step")))
    · have e1 : Str.ofString "$" = newS := by rw [en, hd, newC, ← hla, if_pos (by assumption)]; decide
      exact WEnd.intro _ (by k_asm) (by k_asm) (fun p hp => hp) (by (((repeat (first | refine ps_cons rfl ?_ | refine ps_str (by assumption) rfl ?_ | refine ps_int (by omega) rfl ?_)); exact ps_nil))) trivial (by decide)
    · have e1 : Txt.swapcase oldS = newS := by rw [hsw, en, hd, newC, ← hla, if_neg (by assumption)]
      exact WEnd.intro _ (by k_asm) (by k_asm) (fun p hp => hp) (by (((repeat (first | refine ps_cons rfl ?_ | refine ps_str (by assumption) rfl ?_ | refine ps_int (by omega) rfl ?_)); exact ps_nil))) trivial (by decide)
  clear F N
  intro t3 u h tk _ F N
  dsimp only [kstB] at F ⊢
  k_sweep
  have hns : newS.length ≤ 4096 := by rw [en]; simp [Str.length]
  obtain ⟨othS, eot⟩ : ∃ a : Str, a = ⟨(la.set P d).toArray⟩ := ⟨_, rfl⟩
  refine stmt_ps (by k_asm) (fun c : Tok => [("other", .str othS c), ("new", .str newS t3), ("old", .str oldS t2), ("place", .int (P : Int) t1), ("text", .str a ta), ("x", .int x tx), ("bound", .int bd tb)]) (fun _ => news) (fun _ => True) ?s4 ?f4
  case s4 =>
    (repeat' (first | (k_unfold; first | walk_at "Seq" | (try dsimp only)) | ((fail_if_success ((first | with_reducible show wpAny _ _ (call (Value.ref 84) _) _ _ _ | with_reducible show wpAny _ _ (exec (PySem.Stmt.While _ _ _ _) _) _ _ _ | with_reducible show wpAny _ _ (exec (PySem.Stmt.For _ _ _ _ _) _) _ _ _ | with_reducible show wpAny _ _ (pyIter _) _ _ _ | with_reducible show wpAny _ _ (call (Value.type "list") _) _ _ _ | with_reducible show wpAny _ _ (call (Value.builtin "str.join") _) _ _ _ | with_reducible show wpAny _ _ (eval (PySem.Expr.ListComp _ [PySem.Comprehension.mk (PySem.Expr.Tuple _ _ _) _ _ _] _ _) _) _ _ _ | with_reducible show LCg.CompSrc _ _ _ _ _ _ _ _ _ _ _ _ _ _ | with_reducible show wpAny _ _ (execs (PySem.Stmt.If (PySem.Expr.Compare _ [CmpOp.Lt] _ _) [PySem.Stmt.Assign [PySem.Expr.Tuple _ _ _] _ _] _ _ :: _) _) _ _ _))); first | (k_end; wrow_close) | walk1 | (dsimp only; walk1) | (leave1; walk_say "STEP leave1"; try dsimp only) | fail "no step")))
    have e1 : Txt.slice a none (some (P : Int)) ++ newS ++ Txt.slice a (some ((P : Int) + 1)) none = othS := by rw [ea, en, eot]; exact set_slices hPl
    exact WEnd.intro _ (by k_asm) (by k_asm) (fun p hp => hp) (by (((repeat (first | refine ps_cons rfl ?_ | refine ps_str (by assumption) rfl ?_ | refine ps_int (by omega) rfl ?_)); exact ps_nil))) trivial (by decide)
  clear F N
  intro t4 u h tk _ F N
  dsimp only [kstB] at F ⊢
  k_sweep
  refine stmt_ps (by k_asm) (fun e : Tok => [("price", .int (priceC c d) e), ("other", .str othS t4), ("new", .str newS t3), ("old", .str oldS t2), ("place", .int (P : Int) t1), ("text", .str a ta), ("x", .int x tx), ("bound", .int bd tb)]) (fun _ => news) (fun _ => True) ?s5 ?f5
  case s5 =>
    (repeat' (first | (k_unfold; first | walk_at "Seq" | (try dsimp only)) | ((fail_if_success ((first | with_reducible show wpAny _ _ (call (Value.ref 84) _) _ _ _ | with_reducible show wpAny _ _ (exec (PySem.Stmt.While _ _ _ _) _) _ _ _ | with_reducible show wpAny _ _ (exec (PySem.Stmt.For _ _ _ _ _) _) _ _ _ | with_reducible show wpAny _ _ (pyIter _) _ _ _ | with_reducible show wpAny _ _ (call (Value.type "list") _) _ _ _ | with_reducible show wpAny _ _ (call (Value.builtin "str.join") _) _ _ _ | with_reducible show wpAny _ _ (eval (PySem.Expr.ListComp _ [PySem.Comprehension.mk (PySem.Expr.Tuple _ _ _) _ _ _] _ _) _) _ _ _ | with_reducible show LCg.CompSrc _ _ _ _ _ _ _ _ _ _ _ _ _ _ | with_reducible show wpAny _ _ (execs (PySem.Stmt.If (PySem.Expr.Compare _ [CmpOp.Lt] _ _) [PySem.Stmt.Assign [PySem.Expr.Tuple _ _ _] _ _] _ _ :: _) _) _ _ _))); first | (k_end; wrow_close) | walk1 | (dsimp only; walk1) | (leave1; walk_say "STEP leave1"; try dsimp only) | fail "no step")))
    · have e1 : (0 : Int) = priceC c d := by rw [priceC, if_pos (str1_eq en eo (by assumption))]
      exact WEnd.intro _ (by k_asm) (by k_asm) (fun p hp => hp) (by (((repeat (first | refine ps_cons rfl ?_ | refine ps_str (by assumption) rfl ?_ | refine ps_int (by omega) rfl ?_)); exact ps_nil))) trivial (by decide)
    · have e1 : (1 : Int) = priceC c d := by rw [priceC, if_neg (str1_ne en eo (by assumption)), if_pos (str1_eq en hsw (by assumption))]
      exact WEnd.intro _ (by k_asm) (by k_asm) (fun p hp => hp) (by (((repeat (first | refine ps_cons rfl ?_ | refine ps_str (by assumption) rfl ?_ | refine ps_int (by omega) rfl ?_)); exact ps_nil))) trivial (by decide)
    · have e1 : (2 : Int) = priceC c d := by rw [priceC, if_neg (str1_ne en eo (by assumption)), if_neg (str1_ne en hsw (by assumption))]
      exact WEnd.intro _ (by k_asm) (by k_asm) (fun p hp => hp) (by (((repeat (first | refine ps_cons rfl ?_ | refine ps_str (by assumption) rfl ?_ | refine ps_int (by omega) rfl ?_)); exact ps_nil))) trivial (by decide)
  clear F N
  intro t5 u h tk _ F N
  dsimp only [kstB] at F ⊢
  k_sweep
  obtain ⟨pr, epr⟩ : ∃ z, z = priceC c d := ⟨_, rfl⟩
  rw [← epr] at F h1 h2
  refine stmt_ps (by k_asm) (fun e : Tok => [("due", .int (dueC pr bd) e), ("price", .int pr t5), ("other", .str othS t4), ("new", .str newS t3), ("old", .str oldS t2), ("place", .int (P : Int) t1), ("text", .str a ta), ("x", .int x tx), ("bound", .int bd tb)]) (fun _ => news) (fun _ => True) ?s6 ?f6
  case s6 =>
    (repeat' (first | (k_unfold; first | walk_at "Seq" | (try dsimp only)) | ((fail_if_success ((first | with_reducible show wpAny _ _ (call (Value.ref 84) _) _ _ _ | with_reducible show wpAny _ _ (exec (PySem.Stmt.While _ _ _ _) _) _ _ _ | with_reducible show wpAny _ _ (exec (PySem.Stmt.For _ _ _ _ _) _) _ _ _ | with_reducible show wpAny _ _ (pyIter _) _ _ _ | with_reducible show wpAny _ _ (call (Value.type "list") _) _ _ _ | with_reducible show wpAny _ _ (call (Value.builtin "str.join") _) _ _ _ | with_reducible show wpAny _ _ (eval (PySem.Expr.ListComp _ [PySem.Comprehension.mk (PySem.Expr.Tuple _ _ _) _ _ _] _ _) _) _ _ _ | with_reducible show LCg.CompSrc _ _ _ _ _ _ _ _ _ _ _ _ _ _ | with_reducible show wpAny _ _ (execs (PySem.Stmt.If (PySem.Expr.Compare _ [CmpOp.Lt] _ _) [PySem.Stmt.Assign [PySem.Expr.Tuple _ _ _] _ _] _ _ :: _) _) _ _ _))); first | (k_end; wrow_close) | walk1 | (dsimp only; walk1) | (leave1; walk_say "STEP leave1"; try dsimp only) | fail "no step")))
    · have e1 : pr = dueC pr bd := by rw [dueC]; split <;> omega
      exact WEnd.intro _ (by k_asm) (by k_asm) (fun p hp => hp) (by (((repeat (first | refine ps_cons rfl ?_ | refine ps_str (by assumption) rfl ?_ | refine ps_int (by omega) rfl ?_)); exact ps_nil))) trivial (by decide)
    · have e1 : pr = dueC pr bd := by rw [dueC]; split <;> omega
      exact WEnd.intro _ (by k_asm) (by k_asm) (fun p hp => hp) (by (((repeat (first | refine ps_cons rfl ?_ | refine ps_str (by assumption) rfl ?_ | refine ps_int (by omega) rfl ?_)); exact ps_nil))) trivial (by decide)
    · have e1 : bd + 1 = dueC pr bd := by rw [dueC]; split <;> omega
      exact WEnd.intro _ (by k_asm) (by k_asm) (fun p hp => hp) (by (((repeat (first | refine ps_cons rfl ?_ | refine ps_str (by assumption) rfl ?_ | refine ps_int (by omega) rfl ?_)); exact ps_nil))) trivial (by decide)
  clear F N
  intro t6 u h tk _ F N
  dsimp only [kstB] at F ⊢
  k_sweep
  (repeat' (first | (k_unfold; first | walk_at "Seq" | (try dsimp only)) | ((fail_if_success ((first | with_reducible show wpAny _ _ (call (Value.ref 84) _) _ _ _ | with_reducible show wpAny _ _ (exec (PySem.Stmt.While _ _ _ _) _) _ _ _ | with_reducible show wpAny _ _ (exec (PySem.Stmt.For _ _ _ _ _) _) _ _ _ | with_reducible show wpAny _ _ (pyIter _) _ _ _ | with_reducible show wpAny _ _ (call (Value.type "list") _) _ _ _ | with_reducible show wpAny _ _ (call (Value.builtin "str.join") _) _ _ _ | with_reducible show wpAny _ _ (eval (PySem.Expr.ListComp _ [PySem.Comprehension.mk (PySem.Expr.Tuple _ _ _) _ _ _] _ _) _) _ _ _ | with_reducible show LCg.CompSrc _ _ _ _ _ _ _ _ _ _ _ _ _ _ | with_reducible show wpAny _ _ (execs (PySem.Stmt.If (PySem.Expr.Compare _ [CmpOp.Lt] _ _) [PySem.Stmt.Assign [PySem.Expr.Tuple _ _ _] _ _] _ _ :: _) _) _ _ _))); first | (k_end; wrow_close) | walk1 | (dsimp only; walk1) | (leave1; walk_say "STEP leave1"; try dsimp only) | fail "no step")))
  k_dflt (refine' Claim.useE ?k1 ?k2 ?k3 ?k4 ?k5 ?kK (lev_c (la := la) (lb := la.set P d) ?ha ?hb) ?ke ?kd ?ku ?_; (case k1 => k_asm); (case k2 => k_asm); (case k3 => k_asm); (case k4 => k_asm); (case k5 => k_asm); (case kK => first | exact rfl | assumption); (case ke => rw [ea, eot]); (case ha => exact hle); (case hb => rw [List.length_set]; exact hle); (case kd => ktr_room); (case ku => ktr_units); k_whole)
  intro t9 h9 tk9 F9 N9; (try dsimp only); (try k_sweep)
  rw [h1]
  (repeat' (first | (k_unfold; first | walk_at "Seq" | (try dsimp only)) | ((fail_if_success ((first | with_reducible show wpAny _ _ (call (Value.ref 84) _) _ _ _ | with_reducible show wpAny _ _ (exec (PySem.Stmt.While _ _ _ _) _) _ _ _ | with_reducible show wpAny _ _ (exec (PySem.Stmt.For _ _ _ _ _) _) _ _ _ | with_reducible show wpAny _ _ (pyIter _) _ _ _ | with_reducible show wpAny _ _ (call (Value.type "list") _) _ _ _ | with_reducible show wpAny _ _ (call (Value.builtin "str.join") _) _ _ _ | with_reducible show wpAny _ _ (eval (PySem.Expr.ListComp _ [PySem.Comprehension.mk (PySem.Expr.Tuple _ _ _) _ _ _] _ _) _) _ _ _ | with_reducible show LCg.CompSrc _ _ _ _ _ _ _ _ _ _ _ _ _ _ | with_reducible show wpAny _ _ (execs (PySem.Stmt.If (PySem.Expr.Compare _ [CmpOp.Lt] _ _) [PySem.Stmt.Assign [PySem.Expr.Tuple _ _ _] _ _] _ _ :: _) _) _ _ _))); first | (k_end; wrow_close) | walk1 | (dsimp only; walk1) | (leave1; walk_say "STEP leave1"; try dsimp only) | fail "no step")))
  k_dflt (refine' Claim.useE ?k1 ?k2 ?k3 ?k4 ?k5 ?kK (lev_c (la := la.set P d) (lb := la) ?ha ?hb) ?ke ?kd ?ku ?_; (case k1 => k_asm); (case k2 => k_asm); (case k3 => k_asm); (case k4 => k_asm); (case k5 => k_asm); (case kK => first | exact rfl | assumption); (case ke => rw [ea, eot]); (case ha => rw [List.length_set]; exact hle); (case hb => exact hle); (case kd => ktr_room); (case ku => ktr_units); k_whole)
  intro t8 h8 tk8 F8 N8; (try dsimp only); (try k_sweep)
  rw [h2]
  (repeat' (first | (k_unfold; first | walk_at "Seq" | (try dsimp only)) | ((fail_if_success ((first | with_reducible show wpAny _ _ (call (Value.ref 84) _) _ _ _ | with_reducible show wpAny _ _ (exec (PySem.Stmt.While _ _ _ _) _) _ _ _ | with_reducible show wpAny _ _ (exec (PySem.Stmt.For _ _ _ _ _) _) _ _ _ | with_reducible show wpAny _ _ (pyIter _) _ _ _ | with_reducible show wpAny _ _ (call (Value.type "list") _) _ _ _ | with_reducible show wpAny _ _ (call (Value.builtin "str.join") _) _ _ _ | with_reducible show wpAny _ _ (eval (PySem.Expr.ListComp _ [PySem.Comprehension.mk (PySem.Expr.Tuple _ _ _) _ _ _] _ _) _) _ _ _ | with_reducible show LCg.CompSrc _ _ _ _ _ _ _ _ _ _ _ _ _ _ | with_reducible show wpAny _ _ (execs (PySem.Stmt.If (PySem.Expr.Compare _ [CmpOp.Lt] _ _) [PySem.Stmt.Assign [PySem.Expr.Tuple _ _ _] _ _] _ _ :: _) _) _ _ _))); first | (k_end; wrow_close) | walk1 | (dsimp only; walk1) | (leave1; walk_say "STEP leave1"; try dsimp only) | fail "no step")))
  all_goals exact cb_retB (Q := Q) (s := s) hret (by simp) (by k_asm) (by k_asm)
end
end

section
open PySem PySem.Spec PySem.Calls PySem.W PyProof.Rows
section
theorem fl_slot_get : Slot "method_descriptor" "__get__" "method_descriptor.__get__" :=
  .of (owner := "method_descriptor") (n := "__get__") (by rw [typeLookup_type, builtinLookup_eq_fast]; kernel_rfl) (by decide +kernel) (by decide +kernel) (by decide +kernel)
    (by first | exact .inl (by decide +kernel) | exact .inr (by decide +kernel)) (by rw [isSubtype_type]; kernel_rfl)
theorem fl_entry_get : entryFor table "method_descriptor.__get__" = some Builtin.«method_descriptor.__get__» := entryFor_of_tree (by kernel_rfl)
theorem fl_args_get (a b c : Value) : argsOk "method_descriptor.__get__" ⟨[a, b, c], []⟩ := by unfold argsOk; kernel_rfl
theorem fl_no_set : typeLookup (.type "method_descriptor") "__set__" = pure none := by rw [typeLookup_type, builtinLookup_eq_fast]; kernel_rfl
theorem fl_no_del : typeLookup (.type "method_descriptor") "__delete__" = pure none := by rw [typeLookup_type, builtinLookup_eq_fast]; kernel_rfl
theorem fl_told : Manifest.toldItsClass.contains "set.__contains__" = false := by decide +kernel
noncomputable def boundC (S : Addr) : Obj := { cls := .type "builtin_function_or_method", data := .fields #[.builtin "set.__contains__", .ref S] }
theorem fl_owner : (kfb_private% "ownerAndName") "set.__contains__" = ("set", "__contains__") := by first | decide +kernel | kernel_rfl
section
variable {prog : Program} {w : World} {A : Around} {E : Value → Shared → Prop} {s : Shared}
theorem fl_run_get {M : Model} {P : Fin → Shared → Prop} {S : Addr} (hT : s.TypeIs (.ref S) "set") (h : P (.done (.ret (.ref s.heap.objs.size))) { s with heap := s.heap.push (boundC S) }) :
    wpAny M A (Builtin.«method_descriptor.__get__» ⟨[.builtin "set.__contains__", .ref S, .type "set"], []⟩) P E s := by
  unfold Builtin.«method_descriptor.__get__»
  refine wpAny_bind (wpAny_of_eq (a := (.builtin "set.__contains__", some (.ref S), some (.type "set"))) (by first | rfl | kernel_rfl) ?_)
  dsimp only
  rw [fl_told]
  simp only [Bool.false_eq_true, if_false]
  show wpAny _ _ ((kfb_private% "checkInstance") (.builtin "set.__contains__") (.ref S) >>= fun _ => (newFields "builtin_function_or_method" [.builtin "set.__contains__", .ref S] >>= ret)) _ _ _
  refine wpAny_bind ?_
  refine wpAny_bind (wpAny_of_eq (a := (Str.ofString "__contains__", .type "set")) (by show (let (owner, name) := (kfb_private% "ownerAndName") "set.__contains__"; pure (Str.ofString name, Value.type owner) : Sem _) = _; rw [fl_owner]) ?_)
  refine wpAny_bind (wpAny_isInstance hT sub_set_self ?_)
  refine wpAny_pure ?_
  exact wpAny_bind (wpAny_newObj_type (wpAny_pure h))
theorem fl_lk : typeLookup (.type "set") "__contains__" = pure (some (.builtin "set.__contains__")) := by rw [typeLookup_type, builtinLookup_eq_fast]; kernel_rfl
theorem fl_ga {tk : Tok} {Q : Fin → Shared → Prop} {S : Addr} {es : Array (Int × Value)} {ep : Nat} {tb : SetTable} {sl : Array (Option Value)} (hx : s.heap.get? S = some { cls := .type "set", dict := none, data := .set es ep tb, slots := sl })
    (hq : Q (.done (.ret (.ref s.heap.objs.size))) { s with heap := s.heap.push (boundC S) }) :
    wpAny (model prog w) A (Builtin.«object.__getattribute__» ⟨[.ref S, .str "__contains__" tk], []⟩) Q E s := by
  obtain ⟨h, g, d, t, os⟩ := s
  have hT : (⟨h, g, d, t, os⟩ : Shared).TypeIs (.ref S) "set" := ⟨_, hx, rfl⟩
  have hT5 : (⟨h, g, d, t, os⟩ : Shared).TypeIs (.builtin "set.__contains__") "method_descriptor" := F.type_set_contains
  have f4 := fl_lk
  have f5 := F.type_set_contains
  have f6 := fl_slot_get.lookup
  have f7 := fl_no_set
  have f8 := fl_no_del
  unfold Builtin.«object.__getattribute__»
  repeat (any_goals (first | assumption | wp_step))
  refine codeAny_call_builtin fl_slot_get.plain fl_entry_get (fl_slot_get.check _ _ _ _ _ _ _ _ hT5 (fl_args_get _ _ _) (fl_run_get hT ?_))
  exact wpAny_pure hq
theorem fl_getattr {expr : Bool} {Q : Value → Shared → Prop} {S : Addr} {es : Array (Int × Value)} {ep : Nat} {tb : SetTable} {sl : Array (Option Value)} (hx : s.heap.get? S = some { cls := .type "set", dict := none, data := .set es ep tb, slots := sl })
    (hq : Q (.ref s.heap.objs.size) { s with heap := s.heap.push (boundC S), toks := s.toks + 1 }) :
    wpAny (model prog w) A (getAttr (.ref S) (Str.ofString "__contains__") expr) Q E s := by
  obtain ⟨h, g, d, t, os⟩ := s
  have hT : ∀ t', (⟨h, g, d, t', os⟩ : Shared).TypeIs (.ref S) "set" := fun _ => ⟨_, hx, rfl⟩
  have f2 := F.slot_set_getattribute.lookup
  have f3 := F.slot_set_getattribute.bind (.ref S)
  unfold getAttr getAttrBy
  repeat (any_goals (first | assumption | exact hT _ | wp_step))
  rw [if_neg (by cases expr <;> decide)]
  unfold boundAndCalled
  repeat (any_goals (first | assumption | exact hT _ | wp_step))
  refine codeAny_call_builtin F.slot_set_getattribute.plain F.entry_set_ga (F.slot_set_getattribute.check _ _ _ _ _ _ _ _ (hT _) (F.args_set_getattribute_2 _ _) (fl_ga hx ?_))
  repeat (any_goals (first | assumption | exact hT _ | wp_step))
  all_goals trace_state
end
end
end

section
open PySem PySem.Spec PySem.Calls PySem.W PyProof.Rows
section
theorem fl_full : (Manifest.signature? "set.__contains__").map (·.full) = some "set.__contains__" := by kernel_rfl
theorem fl_sig : ∃ sig, Manifest.signature? "set.__contains__" = some sig ∧ sig.full = "set.__contains__" := Option.map_eq_some_iff.mp fl_full
theorem fl_last : toString (Bind.lastOf "set") ++ toString "." ++ toString (Bind.lastOf "set.__contains__") = "set.__contains__" := by kernel_rfl
theorem fl_kind : builtinKind "set.__contains__" = some .method := by decide +kernel
theorem fl_nomod : isSubtype (.type "set") (.type "module") = pure false := by rw [isSubtype_type]; kernel_rfl
theorem fl_novar : Manifest.varargsMethods.contains "set.__contains__" = false := by decide +kernel
theorem fl_quiet {as : Args} : (Code.builtin "set.__contains__" as).quiet = true := Code.quiet_builtin _ (by decide +kernel)
theorem sig_self {sig : Manifest.Signature} {x : String} (h : sig.full = x) : ({ sig with full := x } : Manifest.Signature) = sig := by subst h; rfl
section
variable {prog : Program} {w : World} {K : Type} [DecidableEq K] {knd : KeyKind prog w K} {A : Around} {E : Value → Shared → Prop} {s : Shared} {a b : Addr} {k : K} {key : Value}
theorem fl_check {M : Model} {Q : Unit → Shared → Prop} {o : Obj} {es : Array (Int × Value)} {ep : Nat} {tb : SetTable} (ho : s.heap.get? a = some o) (hc : o.cls = .type "set") (hd : o.data = .set es ep tb) (h : Q () s) : wpAny M A (checkBoundCall "set.__contains__" ⟨[.ref a, key], []⟩) Q E s := by
  obtain ⟨sig, e1, e2⟩ := fl_sig
  have hT : s.TypeIs (.ref a) "set" := ⟨o, ho, hc⟩
  have hargs := F.args_set_contains_2 (.ref a) key
  unfold argsOk at hargs
  unfold checkBoundCall
  rw [e1] at hargs ⊢
  dsimp only at hargs
  simp only [fl_kind]
  rw [show ((Manifest.AttrKind.method != Manifest.AttrKind.method) && (Manifest.AttrKind.method != Manifest.AttrKind.classMethod)) = false by decide]
  simp only [Bool.false_eq_true, if_false]
  refine wpAny_bind (wpAny_isInstance hT fl_nomod ?_)
  rw [fl_novar]
  simp only [Bool.or_self, Bool.false_eq_true, if_false]
  refine wpAny_bind (m := isType (.ref a)) ?_
  refine wpAny_bind (wpAny_loadPart ho ?_)
  rw [show (Obj.data (o)) = .set es ep tb from hd]
  refine wpAny_pure ?_
  simp only [Bool.false_eq_true, if_false]
  refine wpAny_bind (wpAny_typeOf hT ?_)
  show wpAny _ _ (Bind.checkArgs "set.__contains__" { sig with full := toString (Bind.lastOf "set") ++ toString "." ++ toString (Bind.lastOf "set.__contains__") } ⟨[.ref a, key], []⟩) _ _ _
  rw [fl_last, sig_self e2, hargs]
  exact wpAny_pure h
theorem fl_call {S : K → Bool} {n : Nat} {Q : Value → Shared → Prop} (hb : s.heap.get? b = some (boundC a)) (hkey : knd.is k key = true) (hsc : key.scannable = true) (hS : s.heap.SetOf knd a S n)
    (h : Q (.bool (S k)) { s with toks := s.toks + 1 }) : wpAny (model prog w) A (call (.ref b) [key]) Q E s := by
  obtain ⟨o, es, ep, tb, ho, hc, hd, hrest⟩ := id hS
  refine wpAny_call (codeAny_of_tree ?_)
  show wpAny _ A.in1 (callAny (.ref b) ⟨[key], []⟩) _ _ s
  simp only [callAny]
  refine wpAny_bind (wpAny_load hb ?_)
  simp only [boundC, show (Value.type "builtin_function_or_method" == Value.type "method" || Value.type "builtin_function_or_method" == Value.type "builtin_function_or_method" || Value.type "builtin_function_or_method" == Value.type "method-wrapper") = true by decide, if_true]
  refine KFB.if_so (by decide) ?_
  refine wpAny_bind (fl_check ho hc.1 hd ?_)
  refine wpAny_bind (wpAny_pure (wpAny_pure ?_))
  refine ⟨fl_quiet, codeAny_builtin entry_set_contains ?_⟩
  unfold Builtin.«frozenset.__contains__» Builtin.Frozenset.oneOther
  simp only [List.isEmpty_nil, bind_assoc]
  unfold Builtin.Frozenset.addrOf Builtin.Frozenset.withSetAsKey setContains
  refine wpAny_bind (wpAny_pure ?_)
  try dsimp only
  refine wpAny_bind (wpAny_pure ?_)
  try dsimp only
  refine wpAny_bind (wpAny_tryCatch ?_)
  refine wpAny_holding ?_
  refine wpAny_bind (knd.pyHash hkey ?_)
  refine wpAny_bind (wpAny_setFind_of (s := { s with toks := s.toks + 1 }) hkey hsc hS fun r hr => ?_)
  refine wpAny_pure ?_
  show wpAny _ _ (ret (Value.bool r.isSome)) _ _ _
  rw [hr]
  exact wpAny_pure h
end
end
end

section
open PySem PySem.Spec PySem.Calls PySem.W PyProof.Rows
section
theorem fl_mro : mroOf (.type "filter") = pure [.type "filter", .type "object"] := by rw [mroOf_type]; kernel_rfl
theorem fl_lnew : typeLookup (.type "filter") "__new__" = pure (some (.builtin "filter.__new__")) := by rw [typeLookup_type, builtinLookup_eq_fast]; kernel_rfl
theorem fl_slot_init : Slot "filter" "__init__" "object.__init__" :=
  .of (owner := "object") (n := "__init__") (by rw [typeLookup_type, builtinLookup_eq_fast]; kernel_rfl) (by decide +kernel) (by decide +kernel) (by decide +kernel)
    (by first | exact .inl (by decide +kernel) | exact .inr (by decide +kernel)) (by rw [isSubtype_type]; kernel_rfl)
theorem fl_called : TypeCalled "filter" "filter.__new__" "object.__init__" :=
  ⟨by decide +kernel, by decide +kernel, ⟨_, _, fl_mro⟩, madeBy_type fl_mro fl_lnew (by decide +kernel), by decide +kernel, by rw [isSubtype_type]; kernel_rfl, fl_slot_init⟩
theorem fl_tcall (a b : Value) : checkTypeCall "filter" ⟨[a, b], []⟩ = pure () := by kernel_rfl
theorem fl_ncall (a b : Value) : checkBuiltinCall "filter.__new__" ⟨[.type "filter", a, b], []⟩ = pure () := by kernel_rfl
theorem fl_entry_new : entryFor table "filter.__new__" = some Builtin.«filter.__new__» := entryFor_of_tree (by kernel_rfl)
theorem fl_entry_next : entryFor table "filter.__next__" = some Builtin.«filter.__next__» := entryFor_of_tree (by kernel_rfl)
theorem fl_plain_next : plainId "filter.__next__" = true := by decide +kernel
theorem fl_slot_next : Slot "filter" "__next__" "filter.__next__" :=
  .of (owner := "filter") (n := "__next__") (by rw [typeLookup_type, builtinLookup_eq_fast]; kernel_rfl) (by decide +kernel) (by decide +kernel) (by decide +kernel)
    (by first | exact .inl (by decide +kernel) | exact .inr (by decide +kernel)) (by rw [isSubtype_type]; kernel_rfl)
theorem fl_args_next (a : Value) : argsOk "filter.__next__" ⟨[a], []⟩ := by unfold argsOk; kernel_rfl
theorem fl_slot_iter : Slot "filter" "__iter__" "filter.__iter__" :=
  .of (owner := "filter") (n := "__iter__") (by rw [typeLookup_type, builtinLookup_eq_fast]; kernel_rfl) (by decide +kernel) (by decide +kernel) (by decide +kernel)
    (by first | exact .inl (by decide +kernel) | exact .inr (by decide +kernel)) (by rw [isSubtype_type]; kernel_rfl)
theorem fl_args_iter (a : Value) : argsOk "filter.__iter__" ⟨[a], []⟩ := by unfold argsOk; kernel_rfl
theorem fl_entry_iter : entryFor table "filter.__iter__" = some Builtin.«dict_keyiterator.__iter__» :=
  entryFor_alias (id' := "dict_keyiterator.__iter__") (by kernel_rfl) (by first | rfl | decide +kernel | (unfold String.splitOn; simp +decide [String.splitOnAux])) (by decide +kernel) (by kernel_rfl)
theorem fl_no_len : typeLookup (.type "filter") "__len__" = pure none := by rw [typeLookup_type, builtinLookup_eq_fast]; kernel_rfl
theorem fl_no_hint : typeLookup (.type "filter") "__length_hint__" = pure none := by rw [typeLookup_type, builtinLookup_eq_fast]; kernel_rfl
theorem fl_sub : isSubtype (.type "filter") (.type "filter") = pure true := by rw [isSubtype_type]; kernel_rfl
abbrev IsFilt (h : Heap) (e b it : Addr) : Prop := h.get? e = some { cls := .type "filter", dict := none, data := .fields #[.ref b, .ref it], slots := #[] }
theorem meets_filter_new (b l : Addr) (items : Array Value) :
    Meets (Builtin.«filter.__new__» ⟨[.type "filter", .ref b, .ref l], []⟩) (fun _ R s => s.heap.IsList l items ∧
      R (.ok (.ret (.ref (s.heap.push { cls := .type "list_iterator", data := .fields #[.ref l, .int 0 0] }).objs.size)))
        { s with heap := (s.heap.push { cls := .type "list_iterator", data := .fields #[.ref l, .int 0 0] }).push { cls := .type "filter", data := .fields #[.ref b, .ref s.heap.objs.size] } }) :=
  .of_wp fun prog w A R s h => by
    obtain ⟨hp, g, d, tk, os⟩ := s; obtain ⟨hL, h⟩ := h
    have hsub := fl_sub
    unfold Builtin.«filter.__new__»
    wp_walk using wpAny_pyIter_list hL
    exact ⟨_, rfl, h⟩
section
variable {prog : Program} {w : World} {A : Around} {E : Value → Shared → Prop} {s : Shared}
theorem call_filter {b l : Addr} {items : Array Value} {Q : Value → Shared → Prop} (hL : s.heap.IsList l items)
    (h : ∀ h', IsFilt h' (s.heap.objs.size + 1) b s.heap.objs.size → h'.IsListIter s.heap.objs.size l 0 → h'.objs.size = s.heap.objs.size + 2 →
      (∀ b o, s.heap.get? b = some o → h'.get? b = some o) → Q (.ref (s.heap.objs.size + 1)) { s with heap := h' }) :
    wpAny (model prog w) A (call (.type "filter") [.ref b, .ref l]) Q E s := by
  refine callType_new fl_called (by decide) (fl_tcall _ _) (fl_ncall _ _) (fun obj => by unfold argsOk; kernel_rfl) fl_entry_new (meets_filter_new b l items) ⟨hL, ?_⟩
  have hz : (s.heap.push { cls := .type "list_iterator", data := .fields #[.ref l, .int 0 0] }).objs.size = s.heap.objs.size + 1 := Heap.size_push ..
  show _ ∧ _
  rw [hz]
  have he : IsFilt ((s.heap.push { cls := .type "list_iterator", data := .fields #[.ref l, .int 0 0] }).push
      { cls := .type "filter", data := .fields #[.ref b, .ref s.heap.objs.size] }) (s.heap.objs.size + 1) b s.heap.objs.size := by
    have := Heap.get?_push_size (s.heap.push { cls := .type "list_iterator", data := .fields #[.ref l, .int 0 0] })
      (o := { cls := .type "filter", data := .fields #[.ref b, .ref s.heap.objs.size] }) rfl
    rw [hz] at this; exact this
  exact ⟨⟨_, he, rfl⟩, h _ he ⟨_, Heap.get?_push_of_some _ (Heap.get?_push_size _ rfl), rfl, rfl⟩ (by rw [Heap.size_push, hz]) fun b o x => Heap.get?_push_of_some _ (Heap.get?_push_of_some _ x)⟩
theorem iter_filter {e b it : Addr} {Q : Value → Shared → Prop} (he : IsFilt s.heap e b it) (h : Q (.ref e) s) : wpAny (model prog w) A (pyIter (.ref e)) Q E s := by
  have hT : s.TypeIs (.ref e) "filter" := ⟨_, he, rfl⟩
  refine wpAny_pyIter_slot hT fl_slot_iter (wpAny_call_entry fl_slot_iter hT fl_entry_iter ?_ (fl_args_iter _))
  show wpAny _ _ (ret (.ref e)) _ _ s
  exact wpAny_pure ⟨_, rfl, "filter", _, hT, fl_slot_next.lookup, h⟩
theorem fl_item {it l : Addr} {i : Nat} {items : Array Value} {x : Value} {Q : Option Value → Shared → Prop} (hit : s.heap.IsListIter it l i) (hl : s.heap.IsList l items) (hx : items[i]? = some x)
    (hQ : ∀ h', h'.IsListIter it l (i + 1) → Heap.SameBut it s.heap h' → Q (some x) { s with heap := h' }) :
    wpAny (model prog w) A (callSpecial? (.ref it) (Str.ofString "__next__")) Q E s := by
  obtain ⟨o, ho, hc, hd⟩ := id hit
  obtain ⟨ol, hol, _, nl, hdl⟩ := hl
  refine wpAny_callSpecial?_slot (name := Str.ofString "__next__") hit.typeIs slot_listiter_next
    (wpAny_call_entry slot_listiter_next hit.typeIs entry_listiter_next ?_ (args_listiter_next _))
  show wpAny _ _ (field (.ref it) 0 >>= _) _ _ s
  refine wpAny_bind (wpAny_field ho hd (x := .ref l) rfl ?_)
  show wpAny _ _ (if (Value.ref l == Value.none) = true then _ else _) _ _ s
  rw [if_neg (show ¬ ((Value.ref l == Value.none) = true) from Bool.false_ne_true)]
  show wpAny _ _ (field (.ref it) 1 >>= _) _ _ s
  refine wpAny_bind (wpAny_field ho hd (x := .int i 0) rfl ?_)
  show wpAny _ _ (seqItems? (.ref l) >>= _) _ _ s
  refine wpAny_bind (wpAny_seqItems hol hdl ?_)
  simp only [Int.toNat_natCast, hx]
  refine wpAny_bind (wpAny_setField ho hd (by simp) (wpAny_pure ⟨x, rfl, hQ _ ?_ (Heap.SameBut.update ..)⟩))
  exact ⟨_, Heap.get?_update_self _ ho (Obj.isFreed_of_fields (Obj.data_mapFields hd _)), (Obj.cls_mapFields ..).trans hc, by
    rw [Obj.data_mapFields hd]; simp [rawInt]⟩
theorem fl_end {it l : Addr} {i : Nat} {items : Array Value} {Q : Option Value → Shared → Prop} (hh : A.handled = none) (hit : s.heap.IsListIter it l i) (hl : s.heap.IsList l items) (hx : items[i]? = none)
    (hE : ∀ h' e, Heap.ExtBut it s.heap h' → (∃ o, h'.get? e = some o ∧ o.cls = .type "StopIteration") → E (.ref e) { s with heap := h' }) :
    wpAny (model prog w) A (callSpecial? (.ref it) (Str.ofString "__next__")) Q E s := by
  obtain ⟨o, ho, hc, hd⟩ := id hit
  obtain ⟨ol, hol, _, nl, hdl⟩ := hl
  refine wpAny_callSpecial?_slot (name := Str.ofString "__next__") hit.typeIs slot_listiter_next
    (wpAny_call_entry slot_listiter_next hit.typeIs entry_listiter_next ?_ (args_listiter_next _))
  show wpAny _ _ (field (.ref it) 0 >>= _) _ _ s
  refine wpAny_bind (wpAny_field ho hd (x := .ref l) rfl ?_)
  show wpAny _ _ (if (Value.ref l == Value.none) = true then _ else _) _ _ s
  rw [if_neg (show ¬ ((Value.ref l == Value.none) = true) from Bool.false_ne_true)]
  show wpAny _ _ (field (.ref it) 1 >>= _) _ _ s
  refine wpAny_bind (wpAny_field ho hd (x := .int i 0) rfl ?_)
  show wpAny _ _ (seqItems? (.ref l) >>= _) _ _ s
  refine wpAny_bind (wpAny_seqItems hol hdl ?_)
  simp only [Int.toNat_natCast, hx]
  refine wpAny_bind (wpAny_rule (wpAny_bind (wpAny_setField ho hd (by simp) ?_)))
  show wpAny _ _ (newExc (.type "StopIteration") [] >>= _) _ _ _
  refine wpAny_bind ?_
  simp only [newExc, newTuple]
  refine wpAny_bind (wpAny_newObj_type ?_ (by size_fits))
  refine wpAny_bind (m := firstArgMember _ _) (wpAny_of_eq (a := Value.none) (by first | rfl | (simp only [firstArgMember]; rfl)) ?_)
  refine wpAny_newObj_type ?_ (by size_fits)
  simp only [raiseNew]
  refine wpAny_bind (wpAny_handled ?_)
  first | rw [show A.in1.handled = none from hh] | rw [hh]
  refine wpAny_bind (wpAny_pure (wpAny_throw ?_))
  exact hE _ _ (((Heap.SameBut.update ..).extBut.push _).push _) ⟨_, Heap.get?_push_size _ rfl, rfl⟩
end
section
variable {prog : Program} {w : World} {A : Around} {R : Result → Shared → Prop}
noncomputable def txtOf : Value → Str | .str x _ => x | _ => Str.ofString ""
noncomputable def AllStr (items : List Value) : Prop := ∀ v ∈ items, ∃ x t, v = .str x t
noncomputable def keptN (S : Str → Bool) (items : List Value) (j : Nat) : Nat := ((items.take j).filter fun v => S (txtOf v)).length
noncomputable def FiltAt (prog : Program) (w : World) (S : Str → Bool) (n : Nat) (e b st it l : Addr) (items : Array Value) (j : Nat) (h : Heap) : Prop :=
  IsFilt h e b it ∧ h.get? b = some (boundC st) ∧ h.SetOf (strKind prog w) st S n ∧ h.IsListIter it l j ∧ h.IsList l items
theorem FiltAt.step {S : Str → Bool} {n : Nat} {e b st it l : Addr} {items : Array Value} {j j' : Nat} {h h' : Heap} (H : FiltAt prog w S n e b st it l items j h) (h1 : e ≠ it) (h2 : b ≠ it) (h3 : st ≠ it) (h4 : l ≠ it)
    (hit : h'.IsListIter it l j') (hk : ∀ b o, b ≠ it → h.get? b = some o → h'.get? b = some o) : FiltAt prog w S n e b st it l items j' h' :=
  ⟨hk _ _ h1 H.1, hk _ _ h2 H.2.1, by obtain ⟨o, es, ep, t, ho, r⟩ := H.2.2.1; exact ⟨o, es, ep, t, hk _ _ h3 ho, r⟩, hit, H.2.2.2.2.at fun o x => hk _ _ h4 x⟩
theorem fl_body {S : Str → Bool} {n : Nat} {e b st it l : Addr} {items : Array Value} (hh : A.handled = none) (hs : AllStr items.toList) (h1 : e ≠ it) (h2 : b ≠ it) (h3 : st ≠ it) (h4 : l ≠ it) :
    ∀ (k j : Nat) (s : Shared), items.size - j = k → FiltAt prog w S n e b st it l items j s.heap →
      (∀ j' v h' tk, items[j']? = some v → S (txtOf v) = true → keptN S items.toList j' = keptN S items.toList j → FiltAt prog w S n e b st it l items (j' + 1) h' → (∀ b o, b ≠ it → s.heap.get? b = some o → h'.get? b = some o) → R (.ok (.ret v)) { s with heap := h', toks := tk }) →
      (∀ h' x tk, keptN S items.toList items.size = keptN S items.toList j → Heap.ExtBut it s.heap h' → (∃ o, h'.get? x = some o ∧ o.cls = .type "StopIteration") → R (.error (.ref x)) { s with heap := h', toks := tk }) →
      codeAny (model prog w) A (.builtin "filter.__next__" ⟨[.ref e], []⟩) R s := by
  intro k
  induction k with
  | zero =>
    intro j s hk H hv he
    refine codeAny_builtin fl_entry_next ?_
    rw [Around.under_plainId fl_plain_next _]
    show wpAny _ _ (field (.ref e) 0 >>= _) _ _ s
    refine wpAny_bind (wpAny_field H.1 rfl (x := .ref b) rfl ?_)
    show wpAny _ _ (field (.ref e) 1 >>= _) _ _ s
    refine wpAny_bind (wpAny_field H.1 rfl (x := .ref it) rfl ?_)
    refine wpAny_bind (fl_end (by simpa using hh) H.2.2.2.1 H.2.2.2.2 (by simp; omega) fun h' x hx hc => ?_)
    exact he h' x _ (by unfold keptN; rw [List.take_of_length_le (by simp), List.take_of_length_le (by simp; omega)]) hx hc
  | succ k ih =>
    intro j s hk H hv he
    have hj : j < items.size := by omega
    obtain ⟨tx, t, hx⟩ := hs items[j] (Array.mem_toList_iff.mpr (Array.getElem_mem hj))
    have hg : items[j]? = some (.str tx t) := by rw [Array.getElem?_eq_getElem hj, hx]
    have hg' : items.toList[j]? = some (.str tx t) := by rw [Array.getElem?_toList]; exact hg
    have hkn : keptN S items.toList (j + 1) = keptN S items.toList j + if S tx = true then 1 else 0 := by
      unfold keptN; rw [List.take_add_one, hg', List.filter_append, List.length_append]; simp only [Option.toList_some, List.filter_cons, List.filter_nil, txtOf]; split <;> simp
    refine codeAny_builtin fl_entry_next ?_
    rw [Around.under_plainId fl_plain_next _]
    show wpAny _ _ (field (.ref e) 0 >>= _) _ _ s
    refine wpAny_bind (wpAny_field H.1 rfl (x := .ref b) rfl ?_)
    show wpAny _ _ (field (.ref e) 1 >>= _) _ _ s
    refine wpAny_bind (wpAny_field H.1 rfl (x := .ref it) rfl ?_)
    refine wpAny_bind (fl_item H.2.2.2.1 H.2.2.2.2 hg fun h₁ hit₁ hs₁ => ?_)
    have H₁ : FiltAt prog w S n e b st it l items (j + 1) h₁ := H.step h1 h2 h3 h4 hit₁ fun b o hb x => hs₁.extBut b o hb x
    show wpAny _ _ (holding [Value.str tx t] (if (Value.ref b == Value.none || Value.ref b == Value.type "bool") = true then _ else _) >>= _) _ _ _
    refine wpAny_bind (wpAny_holding ?_)
    rw [if_neg (show ¬ ((Value.ref b == Value.none || Value.ref b == Value.type "bool") = true) from Bool.false_ne_true)]
    refine wpAny_bind (fl_call (knd := strKind prog w) (k := tx) H₁.2.1 (by show Value.isStrOf tx (.str tx t) = true; simp [Value.isStrOf]) rfl H₁.2.2.1 ?_)
    refine wpAny_holding (wpAny_truthy_bool ?_)
    cases hS : S tx with
    | true =>
      exact wpAny_pure (hv j _ h₁ _ hg hS rfl H₁ fun b o hb x => hs₁.extBut b o hb x)
    | false =>
      refine wpAny_pure ⟨plainId_quiet fl_plain_next _, ih (j + 1) _ (by omega) H₁ (fun j' v h' tk a b c d f => ?_) fun h' x tk a b c => ?_⟩
      · exact hv j' v h' tk a b (by rw [c, hkn, hS]; simp) d fun b o hb x => f b o hb (hs₁.extBut b o hb x)
      · exact he h' x tk (by rw [a, hkn, hS]; simp) (fun y o hy z => b y o hy (hs₁.extBut y o hy z)) c
end
end
end

section
open PySem PySem.Spec PySem.Calls PySem.W PyProof.Rows
section
section
variable {prog : Program} {w : World} {A : Around}
theorem filter_get {p : Value → Bool} : ∀ {l : List Value} {j : Nat} {v : Value}, l[j]? = some v → p v = true → (l.filter p)[((l.take j).filter p).length]? = some v
  | [], _, _, h, _ => by simp at h
  | a :: l, 0, v, h, hp => by simp at h; subst h; simp [hp]
  | a :: l, j + 1, v, h, hp => by
    simp only [List.getElem?_cons_succ] at h
    have ih := filter_get h hp
    simp only [List.take_succ_cons, List.filter_cons]
    split <;> simp [ih]
theorem filter_more {p : Value → Bool} : ∀ {l : List Value} {j : Nat} {v : Value}, l[j]? = some v → p v = true → ((l.take j).filter p).length < (l.filter p).length
  | l, j, v, h, hp => by
    have := filter_get h hp
    exact (List.getElem?_eq_some_iff.mp this).1
noncomputable def FiltSt (prog : Program) (w : World) (S : Str → Bool) (n : Nat) (e b st it l : Addr) (items : Array Value) (i : Nat) (h : Heap) : Prop :=
  ∃ j, keptN S items.toList j = i ∧ FiltAt prog w S n e b st it l items j h
theorem walks_filter {S : Str → Bool} {n : Nat} {e b st it l : Addr} {items : Array Value} (hh : A.handled = none) (hs : AllStr items.toList) (h1 : e ≠ it) (h2 : b ≠ it) (h3 : st ≠ it) (h4 : l ≠ it) :
    Walks prog w A e [e, b, st, it, l] [it] (items.toList.filter fun v => S (txtOf v)).length (fun i v => (items.toList.filter fun v => S (txtOf v))[i]? = some v) (FiltSt prog w S n e b st it l items) where
  sub := fun b hb => by simp at hb; simp [hb]
  frame := fun i h h' ⟨j, hj, H⟩ hk => ⟨j, hj, hk e (by simp) _ H.1, hk b (by simp) _ H.2.1, by obtain ⟨o, es, ep, t, ho, r⟩ := H.2.2.1; exact ⟨o, es, ep, t, hk st (by simp) _ ho, r⟩,
    H.2.2.2.1.at fun o x => hk it (by simp) o x, H.2.2.2.2.at fun o x => hk l (by simp) o x⟩
  item := fun i s Q E hi ⟨j, hj, H⟩ hQ => by
    have hT : s.TypeIs (.ref e) "filter" := ⟨_, H.1, rfl⟩
    unfold pyNext
    refine wpAny_bind (wpAny_attempt (wpAny_callSpecial?_slot (name := Str.ofString "__next__") hT fl_slot_next
      (wpAny_call (codeAny_call_builtin_code (plainId_quiet fl_plain_next _) (fl_slot_next.check _ _ _ _ _ _ _ _ hT (fl_args_next _) (fl_body hh hs h1 h2 h3 h4 _ j s rfl H (fun j' v h' tk a b c d f => ?_) fun h' x tk a b c => ?_))))))
    · refine wpAny_pure (hQ v h' tk ?_ ⟨j' + 1, ?_, d⟩ fun b o hb x => f b o (fun z => hb (by simp [z])) x)
      · have := filter_get (p := fun v => S (txtOf v)) (l := items.toList) (j := j') (by rw [Array.getElem?_toList]; exact a) b
        show (items.toList.filter fun v => S (txtOf v))[i]? = some v
        rw [← hj, ← c]; exact this
      · have hg' : items.toList[j']? = some v := by rw [Array.getElem?_toList]; exact a
        rw [← hj, ← c]; unfold keptN; rw [List.take_add_one, hg', List.filter_append, List.length_append]; simp [b]
    · exfalso
      unfold keptN at a hj
      rw [hj, List.take_of_length_le (by simp)] at a
      omega
  done := fun s Q E ⟨j, hj, H⟩ hQ => by
    have hT : s.TypeIs (.ref e) "filter" := ⟨_, H.1, rfl⟩
    unfold pyNext
    refine wpAny_bind (wpAny_attempt (wpAny_callSpecial?_slot (name := Str.ofString "__next__") hT fl_slot_next
      (wpAny_call (codeAny_call_builtin_code (plainId_quiet fl_plain_next _) (fl_slot_next.check _ _ _ _ _ _ _ _ hT (fl_args_next _) (fl_body hh hs h1 h2 h3 h4 _ j s rfl H (fun j' v h' tk a b c d f => ?_) fun h' x tk a b c => ?_))))))
    · exfalso
      have := filter_more (p := fun v => S (txtOf v)) (l := items.toList) (j := j') (by rw [Array.getElem?_toList]; exact a) b
      unfold keptN at c hj
      omega
    · obtain ⟨o, ho, hc⟩ := c
      refine wpAny_bind (wpAny_isInstance (T := "StopIteration") (b := true) ⟨o, ho, hc⟩ isSubtype_stop ?_)
      exact wpAny_pure (hQ _ _ fun y o hy z => b y o (fun z => hy (by simp [z])) z)
  self := fun _ _ _ _ ⟨_, _, H⟩ hQ => iter_filter H.1 hQ
end
section
variable {prog : Program} {w : World} {A : Around} {s : Shared} {R : Result → Shared → Prop}
variable {I : Addr} {fp wr : List Addr} {G : Array GenState → Array GenState → Prop} {n : Nat} {P : Nat → Value → Prop} {St : Nat → Shared → Prop}
theorem extend_filt (W : WalksS prog w A.in1 I fp wr G n P St) (hT : ∀ i s, St i s → s.TypeIs (.ref I) "filter") (S : Addr) (res : Value) (c₀ : Nat) (hst : St 0 s) (hSf : S ∉ fp) (hI : I ∈ fp)
    (hS : s.heap.get? S = some { cls := .type "list", data := .seq #[] c₀ })
    (hR : ∀ s' acc' c', Moved (S :: wr) G s s' → s'.heap.get? S = some { cls := .type "list", dict := none, data := .seq acc' c', slots := #[] } → ItemsOf P acc' n → R (.ok (.ret res)) s') (hn : n ≤ sizeLine := by size_fits) :
    wpAny (model prog w) A.in1 (Builtin.List.listExtendWith (.ref S) (.ref I) res)
      (fun fin s' => match fin with | .done f => R (.ok f) s' | .again c' => c'.quiet = true ∧ codeAny (model prog w) A c' R s') (fun e s' => R (.error e) s') s := by
  have hSI : S ≠ I := fun e => hSf (e ▸ hI)
  unfold Builtin.List.listExtendWith
  refine wpAny_bind (wpAny_typeOf (hT 0 _ hst) ?_)
  have h1 : Builtin.List.listSameRef (.ref S) (.ref I) = false := by simp [Builtin.List.listSameRef, hSI]
  have h2 : (Value.type "filter" == Value.type "list") = false := by decide
  have h3 : (Value.type "filter" == Value.type "tuple") = false := by decide
  simp only [h1, h2, h3, Bool.or_false, Bool.false_eq_true, if_false]
  refine wpAny_bind (W.self 0 _ _ _ hst ?_)
  refine wpAny_bind (wpAny_holding ?_)
  unfold Builtin.List.listLengthHint
  refine wpAny_bind (wpAny_specialOf (hT 0 _ hst) fl_no_len ?_)
  show wpAny _ A.in1 (specialOf (Value.ref I) (Str.ofString "__length_hint__") >>= _) _ _ _
  refine wpAny_bind (wpAny_specialOf (hT 0 _ hst) fl_no_hint ?_)
  refine wpAny_pure ?_
  show wpAny _ A.in1 (rule "list.extend.makes-room" >>= fun _ => Builtin.List.listTouch (.ref S) >>= fun _ =>
    again (.builtin "list.extend.loop" ⟨[.ref S, .ref I, res], []⟩)) _ _ _
  refine wpAny_bind (wpAny_rule ?_)
  refine wpAny_bind ?_
  show wpAny _ A.in1 (updateSeq S (·.push .none) >>= fun _ => updateSeq S (·.pop)) _ _ _
  refine wpAny_bind (wpAny_updateSeq hS rfl ?_)
  have hS₂ := Heap.get?_update_self (Obj.mapSeq (·.push Value.none)) hS rfl
  refine wpAny_updateSeq (hz := by seq_fits) hS₂ rfl ?_
  have hS₃ := Heap.get?_update_self (Obj.mapSeq (·.pop)) hS₂ rfl
  have oth : ∀ b o, b ≠ S → s.heap.get? b = some o → ((s.heap.update S (Obj.mapSeq (·.push Value.none))).update S (Obj.mapSeq (·.pop))).get? b = some o :=
    fun b o hb e => (Heap.get?_update_other _ _ (Ne.symm hb)).trans ((Heap.get?_update_other _ _ (Ne.symm hb)).trans e)
  refine wpAny_pure ⟨plainId_quiet F.plain_extend_loop _, codeAny_extend_loopS W hn _ hSf _ n 0 _ _ _ rfl (Nat.zero_le _)
    (W.frame 0 s _ s.toks hst (Nat.le_refl _) fun b hb o e => oth b o (fun h => hSf (h ▸ hb)) e) hS₃ (ItemsOf.nil P) fun s' acc' c' hm hS' hacc => ?_⟩
  exact hR s' acc' c' (Moved.trans W.gtrans ((Moved.refl W.grefl).then_heap (Nat.le_refl _) fun b o hb e => oth b o (fun h => hb (h ▸ List.mem_cons_self)) e) hm) hS' hacc
theorem list_init_filt (W : WalksS prog w A.in1 I fp wr G n P St) (hT : ∀ i s, St i s → s.TypeIs (.ref I) "filter") (S : Addr) (hst : St 0 s) (hSf : S ∉ fp) (hI : I ∈ fp)
    (hS : s.heap.get? S = some { cls := .type "list", data := .seq #[] })
    (hR : ∀ s' acc' c', Moved (S :: wr) G s s' → s'.heap.get? S = some { cls := .type "list", dict := none, data := .seq acc' c', slots := #[] } → ItemsOf P acc' n → R (.ok (.ret .none)) s') (hn : n ≤ sizeLine := by size_fits) :
    wpAny (model prog w) A.in1 (Builtin.«list.__init__» ⟨[.ref S, .ref I], []⟩)
      (fun fin s' => match fin with | .done f => R (.ok f) s' | .again c' => c'.quiet = true ∧ codeAny (model prog w) A c' R s') (fun e s' => R (.error e) s') s := by
  show wpAny _ A.in1 (do let old ← Builtin.List.listItems (.ref S); Builtin.List.listUpdate (.ref S) (fun _ => #[]); letGo old.toList.reverse; Builtin.List.listExtendWith (.ref S) (.ref I) .none) _ _ s
  refine wpAny_bind ?_
  unfold Builtin.List.listItems
  refine wpAny_bind (wpAny_seqItems hS rfl (wpAny_pure ?_))
  show wpAny _ A.in1 (updateSeq S (fun _ => #[]) >>= fun _ => letGo (#[] : Array Value).toList.reverse >>= fun _ => Builtin.List.listExtendWith (.ref S) (.ref I) .none) _ _ s
  refine wpAny_bind (wpAny_updateSeq hS rfl ?_)
  have hS₂ := Heap.get?_update_self (Obj.mapSeq (fun _ => (#[] : Array Value))) hS rfl
  have oth : ∀ b o, b ≠ S → s.heap.get? b = some o → (s.heap.update S (Obj.mapSeq (fun _ => (#[] : Array Value)))).get? b = some o :=
    fun b o hb e => (Heap.get?_update_other _ _ (Ne.symm hb)).trans e
  refine wpAny_bind (wpAny_letGo ?_)
  refine extend_filt (hn := hn) W hT S .none _ (W.frame 0 s _ s.toks hst (Nat.le_refl _) fun b hb o e => oth b o (fun h => hSf (h ▸ hb)) e) hSf hI hS₂ fun s' acc' c' hm hS' hacc => ?_
  exact hR s' acc' c' (Moved.trans W.gtrans ((Moved.refl W.grefl).then_heap (Nat.le_refl _) fun b o hb e => oth b o (fun h => hb (h ▸ List.mem_cons_self)) e) hm) hS' hacc
theorem call_list_filt {E : Value → Shared → Prop} {Q : Value → Shared → Prop} (W : WalksS prog w A.in1.in1 I fp wr G n P St) (hT : ∀ i s, St i s → s.TypeIs (.ref I) "filter") (hst : St 0 s) (hfp : ∀ b ∈ fp, b < s.heap.objs.size) (hI : I ∈ fp)
    (hQ : ∀ s' acc' c', Moved (s.heap.objs.size :: wr) G { s with heap := s.heap.push { cls := .type "list", data := .seq #[] } } s' →
      s'.heap.get? s.heap.objs.size = some { cls := .type "list", dict := none, data := .seq acc' c', slots := #[] } → ItemsOf P acc' n → Q (.ref s.heap.objs.size) s') (hn : n ≤ sizeLine := by size_fits) :
    wpAny (model prog w) A (call (.type "list") [.ref I]) Q E s := by
  have hSf : s.heap.objs.size ∉ fp := fun hm => Nat.lt_irrefl _ (hfp _ hm)
  refine callType_codes (Q₁ := fun obj s₁ => obj = .ref s.heap.objs.size ∧ s₁ = { s with heap := s.heap.push { cls := .type "list", data := .seq #[] } }) F.called_list (F.typeCall_list_1 _) F.entry_list_init
    (code_list_new _ ⟨rfl, rfl⟩) fun obj s₁ h₁ => ?_
  obtain ⟨rfl, rfl⟩ := h₁
  have hS : (s.heap.push { cls := .type "list", data := .seq #[] }).get? s.heap.objs.size = some { cls := .type "list", data := .seq #[] } := Heap.get?_push_size _ rfl
  refine ⟨⟨_, hS, rfl⟩, F.args_list_init_2 _ _, list_init_filt (hn := hn) W hT _ (W.frame 0 s _ s.toks hst (Nat.le_refl _) fun b _ o e => Heap.get?_push_of_some _ e) hSf hI hS fun s' acc' c' hm hS' hacc => ?_⟩
  exact ⟨rfl, hQ s' acc' c' hm hS' hacc⟩
end
end
end

section
open PySem PySem.Spec PySem.Calls PySem.W PyProof.Rows
section
noncomputable def hasTxt (items : List Value) (k : Str) : Bool := items.any fun v => decide (k = txtOf v)
section
variable {prog : Program} {w : World} {A : Around} {R : Result → Shared → Prop} {I : Addr} {fp wr : List Addr} {G : Array GenState → Array GenState → Prop} {St : Nat → Shared → Prop}
theorem set_loop {items : Array Value} (W : WalksS prog w A.in1 I fp wr G items.size (fun i v => items[i]? = some v) St) (S : Addr) (hSf : S ∉ fp) (hs : AllStr items.toList) (hb : items.size + 1 < scanBound) :
    ∀ (k i : Nat) (s : Shared) (n : Nat), items.size - i = k → i ≤ items.size → n ≤ i → St i s → s.heap.SetOf (PySem.strKind prog w) S (hasTxt (items.toList.take i)) n →
      (∀ s' n', n' ≤ items.size → Moved (S :: wr) G s s' → s'.heap.SetOf (PySem.strKind prog w) S (hasTxt items.toList) n' → R (.ok (.ret .none)) s') →
      codeAny (model prog w) A (.builtin "set.update.loop" ⟨[.ref S, .ref I], []⟩) R s := by
  have hSw : S ∉ wr := fun h => hSf (W.sub _ h)
  have hsub : ∀ b ∈ wr, b ∈ S :: wr := fun b hb => List.mem_cons_of_mem _ hb
  intro k
  induction k with
  | zero =>
    intro i s n hk hi hn hst hS hR
    have hin : i = items.size := by omega
    subst hin
    refine codeAny_builtin F.entry_set_update_loop ?_
    rw [Around.under_plainId F.plain_set_update_loop _]
    show wpAny _ A.in1 (pyNext (.ref I) >>= _) _ _ s
    refine wpAny_bind (W.done s _ _ hst fun s' hm => ?_)
    show wpAny _ A.in1 (ret Value.none) _ _ s'
    rw [List.take_of_length_le (by simp)] at hS
    exact wpAny_pure (hR s' n hn (hm.mono hsub) (by
      obtain ⟨o, es, ep, t, ho, rest⟩ := hS
      exact ⟨o, es, ep, t, hm.heap S _ hSw ho, rest⟩))
  | succ k ih =>
    intro i s n hk hi hn hst hS hR
    have hlt : i < items.size := by omega
    refine codeAny_builtin F.entry_set_update_loop ?_
    rw [Around.under_plainId F.plain_set_update_loop _]
    show wpAny _ A.in1 (pyNext (.ref I) >>= _) _ _ s
    refine wpAny_bind (W.item i s _ _ hlt hst fun v s' hP hst' hm => ?_)
    obtain ⟨x, t, rfl⟩ := hs v (Array.mem_toList_iff.mpr (Array.mem_of_getElem? hP))
    have hP' : items.toList[i]? = some (.str x t) := by rw [Array.getElem?_toList]; exact hP
    have hS' : s'.heap.SetOf (PySem.strKind prog w) S (hasTxt (items.toList.take i)) n := by
      obtain ⟨o, es, ep, tb, ho, rest⟩ := hS
      exact ⟨o, es, ep, tb, hm.heap S _ hSw ho, rest⟩
    show wpAny _ A.in1 (holding [Value.str x t] (setAdd S (.str x t)) >>= _) _ _ s'
    refine wpAny_bind (wpAny_holding ?_)
    unfold setAdd
    refine wpAny_holding ?_
    have hkey : (PySem.strKind prog w).is x (.str x t) = true := by show Value.isStrOf x (.str x t) = true; simp [Value.isStrOf]
    refine wpAny_bind ((PySem.strKind prog w).pyHash (k := x) hkey ?_)
    refine wpAny_setAddHashed_of (knd := PySem.strKind prog w) (s := { s' with toks := s'.toks + 1 }) hkey rfl hS' (by omega) fun h' hsb hS2 => ?_
    have hSi : h'.SetOf (PySem.strKind prog w) S (hasTxt (items.toList.take (i + 1))) (if hasTxt (items.toList.take i) x = true then n else n + 1) :=
      SetOf_congr hS2 (fun k' => by unfold hasTxt; rw [List.take_add_one, hP', List.any_append]; simp only [Option.toList_some, List.any_cons, List.any_nil, Bool.or_false]; by_cases e : k' = x <;> simp [e, txtOf]) rfl
    refine wpAny_pure ⟨plainId_quiet F.plain_set_update_loop _, ih (i + 1) _ _ (by omega) hlt (by split <;> omega) (W.frame _ s' _ _ hst' (Nat.le_succ _) fun b hb o e => ?_) hSi fun s'' n' hn' hm'' hS'' => ?_⟩
    · rw [hsb.2 b (fun h : b = S => hSf (by rw [← h]; exact hb))]; exact e
    · refine hR s'' n' hn' (Moved.trans W.gtrans ((hm.mono hsub).then_heap (Nat.le_succ _) fun b o hb e => ?_) hm'') hS''
      rw [hsb.2 b (fun h : b = S => hb (by rw [h]; exact List.mem_cons_self))]; exact e
end
section
variable {prog : Program} {w : World} {A : Around} {E : Value → Shared → Prop} {s : Shared}
theorem call_set_strs {l : Addr} {items : Array Value} {Q : Value → Shared → Prop}
    (hh : A.handled = none) (hl : s.heap.IsList l items) (hs : AllStr items.toList) (hb : items.size + 1 < scanBound)
    (h : ∀ (h' : Heap) (tk n : Nat), n ≤ items.size → h'.SetOf (PySem.strKind prog w) s.heap.objs.size (hasTxt items.toList) n →
      (∀ b o, b < s.heap.objs.size → s.heap.get? b = some o → h'.get? b = some o) → Q (.ref s.heap.objs.size) { s with heap := h', toks := tk }) :
    wpAny (model prog w) A (call (.type "set") [.ref l]) Q E s := by
  obtain ⟨c, tl, hmro⟩ := F.called_set.mro
  have hmade := F.called_set.made
  have hsub := F.called_set.sub
  refine wpAny_call (codeAny_of_tree ?_)
  show wpAny _ _ (callAny (.type "set") _) _ _ _
  refine wpAny_pure ⟨Code.quiet_builtin _ (by decide +kernel), codeAny_builtin F.entry_type_call ?_⟩
  rw [Around.under_plain (weight_type_call_type "set" [.ref l] []) rfl]
  have h1 := F.called_set.notType
  have h2 := F.called_set.canCreate
  have hct := F.typeCall_set_1 (.ref l)
  repeat (any_goals (first | assumption | wp_step))
  refine codeAny_mono (code_set_new_1 (.ref l) (E := E) (Q₁ := fun obj s₁ => ∃ led : Bool, obj = .ref s.heap.objs.size ∧ s₁ = { s with heap := s.heap.push { cls := .type "set", dict := none, data := .set #[] 0 (.fresh 0 0 led) } }) fun led => ⟨led, rfl, rfl⟩) fun r s₁ hr => ?_
  cases r with
  | error e => exact hr
  | ok fl =>
    cases fl with
    | ret obj =>
      obtain ⟨led, rfl, rfl⟩ := hr
      have hS : (s.heap.push { cls := .type "set", dict := none, data := .set #[] 0 (.fresh 0 0 led) }).get? s.heap.objs.size = some { cls := .type "set", dict := none, data := .set #[] 0 (.fresh 0 0 led) } := Heap.get?_push_size _ rfl
      have hT : Shared.TypeIs { s with heap := s.heap.push { cls := .type "set", dict := none, data := .set #[] 0 (.fresh 0 0 led) } } (.ref s.heap.objs.size) "set" := ⟨_, hS, rfl⟩
      have hli := F.called_set.init.lookup
      have hbi := F.called_set.init.bind (.ref s.heap.objs.size)
      repeat (any_goals (first | assumption | wp_step))
      refine codeAny_mono (codeAny_call_builtin (R := wants (fun r s₂ => r = .none ∧ ∃ h' tk n, s₂ = { s with heap := h', toks := tk } ∧ n ≤ items.size ∧
          h'.SetOf (PySem.strKind prog w) s.heap.objs.size (hasTxt items.toList) n ∧
          (∀ b o, b < s.heap.objs.size → s.heap.get? b = some o → h'.get? b = some o)) E) F.called_set.init.plain F.entry_set_init (check_set_init_1 hT ?_)) fun r₂ s₂ hr₂ => ?_
      · obtain ⟨ol, hol, hcl, nl, hdl⟩ := hl
        obtain ⟨ocls, odict, odata, oslots⟩ := ol
        simp only at hcl hdl
        subst hcl; subst hdl
        have hol' : (s.heap.push { cls := .type "set", dict := none, data := .set #[] 0 (.fresh 0 0 led) }).get? l = some { cls := .type "list", dict := odict, data := .seq items nl, slots := oslots } := Heap.get?_push_of_some _ hol
        have hsls := F.sub_list_set
        have hslf := F.sub_list_frozenset
        have hne : (Value.type "list" == Value.type "dict") = false := by decide
        have hl1 : (s.heap.push { cls := .type "set", dict := none, data := .set #[] 0 (.fresh 0 0 led) }).IsList l items := ⟨_, hol', rfl, nl, rfl⟩
        unfold Builtin.«set.__init__» noKeywords Builtin.Frozenset.updateFrom
        generalize hPI : pyIter = PI
        wp_walk
        subst hPI
        refine wpAny_pyIter_list hl1 ?_
        refine wpAny_bind (wpAny_runValue ?_)
        have hlS : l < s.heap.objs.size := Heap.lt_size hol
        have hh3 : A.in1.in1.in1.handled = none := by simp [hh]
        have hneI : l ≠ (s.heap.push { cls := .type "set", dict := none, data := .set #[] 0 (.fresh 0 0 led) }).objs.size := by
          rw [Heap.size_push]; exact Nat.ne_of_lt (Nat.lt_succ_of_lt hlS)
        have hSf : s.heap.objs.size ∉ [(s.heap.push { cls := .type "set", dict := none, data := .set #[] 0 (.fresh 0 0 led) }).objs.size, l] := by
          rw [Heap.size_push]; simp only [List.mem_cons, List.not_mem_nil, or_false, not_or]
          exact ⟨Nat.ne_of_lt (Nat.lt_succ_self _), Nat.ne_of_gt hlS⟩
        refine set_loop ((Walks.list hh3 _ l hneI items).toS) s.heap.objs.size hSf hs hb (items.size - 0) 0 _ 0 (by omega) (Nat.zero_le _) (Nat.le_refl _)
          ⟨⟨_, Heap.get?_push_size _ rfl, rfl, rfl⟩, (hl1.push _)⟩ ?hS0 ?hR
        case hS0 =>
          have hget : ((s.heap.push { cls := .type "set", dict := none, data := .set #[] 0 (.fresh 0 0 led) }).push { cls := .type "list_iterator", data := .fields #[.ref l, .int 0 0] }).get? s.heap.objs.size
              = some { cls := .type "set", dict := none, data := .set #[] 0 (.fresh 0 0 led) } := Heap.get?_push_of_some _ hS
          exact SetOf_congr ((setObjOf_fresh (knd := PySem.strKind prog w) led).setOf hget (by unfold scanBound; omega)) (fun _ => rfl) rfl
        case hR =>
          intro s' n' hn' hm hS'
          obtain ⟨h', g', d', tk', os'⟩ := s'
          have eg : g' = s.gens := hm.gens
          have ed : d' = s.drawn := hm.drawn
          have eo : os' = s.os := hm.os
          subst eg; subst ed; subst eo
          show wpAny _ _ _ _ _ _
          refine wpAny_pure ?_
          show wpAny _ _ (ret Value.none) _ _ _
          refine wpAny_pure ⟨rfl, h', tk', n', rfl, hn', hS', fun b o hb e => ?_⟩
          have hb1 : b ≠ s.heap.objs.size := Nat.ne_of_lt hb
          have hb2 : b ≠ (s.heap.push { cls := .type "set", dict := none, data := .set #[] 0 (.fresh 0 0 led) }).objs.size := by
            rw [Heap.size_push]; exact Nat.ne_of_lt (Nat.lt_succ_of_lt hb)
          exact hm.heap b o (by simp only [List.mem_cons, List.not_mem_nil, or_false, not_or]; exact ⟨hb1, hb2⟩) (Heap.get?_push_of_some _ (Heap.get?_push_of_some _ e))
      · cases r₂ with
        | error e => exact hr₂
        | ok fl₂ =>
          cases fl₂ with
          | ret r =>
            obtain ⟨rfl, h', tk, n', rfl, hn', hS', hk'⟩ := hr₂
            repeat (any_goals (first | assumption | wp_step))
            exact h _ _ n' hn' hS' hk'
          | _ => exact hr₂.elim
    | _ => exact hr.elim
end
end
end

section
open PySem PySem.Spec PySem.Calls PySem.W PyProof.Rows
section
section
variable {prog : Program} {w : World} {A : Around} {E : Value → Shared → Prop} {s : Shared} {h₀ : Heap} {L : Addr} {m : Str → Option Value} {news : List (Addr × Obj)}
theorem fresh_none {a : Addr} (F : Fr h₀ L s.heap m) (ha : s.heap.objs.size ≤ a) : h₀.get? a = none := by
  cases hq : h₀.get? a with
  | none => rfl
  | some o' => exact absurd (Heap.lt_size (F.keep _ _ hq)) (Nat.not_lt.mpr ha)
theorem fr_lt (F : Fr h₀ L s.heap m) : L < s.heap.objs.size := by obtain ⟨oL, _, _, hL, _⟩ := F.ns; exact Heap.lt_size hL
theorem set_led {l : Addr} {vs : List Value} {c : Nat} {Q : Value → Shared → Prop} (hh : A.handled = none) (F : Fr h₀ L s.heap m) (N : News h₀ L s.heap news) (hl : (l, W.listOf vs.toArray c) ∈ news) (hs : AllStr vs) (hb : vs.length + 1 < scanBound)
    (h : ∀ x o n h' tk, Fr h₀ L h' m → News h₀ L h' ((x, o) :: news) → (∀ p ∈ news, p.1 < x) → o.SetObjOf (PySem.strKind prog w) (hasTxt vs) n → n < scanBound → Q (.ref x) { s with heap := h', toks := tk }) :
    wpAny (model prog w) A (call (.type "set") [.ref l]) Q E s := by
  refine call_set_strs (items := vs.toArray) hh ⟨_, (N _ hl).1, rfl, c, rfl⟩ hs (by simpa using hb) fun h' tk n hn hS hk => ?_
  obtain ⟨o, ho, hso⟩ := hS.objOf
  refine h _ o n h' tk ⟨F.ns.at' fun o' e => hk L o' (fr_lt F) e, fun b o' e => hk b o' (Heap.lt_size (F.keep b o' e)) (F.keep b o' e), F.above⟩ (fun p hp => ?_) (fun p hp => Heap.lt_size (N p hp).1) hso (by simp at hn; omega)
  rcases List.mem_cons.mp hp with rfl | hp
  · exact ⟨ho, Nat.ne_of_gt (fr_lt F), fresh_none F (Nat.le_refl _)⟩
  · exact ⟨hk _ _ (Heap.lt_size (N p hp).1) (N p hp).1, (N p hp).2.1, (N p hp).2.2⟩
theorem contains_led {x : Addr} {o : Obj} {S : Str → Bool} {n : Nat} {expr : Bool} {Q : Value → Shared → Prop} (F : Fr h₀ L s.heap m) (N : News h₀ L s.heap news) (hx : (x, o) ∈ news) (ho : o.SetObjOf (PySem.strKind prog w) S n) (hb : n < scanBound)
    (h : ∀ y h', Fr h₀ L h' m → News h₀ L h' ((y, boundC x) :: news) → (∀ p ∈ news, p.1 < y) → Q (.ref y) { s with heap := h', toks := s.toks + 1 }) :
    wpAny (model prog w) A (getAttr (.ref x) (Str.ofString "__contains__") expr) Q E s := by
  obtain ⟨o', es, ep, t, hg, hc, hd, _⟩ := ho.setOf (N _ hx).1 hb
  have e : o = o' := Option.some.inj ((N _ hx).1.symm.trans hg)
  subst e
  obtain ⟨c, dc, dt, sl⟩ := o
  obtain ⟨rfl, rfl, rfl⟩ := hc
  replace hd : dt = .set es ep t := hd
  subst hd
  exact fl_getattr hg (h _ _ (F.push _) (News.push F N _) fun p hp => Heap.lt_size (N p hp).1)
theorem filter_led {x y l : Addr} {o : Obj} {S : Str → Bool} {n c : Nat} {vs : List Value} {Q : Value → Shared → Prop} (F : Fr h₀ L s.heap m) (N : News h₀ L s.heap news) (hx : (x, o) ∈ news) (ho : o.SetObjOf (PySem.strKind prog w) S n) (hb : n < scanBound)
    (hy : (y, boundC x) ∈ news) (hl : (l, W.listOf vs.toArray c) ∈ news)
    (h : ∀ f it h', FiltAt prog w S n f y x it l vs.toArray 0 h' → f ≠ it → y ≠ it → x ≠ it → l ≠ it → L ≠ it → h₀.get? it = none → (∀ p ∈ news, p.1 ≠ it) → Fr h₀ L h' m → News h₀ L h' news → Q (.ref f) { s with heap := h' }) :
    wpAny (model prog w) A (call (.type "filter") [.ref y, .ref l]) Q E s := by
  refine call_filter (items := vs.toArray) ⟨_, (N _ hl).1, rfl, c, rfl⟩ fun h' hf hit hz hk => ?_
  have lt : ∀ {a o}, (a, o) ∈ news → a ≠ s.heap.objs.size := fun hm => Nat.ne_of_lt (Heap.lt_size (N _ hm).1)
  refine h _ _ h' ⟨hf, hk _ _ (N _ hy).1, ?_, hit, ⟨_, hk _ _ (N _ hl).1, rfl, c, rfl⟩⟩ (Nat.succ_ne_self _) (lt hy) (lt hx) (lt hl) (Nat.ne_of_lt (fr_lt F)) (fresh_none F (Nat.le_refl _)) (fun p hp => Nat.ne_of_lt (Heap.lt_size (N _ hp).1)) (F.keeps hk) (N.keepsAll hk)
  obtain ⟨o', es, ep, t, hg, r⟩ := ho.setOf (N _ hx).1 hb
  exact ⟨o', es, ep, t, hk _ _ hg, r⟩
theorem list_filter_led {f y x it l : Addr} {S : Str → Bool} {n : Nat} {vs : List Value} {Q : Value → Shared → Prop} (hh : A.handled = none) (F : Fr h₀ L s.heap m) (N : News h₀ L s.heap news)
    (H : FiltAt prog w S n f y x it l vs.toArray 0 s.heap) (h1 : f ≠ it) (h2 : y ≠ it) (h3 : x ≠ it) (h4 : l ≠ it) (h5 : L ≠ it) (h6 : h₀.get? it = none) (h7 : ∀ p ∈ news, p.1 ≠ it) (hs : AllStr vs) (hz : vs.length ≤ 4096)
    (h : ∀ D c h' tk, Fr h₀ L h' m → News h₀ L h' ((D, W.listOf (vs.filter fun v => S (txtOf v)).toArray c) :: news) → (∀ p ∈ news, p.1 < D) → Q (.ref D) { s with heap := h', toks := tk }) :
    wpAny (model prog w) A (call (.type "list") [.ref f]) Q E s := by
  have W := (walks_filter (prog := prog) (w := w) (A := A.in1.in1) (S := S) (n := n) (e := f) (b := y) (st := x) (it := it) (l := l) (items := vs.toArray) (by simp [hh]) hs h1 h2 h3 h4).toS
  have hle : (vs.filter fun v => S (txtOf v)).length ≤ 4096 := Nat.le_trans (List.length_filter_le _ _) hz
  refine call_list_filt W (fun i s H => by obtain ⟨j, _, H⟩ := H; exact ⟨_, H.1, rfl⟩) ⟨0, rfl, H⟩ (fun b hb => ?_) (by simp) (fun s' acc c hm hD hI => ?_) (Nat.le_trans hle (by decide))
  · simp only [List.mem_cons, List.not_mem_nil, or_false] at hb
    rcases hb with rfl | rfl | rfl | rfl | rfl
    · exact Heap.lt_size H.1
    · exact Heap.lt_size H.2.1
    · obtain ⟨o', es, ep, t, hg, r⟩ := H.2.2.1; exact Heap.lt_size hg
    · obtain ⟨o', hg, r⟩ := H.2.2.2.1; exact Heap.lt_size hg
    · obtain ⟨o', hg, r⟩ := H.2.2.2.2; exact Heap.lt_size hg
  obtain ⟨h', g', d', tk', os'⟩ := s'
  have eg : g' = s.gens := hm.gens
  have ed : d' = s.drawn := hm.drawn
  have eo : os' = s.os := hm.os
  subst eg; subst ed; subst eo
  have hacc : acc.toList = vs.filter fun v => S (txtOf v) := by
    refine List.ext_getElem? fun i => ?_
    cases e : acc.toList[i]? with
    | none =>
      rw [eq_comm, List.getElem?_eq_none_iff]
      have := List.getElem?_eq_none_iff.mp e
      rw [Array.length_toList, hI.1] at this
      exact this
    | some v => exact (hI.2 i v (by rw [← e, Array.getElem?_toList])).symm
  have hk : ∀ b o, b ≠ it → s.heap.get? b = some o → h'.get? b = some o := fun b o hb e =>
    hm.heap b o (by simp only [List.mem_cons, List.not_mem_nil, or_false, not_or]; exact ⟨Nat.ne_of_lt (Heap.lt_size e), hb⟩) (Heap.get?_push_of_some _ e)
  have h0 : ∀ b o, h₀.get? b = some o → b ≠ it := fun b o e z => by rw [z, h6] at e; exact nomatch e
  refine h _ c h' tk' ⟨F.ns.at' fun o' e => hk L o' h5 e, fun b o' e => hk b o' (h0 b o' e) (F.keep b o' e), F.above⟩ (fun p hp => ?_) (fun p hp => Heap.lt_size (N p hp).1)
  rcases List.mem_cons.mp hp with rfl | hp
  · refine ⟨?_, Nat.ne_of_gt (fr_lt F), fresh_none F (Nat.le_refl _)⟩
    rw [← hacc, Array.toArray_toList]; exact hD
  · exact ⟨hk _ _ (h7 p hp) (N p hp).1, (N p hp).2.1, (N p hp).2.2⟩
end
end
end

section
open PySem PySem.W PyProof.Rows
local macro_rules | `(tactic| k_mem) => `(tactic| assumption)
local macro_rules | `(tactic| k_mem) => `(tactic| ((repeat refine List.mem_cons_of_mem _ ?_); assumption))

section
open PySem PySem.W PyProof.Rows
section
theorem strs_all : ∀ {vs : List Value} {ws : List Str}, StrsAre vs ws → AllStr vs
  | _, _, .nil => fun _ h => nomatch h
  | _, _, .cons k t r => fun v hv => by
    rcases List.mem_cons.mp hv with rfl | hv
    · exact ⟨k, t, rfl⟩
    · exact strs_all r v hv
theorem hasTxt_strs : ∀ {vs : List Value} {ws : List Str} (k : Str), StrsAre vs ws → hasTxt vs k = decide (k ∈ ws)
  | _, _, k, .nil => by simp [hasTxt]
  | _, _, k, .cons x t r => by
    have := hasTxt_strs k r
    unfold hasTxt at this ⊢
    rw [List.any_cons, this]
    by_cases e : k = x <;> simp [e, txtOf]
theorem strs_filter {q : Str → Bool} : ∀ {vs : List Value} {ws : List Str}, StrsAre vs ws → StrsAre (vs.filter fun v => q (txtOf v)) (ws.filter q)
  | _, _, .nil => .nil
  | _, _, .cons x t r => by
    have ih := strs_filter (q := q) r
    simp only [List.filter_cons, txtOf]
    cases q x with
    | true => exact .cons _ _ ih
    | false => exact ih
theorem merge2_c {w : World} {p : Program} {loose : List Str} {mean : ExcName → Option Value} {mg mb : Str → Option Value} {news : List (Addr × Obj)} {a1 r1 a2 r2 : List Str} {dl : Option Int} {v1 v2 : Value} (hb1 : RecIn w news v1 a1 dl r1) (hb2 : RecIn w news v2 a2 none r2) (hn1 : r1.length ≤ 64) (hn2 : r2.length ≤ 64) (hg1 : a1.length ≤ 64) (hg2 : a2.length ≤ 64) :
   ClaimD Challenge.rw_nb0157_02.row.prog w (Mine.hd.heap_39 w.params) p loose mean mg mb 70 4 32 news [v1, v2] (fun v nw => RecIn w nw v (a1.filter fun a => decide (a ∈ a2)) dl (r1 ++ r2)) := by
  obtain ⟨x1, d1, l1, b1, t11, t12, t13, t14, us1, vs1, k11, k12, dv1, rfl, m11, m12, m13, m14, hA1, hR1, hD1⟩ := hb1
  obtain ⟨x2, d2, l2, b2, t21, t22, t23, t24, us2, vs2, k21, k22, dv2, rfl, m21, m22, m23, m24, hA2, hR2, hD2⟩ := hb2
  cases hD2
  intro dp un gd cn cs ad ccd cl outer A₀ base h₀ L m s Q E hB hF hX hN hT hcs hdp hun hret
  refine wpAny_call ?_
  k_dflt cell_enter
  (repeat' (first | (k_unfold; first | walk_at "Seq" | (try dsimp only)) | ((fail_if_success ((first | with_reducible show wpAny _ _ (call (Value.type "set") _) _ _ _ | with_reducible show wpAny _ _ (call (Value.type "filter") _) _ _ _ | with_reducible show wpAny _ _ (binaryOp Operator.Add (Value.ref _) (Value.ref _)) _ _ _ | with_reducible show wpAny _ _ (getAttr _ (Str.ofString "__contains__") _) _ _ _ | with_reducible show wpAny _ _ (exec (PySem.Stmt.While _ _ _ _) _) _ _ _ | with_reducible show wpAny _ _ (exec (PySem.Stmt.For _ _ _ _ _) _) _ _ _ | with_reducible show wpAny _ _ (pyIter _) _ _ _ | with_reducible show wpAny _ _ (call (Value.type "list") _) _ _ _ | with_reducible show wpAny _ _ (call (Value.builtin "str.join") _) _ _ _ | with_reducible show wpAny _ _ (eval (PySem.Expr.ListComp _ [PySem.Comprehension.mk (PySem.Expr.Tuple _ _ _) _ _ _] _ _) _) _ _ _ | with_reducible show LCg.CompSrc _ _ _ _ _ _ _ _ _ _ _ _ _ _ | with_reducible show wpAny _ _ (execs (PySem.Stmt.If (PySem.Expr.Compare _ [CmpOp.Lt] _ _) [PySem.Stmt.Assign [PySem.Expr.Tuple _ _ _] _ _] _ _ :: _) _) _ _ _))); first | (k_end; wrow_close) | walk1 | (dsimp only; walk1) | (leave1; walk_say "STEP leave1"; try dsimp only) | fail "no step")))
  have hu1 := hA1.len_eq
  have hu2 := hA2.len_eq
  have hv1 := hR1.len_eq
  have hv2 := hR2.len_eq
  refine set_led (vs := us2) (by rfl) (by k_asm) (by k_asm) (show (l2, W.listOf us2.toArray k21) ∈ _ by k_mem) (strs_all hA2) (by rw [hu2, show scanBound = 4096 from rfl]; omega) ?_
  intro xs os ns h1 tk1 F1 N1 q1 hso hsb
  (try k_lt q1); (try dsimp only); (try k_sweep)
  (repeat' (first | (k_unfold; first | walk_at "Seq" | (try dsimp only)) | ((fail_if_success ((first | with_reducible show wpAny _ _ (call (Value.type "set") _) _ _ _ | with_reducible show wpAny _ _ (call (Value.type "filter") _) _ _ _ | with_reducible show wpAny _ _ (binaryOp Operator.Add (Value.ref _) (Value.ref _)) _ _ _ | with_reducible show wpAny _ _ (getAttr _ (Str.ofString "__contains__") _) _ _ _ | with_reducible show wpAny _ _ (exec (PySem.Stmt.While _ _ _ _) _) _ _ _ | with_reducible show wpAny _ _ (exec (PySem.Stmt.For _ _ _ _ _) _) _ _ _ | with_reducible show wpAny _ _ (pyIter _) _ _ _ | with_reducible show wpAny _ _ (call (Value.type "list") _) _ _ _ | with_reducible show wpAny _ _ (call (Value.builtin "str.join") _) _ _ _ | with_reducible show wpAny _ _ (eval (PySem.Expr.ListComp _ [PySem.Comprehension.mk (PySem.Expr.Tuple _ _ _) _ _ _] _ _) _) _ _ _ | with_reducible show LCg.CompSrc _ _ _ _ _ _ _ _ _ _ _ _ _ _ | with_reducible show wpAny _ _ (execs (PySem.Stmt.If (PySem.Expr.Compare _ [CmpOp.Lt] _ _) [PySem.Stmt.Assign [PySem.Expr.Tuple _ _ _] _ _] _ _ :: _) _) _ _ _))); first | (k_end; wrow_close) | walk1 | (dsimp only; walk1) | (leave1; walk_say "STEP leave1"; try dsimp only) | fail "no step")))
  refine contains_led (by k_asm) (by k_asm) (List.mem_cons_self) hso hsb ?_
  intro yb h2 F2 N2 q2
  (try k_lt q2); (try dsimp only); (try k_sweep)
  (repeat' (first | (k_unfold; first | walk_at "Seq" | (try dsimp only)) | ((fail_if_success ((first | with_reducible show wpAny _ _ (call (Value.type "set") _) _ _ _ | with_reducible show wpAny _ _ (call (Value.type "filter") _) _ _ _ | with_reducible show wpAny _ _ (binaryOp Operator.Add (Value.ref _) (Value.ref _)) _ _ _ | with_reducible show wpAny _ _ (getAttr _ (Str.ofString "__contains__") _) _ _ _ | with_reducible show wpAny _ _ (exec (PySem.Stmt.While _ _ _ _) _) _ _ _ | with_reducible show wpAny _ _ (exec (PySem.Stmt.For _ _ _ _ _) _) _ _ _ | with_reducible show wpAny _ _ (pyIter _) _ _ _ | with_reducible show wpAny _ _ (call (Value.type "list") _) _ _ _ | with_reducible show wpAny _ _ (call (Value.builtin "str.join") _) _ _ _ | with_reducible show wpAny _ _ (eval (PySem.Expr.ListComp _ [PySem.Comprehension.mk (PySem.Expr.Tuple _ _ _) _ _ _] _ _) _) _ _ _ | with_reducible show LCg.CompSrc _ _ _ _ _ _ _ _ _ _ _ _ _ _ | with_reducible show wpAny _ _ (execs (PySem.Stmt.If (PySem.Expr.Compare _ [CmpOp.Lt] _ _) [PySem.Stmt.Assign [PySem.Expr.Tuple _ _ _] _ _] _ _ :: _) _) _ _ _))); first | (k_end; wrow_close) | walk1 | (dsimp only; walk1) | (leave1; walk_say "STEP leave1"; try dsimp only) | fail "no step")))
  refine filter_led (vs := us1) (by k_asm) (by k_asm) (List.mem_cons_of_mem _ List.mem_cons_self) hso hsb List.mem_cons_self (show (l1, W.listOf us1.toArray k11) ∈ _ by k_mem) ?_
  intro fl it h3 H3 e1 e2 e3 e4 e5 e6 e7 F3 N3
  (try dsimp only); (try k_sweep)
  (repeat' (first | (k_unfold; first | walk_at "Seq" | (try dsimp only)) | ((fail_if_success ((first | with_reducible show wpAny _ _ (call (Value.type "set") _) _ _ _ | with_reducible show wpAny _ _ (call (Value.type "filter") _) _ _ _ | with_reducible show wpAny _ _ (binaryOp Operator.Add (Value.ref _) (Value.ref _)) _ _ _ | with_reducible show wpAny _ _ (getAttr _ (Str.ofString "__contains__") _) _ _ _ | with_reducible show wpAny _ _ (exec (PySem.Stmt.While _ _ _ _) _) _ _ _ | with_reducible show wpAny _ _ (exec (PySem.Stmt.For _ _ _ _ _) _) _ _ _ | with_reducible show wpAny _ _ (pyIter _) _ _ _ | with_reducible show wpAny _ _ (call (Value.type "list") _) _ _ _ | with_reducible show wpAny _ _ (call (Value.builtin "str.join") _) _ _ _ | with_reducible show wpAny _ _ (eval (PySem.Expr.ListComp _ [PySem.Comprehension.mk (PySem.Expr.Tuple _ _ _) _ _ _] _ _) _) _ _ _ | with_reducible show LCg.CompSrc _ _ _ _ _ _ _ _ _ _ _ _ _ _ | with_reducible show wpAny _ _ (execs (PySem.Stmt.If (PySem.Expr.Compare _ [CmpOp.Lt] _ _) [PySem.Stmt.Assign [PySem.Expr.Tuple _ _ _] _ _] _ _ :: _) _) _ _ _))); first | (k_end; wrow_close) | walk1 | (dsimp only; walk1) | (leave1; walk_say "STEP leave1"; try dsimp only) | fail "no step")))
  refine list_filter_led (vs := us1) (by rfl) (by k_asm) (by k_asm) H3 e1 e2 e3 e4 e5 e6 e7 (strs_all hA1) (by omega) ?_
  intro D c4 h4 tk4 F4 N4 q4
  clear H3 e1 e2 e3 e4 e5 e6 e7
  (try k_lt q4); (try dsimp only); (try k_sweep)
  (repeat' (first | (k_unfold; first | walk_at "Seq" | (try dsimp only)) | ((fail_if_success ((first | with_reducible show wpAny _ _ (call (Value.type "set") _) _ _ _ | with_reducible show wpAny _ _ (call (Value.type "filter") _) _ _ _ | with_reducible show wpAny _ _ (binaryOp Operator.Add (Value.ref _) (Value.ref _)) _ _ _ | with_reducible show wpAny _ _ (getAttr _ (Str.ofString "__contains__") _) _ _ _ | with_reducible show wpAny _ _ (exec (PySem.Stmt.While _ _ _ _) _) _ _ _ | with_reducible show wpAny _ _ (exec (PySem.Stmt.For _ _ _ _ _) _) _ _ _ | with_reducible show wpAny _ _ (pyIter _) _ _ _ | with_reducible show wpAny _ _ (call (Value.type "list") _) _ _ _ | with_reducible show wpAny _ _ (call (Value.builtin "str.join") _) _ _ _ | with_reducible show wpAny _ _ (eval (PySem.Expr.ListComp _ [PySem.Comprehension.mk (PySem.Expr.Tuple _ _ _) _ _ _] _ _) _) _ _ _ | with_reducible show LCg.CompSrc _ _ _ _ _ _ _ _ _ _ _ _ _ _ | with_reducible show wpAny _ _ (execs (PySem.Stmt.If (PySem.Expr.Compare _ [CmpOp.Lt] _ _) [PySem.Stmt.Assign [PySem.Expr.Tuple _ _ _] _ _] _ _ :: _) _) _ _ _))); first | (k_end; wrow_close) | walk1 | (dsimp only; walk1) | (leave1; walk_say "STEP leave1"; try dsimp only) | fail "no step")))
  refine kmk_add_lit (its := vs1.toArray) (its2 := vs2.toArray) (zs := vs1 ++ vs2) (by k_asm) (by k_asm) (isl (by k_asm) (show (b1, W.listOf vs1.toArray k12) ∈ _ by k_mem)) (isl (by k_asm) (show (b2, W.listOf vs2.toArray k22) ∈ _ by k_mem)) rfl ?_ (by show vs1.length + vs2.length ≤ sizeLine; simp only [sizeLine_eq]; omega)
  intro D5 h5 F5 N5 q5
  (try k_lt q5); (try dsimp only); (try k_sweep)
  (repeat' (first | (k_unfold; first | walk_at "Seq" | (try dsimp only)) | ((fail_if_success ((first | with_reducible show wpAny _ _ (call (Value.type "set") _) _ _ _ | with_reducible show wpAny _ _ (call (Value.type "filter") _) _ _ _ | with_reducible show wpAny _ _ (binaryOp Operator.Add (Value.ref _) (Value.ref _)) _ _ _ | with_reducible show wpAny _ _ (getAttr _ (Str.ofString "__contains__") _) _ _ _ | with_reducible show wpAny _ _ (exec (PySem.Stmt.While _ _ _ _) _) _ _ _ | with_reducible show wpAny _ _ (exec (PySem.Stmt.For _ _ _ _ _) _) _ _ _ | with_reducible show wpAny _ _ (pyIter _) _ _ _ | with_reducible show wpAny _ _ (call (Value.type "list") _) _ _ _ | with_reducible show wpAny _ _ (call (Value.builtin "str.join") _) _ _ _ | with_reducible show wpAny _ _ (eval (PySem.Expr.ListComp _ [PySem.Comprehension.mk (PySem.Expr.Tuple _ _ _) _ _ _] _ _) _) _ _ _ | with_reducible show LCg.CompSrc _ _ _ _ _ _ _ _ _ _ _ _ _ _ | with_reducible show wpAny _ _ (execs (PySem.Stmt.If (PySem.Expr.Compare _ [CmpOp.Lt] _ _) [PySem.Stmt.Assign [PySem.Expr.Tuple _ _ _] _ _] _ _ :: _) _) _ _ _))); first | (k_end; wrow_close) | walk1 | (dsimp only; walk1) | (leave1; walk_say "STEP leave1"; try dsimp only) | fail "no step")))
  cases dl with
  | none =>
    cases hD1
    (repeat' (first | (k_unfold; first | walk_at "Seq" | (try dsimp only)) | ((fail_if_success ((first | with_reducible show wpAny _ _ (call (Value.type "set") _) _ _ _ | with_reducible show wpAny _ _ (call (Value.type "filter") _) _ _ _ | with_reducible show wpAny _ _ (binaryOp Operator.Add (Value.ref _) (Value.ref _)) _ _ _ | with_reducible show wpAny _ _ (getAttr _ (Str.ofString "__contains__") _) _ _ _ | with_reducible show wpAny _ _ (exec (PySem.Stmt.While _ _ _ _) _) _ _ _ | with_reducible show wpAny _ _ (exec (PySem.Stmt.For _ _ _ _ _) _) _ _ _ | with_reducible show wpAny _ _ (pyIter _) _ _ _ | with_reducible show wpAny _ _ (call (Value.type "list") _) _ _ _ | with_reducible show wpAny _ _ (call (Value.builtin "str.join") _) _ _ _ | with_reducible show wpAny _ _ (eval (PySem.Expr.ListComp _ [PySem.Comprehension.mk (PySem.Expr.Tuple _ _ _) _ _ _] _ _) _) _ _ _ | with_reducible show LCg.CompSrc _ _ _ _ _ _ _ _ _ _ _ _ _ _ | with_reducible show wpAny _ _ (execs (PySem.Stmt.If (PySem.Expr.Compare _ [CmpOp.Lt] _ _) [PySem.Stmt.Assign [PySem.Expr.Tuple _ _ _] _ _] _ _ :: _) _) _ _ _))); first | (k_end; wrow_close) | walk1 | (dsimp only; walk1) | (leave1; walk_say "STEP leave1"; try dsimp only) | fail "no step")))
    refine hret (.ref _) [_, _, _, _, _, _, _, _] _ _ ?P (by k_asm) (by k_asm) ?O
    case P =>
      refine ⟨_, _, _, _, _, _, _, _, us1.filter _, vs1 ++ vs2, _, _, _, rfl,
        List.mem_cons_of_mem _ (List.mem_cons_of_mem _ (List.mem_cons_of_mem _ (List.mem_cons_of_mem _ (List.mem_cons_of_mem _ (List.mem_cons_of_mem _ List.mem_cons_self))))),
        List.mem_cons_of_mem _ (List.mem_cons_of_mem _ (List.mem_cons_of_mem _ (List.mem_cons_of_mem _ (List.mem_cons_of_mem _ (List.mem_cons_of_mem _ (List.mem_cons_of_mem _ List.mem_cons_self)))))),
        List.mem_cons_of_mem _ List.mem_cons_self, List.mem_cons_self, ?_, hR1.append' hR2, rfl⟩
      have := strs_filter (q := hasTxt us2) hA1
      rw [List.filter_congr (fun x _ => hasTxt_strs x hA2)] at this
      exact this
    case O =>
      rename (∀ p ∈ news, p.1 < _) => hd0
      rename (_ ∧ _ ∧ AllLt _ news) => g1
      rename (_ ∧ _ ∧ _ ∧ AllLt _ news) => g2
      intro p hp q hq
      simp only [List.mem_cons, List.not_mem_nil, or_false] at hq
      refine Nat.ne_of_lt ?_
      rcases hq with rfl | rfl | rfl | rfl | rfl | rfl | rfl | rfl
      · exact Nat.lt_trans (hd0 p hp) q5.2.2.2.2.2.2.1
      · exact Nat.lt_trans (hd0 p hp) q4.2.2.2.2.2.1
      · exact Nat.lt_trans (hd0 p hp) q2.2.2.2.2.1
      · exact Nat.lt_trans (hd0 p hp) q1.2.2.2.1
      · exact Nat.lt_trans (hd0 p hp) g2.2.2.1
      · exact Nat.lt_trans (hd0 p hp) g1.2.1
      · exact Nat.lt_trans (hd0 p hp) (by assumption)
      · exact hd0 p hp
  | some n =>
    obtain ⟨td, rfl⟩ := hD1
    (repeat' (first | (k_unfold; first | walk_at "Seq" | (try dsimp only)) | ((fail_if_success ((first | with_reducible show wpAny _ _ (call (Value.type "set") _) _ _ _ | with_reducible show wpAny _ _ (call (Value.type "filter") _) _ _ _ | with_reducible show wpAny _ _ (binaryOp Operator.Add (Value.ref _) (Value.ref _)) _ _ _ | with_reducible show wpAny _ _ (getAttr _ (Str.ofString "__contains__") _) _ _ _ | with_reducible show wpAny _ _ (exec (PySem.Stmt.While _ _ _ _) _) _ _ _ | with_reducible show wpAny _ _ (exec (PySem.Stmt.For _ _ _ _ _) _) _ _ _ | with_reducible show wpAny _ _ (pyIter _) _ _ _ | with_reducible show wpAny _ _ (call (Value.type "list") _) _ _ _ | with_reducible show wpAny _ _ (call (Value.builtin "str.join") _) _ _ _ | with_reducible show wpAny _ _ (eval (PySem.Expr.ListComp _ [PySem.Comprehension.mk (PySem.Expr.Tuple _ _ _) _ _ _] _ _) _) _ _ _ | with_reducible show LCg.CompSrc _ _ _ _ _ _ _ _ _ _ _ _ _ _ | with_reducible show wpAny _ _ (execs (PySem.Stmt.If (PySem.Expr.Compare _ [CmpOp.Lt] _ _) [PySem.Stmt.Assign [PySem.Expr.Tuple _ _ _] _ _] _ _ :: _) _) _ _ _))); first | (k_end; wrow_close) | walk1 | (dsimp only; walk1) | (leave1; walk_say "STEP leave1"; try dsimp only) | fail "no step")))
    refine hret (.ref _) [_, _, _, _, _, _, _, _] _ _ ?P (by k_asm) (by k_asm) ?O
    case P =>
      refine ⟨_, _, _, _, _, _, _, _, us1.filter _, vs1 ++ vs2, _, _, _, rfl,
        List.mem_cons_of_mem _ (List.mem_cons_of_mem _ (List.mem_cons_of_mem _ (List.mem_cons_of_mem _ (List.mem_cons_of_mem _ (List.mem_cons_of_mem _ List.mem_cons_self))))),
        List.mem_cons_of_mem _ (List.mem_cons_of_mem _ (List.mem_cons_of_mem _ (List.mem_cons_of_mem _ (List.mem_cons_of_mem _ (List.mem_cons_of_mem _ (List.mem_cons_of_mem _ List.mem_cons_self)))))),
        List.mem_cons_of_mem _ List.mem_cons_self, List.mem_cons_self, ?_, hR1.append' hR2, ⟨td, rfl⟩⟩
      have := strs_filter (q := hasTxt us2) hA1
      rw [List.filter_congr (fun x _ => hasTxt_strs x hA2)] at this
      exact this
    case O =>
      rename (∀ p ∈ news, p.1 < _) => hd0
      rename (_ ∧ _ ∧ AllLt _ news) => g1
      rename (_ ∧ _ ∧ _ ∧ AllLt _ news) => g2
      intro p hp q hq
      simp only [List.mem_cons, List.not_mem_nil, or_false] at hq
      refine Nat.ne_of_lt ?_
      rcases hq with rfl | rfl | rfl | rfl | rfl | rfl | rfl | rfl
      · exact Nat.lt_trans (hd0 p hp) q5.2.2.2.2.2.2.1
      · exact Nat.lt_trans (hd0 p hp) q4.2.2.2.2.2.1
      · exact Nat.lt_trans (hd0 p hp) q2.2.2.2.2.1
      · exact Nat.lt_trans (hd0 p hp) q1.2.2.2.1
      · exact Nat.lt_trans (hd0 p hp) g2.2.2.1
      · exact Nat.lt_trans (hd0 p hp) g1.2.1
      · exact Nat.lt_trans (hd0 p hp) (by assumption)
      · exact hd0 p hp
end
end

section
open PySem PySem.Spec PySem.Calls PySem.W PyProof.Rows
section
theorem mp_mro : mroOf (.type "map") = pure [.type "map", .type "object"] := by rw [mroOf_type]; kernel_rfl
theorem mp_lnew : typeLookup (.type "map") "__new__" = pure (some (.builtin "map.__new__")) := by rw [typeLookup_type, builtinLookup_eq_fast]; kernel_rfl
theorem mp_slot_init : Slot "map" "__init__" "object.__init__" :=
  .of (owner := "object") (n := "__init__") (by rw [typeLookup_type, builtinLookup_eq_fast]; kernel_rfl) (by decide +kernel) (by decide +kernel) (by decide +kernel)
    (by first | exact .inl (by decide +kernel) | exact .inr (by decide +kernel)) (by rw [isSubtype_type]; kernel_rfl)
theorem mp_called : TypeCalled "map" "map.__new__" "object.__init__" :=
  ⟨by decide +kernel, by decide +kernel, ⟨_, _, mp_mro⟩, madeBy_type mp_mro mp_lnew (by decide +kernel), by decide +kernel, by rw [isSubtype_type]; kernel_rfl, mp_slot_init⟩
theorem mp_tcall (a b : Value) : checkTypeCall "map" ⟨[a, b], []⟩ = pure () := by kernel_rfl
theorem mp_ncall (a b : Value) : checkBuiltinCall "map.__new__" ⟨[.type "map", a, b], []⟩ = pure () := by kernel_rfl
theorem mp_entry_new : entryFor table "map.__new__" = some Builtin.«map.__new__» := entryFor_of_tree (by kernel_rfl)
theorem mp_entry_next : entryFor table "map.__next__" = some Builtin.«map.__next__» := entryFor_of_tree (by kernel_rfl)
theorem mp_plain_next : plainId "map.__next__" = true := by decide +kernel
theorem mp_slot_next : Slot "map" "__next__" "map.__next__" :=
  .of (owner := "map") (n := "__next__") (by rw [typeLookup_type, builtinLookup_eq_fast]; kernel_rfl) (by decide +kernel) (by decide +kernel) (by decide +kernel)
    (by first | exact .inl (by decide +kernel) | exact .inr (by decide +kernel)) (by rw [isSubtype_type]; kernel_rfl)
theorem mp_args_next (a : Value) : argsOk "map.__next__" ⟨[a], []⟩ := by unfold argsOk; kernel_rfl
theorem mp_slot_iter : Slot "map" "__iter__" "map.__iter__" :=
  .of (owner := "map") (n := "__iter__") (by rw [typeLookup_type, builtinLookup_eq_fast]; kernel_rfl) (by decide +kernel) (by decide +kernel) (by decide +kernel)
    (by first | exact .inl (by decide +kernel) | exact .inr (by decide +kernel)) (by rw [isSubtype_type]; kernel_rfl)
theorem mp_args_iter (a : Value) : argsOk "map.__iter__" ⟨[a], []⟩ := by unfold argsOk; kernel_rfl
theorem mp_entry_iter : entryFor table "map.__iter__" = some Builtin.«dict_keyiterator.__iter__» :=
  entryFor_alias (id' := "dict_keyiterator.__iter__") (by kernel_rfl) (by first | rfl | decide +kernel | (unfold String.splitOn; simp +decide [String.splitOnAux])) (by decide +kernel) (by kernel_rfl)
theorem mp_no_len : typeLookup (.type "map") "__len__" = pure none := by rw [typeLookup_type, builtinLookup_eq_fast]; kernel_rfl
theorem mp_no_hint : typeLookup (.type "map") "__length_hint__" = pure none := by rw [typeLookup_type, builtinLookup_eq_fast]; kernel_rfl
theorem mp_sub : isSubtype (.type "map") (.type "map") = pure true := by rw [isSubtype_type]; kernel_rfl
abbrev IsMap (h : Heap) (e tp it : Addr) : Prop := h.get? e = some { cls := .type "map", dict := none, data := .fields #[.ref tp, .type "str"], slots := #[] } ∧ h.get? tp = some { cls := .type "tuple", dict := none, data := .seq #[.ref it] 0, slots := #[] }
theorem meets_map_new (l : Addr) (items : Array Value) :
    Meets (Builtin.«map.__new__» ⟨[.type "map", .type "str", .ref l], []⟩) (fun _ R s => s.heap.IsList l items ∧
      R (.ok (.ret (.ref ((s.heap.push { cls := .type "list_iterator", data := .fields #[.ref l, .int 0 0] }).push { cls := .type "tuple", data := .seq #[.ref s.heap.objs.size] 0 }).objs.size)))
        { s with heap := ((s.heap.push { cls := .type "list_iterator", data := .fields #[.ref l, .int 0 0] }).push { cls := .type "tuple", data := .seq #[.ref s.heap.objs.size] 0 }).push { cls := .type "map", data := .fields #[.ref (s.heap.push { cls := .type "list_iterator", data := .fields #[.ref l, .int 0 0] }).objs.size, .type "str"] } }) :=
  .of_wp fun prog w A R s h => by
    obtain ⟨hp, g, d, tk, os⟩ := s; obtain ⟨hL, h⟩ := h
    have hsub := mp_sub
    unfold Builtin.«map.__new__»
    wp_walk using wpAny_pyIter_list hL
    exact ⟨_, rfl, h⟩
section
variable {prog : Program} {w : World} {A : Around} {E : Value → Shared → Prop} {s : Shared}
theorem call_map {l : Addr} {items : Array Value} {Q : Value → Shared → Prop} (hL : s.heap.IsList l items)
    (h : ∀ h', IsMap h' (s.heap.objs.size + 2) (s.heap.objs.size + 1) s.heap.objs.size → h'.IsListIter s.heap.objs.size l 0 → h'.objs.size = s.heap.objs.size + 3 →
      (∀ b o, s.heap.get? b = some o → h'.get? b = some o) → Q (.ref (s.heap.objs.size + 2)) { s with heap := h' }) :
    wpAny (model prog w) A (call (.type "map") [.type "str", .ref l]) Q E s := by
  refine callType_new mp_called (by decide) (mp_tcall _ _) (mp_ncall _ _) (fun obj => by unfold argsOk; kernel_rfl) mp_entry_new (meets_map_new l items) ⟨hL, ?_⟩
  have hz : (s.heap.push { cls := .type "list_iterator", data := .fields #[.ref l, .int 0 0] }).objs.size = s.heap.objs.size + 1 := Heap.size_push ..
  have hz2 : ((s.heap.push { cls := .type "list_iterator", data := .fields #[.ref l, .int 0 0] }).push { cls := .type "tuple", data := .seq #[.ref s.heap.objs.size] 0 }).objs.size = s.heap.objs.size + 2 := by rw [Heap.size_push, hz]
  show _ ∧ _
  rw [hz, hz2]
  obtain ⟨hA, eA⟩ : ∃ z, z = s.heap.push { cls := .type "list_iterator", data := .fields #[.ref l, .int 0 0] } := ⟨_, rfl⟩
  have gA : hA.get? s.heap.objs.size = some { cls := .type "list_iterator", data := .fields #[.ref l, .int 0 0] } := by rw [eA]; exact Heap.get?_push_size _ rfl
  have kA : ∀ b o, s.heap.get? b = some o → hA.get? b = some o := fun b o x => by rw [eA]; exact Heap.get?_push_of_some _ x
  rw [← eA] at hz hz2 ⊢
  obtain ⟨hB, eB⟩ : ∃ z, z = hA.push { cls := .type "tuple", data := .seq #[.ref s.heap.objs.size] 0 } := ⟨_, rfl⟩
  have gB : hB.get? (s.heap.objs.size + 1) = some { cls := .type "tuple", data := .seq #[.ref s.heap.objs.size] 0 } := by rw [eB, ← hz]; exact Heap.get?_push_size _ rfl
  have kB : ∀ b o, hA.get? b = some o → hB.get? b = some o := fun b o x => by rw [eB]; exact Heap.get?_push_of_some _ x
  rw [← eB] at hz2 ⊢
  obtain ⟨hC, eC⟩ : ∃ z, z = hB.push { cls := .type "map", data := .fields #[.ref (s.heap.objs.size + 1), .type "str"] } := ⟨_, rfl⟩
  have gC : hC.get? (s.heap.objs.size + 2) = some { cls := .type "map", data := .fields #[.ref (s.heap.objs.size + 1), .type "str"] } := by rw [eC, ← hz2]; exact Heap.get?_push_size _ rfl
  have kC : ∀ b o, hB.get? b = some o → hC.get? b = some o := fun b o x => by rw [eC]; exact Heap.get?_push_of_some _ x
  have zC : hC.objs.size = s.heap.objs.size + 3 := by rw [eC, Heap.size_push, hz2]
  rw [← eC]
  exact ⟨⟨_, gC, rfl⟩, h hC ⟨gC, kC _ _ gB⟩ ⟨_, kC _ _ (kB _ _ gA), rfl, rfl⟩ zC fun b o x => kC _ _ (kB _ _ (kA _ _ x))⟩
theorem iter_map {e tp it : Addr} {Q : Value → Shared → Prop} (he : IsMap s.heap e tp it) (h : Q (.ref e) s) : wpAny (model prog w) A (pyIter (.ref e)) Q E s := by
  have hT : s.TypeIs (.ref e) "map" := ⟨_, he.1, rfl⟩
  refine wpAny_pyIter_slot hT mp_slot_iter (wpAny_call_entry mp_slot_iter hT mp_entry_iter ?_ (mp_args_iter _))
  show wpAny _ _ (ret (.ref e)) _ _ s
  exact wpAny_pure ⟨_, rfl, "map", _, hT, mp_slot_next.lookup, h⟩
end
noncomputable def MapAt (e tp it l : Addr) (items : Array Value) (j : Nat) (h : Heap) : Prop := IsMap h e tp it ∧ h.IsListIter it l j ∧ h.IsList l items
section
variable {prog : Program} {w : World} {A : Around} {R : Result → Shared → Prop}
theorem mp_body {e tp it l : Addr} {items : Array Value} (hh : A.handled = none) (hs : AllStr items.toList) (h1 : e ≠ it) (h2 : tp ≠ it) (h4 : l ≠ it) {j : Nat} {s : Shared} (H : MapAt e tp it l items j s.heap)
    (hv : ∀ v h' tk, items[j]? = some v → MapAt e tp it l items (j + 1) h' → (∀ b o, b ≠ it → s.heap.get? b = some o → h'.get? b = some o) → R (.ok (.ret v)) { s with heap := h', toks := tk })
    (he : ∀ h' x tk, items[j]? = none → Heap.ExtBut it s.heap h' → (∃ o, h'.get? x = some o ∧ o.cls = .type "StopIteration") → R (.error (.ref x)) { s with heap := h', toks := tk }) :
    codeAny (model prog w) A (.builtin "map.__next__" ⟨[.ref e], []⟩) R s := by
  refine codeAny_builtin mp_entry_next ?_
  rw [Around.under_plainId mp_plain_next _]
  show wpAny _ _ (field (.ref e) 0 >>= _) _ _ s
  refine wpAny_bind (wpAny_field H.1.1 rfl (x := .ref tp) rfl ?_)
  show wpAny _ _ (seqItems? (.ref tp) >>= _) _ _ s
  refine wpAny_bind (wpAny_seqItems H.1.2 rfl ?_)
  dsimp only
  refine wpAny_bind ?_
  rw [← Array.forIn_toList]
  simp only [List.forIn_cons, List.forIn_nil]
  refine wpAny_bind ?_
  refine wpAny_bind (wpAny_holding ?_)
  unfold Builtin.SmallTypes.nextOf
  refine wpAny_bind ?_
  cases hj : items[j]? with
  | none =>
    refine fl_end (by simpa using hh) H.2.1 H.2.2 hj fun h' x hx hc => ?_
    exact he h' x _ hj hx hc
  | some v =>
    obtain ⟨tx, t, rfl⟩ := hs v (Array.mem_toList_iff.mpr (Array.mem_of_getElem? hj))
    refine fl_item H.2.1 H.2.2 hj fun h₁ hit₁ hs₁ => ?_
    have H₁ : MapAt e tp it l items (j + 1) h₁ := ⟨⟨hs₁.extBut _ _ h1 H.1.1, hs₁.extBut _ _ h2 H.1.2⟩, hit₁, H.2.2.at fun o x => hs₁.extBut _ _ h4 x⟩
    refine wpAny_pure (wpAny_pure ?_)
    refine wpAny_pure ?_
    refine wpAny_bind (wpAny_field H₁.1.1 rfl (x := .type "str") rfl ?_)
    refine wpAny_bind (wpAny_holding ?_)
    show wpAny _ _ (call (Value.type "str") [Value.str tx t]) _ _ _
    refine P.str_of_str ?_
    refine wpAny_bind (wpAny_letGo ?_)
    exact wpAny_pure (hv _ h₁ _ hj H₁ fun b o hb x => hs₁.extBut b o hb x)
end
section
variable {prog : Program} {w : World} {A : Around}
theorem walks_map {e tp it l : Addr} {items : Array Value} (hh : A.handled = none) (hs : AllStr items.toList) (h1 : e ≠ it) (h2 : tp ≠ it) (h4 : l ≠ it) :
    Walks prog w A e [e, tp, it, l] [it] items.size (fun i v => items[i]? = some v) (MapAt e tp it l items) where
  sub := fun b hb => by simp at hb; simp [hb]
  frame := fun i h h' H hk => ⟨⟨hk e (by simp) _ H.1.1, hk tp (by simp) _ H.1.2⟩, H.2.1.at fun o x => hk it (by simp) o x, H.2.2.at fun o x => hk l (by simp) o x⟩
  item := fun i s Q E hi H hQ => by
    have hT : s.TypeIs (.ref e) "map" := ⟨_, H.1.1, rfl⟩
    unfold pyNext
    refine wpAny_bind (wpAny_attempt (wpAny_callSpecial?_slot (name := Str.ofString "__next__") hT mp_slot_next
      (wpAny_call (codeAny_call_builtin_code (plainId_quiet mp_plain_next _) (mp_slot_next.check _ _ _ _ _ _ _ _ hT (mp_args_next _) (mp_body hh hs h1 h2 h4 H (fun v h' tk a d f => ?_) fun h' x tk a b c => ?_))))))
    · exact wpAny_pure (hQ v h' tk a d fun b o hb x => f b o (fun z => hb (by simp [z])) x)
    · exfalso
      rw [Array.getElem?_eq_getElem hi] at a
      exact nomatch a
  done := fun s Q E H hQ => by
    have hT : s.TypeIs (.ref e) "map" := ⟨_, H.1.1, rfl⟩
    unfold pyNext
    refine wpAny_bind (wpAny_attempt (wpAny_callSpecial?_slot (name := Str.ofString "__next__") hT mp_slot_next
      (wpAny_call (codeAny_call_builtin_code (plainId_quiet mp_plain_next _) (mp_slot_next.check _ _ _ _ _ _ _ _ hT (mp_args_next _) (mp_body hh hs h1 h2 h4 H (fun v h' tk a d f => ?_) fun h' x tk a b c => ?_))))))
    · exfalso
      simp at a
    · obtain ⟨o, ho, hc⟩ := c
      refine wpAny_bind (wpAny_isInstance (T := "StopIteration") (b := true) ⟨o, ho, hc⟩ isSubtype_stop ?_)
      exact wpAny_pure (hQ _ _ fun y o hy z => b y o (fun z => hy (by simp [z])) z)
  self := fun _ _ _ _ H hQ => iter_map H.1 hQ
end
section
variable {prog : Program} {w : World} {A : Around} {s : Shared} {R : Result → Shared → Prop}
variable {I : Addr} {fp wr : List Addr} {G : Array GenState → Array GenState → Prop} {St : Nat → Shared → Prop}
theorem mapSeq_at {h : Heap} {S : Addr} {arr arr' : Array Value} {c : Nat} (f : Array Value → Array Value) (hS : h.get? S = some { cls := .type "list", dict := none, data := .seq arr c, slots := #[] }) (e : f arr = arr') :
    ∃ c9, (h.update S (Obj.mapSeq f)).get? S = some { cls := .type "list", dict := none, data := .seq arr' c9, slots := #[] } := by
  have := Heap.get?_update_self (Obj.mapSeq f) hS rfl
  subst e
  exact ⟨_, this⟩
theorem ext_loop {items : List Value} (W : WalksS prog w A.in1 I fp wr G items.length (fun i v => items[i]? = some v) St) (pre : List Value) (hn : pre.length + items.length ≤ sizeLine) (S : Addr) (hSf : S ∉ fp) (res : Value) :
    ∀ (k i : Nat) (s : Shared) (c : Nat), items.length - i = k → i ≤ items.length → St i s → s.heap.get? S = some { cls := .type "list", dict := none, data := .seq (pre ++ items.take i).toArray c, slots := #[] } →
    (∀ s' c', Moved (S :: wr) G s s' → s'.heap.get? S = some { cls := .type "list", dict := none, data := .seq (pre ++ items).toArray c', slots := #[] } → R (.ok (.ret res)) s') →
    codeAny (model prog w) A (.builtin "list.extend.loop" ⟨[.ref S, .ref I, res], []⟩) R s := by
  have hSw : S ∉ wr := fun h => hSf (W.sub _ h)
  have hsub : ∀ b ∈ wr, b ∈ S :: wr := fun b hb => List.mem_cons_of_mem _ hb
  intro k
  induction k with
  | zero =>
    intro i s c hk hi hst hS hR
    have hin : i = items.length := by omega
    subst hin
    rw [List.take_length] at hS
    refine codeAny_builtin F.entry_extend_loop ?_
    rw [Around.under_plainId F.plain_extend_loop _]
    show wpAny _ A.in1 (pyNext (.ref I) >>= _) _ _ s
    refine wpAny_bind (W.done s _ _ hst fun s' hm => ?_)
    exact wpAny_pure (hR s' c (hm.mono hsub) (hm.heap S _ hSw hS))
  | succ k ih =>
    intro i s c hk hi hst hS hR
    have hlt : i < items.length := by omega
    refine codeAny_builtin F.entry_extend_loop ?_
    rw [Around.under_plainId F.plain_extend_loop _]
    show wpAny _ A.in1 (pyNext (.ref I) >>= _) _ _ s
    refine wpAny_bind (W.item i s _ _ hlt hst fun v s' hP hst' hm => ?_)
    have hS' := hm.heap S _ hSw hS
    have hz : (pre ++ items.take i).length ≤ sizeLine := by rw [List.length_append, List.length_take]; omega
    have hz2 : (pre ++ items.take i).length + 1 ≤ sizeLine + 1 := by omega
    have epush : (pre ++ items.take i).toArray.push v = (pre ++ items.take (i + 1)).toArray := by
      rw [List.take_add_one, hP, List.push_toArray]; simp
    show wpAny _ A.in1 (updateSeq S (·.push v) >>= _) _ _ _
    refine wpAny_bind ?_
    obtain ⟨c9, hg⟩ : ∃ c9, (s'.heap.update S (Obj.mapSeq (·.push v))).get? S = some { cls := .type "list", dict := none, data := .seq (pre ++ items.take (i + 1)).toArray c9, slots := #[] } := mapSeq_at _ hS' epush
    refine wpAny_updateSeq hS' rfl (wpAny_pure ⟨plainId_quiet F.plain_extend_loop _, ih (i + 1) _ _ (by omega) hlt (W.frame _ s' _ s'.toks hst' (Nat.le_refl _) fun b hb o e => ?_) hg fun s'' c' hm'' hS'' => ?_⟩)
      (by simpa using hz) (by rw [Array.size_push, List.size_toArray]; exact hz2)
    · exact (Heap.get?_update_other _ _ (fun h : S = b => hSf (by rw [h]; exact hb))).trans e
    · refine hR s'' c' (Moved.trans W.gtrans ((hm.mono hsub).then_heap (by first | exact Nat.le_refl _ | exact Nat.le_succ _ | omega) fun b o hb e => ?_) hm'') hS''
      exact (Heap.get?_update_other _ _ (fun h : S = b => hb (by rw [h]; exact List.mem_cons_self))).trans e
theorem extend_map {items : List Value} (W : WalksS prog w A.in1 I fp wr G items.length (fun i v => items[i]? = some v) St) (hT : ∀ i s, St i s → s.TypeIs (.ref I) "map") (S : Addr) (res : Value) (pre : List Value) (c₀ : Nat) (hst : St 0 s) (hSf : S ∉ fp) (hI : I ∈ fp)
    (hS : s.heap.get? S = some { cls := .type "list", dict := none, data := .seq pre.toArray c₀, slots := #[] }) (hn : pre.length + items.length < sizeLine)
    (hR : ∀ s' c', Moved (S :: wr) G s s' → s'.heap.get? S = some { cls := .type "list", dict := none, data := .seq (pre ++ items).toArray c', slots := #[] } → R (.ok (.ret res)) s') :
    wpAny (model prog w) A.in1 (Builtin.List.listExtendWith (.ref S) (.ref I) res)
      (fun fin s' => match fin with | .done f => R (.ok f) s' | .again c' => c'.quiet = true ∧ codeAny (model prog w) A c' R s') (fun e s' => R (.error e) s') s := by
  have hSI : S ≠ I := fun e => hSf (e ▸ hI)
  unfold Builtin.List.listExtendWith
  refine wpAny_bind (wpAny_typeOf (hT 0 _ hst) ?_)
  have h1 : Builtin.List.listSameRef (.ref S) (.ref I) = false := by simp [Builtin.List.listSameRef, hSI]
  have h2 : (Value.type "map" == Value.type "list") = false := by decide
  have h3 : (Value.type "map" == Value.type "tuple") = false := by decide
  simp only [h1, h2, h3, Bool.or_false, Bool.false_eq_true, if_false]
  refine wpAny_bind (W.self 0 _ _ _ hst ?_)
  refine wpAny_bind (wpAny_holding ?_)
  unfold Builtin.List.listLengthHint
  refine wpAny_bind (wpAny_specialOf (hT 0 _ hst) mp_no_len ?_)
  show wpAny _ A.in1 (specialOf (Value.ref I) (Str.ofString "__length_hint__") >>= _) _ _ _
  refine wpAny_bind (wpAny_specialOf (hT 0 _ hst) mp_no_hint ?_)
  refine wpAny_pure ?_
  show wpAny _ A.in1 (rule "list.extend.makes-room" >>= fun _ => Builtin.List.listTouch (.ref S) >>= fun _ =>
    again (.builtin "list.extend.loop" ⟨[.ref S, .ref I, res], []⟩)) _ _ _
  refine wpAny_bind (wpAny_rule ?_)
  refine wpAny_bind ?_
  show wpAny _ A.in1 (updateSeq S (·.push .none) >>= fun _ => updateSeq S (·.pop)) _ _ _
  refine wpAny_bind (wpAny_updateSeq hS rfl ?_ (by rw [List.size_toArray]; omega) (by rw [Array.size_push, List.size_toArray]; omega))
  obtain ⟨c2, hS₂⟩ := mapSeq_at (fun x => x.push Value.none) hS rfl
  refine wpAny_updateSeq hS₂ rfl ?_ (by rw [Array.size_push, List.size_toArray]; omega) (by rw [Array.size_pop, Array.size_push, List.size_toArray]; omega)
  obtain ⟨c3, hS₃⟩ := mapSeq_at (arr' := pre.toArray) (fun x => x.pop) hS₂ (by simp)
  have oth : ∀ b o, b ≠ S → s.heap.get? b = some o → ((s.heap.update S (Obj.mapSeq (·.push Value.none))).update S (Obj.mapSeq (·.pop))).get? b = some o :=
    fun b o hb e => (Heap.get?_update_other _ _ (Ne.symm hb)).trans ((Heap.get?_update_other _ _ (Ne.symm hb)).trans e)
  refine wpAny_pure ⟨plainId_quiet F.plain_extend_loop _, ext_loop W pre (Nat.le_of_lt hn) S hSf res _ 0 _ c3 rfl (Nat.zero_le _)
    (W.frame 0 s _ s.toks hst (Nat.le_refl _) fun b hb o e => oth b o (fun h => hSf (h ▸ hb)) e) (by rw [List.take_zero, List.append_nil]; exact hS₃) fun s' c' hm hS' => ?_⟩
  exact hR s' c' (Moved.trans W.gtrans ((Moved.refl W.grefl).then_heap (Nat.le_refl _) fun b o hb e => oth b o (fun h => hb (h ▸ List.mem_cons_self)) e) hm) hS'
end
section
variable {prog : Program} {w : World} {A : Around} {E : Value → Shared → Prop} {s : Shared} {h₀ : Heap} {L : Addr} {m : Str → Option Value} {news : List (Addr × Obj)}
theorem map_led {l : Addr} {c : Nat} {vs : List Value} {Q : Value → Shared → Prop} (F : Fr h₀ L s.heap m) (N : News h₀ L s.heap news) (hl : (l, W.listOf vs.toArray c) ∈ news)
    (h : ∀ e tp it h', MapAt e tp it l vs.toArray 0 h' → e ≠ it → tp ≠ it → l ≠ it → L ≠ it → h₀.get? it = none → (∀ p ∈ news, p.1 ≠ it ∧ p.1 ≠ e ∧ p.1 ≠ tp) → Fr h₀ L h' m → News h₀ L h' news → Q (.ref e) { s with heap := h' }) :
    wpAny (model prog w) A (call (.type "map") [.type "str", .ref l]) Q E s := by
  refine call_map (items := vs.toArray) ⟨_, (N _ hl).1, rfl, c, rfl⟩ fun h' he hit hz hk => ?_
  have lt : ∀ {a o}, (a, o) ∈ news → a < s.heap.objs.size := fun hm => Heap.lt_size (N _ hm).1
  have neL : ∀ {a b : Nat}, a < b → a ≠ b := fun h => Nat.ne_of_lt h
  refine h _ _ _ h' ⟨he, hit, ⟨_, hk _ _ (N _ hl).1, rfl, c, rfl⟩⟩ (Nat.ne_of_gt (Nat.lt_add_of_pos_right (by decide))) (Nat.ne_of_gt (Nat.lt_add_of_pos_right (by decide))) (neL (lt hl)) (neL (fr_lt F)) (fresh_none F (Nat.le_refl _)) (fun p hp => ?_) (F.keeps hk) (N.keepsAll hk)
  have := lt (show (p.1, p.2) ∈ news from hp)
  exact ⟨neL this, neL (Nat.lt_succ_of_lt (Nat.lt_succ_of_lt this)), neL (Nat.lt_succ_of_lt this)⟩
theorem extend_map_led {D e tp it l : Addr} {pre vs : List Value} {n : Nat} {Q : Value → Shared → Prop} (hh : A.handled = none) (F : Fr h₀ L s.heap m) (N : News h₀ L s.heap ((D, W.listOf pre.toArray n) :: news))
    (H : MapAt e tp it l vs.toArray 0 s.heap) (h1 : e ≠ it) (h2 : tp ≠ it) (h4 : l ≠ it) (h5 : L ≠ it) (h6 : h₀.get? it = none) (h7 : ∀ p ∈ (D, W.listOf pre.toArray n) :: news, p.1 ≠ it ∧ p.1 ≠ e ∧ p.1 ≠ tp) (hlD : l ≠ D) (hD : ∀ p ∈ news, p.1 ≠ D) (hs : AllStr vs) (hz : pre.length + vs.length < sizeLine)
    (h : ∀ c h' tk, Fr h₀ L h' m → News h₀ L h' ((D, W.listOf (pre ++ vs).toArray c) :: news) → Q .none { s with heap := h', toks := tk }) :
    wpAny (model prog w) A (call (.builtin "list.extend") [.ref D, .ref e]) Q E s := by
  have W := (walks_map (prog := prog) (w := w) (A := A.in1) (e := e) (tp := tp) (it := it) (l := l) (items := vs.toArray) (by simp [hh]) hs h1 h2 h4).toS
  have hD0 := N _ List.mem_cons_self
  have hd7 := h7 _ List.mem_cons_self
  have hT : s.TypeIs (.ref D) "list" := ⟨_, hD0.1, rfl⟩
  refine wpAny_call (codeAny_call_builtin PySem.F.slot_list_extend.plain PySem.F.entry_list_extend (PySem.F.slot_list_extend.check _ _ _ _ _ _ _ _ hT (PySem.F.args_list_extend_2 _ _) ?_))
  show wpAny _ A.in1 (Builtin.List.listExtendWith (.ref D) (.ref e) .none) _ _ s
  have eW : vs.toArray.size = vs.length := by simp
  rw [eW] at W
  simp only [List.getElem?_toArray] at W
  refine extend_map (R := wants Q E) W (fun i s H => ⟨_, H.1.1, rfl⟩) D .none pre n H ?_ List.mem_cons_self hD0.1 hz (fun s' c' hm hS' => ?_)
  · simp only [List.mem_cons, List.not_mem_nil, or_false, not_or]
    exact ⟨hd7.2.1, hd7.2.2, hd7.1, fun z => hlD z.symm⟩
  obtain ⟨h', g', d', tk', os'⟩ := s'
  have eg : g' = s.gens := hm.gens
  have ed : d' = s.drawn := hm.drawn
  have eo : os' = s.os := hm.os
  subst eg; subst ed; subst eo
  have hk : ∀ b o, b ≠ D → b ≠ it → s.heap.get? b = some o → h'.get? b = some o := fun b o hb hb2 x =>
    hm.heap b o (by simp only [List.mem_cons, List.not_mem_nil, or_false, not_or]; exact ⟨hb, hb2⟩) x
  have h0 : ∀ b o, h₀.get? b = some o → b ≠ it := fun b o x z => by rw [z, h6] at x; exact nomatch x
  have h0D : ∀ b o, h₀.get? b = some o → b ≠ D := fun b o x z => by rw [z, hD0.2.2] at x; exact nomatch x
  refine h c' h' tk' ⟨F.ns.at' fun o' x => hk L o' (fun z => hD0.2.1 z.symm) h5 x, fun b o' x => hk b o' (h0D b o' x) (h0 b o' x) (F.keep b o' x), F.above⟩ (fun p hp => ?_)
  rcases List.mem_cons.mp hp with rfl | hp
  · exact ⟨hS', hD0.2.1, hD0.2.2⟩
  · have z := N p (List.mem_cons_of_mem _ hp)
    exact ⟨hk _ _ (hD p hp) (h7 p (List.mem_cons_of_mem _ hp)).1 z.1, z.2.1, z.2.2⟩
end
end
end

section
local macro_rules | `(tactic| walk_at "mine pad") => `(tactic| skip)
open PySem PySem.W PyProof.Rows
section
noncomputable def ruleLines : List Str → List Str
  | [] => [Str.ofString "Allow:"]
  | r => r
noncomputable def strF (ag : List Str) (dl : Option Int) (ru : List Str) : Str := if ag = [] then Str.ofString "" else Txt.join (Str.ofString "\n") (textLines ag dl (ruleLines ru))
theorem strs_all' : ∀ {vs : List Value} {ws : List Str}, StrsAre vs ws → AllStr vs
  | _, _, .nil => fun _ h => nomatch h
  | _, _, .cons k t r => fun v hv => by
    rcases List.mem_cons.mp hv with rfl | hv
    · exact ⟨k, t, rfl⟩
    · exact strs_all' r v hv
theorem StrsAre.cons' {x y : Str} {t : Tok} {vs : List Value} {ws : List Str} (e : x = y) (h : StrsAre vs ws) : StrsAre (.str x t :: vs) (y :: ws) := e ▸ .cons _ _ h
theorem empty_app (a b : Str) : Str.empty ++ a ++ b = a ++ b := Str.ext' (by simp only [Str.cps_append]; simp [Str.empty])
theorem agent_line (y : Str) : Str.empty ++ Str.ofString "User-agent: " ++ y = agentLine y := empty_app _ _
theorem str_c {w : World} {p : Program} {loose : List Str} {mean : ExcName → Option Value} {mg mb : Str → Option Value} {news : List (Addr × Obj)} {ag ru : List Str} {dl : Option Int} {v : Value} (hb : RecIn w news v ag dl ru) (hna : ag.length ≤ 64) (hnb : ru.length ≤ 64) (hsz : ∀ x ∈ ag, x.length ≤ 64) (hsr : ∀ x ∈ ru, x.length ≤ 64) (hdb : ∀ n, dl = some n → 0 ≤ n ∧ n < 100) :
   Claim Challenge.rw_nb0157_02.row.prog w (Mine.hd.heap_39 w.params) p loose mean mg mb 42 4 32 news [v] (fun t => .str (strF ag dl ru) t) := by
  obtain ⟨x, d, l1, l2, t1, t2, t3, t4, va, vb, k1, k2, dv, rfl, m1, m2, m3, m4, hA, hR, hD⟩ := hb
  intro dp un gd cn cs ad ccd cl outer A₀ base h₀ L m s Q E hB hF hX hN hT hcs hdp hun hret
  have hla := hA.len_eq
  have hlb := hR.len_eq
  by_cases hag : ag = []
  · subst hag
    cases hA
    refine wpAny_call ?_
    k_dflt cell_enter
    (repeat' (first | (k_unfold; first | walk_at "Seq" | (try dsimp only)) | ((fail_if_success ((first | with_reducible show wpAny _ _ (call (Value.type "map") _) _ _ _ | with_reducible show wpAny _ _ (call (Value.builtin "list.append") _) _ _ _ | with_reducible show wpAny _ _ (call (Value.builtin "list.extend") _) _ _ _ | with_reducible show wpAny _ _ (exec (PySem.Stmt.While _ _ _ _) _) _ _ _ | with_reducible show wpAny _ _ (exec (PySem.Stmt.For _ _ _ _ _) _) _ _ _ | with_reducible show wpAny _ _ (pyIter _) _ _ _ | with_reducible show wpAny _ _ (call (Value.type "list") _) _ _ _ | with_reducible show wpAny _ _ (call (Value.builtin "str.join") _) _ _ _ | with_reducible show wpAny _ _ (eval (PySem.Expr.ListComp _ [PySem.Comprehension.mk (PySem.Expr.Tuple _ _ _) _ _ _] _ _) _) _ _ _ | with_reducible show LCg.CompSrc _ _ _ _ _ _ _ _ _ _ _ _ _ _ | with_reducible show wpAny _ _ (execs (PySem.Stmt.If (PySem.Expr.Compare _ [CmpOp.Lt] _ _) [PySem.Stmt.Assign [PySem.Expr.Tuple _ _ _] _ _] _ _ :: _) _) _ _ _))); first | (k_end; wrow_close) | walk1 | (dsimp only; walk1) | (leave1; walk_say "STEP leave1"; try dsimp only) | fail "no step")))
    refine wpAny_truthy_list (isl (by k_asm) m3) (by decide) ?_
    rw [if_pos (by rfl)]
    dsimp only
    (repeat' (first | (k_unfold; first | walk_at "Seq" | (try dsimp only)) | ((fail_if_success ((first | with_reducible show wpAny _ _ (call (Value.type "map") _) _ _ _ | with_reducible show wpAny _ _ (call (Value.builtin "list.append") _) _ _ _ | with_reducible show wpAny _ _ (call (Value.builtin "list.extend") _) _ _ _ | with_reducible show wpAny _ _ (exec (PySem.Stmt.While _ _ _ _) _) _ _ _ | with_reducible show wpAny _ _ (exec (PySem.Stmt.For _ _ _ _ _) _) _ _ _ | with_reducible show wpAny _ _ (pyIter _) _ _ _ | with_reducible show wpAny _ _ (call (Value.type "list") _) _ _ _ | with_reducible show wpAny _ _ (call (Value.builtin "str.join") _) _ _ _ | with_reducible show wpAny _ _ (eval (PySem.Expr.ListComp _ [PySem.Comprehension.mk (PySem.Expr.Tuple _ _ _) _ _ _] _ _) _) _ _ _ | with_reducible show LCg.CompSrc _ _ _ _ _ _ _ _ _ _ _ _ _ _ | with_reducible show wpAny _ _ (execs (PySem.Stmt.If (PySem.Expr.Compare _ [CmpOp.Lt] _ _) [PySem.Stmt.Assign [PySem.Expr.Tuple _ _ _] _ _] _ _ :: _) _) _ _ _))); first | (k_end; wrow_close) | walk1 | (dsimp only; walk1) | (leave1; walk_say "STEP leave1"; try dsimp only) | fail "no step")))
    exact cb_retS (Q := Q) (s := s) hret rfl (by k_asm) (by (first | k_asm | (refine' cb_drop ?n1 ?n2; (case n1 => assumption); (case n2 => kcj_all))))
  have hne : va ≠ [] := by rintro rfl; exact hag (List.length_eq_zero_iff.mp hla.symm)
  refine wpAny_call ?_
  k_dflt cell_enter
  (repeat' (first | (k_unfold; first | walk_at "Seq" | (try dsimp only)) | ((fail_if_success ((first | with_reducible show wpAny _ _ (call (Value.type "map") _) _ _ _ | with_reducible show wpAny _ _ (call (Value.builtin "list.append") _) _ _ _ | with_reducible show wpAny _ _ (call (Value.builtin "list.extend") _) _ _ _ | with_reducible show wpAny _ _ (exec (PySem.Stmt.While _ _ _ _) _) _ _ _ | with_reducible show wpAny _ _ (exec (PySem.Stmt.For _ _ _ _ _) _) _ _ _ | with_reducible show wpAny _ _ (pyIter _) _ _ _ | with_reducible show wpAny _ _ (call (Value.type "list") _) _ _ _ | with_reducible show wpAny _ _ (call (Value.builtin "str.join") _) _ _ _ | with_reducible show wpAny _ _ (eval (PySem.Expr.ListComp _ [PySem.Comprehension.mk (PySem.Expr.Tuple _ _ _) _ _ _] _ _) _) _ _ _ | with_reducible show LCg.CompSrc _ _ _ _ _ _ _ _ _ _ _ _ _ _ | with_reducible show wpAny _ _ (execs (PySem.Stmt.If (PySem.Expr.Compare _ [CmpOp.Lt] _ _) [PySem.Stmt.Assign [PySem.Expr.Tuple _ _ _] _ _] _ _ :: _) _) _ _ _))); first | (k_end; wrow_close) | walk1 | (dsimp only; walk1) | (leave1; walk_say "STEP leave1"; try dsimp only) | fail "no step")))
  refine wpAny_truthy_list (isl (by k_asm) m3) (by rw [List.size_toArray]; omega) ?_
  have hemp : va.toArray.isEmpty = false := by
    cases va with
    | nil => exact absurd rfl hne
    | cons _ _ => rfl
  rw [hemp, if_neg (by decide)]
  dsimp only
  (repeat' (first | (k_unfold; first | walk_at "Seq" | (try dsimp only)) | ((fail_if_success ((first | with_reducible show wpAny _ _ (call (Value.type "map") _) _ _ _ | with_reducible show wpAny _ _ (call (Value.builtin "list.append") _) _ _ _ | with_reducible show wpAny _ _ (call (Value.builtin "list.extend") _) _ _ _ | with_reducible show wpAny _ _ (exec (PySem.Stmt.While _ _ _ _) _) _ _ _ | with_reducible show wpAny _ _ (exec (PySem.Stmt.For _ _ _ _ _) _) _ _ _ | with_reducible show wpAny _ _ (pyIter _) _ _ _ | with_reducible show wpAny _ _ (call (Value.type "list") _) _ _ _ | with_reducible show wpAny _ _ (call (Value.builtin "str.join") _) _ _ _ | with_reducible show wpAny _ _ (eval (PySem.Expr.ListComp _ [PySem.Comprehension.mk (PySem.Expr.Tuple _ _ _) _ _ _] _ _) _) _ _ _ | with_reducible show LCg.CompSrc _ _ _ _ _ _ _ _ _ _ _ _ _ _ | with_reducible show wpAny _ _ (execs (PySem.Stmt.If (PySem.Expr.Compare _ [CmpOp.Lt] _ _) [PySem.Stmt.Assign [PySem.Expr.Tuple _ _ _] _ _] _ _ :: _) _) _ _ _))); first | (k_end; wrow_close) | walk1 | (dsimp only; walk1) | (leave1; walk_say "STEP leave1"; try dsimp only) | fail "no step")))
  refine name_head (show News _ _ _ ((_, W.listOf #[] 0) :: news) by k_asm) ?_
  intro D eD
  subst eD
  have hDn : ∀ p ∈ news, p.1 ≠ D := by k_all
  refine for_at (by k_asm) (by rfl) (by rfl) ?_
  (repeat' (first | (k_unfold; first | walk_at "Seq" | (try dsimp only)) | ((fail_if_success ((first | with_reducible show wpAny _ _ (call (Value.type "map") _) _ _ _ | with_reducible show wpAny _ _ (call (Value.builtin "list.append") _) _ _ _ | with_reducible show wpAny _ _ (call (Value.builtin "list.extend") _) _ _ _ | with_reducible show wpAny _ _ (exec (PySem.Stmt.While _ _ _ _) _) _ _ _ | with_reducible show wpAny _ _ (exec (PySem.Stmt.For _ _ _ _ _) _) _ _ _ | with_reducible show wpAny _ _ (pyIter _) _ _ _ | with_reducible show wpAny _ _ (call (Value.type "list") _) _ _ _ | with_reducible show wpAny _ _ (call (Value.builtin "str.join") _) _ _ _ | with_reducible show wpAny _ _ (eval (PySem.Expr.ListComp _ [PySem.Comprehension.mk (PySem.Expr.Tuple _ _ _) _ _ _] _ _) _) _ _ _ | with_reducible show LCg.CompSrc _ _ _ _ _ _ _ _ _ _ _ _ _ _ | with_reducible show wpAny _ _ (execs (PySem.Stmt.If (PySem.Expr.Compare _ [CmpOp.Lt] _ _) [PySem.Stmt.Assign [PySem.Expr.Tuple _ _ _] _ _] _ _ :: _) _) _ _ _))); first | (k_end; wrow_close) | walk1 | (dsimp only; walk1) | (leave1; walk_say "STEP leave1"; try dsimp only) | fail "no step")))
  refine iter_list_ps (vs := va) rfl (isl (show News _ _ _ ((D, W.listOf #[] 0) :: news) by k_asm) (List.mem_cons_of_mem _ m3)) ((show News _ _ _ ((D, W.listOf #[] 0) :: news) by k_asm) _ (List.mem_cons_of_mem _ m3)).2.1
    (fun c : List Value × Nat => [("self", .ref x), ("ret", .ref D)]) (fun c => [(D, W.listOf c.1.toArray c.2)])
    (fun i c => StrsAre c.1 ((ag.take i).map agentLine)) ([], 0) (fun _ => rfl) (fun h => hDn _ m3 (List.mem_singleton.mp h)) (by k_asm) (show News _ _ _ ((D, W.listOf #[] 0) :: news) by k_asm) (fun p hp h => hDn p hp (List.mem_singleton.mp h)) (by (((repeat (first | refine ps_cons rfl ?_ | refine ps_str (by assumption) rfl ?_ | refine ps_int (by omega) rfl ?_)); exact ps_nil))) .nil ?turn ?fin
  case turn =>
    rintro i v ⟨zs, n⟩ u2 h2 tk2 tl hi hv hJ hsub hap F2 N2
    dsimp only [kstB] at F2 hJ ⊢
    have N3 : News _ _ h2 ((D, W.listOf zs.toArray n) :: tl) := N2
    clear N2
    obtain ⟨y, t, rfl, hyi⟩ := hA.item i v hv
    have hys := hsz y (List.mem_of_getElem? hyi)
    have hzl := hJ.len_eq
    rw [List.length_map, List.length_take] at hzl
    k_sweep
    (repeat' (first | (k_unfold; first | walk_at "Seq" | (try dsimp only)) | ((fail_if_success ((first | with_reducible show wpAny _ _ (call (Value.type "map") _) _ _ _ | with_reducible show wpAny _ _ (call (Value.builtin "list.append") _) _ _ _ | with_reducible show wpAny _ _ (call (Value.builtin "list.extend") _) _ _ _ | with_reducible show wpAny _ _ (exec (PySem.Stmt.While _ _ _ _) _) _ _ _ | with_reducible show wpAny _ _ (exec (PySem.Stmt.For _ _ _ _ _) _) _ _ _ | with_reducible show wpAny _ _ (pyIter _) _ _ _ | with_reducible show wpAny _ _ (call (Value.type "list") _) _ _ _ | with_reducible show wpAny _ _ (call (Value.builtin "str.join") _) _ _ _ | with_reducible show wpAny _ _ (eval (PySem.Expr.ListComp _ [PySem.Comprehension.mk (PySem.Expr.Tuple _ _ _) _ _ _] _ _) _) _ _ _ | with_reducible show LCg.CompSrc _ _ _ _ _ _ _ _ _ _ _ _ _ _ | with_reducible show wpAny _ _ (execs (PySem.Stmt.If (PySem.Expr.Compare _ [CmpOp.Lt] _ _) [PySem.Stmt.Assign [PySem.Expr.Tuple _ _ _] _ _] _ _ :: _) _) _ _ _))); first | (k_end; wrow_close) | walk1 | (dsimp only; walk1) | (leave1; walk_say "STEP leave1"; try dsimp only) | fail "no step")))
    refine append_K (its := zs.toArray) (n := n) (D := D) (by k_asm) N3 (Upd.head fun p hp e => hap p hp (List.mem_singleton.mpr e)) ?_ (by show zs.length ≤ sizeLine; simp only [sizeLine_eq]; omega)
    intro h7 F7 N7
    k_sweep
    (repeat' (first | (k_unfold; first | walk_at "Seq" | (try dsimp only)) | ((fail_if_success ((first | with_reducible show wpAny _ _ (call (Value.type "map") _) _ _ _ | with_reducible show wpAny _ _ (call (Value.builtin "list.append") _) _ _ _ | with_reducible show wpAny _ _ (call (Value.builtin "list.extend") _) _ _ _ | with_reducible show wpAny _ _ (exec (PySem.Stmt.While _ _ _ _) _) _ _ _ | with_reducible show wpAny _ _ (exec (PySem.Stmt.For _ _ _ _ _) _) _ _ _ | with_reducible show wpAny _ _ (pyIter _) _ _ _ | with_reducible show wpAny _ _ (call (Value.type "list") _) _ _ _ | with_reducible show wpAny _ _ (call (Value.builtin "str.join") _) _ _ _ | with_reducible show wpAny _ _ (eval (PySem.Expr.ListComp _ [PySem.Comprehension.mk (PySem.Expr.Tuple _ _ _) _ _ _] _ _) _) _ _ _ | with_reducible show LCg.CompSrc _ _ _ _ _ _ _ _ _ _ _ _ _ _ | with_reducible show wpAny _ _ (execs (PySem.Stmt.If (PySem.Expr.Compare _ [CmpOp.Lt] _ _) [PySem.Stmt.Assign [PySem.Expr.Tuple _ _ _] _ _] _ _ :: _) _) _ _ _))); first | (k_end; wrow_close) | walk1 | (dsimp only; walk1) | (leave1; walk_say "STEP leave1"; try dsimp only) | fail "no step")))
    refine WEnd.intro (zs ++ [_], _) (by k_asm) N7 (fun p hp => led_push hp) (by (((repeat (first | refine ps_cons rfl ?_ | refine ps_str (by assumption) rfl ?_ | refine ps_int (by omega) rfl ?_)); exact ps_nil))) ?_ (by decide)
    rw [List.take_add_one, hyi, List.map_append]
    refine StrsAre.append' hJ (StrsAre.cons' (agent_line y) .nil)
  case fin =>
    rintro ⟨zs, n⟩ u2 h2 tk2 hJ F2 N2
    dsimp only [kstB] at F2 hJ ⊢
    have N3 : News _ _ h2 ((D, W.listOf zs.toArray n) :: news) := N2
    rw [hla, List.take_length] at hJ
    have hzl := hJ.len_eq
    rw [List.length_map] at hzl
    clear N2
    k_sweep
    refine Seq.next ?_
    refine stmt_ps (by k_asm) (fun c : List Value × Nat => [("self", .ref x), ("ret", .ref D)]) (fun c => (D, W.listOf c.1.toArray c.2) :: news) (fun c => StrsAre c.1 (ag.map agentLine ++ delLine dl)) ?s1 ?f1
    case s1 =>
      cases dl with
      | none =>
        cases hD
        (repeat' (first | (k_unfold; first | walk_at "Seq" | (try dsimp only)) | ((fail_if_success ((first | with_reducible show wpAny _ _ (call (Value.type "map") _) _ _ _ | with_reducible show wpAny _ _ (call (Value.builtin "list.append") _) _ _ _ | with_reducible show wpAny _ _ (call (Value.builtin "list.extend") _) _ _ _ | with_reducible show wpAny _ _ (exec (PySem.Stmt.While _ _ _ _) _) _ _ _ | with_reducible show wpAny _ _ (exec (PySem.Stmt.For _ _ _ _ _) _) _ _ _ | with_reducible show wpAny _ _ (pyIter _) _ _ _ | with_reducible show wpAny _ _ (call (Value.type "list") _) _ _ _ | with_reducible show wpAny _ _ (call (Value.builtin "str.join") _) _ _ _ | with_reducible show wpAny _ _ (eval (PySem.Expr.ListComp _ [PySem.Comprehension.mk (PySem.Expr.Tuple _ _ _) _ _ _] _ _) _) _ _ _ | with_reducible show LCg.CompSrc _ _ _ _ _ _ _ _ _ _ _ _ _ _ | with_reducible show wpAny _ _ (execs (PySem.Stmt.If (PySem.Expr.Compare _ [CmpOp.Lt] _ _) [PySem.Stmt.Assign [PySem.Expr.Tuple _ _ _] _ _] _ _ :: _) _) _ _ _))); first | (k_end; wrow_close) | walk1 | (dsimp only; walk1) | (leave1; walk_say "STEP leave1"; try dsimp only) | fail "no step")))
        exact WEnd.intro (zs, n) (by k_asm) N3 (fun p hp => hp) (by (((repeat (first | refine ps_cons rfl ?_ | refine ps_str (by assumption) rfl ?_ | refine ps_int (by omega) rfl ?_)); exact ps_nil))) (by simpa [delLine] using hJ) (by decide)
      | some k =>
        obtain ⟨td, rfl⟩ := hD
        obtain ⟨hn0, hn1⟩ := hdb k rfl
        (repeat' (first | (k_unfold; first | walk_at "Seq" | (try dsimp only)) | ((fail_if_success ((first | with_reducible show wpAny _ _ (call (Value.type "map") _) _ _ _ | with_reducible show wpAny _ _ (call (Value.builtin "list.append") _) _ _ _ | with_reducible show wpAny _ _ (call (Value.builtin "list.extend") _) _ _ _ | with_reducible show wpAny _ _ (exec (PySem.Stmt.While _ _ _ _) _) _ _ _ | with_reducible show wpAny _ _ (exec (PySem.Stmt.For _ _ _ _ _) _) _ _ _ | with_reducible show wpAny _ _ (pyIter _) _ _ _ | with_reducible show wpAny _ _ (call (Value.type "list") _) _ _ _ | with_reducible show wpAny _ _ (call (Value.builtin "str.join") _) _ _ _ | with_reducible show wpAny _ _ (eval (PySem.Expr.ListComp _ [PySem.Comprehension.mk (PySem.Expr.Tuple _ _ _) _ _ _] _ _) _) _ _ _ | with_reducible show LCg.CompSrc _ _ _ _ _ _ _ _ _ _ _ _ _ _ | with_reducible show wpAny _ _ (execs (PySem.Stmt.If (PySem.Expr.Compare _ [CmpOp.Lt] _ _) [PySem.Stmt.Assign [PySem.Expr.Tuple _ _ _] _ _] _ _ :: _) _) _ _ _))); first | (k_end; wrow_close) | walk1 | (dsimp only; walk1) | (leave1; walk_say "STEP leave1"; try dsimp only) | fail "no step")))
        refine append_K (its := zs.toArray) (n := n) (D := D) (by k_asm) N3 (Upd.head hDn) ?_ (by show zs.length ≤ sizeLine; simp only [sizeLine_eq]; omega)
        intro h7 F7 N7
        k_sweep
        (repeat' (first | (k_unfold; first | walk_at "Seq" | (try dsimp only)) | ((fail_if_success ((first | with_reducible show wpAny _ _ (call (Value.type "map") _) _ _ _ | with_reducible show wpAny _ _ (call (Value.builtin "list.append") _) _ _ _ | with_reducible show wpAny _ _ (call (Value.builtin "list.extend") _) _ _ _ | with_reducible show wpAny _ _ (exec (PySem.Stmt.While _ _ _ _) _) _ _ _ | with_reducible show wpAny _ _ (exec (PySem.Stmt.For _ _ _ _ _) _) _ _ _ | with_reducible show wpAny _ _ (pyIter _) _ _ _ | with_reducible show wpAny _ _ (call (Value.type "list") _) _ _ _ | with_reducible show wpAny _ _ (call (Value.builtin "str.join") _) _ _ _ | with_reducible show wpAny _ _ (eval (PySem.Expr.ListComp _ [PySem.Comprehension.mk (PySem.Expr.Tuple _ _ _) _ _ _] _ _) _) _ _ _ | with_reducible show LCg.CompSrc _ _ _ _ _ _ _ _ _ _ _ _ _ _ | with_reducible show wpAny _ _ (execs (PySem.Stmt.If (PySem.Expr.Compare _ [CmpOp.Lt] _ _) [PySem.Stmt.Assign [PySem.Expr.Tuple _ _ _] _ _] _ _ :: _) _) _ _ _))); first | (k_end; wrow_close) | walk1 | (dsimp only; walk1) | (leave1; walk_say "STEP leave1"; try dsimp only) | fail "no step")))
        refine WEnd.intro (zs ++ [_], _) (by k_asm) N7 (fun p hp => led_push hp) (by (((repeat (first | refine ps_cons rfl ?_ | refine ps_str (by assumption) rfl ?_ | refine ps_int (by omega) rfl ?_)); exact ps_nil))) ?_ (by decide)
        refine StrsAre.append' hJ (StrsAre.cons' ?_ .nil)
        exact empty_app _ _
    clear F2 N3 hJ hzl
    rintro ⟨zs, n⟩ u h tk hJ F N
    dsimp only [kstB] at F hJ N ⊢
    have hzl := hJ.len_eq
    have hdl : (delLine dl).length ≤ 1 := by cases dl <;> simp [delLine]
    rw [List.length_append, List.length_map] at hzl
    have hru : (ruleLines ru).length ≤ 64 ∧ ∀ x ∈ ruleLines ru, x.length ≤ 64 := by
      cases ru with
      | nil => exact ⟨by decide, fun x hx => by rw [List.mem_singleton.mp hx]; decide +kernel⟩
      | cons a r => exact ⟨hnb, hsr⟩
    have hfit := lines_fit hna hru.1 hsz hru.2 hdb
    have hst : strF ag dl ru = Txt.join (Str.ofString "\n") (textLines ag dl (ruleLines ru)) := if_neg hag
    rw [hst] at hret
    clear hst
    k_sweep
    (repeat' (first | (k_unfold; first | walk_at "Seq" | (try dsimp only)) | ((fail_if_success ((first | with_reducible show wpAny _ _ (call (Value.type "map") _) _ _ _ | with_reducible show wpAny _ _ (call (Value.builtin "list.append") _) _ _ _ | with_reducible show wpAny _ _ (call (Value.builtin "list.extend") _) _ _ _ | with_reducible show wpAny _ _ (exec (PySem.Stmt.While _ _ _ _) _) _ _ _ | with_reducible show wpAny _ _ (exec (PySem.Stmt.For _ _ _ _ _) _) _ _ _ | with_reducible show wpAny _ _ (pyIter _) _ _ _ | with_reducible show wpAny _ _ (call (Value.type "list") _) _ _ _ | with_reducible show wpAny _ _ (call (Value.builtin "str.join") _) _ _ _ | with_reducible show wpAny _ _ (eval (PySem.Expr.ListComp _ [PySem.Comprehension.mk (PySem.Expr.Tuple _ _ _) _ _ _] _ _) _) _ _ _ | with_reducible show LCg.CompSrc _ _ _ _ _ _ _ _ _ _ _ _ _ _ | with_reducible show wpAny _ _ (execs (PySem.Stmt.If (PySem.Expr.Compare _ [CmpOp.Lt] _ _) [PySem.Stmt.Assign [PySem.Expr.Tuple _ _ _] _ _] _ _ :: _) _) _ _ _))); first | (k_end; wrow_close) | walk1 | (dsimp only; walk1) | (leave1; walk_say "STEP leave1"; try dsimp only) | fail "no step")))
    refine wpAny_truthy_list (isl N (List.mem_cons_of_mem _ m4)) (by rw [List.size_toArray]; omega) ?_
    by_cases hr0 : ru = []
    · subst hr0
      cases hR
      rw [if_neg (by decide)]
      dsimp only
      (repeat' (first | (k_unfold; first | walk_at "Seq" | (try dsimp only)) | ((fail_if_success ((first | with_reducible show wpAny _ _ (call (Value.type "map") _) _ _ _ | with_reducible show wpAny _ _ (call (Value.builtin "list.append") _) _ _ _ | with_reducible show wpAny _ _ (call (Value.builtin "list.extend") _) _ _ _ | with_reducible show wpAny _ _ (exec (PySem.Stmt.While _ _ _ _) _) _ _ _ | with_reducible show wpAny _ _ (exec (PySem.Stmt.For _ _ _ _ _) _) _ _ _ | with_reducible show wpAny _ _ (pyIter _) _ _ _ | with_reducible show wpAny _ _ (call (Value.type "list") _) _ _ _ | with_reducible show wpAny _ _ (call (Value.builtin "str.join") _) _ _ _ | with_reducible show wpAny _ _ (eval (PySem.Expr.ListComp _ [PySem.Comprehension.mk (PySem.Expr.Tuple _ _ _) _ _ _] _ _) _) _ _ _ | with_reducible show LCg.CompSrc _ _ _ _ _ _ _ _ _ _ _ _ _ _ | with_reducible show wpAny _ _ (execs (PySem.Stmt.If (PySem.Expr.Compare _ [CmpOp.Lt] _ _) [PySem.Stmt.Assign [PySem.Expr.Tuple _ _ _] _ _] _ _ :: _) _) _ _ _))); first | (k_end; wrow_close) | walk1 | (dsimp only; walk1) | (leave1; walk_say "STEP leave1"; try dsimp only) | fail "no step")))
      refine append_K (its := zs.toArray) (n := n) (D := D) (by k_asm) (show News _ _ _ ((D, W.listOf zs.toArray n) :: news) by k_asm) (Upd.head hDn) ?_ (by show zs.length ≤ sizeLine; simp only [sizeLine_eq]; omega)
      intro h7 F7 N7
      k_sweep
      (repeat' (first | (k_unfold; first | walk_at "Seq" | (try dsimp only)) | ((fail_if_success ((first | with_reducible show wpAny _ _ (call (Value.type "map") _) _ _ _ | with_reducible show wpAny _ _ (call (Value.builtin "list.append") _) _ _ _ | with_reducible show wpAny _ _ (call (Value.builtin "list.extend") _) _ _ _ | with_reducible show wpAny _ _ (exec (PySem.Stmt.While _ _ _ _) _) _ _ _ | with_reducible show wpAny _ _ (exec (PySem.Stmt.For _ _ _ _ _) _) _ _ _ | with_reducible show wpAny _ _ (pyIter _) _ _ _ | with_reducible show wpAny _ _ (call (Value.type "list") _) _ _ _ | with_reducible show wpAny _ _ (call (Value.builtin "str.join") _) _ _ _ | with_reducible show wpAny _ _ (eval (PySem.Expr.ListComp _ [PySem.Comprehension.mk (PySem.Expr.Tuple _ _ _) _ _ _] _ _) _) _ _ _ | with_reducible show LCg.CompSrc _ _ _ _ _ _ _ _ _ _ _ _ _ _ | with_reducible show wpAny _ _ (execs (PySem.Stmt.If (PySem.Expr.Compare _ [CmpOp.Lt] _ _) [PySem.Stmt.Assign [PySem.Expr.Tuple _ _ _] _ _] _ _ :: _) _) _ _ _))); first | (k_end; wrow_close) | walk1 | (dsimp only; walk1) | (leave1; walk_say "STEP leave1"; try dsimp only) | fail "no step")))
      refine join_listC (ys := textLines ag dl (ruleLines [])) (isl N7 List.mem_cons_self) ?q1 (by decide) hfit ?_
      case q1 =>
        rw [Array.toList_push]
        exact StrsAre.append' hJ (.cons _ _ .nil)
      intro t' k'
      (repeat' (first | (k_unfold; first | walk_at "Seq" | (try dsimp only)) | ((fail_if_success ((first | with_reducible show wpAny _ _ (call (Value.type "map") _) _ _ _ | with_reducible show wpAny _ _ (call (Value.builtin "list.append") _) _ _ _ | with_reducible show wpAny _ _ (call (Value.builtin "list.extend") _) _ _ _ | with_reducible show wpAny _ _ (exec (PySem.Stmt.While _ _ _ _) _) _ _ _ | with_reducible show wpAny _ _ (exec (PySem.Stmt.For _ _ _ _ _) _) _ _ _ | with_reducible show wpAny _ _ (pyIter _) _ _ _ | with_reducible show wpAny _ _ (call (Value.type "list") _) _ _ _ | with_reducible show wpAny _ _ (call (Value.builtin "str.join") _) _ _ _ | with_reducible show wpAny _ _ (eval (PySem.Expr.ListComp _ [PySem.Comprehension.mk (PySem.Expr.Tuple _ _ _) _ _ _] _ _) _) _ _ _ | with_reducible show LCg.CompSrc _ _ _ _ _ _ _ _ _ _ _ _ _ _ | with_reducible show wpAny _ _ (execs (PySem.Stmt.If (PySem.Expr.Compare _ [CmpOp.Lt] _ _) [PySem.Stmt.Assign [PySem.Expr.Tuple _ _ _] _ _] _ _ :: _) _) _ _ _))); first | (k_end; wrow_close) | walk1 | (dsimp only; walk1) | (leave1; walk_say "STEP leave1"; try dsimp only) | fail "no step")))
      exact cb_retS (Q := Q) (s := s) hret rfl (by k_asm) (by (first | k_asm | (refine' cb_drop ?n1 ?n2; (case n1 => assumption); (case n2 => kcj_all))))
    · have hbne : vb.toArray.isEmpty = false := by
        cases hR with
        | nil => exact absurd rfl hr0
        | cons _ _ _ => rfl
      have hrl : ruleLines ru = ru := by
        cases ru with
        | nil => exact absurd rfl hr0
        | cons _ _ => rfl
      rw [hrl] at hfit hret
      rw [hbne, if_pos (by decide)]
      dsimp only
      (repeat' (first | (k_unfold; first | walk_at "Seq" | (try dsimp only)) | ((fail_if_success ((first | with_reducible show wpAny _ _ (call (Value.type "map") _) _ _ _ | with_reducible show wpAny _ _ (call (Value.builtin "list.append") _) _ _ _ | with_reducible show wpAny _ _ (call (Value.builtin "list.extend") _) _ _ _ | with_reducible show wpAny _ _ (exec (PySem.Stmt.While _ _ _ _) _) _ _ _ | with_reducible show wpAny _ _ (exec (PySem.Stmt.For _ _ _ _ _) _) _ _ _ | with_reducible show wpAny _ _ (pyIter _) _ _ _ | with_reducible show wpAny _ _ (call (Value.type "list") _) _ _ _ | with_reducible show wpAny _ _ (call (Value.builtin "str.join") _) _ _ _ | with_reducible show wpAny _ _ (eval (PySem.Expr.ListComp _ [PySem.Comprehension.mk (PySem.Expr.Tuple _ _ _) _ _ _] _ _) _) _ _ _ | with_reducible show LCg.CompSrc _ _ _ _ _ _ _ _ _ _ _ _ _ _ | with_reducible show wpAny _ _ (execs (PySem.Stmt.If (PySem.Expr.Compare _ [CmpOp.Lt] _ _) [PySem.Stmt.Assign [PySem.Expr.Tuple _ _ _] _ _] _ _ :: _) _) _ _ _))); first | (k_end; wrow_close) | walk1 | (dsimp only; walk1) | (leave1; walk_say "STEP leave1"; try dsimp only) | fail "no step")))
      refine map_led (vs := vb) (by k_asm) (show News _ _ _ ((D, W.listOf zs.toArray n) :: news) by k_asm) (List.mem_cons_of_mem _ m4) ?_
      intro e tp it h5 H e1 e2 e3 e4 e5 e6 F5 N5
      k_sweep
      (repeat' (first | (k_unfold; first | walk_at "Seq" | (try dsimp only)) | ((fail_if_success ((first | with_reducible show wpAny _ _ (call (Value.type "map") _) _ _ _ | with_reducible show wpAny _ _ (call (Value.builtin "list.append") _) _ _ _ | with_reducible show wpAny _ _ (call (Value.builtin "list.extend") _) _ _ _ | with_reducible show wpAny _ _ (exec (PySem.Stmt.While _ _ _ _) _) _ _ _ | with_reducible show wpAny _ _ (exec (PySem.Stmt.For _ _ _ _ _) _) _ _ _ | with_reducible show wpAny _ _ (pyIter _) _ _ _ | with_reducible show wpAny _ _ (call (Value.type "list") _) _ _ _ | with_reducible show wpAny _ _ (call (Value.builtin "str.join") _) _ _ _ | with_reducible show wpAny _ _ (eval (PySem.Expr.ListComp _ [PySem.Comprehension.mk (PySem.Expr.Tuple _ _ _) _ _ _] _ _) _) _ _ _ | with_reducible show LCg.CompSrc _ _ _ _ _ _ _ _ _ _ _ _ _ _ | with_reducible show wpAny _ _ (execs (PySem.Stmt.If (PySem.Expr.Compare _ [CmpOp.Lt] _ _) [PySem.Stmt.Assign [PySem.Expr.Tuple _ _ _] _ _] _ _ :: _) _) _ _ _))); first | (k_end; wrow_close) | walk1 | (dsimp only; walk1) | (leave1; walk_say "STEP leave1"; try dsimp only) | fail "no step")))
      refine extend_map_led (pre := zs) (n := n) rfl F5 N5 H e1 e2 e3 e4 e5 e6 (hDn _ m4) hDn (strs_all' hR) (by simp only [sizeLine_eq]; omega) ?_
      clear H e1 e2 e3 e4 e5 e6
      intro c7 h7 tk7 F7 N7
      k_sweep
      (repeat' (first | (k_unfold; first | walk_at "Seq" | (try dsimp only)) | ((fail_if_success ((first | with_reducible show wpAny _ _ (call (Value.type "map") _) _ _ _ | with_reducible show wpAny _ _ (call (Value.builtin "list.append") _) _ _ _ | with_reducible show wpAny _ _ (call (Value.builtin "list.extend") _) _ _ _ | with_reducible show wpAny _ _ (exec (PySem.Stmt.While _ _ _ _) _) _ _ _ | with_reducible show wpAny _ _ (exec (PySem.Stmt.For _ _ _ _ _) _) _ _ _ | with_reducible show wpAny _ _ (pyIter _) _ _ _ | with_reducible show wpAny _ _ (call (Value.type "list") _) _ _ _ | with_reducible show wpAny _ _ (call (Value.builtin "str.join") _) _ _ _ | with_reducible show wpAny _ _ (eval (PySem.Expr.ListComp _ [PySem.Comprehension.mk (PySem.Expr.Tuple _ _ _) _ _ _] _ _) _) _ _ _ | with_reducible show LCg.CompSrc _ _ _ _ _ _ _ _ _ _ _ _ _ _ | with_reducible show wpAny _ _ (execs (PySem.Stmt.If (PySem.Expr.Compare _ [CmpOp.Lt] _ _) [PySem.Stmt.Assign [PySem.Expr.Tuple _ _ _] _ _] _ _ :: _) _) _ _ _))); first | (k_end; wrow_close) | walk1 | (dsimp only; walk1) | (leave1; walk_say "STEP leave1"; try dsimp only) | fail "no step")))
      refine join_listC (items := (zs ++ vb).toArray) (ys := textLines ag dl ru) (isl N7 List.mem_cons_self) (StrsAre.append' hJ hR) (by decide) hfit ?_
      intro t' k'
      (repeat' (first | (k_unfold; first | walk_at "Seq" | (try dsimp only)) | ((fail_if_success ((first | with_reducible show wpAny _ _ (call (Value.type "map") _) _ _ _ | with_reducible show wpAny _ _ (call (Value.builtin "list.append") _) _ _ _ | with_reducible show wpAny _ _ (call (Value.builtin "list.extend") _) _ _ _ | with_reducible show wpAny _ _ (exec (PySem.Stmt.While _ _ _ _) _) _ _ _ | with_reducible show wpAny _ _ (exec (PySem.Stmt.For _ _ _ _ _) _) _ _ _ | with_reducible show wpAny _ _ (pyIter _) _ _ _ | with_reducible show wpAny _ _ (call (Value.type "list") _) _ _ _ | with_reducible show wpAny _ _ (call (Value.builtin "str.join") _) _ _ _ | with_reducible show wpAny _ _ (eval (PySem.Expr.ListComp _ [PySem.Comprehension.mk (PySem.Expr.Tuple _ _ _) _ _ _] _ _) _) _ _ _ | with_reducible show LCg.CompSrc _ _ _ _ _ _ _ _ _ _ _ _ _ _ | with_reducible show wpAny _ _ (execs (PySem.Stmt.If (PySem.Expr.Compare _ [CmpOp.Lt] _ _) [PySem.Stmt.Assign [PySem.Expr.Tuple _ _ _] _ _] _ _ :: _) _) _ _ _))); first | (k_end; wrow_close) | walk1 | (dsimp only; walk1) | (leave1; walk_say "STEP leave1"; try dsimp only) | fail "no step")))
      exact cb_retS (Q := Q) (s := s) hret rfl (by k_asm) (by (first | k_asm | (refine' cb_drop ?n1 ?n2; (case n1 => assumption); (case n2 => kcj_all))))
end
end

section
open PySem PySem.W PyProof.Rows
section
noncomputable def ringL : List Str := ["a", "*", "bc", "d", "a", "*"].map Str.ofString
noncomputable def cntF (x : Int) : Nat := (1 + x.fmod 3).toNat
noncomputable def turnF (x : Int) : Nat := ((x.fdiv 3).fmod 4).toNat
noncomputable def agF (x : Int) : List Str := (ringL.drop (turnF x)).take (cntF x)
noncomputable def dlF (x : Int) : Option Int := if (x.fdiv 12).fmod 2 = 1 then some ((x.fdiv 24).fmod 100) else none
noncomputable def lowF (x : Int) : Nat := ((x.fdiv 2400).fmod (cntF x + 1)).toNat
noncomputable def highF (x : Int) : Nat := lowF x + (((x.fdiv 2400).fdiv 4).fmod (cntF x + 1 - lowF x)).toNat
noncomputable def HeadIn (nw : List (Addr × Obj)) (v : Value) (x : Int) : Prop :=
  ∃ (a l : Addr) (dv : Value) (t1 t2 : Tok) (lo hi : Int) (n k : Nat) (vs : List Value), v = .ref a ∧ lo = (lowF x : Int) ∧ hi = (highF x : Int) ∧ (a, { cls := .type "tuple", data := .seq #[.ref l, dv, .int lo t1, .int hi t2] n }) ∈ nw ∧ (l, W.listOf vs.toArray k) ∈ nw ∧ StrsAre vs (agF x) ∧ DelIs dv (dlF x)
theorem cnt_eq (x : Int) : ((cntF x : Nat) : Int) = 1 + x.fmod 3 ∧ 1 ≤ cntF x ∧ cntF x ≤ 3 := by
  have h1 := Int.fmod_nonneg_of_pos x (show (0 : Int) < 3 by decide)
  have h2 := Int.fmod_lt_of_pos x (show (0 : Int) < 3 by decide)
  unfold cntF
  omega
theorem turn_eq (x : Int) : ((turnF x : Nat) : Int) = (x.fdiv 3).fmod 4 ∧ turnF x ≤ 3 := by
  have h1 := Int.fmod_nonneg_of_pos (x.fdiv 3) (show (0 : Int) < 4 by decide)
  have h2 := Int.fmod_lt_of_pos (x.fdiv 3) (show (0 : Int) < 4 by decide)
  unfold turnF
  omega
theorem low_eq (x : Int) : ((lowF x : Nat) : Int) = (x.fdiv 2400).fmod (cntF x + 1) ∧ lowF x ≤ cntF x := by
  have h0 : (0 : Int) < (cntF x : Int) + 1 := by omega
  have h1 := Int.fmod_nonneg_of_pos (x.fdiv 2400) h0
  have h2 := Int.fmod_lt_of_pos (x.fdiv 2400) h0
  unfold lowF
  omega
theorem high_eq (x : Int) : ((highF x : Nat) : Int) = lowF x + ((x.fdiv 2400).fdiv 4).fmod (cntF x + 1 - lowF x) ∧ lowF x ≤ highF x ∧ highF x ≤ cntF x := by
  have hl := (low_eq x).2
  have h0 : (0 : Int) < (cntF x : Int) + 1 - lowF x := by omega
  have h1 := Int.fmod_nonneg_of_pos ((x.fdiv 2400).fdiv 4) h0
  have h2 := Int.fmod_lt_of_pos ((x.fdiv 2400).fdiv 4) h0
  unfold highF
  omega
theorem slicePick_mid (items : Array Value) (a b : Nat) : slicePick items (some (a : Int)) (some (b : Int)) none = ((items.toList.drop a).take (b - a)).toArray := by
  rw [slicePick_plain]
  simp only [Option.elim, clipAt_nat]
  congr 1
  rcases Nat.le_total a items.size with h | h
  · rw [Nat.min_eq_left h]
    rcases Nat.le_total b items.size with h2 | h2
    · rw [Nat.min_eq_left h2]
    · rw [Nat.min_eq_right h2, List.take_of_length_le (by simp), List.take_of_length_le (by simp; omega)]
  · rw [Nat.min_eq_right h, List.drop_of_length_le (by simp), List.drop_of_length_le (by simpa using h)]; simp
section
variable {prog : Program} {w : World} {A : Around} {E : Value → Shared → Prop} {s : Shared} {h₀ : Heap} {L l : Addr} {m : Str → Option Value} {news : List (Addr × Obj)} {value slice : PySem.Expr} {vs : List Value} {t u : Tok} {e a b : Nat} {ai bi : Int} {Q : Value → Shared → Prop}
theorem slice_mid (F : Fr h₀ L s.heap m) (N : News h₀ L s.heap news) (hm : (l, W.listOf vs.toArray e) ∈ news) (hz : vs.length ≤ sizeLine) (ha : ai = (a : Int)) (hb : bi = (b : Int))
    (h : ∀ D h', Fr h₀ L h' m → News h₀ L h' ((D, W.listOf ((vs.drop a).take (b - a)).toArray 0) :: news) → (∀ p ∈ news, p.1 < D) → Q (.ref D) { s with heap := h' })
    (hs : subscripted slice false (.ref l) (.ref s.heap.objs.size) = operate [.ref s.heap.objs.size, .ref l] (getItem (.ref l) (.ref s.heap.objs.size)) := by with_unfolding_all rfl) (ht : ∀ r, letTemporaryGo value (.ref l) r = pure () := by intro _; with_unfolding_all rfl) :
    wpAny (model prog w) A (subscriptTail value slice (.ref l) (.ref s.heap.objs.size)) Q E { s with heap := s.heap.push { cls := .type "slice", data := .fields #[.int ai t, .int bi u, .none] } } := by
  subst ha hb
  exact kmk_slice_lit F N ⟨_, (N _ hm).1, rfl, _, rfl⟩ (.int _ _) (.int _ _) (by rw [slicePick_mid]) h hs ht (by simpa using hz)
end
theorem StrsAre.take'' : ∀ {vs : List Value} {ws : List Str} (n : Nat), StrsAre vs ws → StrsAre (vs.take n) (ws.take n)
  | _, _, 0, _ => .nil
  | _, _, _ + 1, .nil => .nil
  | _, _, n + 1, .cons _ _ r => .cons _ _ (StrsAre.take'' n r)
theorem StrsAre.drop'' : ∀ {vs : List Value} {ws : List Str} (n : Nat), StrsAre vs ws → StrsAre (vs.drop n) (ws.drop n)
  | _, _, 0, r => r
  | _, _, _ + 1, .nil => .nil
  | _, _, n + 1, .cons _ _ r => StrsAre.drop'' n r
theorem head_c {w : World} {p : Program} {loose : List Str} {mean : ExcName → Option Value} {mg mb : Str → Option Value} {news : List (Addr × Obj)} {x : Int} {tx : Tok} :
   ClaimD Challenge.rw_nb0157_02.row.prog w (Mine.hd.heap_39 w.params) p loose mean mg mb 103 4 32 news [.int x tx] (fun v nw => HeadIn nw v x) := by
  intro dp un gd cn cs ad ccd cl outer A₀ base h₀ L m s Q E hB hF hX hN hT hcs hdp hun hret
  refine wpAny_call ?_
  k_dflt cell_enter
  obtain ⟨c, hc⟩ : ∃ c, c = cntF x := ⟨_, rfl⟩
  obtain ⟨u, hu⟩ : ∃ u, u = turnF x := ⟨_, rfl⟩
  have c1 := cnt_eq x
  have u1 := turn_eq x
  rw [← hc] at c1
  rw [← hu] at u1
  refine stmt_ps (by k_asm) (fun e : Addr × List Value × Tok × Tok => [("ring", .ref e.1), ("count", .int (c : Int) e.2.2.1), ("turn", .int (u : Int) e.2.2.2), ("x", .int x tx)]) (fun e => (e.1, W.listOf e.2.1.toArray 0) :: news) (fun e => StrsAre e.2.1 ringL ∧ ∀ p ∈ news, p.1 < e.1) ?s1 ?f1
  case s1 =>
    (repeat' (first | (k_unfold; first | walk_at "Seq" | (try dsimp only)) | ((fail_if_success ((first | with_reducible show wpAny _ _ (subscriptTail _ (PySem.Expr.Slice _ _ _ _) _ _) _ _ _ | with_reducible show wpAny _ _ (exec (PySem.Stmt.While _ _ _ _) _) _ _ _ | with_reducible show wpAny _ _ (exec (PySem.Stmt.For _ _ _ _ _) _) _ _ _ | with_reducible show wpAny _ _ (pyIter _) _ _ _ | with_reducible show wpAny _ _ (call (Value.type "list") _) _ _ _ | with_reducible show wpAny _ _ (call (Value.builtin "str.join") _) _ _ _ | with_reducible show wpAny _ _ (eval (PySem.Expr.ListComp _ [PySem.Comprehension.mk (PySem.Expr.Tuple _ _ _) _ _ _] _ _) _) _ _ _ | with_reducible show LCg.CompSrc _ _ _ _ _ _ _ _ _ _ _ _ _ _ | with_reducible show wpAny _ _ (execs (PySem.Stmt.If (PySem.Expr.Compare _ [CmpOp.Lt] _ _) [PySem.Stmt.Assign [PySem.Expr.Tuple _ _ _] _ _] _ _ :: _) _) _ _ _))); first | (k_end; wrow_close) | walk1 | (dsimp only; walk1) | (leave1; walk_say "STEP leave1"; try dsimp only) | fail "no step")))
    refine WEnd.intro (_, [_, _, _, _, _, _], _, _) (by k_asm) (show News _ _ _ ((_, _) :: (_, W.listOf _ _) :: news) by k_asm) (fun p hp => List.mem_cons_of_mem _ hp) (by (((repeat (first | refine ps_cons rfl ?_ | refine ps_str (by assumption) rfl ?_ | refine ps_int (by omega) rfl ?_)); exact ps_nil))) ⟨?_, ?_⟩ (by decide)
    · exact .cons _ _ (.cons _ _ (.cons _ _ (.cons _ _ (.cons _ _ (.cons _ _ .nil)))))
    · assumption
  rintro ⟨l, rv, tc, tu⟩ u2 h2 tk2 ⟨hrv, hlt⟩ F2 N2
  dsimp only [kstB] at F2 N2 hrv hlt ⊢
  have lo1 := low_eq x
  have hi1 := high_eq x
  rw [← hc] at lo1 hi1
  obtain ⟨lo, hlo⟩ : ∃ c, c = lowF x := ⟨_, rfl⟩
  obtain ⟨hi, hhi⟩ : ∃ c, c = highF x := ⟨_, rfl⟩
  rw [← hlo] at lo1 hi1
  rw [← hhi] at hi1
  have hrl := hrv.len_eq
  have hr6 : ringL.length = 6 := by decide
  k_sweep
  (repeat' (first | (k_unfold; first | walk_at "Seq" | (try dsimp only)) | ((fail_if_success ((first | with_reducible show wpAny _ _ (subscriptTail _ (PySem.Expr.Slice _ _ _ _) _ _) _ _ _ | with_reducible show wpAny _ _ (exec (PySem.Stmt.While _ _ _ _) _) _ _ _ | with_reducible show wpAny _ _ (exec (PySem.Stmt.For _ _ _ _ _) _) _ _ _ | with_reducible show wpAny _ _ (pyIter _) _ _ _ | with_reducible show wpAny _ _ (call (Value.type "list") _) _ _ _ | with_reducible show wpAny _ _ (call (Value.builtin "str.join") _) _ _ _ | with_reducible show wpAny _ _ (eval (PySem.Expr.ListComp _ [PySem.Comprehension.mk (PySem.Expr.Tuple _ _ _) _ _ _] _ _) _) _ _ _ | with_reducible show LCg.CompSrc _ _ _ _ _ _ _ _ _ _ _ _ _ _ | with_reducible show wpAny _ _ (execs (PySem.Stmt.If (PySem.Expr.Compare _ [CmpOp.Lt] _ _) [PySem.Stmt.Assign [PySem.Expr.Tuple _ _ _] _ _] _ _ :: _) _) _ _ _))); first | (k_end; wrow_close) | walk1 | (dsimp only; walk1) | (leave1; walk_say "STEP leave1"; try dsimp only) | fail "no step")))
  refine slice_mid (s := ⟨_, _, _, _, _⟩) (vs := rv) (a := u) (b := u + c) (by k_asm) (show News _ _ _ ((l, W.listOf rv.toArray 0) :: news) by k_asm) List.mem_cons_self (by rw [sizeLine_eq]; omega) rfl (by omega) ?_
  intro D9 h9 F9 N9 l9
  k_sweep
  (repeat' (first | (k_unfold; first | walk_at "Seq" | (try dsimp only)) | ((fail_if_success ((first | with_reducible show wpAny _ _ (subscriptTail _ (PySem.Expr.Slice _ _ _ _) _ _) _ _ _ | with_reducible show wpAny _ _ (exec (PySem.Stmt.While _ _ _ _) _) _ _ _ | with_reducible show wpAny _ _ (exec (PySem.Stmt.For _ _ _ _ _) _) _ _ _ | with_reducible show wpAny _ _ (pyIter _) _ _ _ | with_reducible show wpAny _ _ (call (Value.type "list") _) _ _ _ | with_reducible show wpAny _ _ (call (Value.builtin "str.join") _) _ _ _ | with_reducible show wpAny _ _ (eval (PySem.Expr.ListComp _ [PySem.Comprehension.mk (PySem.Expr.Tuple _ _ _) _ _ _] _ _) _) _ _ _ | with_reducible show LCg.CompSrc _ _ _ _ _ _ _ _ _ _ _ _ _ _ | with_reducible show wpAny _ _ (execs (PySem.Stmt.If (PySem.Expr.Compare _ [CmpOp.Lt] _ _) [PySem.Stmt.Assign [PySem.Expr.Tuple _ _ _] _ _] _ _ :: _) _) _ _ _))); first | (k_end; wrow_close) | walk1 | (dsimp only; walk1) | (leave1; walk_say "STEP leave1"; try dsimp only) | fail "no step")))
  all_goals
    rename (_ ∧ _ ∧ AllLt _ news) => q1
    refine hret (.ref _) [_, _, _] _ _ ⟨_, D9, _, _, _, _, _, _, _, (rv.drop u).take (u + c - u), rfl, ?a1, ?a2, List.mem_cons_self, List.mem_cons_of_mem _ List.mem_cons_self, ?a3, ?a4⟩ (by k_asm) (by k_asm) ?ne
    case a1 => rw [← hlo]; exact lo1.1.symm
    case a2 => rw [← hhi, hi1.1, lo1.1]
    case a3 =>
      have e : u + c - u = c := by omega
      rw [e]
      unfold agF
      rw [← hc, ← hu]
      exact StrsAre.take'' c (StrsAre.drop'' u hrv)
    case a4 =>
      unfold dlF
      first
        | (rw [if_pos (by assumption)]; exact ⟨_, rfl⟩)
        | (rw [if_neg (by assumption)]; exact rfl)
    case ne =>
      intro p hp q hq
      simp only [List.mem_cons, List.not_mem_nil, or_false] at hq
      refine Nat.ne_of_lt ?_
      have z := hlt p hp
      rcases hq with rfl | rfl | rfl
      · exact Nat.lt_trans z q1.2.1
      · exact Nat.lt_trans z (l9 _ List.mem_cons_self)
      · exact z
end
end

section
open PySem PySem.W PyProof.Rows
section
noncomputable def NEnd {σ : Type} (h₀ : Heap) (L : Addr) (s : Shared) (ps : σ → List (Str × Value)) (keep : List (Addr × Obj)) (I : Addr) (oI : Obj) (J : σ → List (Addr × Obj) → Prop) (s₂ : Shared) : Prop :=
  ∃ (c' : σ) (h' : Heap) (tk : Nat) (m' : Str → Option Value) (led nw' : List (Addr × Obj)), s₂ = { s with heap := h', toks := tk } ∧ Fr h₀ L h' m' ∧ News h₀ L h' led ∧ (I, oI) ∈ led ∧ (∀ p ∈ nw', p ∈ led) ∧ (∀ p ∈ nw', p.1 ≠ I) ∧ (∀ q ∈ keep, q ∈ nw') ∧ PsIn m' (ps c') ∧ J c' nw'
noncomputable def NPost {σ : Type} (h₀ : Heap) (L : Addr) (s : Shared) (ps : σ → List (Str × Value)) (keep : List (Addr × Obj)) (I : Addr) (oI : Obj) (J : σ → List (Addr × Obj) → Prop) (Q : Flow → Shared → Prop) (f : Flow) (s₂ : Shared) : Prop :=
  match f with
  | .ret v => Q (.ret v) s₂
  | .brk => Q .next s₂
  | _ => NEnd h₀ L s ps keep I oI J s₂
section
variable {prog : Program} {w : World} {A : Around} {E : Value → Shared → Prop} {Q : Flow → Shared → Prop} {s : Shared} {env : Env} {h₀ : Heap} {L : Addr}
theorem NPost.intro {σ : Type} {ps : σ → List (Str × Value)} {keep : List (Addr × Obj)} {I : Addr} {oI : Obj} {J : σ → List (Addr × Obj) → Prop} {h' : Heap} {tk : Nat} {m' : Str → Option Value} {led : List (Addr × Obj)} (c' : σ) (nw' : List (Addr × Obj))
    (F : Fr h₀ L h' m') (N : News h₀ L h' led) (hI : (I, oI) ∈ led) (hn : ∀ p ∈ nw', p ∈ led) (hne : ∀ p ∈ nw', p.1 ≠ I) (hq : ∀ q ∈ keep, q ∈ nw') (hk : PsIn m' (ps c')) (hJ : J c' nw') :
    NPost h₀ L s ps keep I oI J Q .next { s with heap := h', toks := tk } := ⟨c', h', tk, m', led, nw', rfl, F, N, hI, hn, hne, hq, hk, hJ⟩
theorem loop_nw {σ : Type} {x : Str} {body : List Stmt} {I : Addr} {n : Nat} {P : Nat → Value → Prop} {St : Nat → Heap → Prop} {m : Str → Option Value} {nw₀ : List (Addr × Obj)} (keep : List (Addr × Obj))
    (W : Walks prog w A I (I :: keep.map (·.1)) [I] n P St) (hI : ∀ i h, St i h → ∃ o, h.get? I = some o) (ps : σ → List (Str × Value)) (J : Nat → σ → List (Addr × Obj) → Prop) (c₀ : σ)
    (hLf : env.locals ∉ I :: keep.map (·.1)) (hwr : h₀.get? I = none) (hst : St 0 s.heap) (F : Fr h₀ env.locals s.heap m) (N : News h₀ env.locals s.heap nw₀) (hne : ∀ p ∈ nw₀, p.1 ≠ I) (hkeep : ∀ q ∈ keep, q ∈ nw₀)
    (hk : PsIn m (ps c₀)) (h0 : J 0 c₀ nw₀)
    (turn : ∀ (i : Nat) (v : Value) (c : σ) (u : Str → Option Value) (h : Heap) (tk : Nat) (nw : List (Addr × Obj)) (oI : Obj), i < n → P i v → J i c nw → (∀ q ∈ keep, q ∈ nw) → (∀ p ∈ nw, p.1 ≠ I) →
      Fr h₀ env.locals h (fun y => if y = x then some v else kstB u (ps c) y) → News h₀ env.locals h ((I, oI) :: nw) →
      wpAny (model prog w) A (execs body env) (NPost h₀ env.locals s ps keep I oI (J (i + 1)) Q) E { s with heap := h, toks := tk })
    (fin : ∀ (c : σ) (u : Str → Option Value) (h : Heap) (tk : Nat) (nw : List (Addr × Obj)), J n c nw → Fr h₀ env.locals h (kstB u (ps c)) → News h₀ env.locals h nw → Q .next { s with heap := h, toks := tk }) :
    LoopAtV prog w A h₀ env x body Q E (.ref I) s := by
  refine ⟨I, I :: keep.map (·.1), [I], n, P, St, m, nw₀, (fun i m₁ nx => (∀ q ∈ keep, q ∈ nx) ∧ ∃ c, PsIn m₁ (ps c) ∧ J i c nx), rfl, W, hLf, (fun b hb => by rw [List.mem_singleton.mp hb]; exact hwr), (fun p hp h => hne p hp (List.mem_singleton.mp h)), hst, F, N, ⟨hkeep, c₀, hk, h0⟩, ?_, ?_⟩
  · rintro i v m₁ nx s₁ own ⟨h, tk, rfl⟩ hin hP ⟨hkp, c, hk', hJ⟩ hoff hown hget hall hst1 F₁ N₁
    obtain ⟨oI, hoI⟩ := hI _ _ hst1
    have hIo : (I, oI) ∈ own := hall I List.mem_cons_self hwr oI hoI
    have ownIs : ∀ p ∈ own, p = (I, oI) ∨ p ∈ keep := by
      intro p hp
      have g := hget p hp
      rcases List.mem_cons.mp (hown p hp) with e | e
      · refine .inl (Prod.ext e ?_)
        rw [e] at g
        exact Option.some.inj (g.symm.trans hoI)
      · obtain ⟨q, hq, eq⟩ := List.mem_map.mp e
        have g2 := (N₁ q (List.mem_append_right _ (hkp q hq))).1
        rw [eq] at g2
        have : p = q := Prod.ext eq.symm (Option.some.inj (g.symm.trans g2))
        exact .inr (this ▸ hq)
    have Ntl : News h₀ env.locals h ((I, oI) :: nx) := fun p hp => N₁ p (by
      rcases List.mem_cons.mp hp with rfl | hp
      · exact List.mem_append_left _ hIo
      · exact List.mem_append_right _ hp)
    have Fk : Fr h₀ env.locals h (fun y => if y = x then some v else kstB m₁ (ps c) y) := by rw [kst_self hk']; exact F₁
    refine wpAny_mono (turn i v c m₁ h tk nx oI hin hP hJ hkp (fun p hp e => hoff p hp (List.mem_singleton.mpr e)) Fk Ntl) (fun f s₂ q => ?_) fun _ _ e => e
    have conv : NEnd h₀ env.locals s ps keep I oI (J (i + 1)) s₂ →
        LoopStepU h₀ env.locals [I] own (fun m₁ nx => (∀ q ∈ keep, q ∈ nx) ∧ ∃ c, PsIn m₁ (ps c) ∧ J (i + 1) c nx) { s with heap := h, toks := tk } .next s₂ := by
      rintro ⟨c', h', tk', m', led, nw', rfl, F', N', hIl, hn', hne', hkp', hk9, hJ9⟩
      refine ⟨rfl, h', tk', m', nw', rfl, F', fun p hp => ?_, fun p hp e => hne' p hp (List.mem_singleton.mp e), hkp', c', hk9, hJ9⟩
      rcases List.mem_append.mp hp with h | h
      · rcases ownIs p h with rfl | h
        · exact N' _ hIl
        · exact N' _ (hn' _ (hkp' _ h))
      · exact N' _ (hn' _ h)
    cases f with
    | ret v => exact .ret q
    | brk => exact .brk q
    | next => exact .next (conv q)
    | cont => exact .cont (conv q)
  · rintro h' tk m' nx F' N' _ ⟨_, c, hk', hJ⟩
    exact fin c m' h' tk nx hJ (fr_ps F' hk') N'
theorem iter_range_nw {σ : Type} {L : Addr} {x : Str} {body : List Stmt} {r : Addr} {a b : Int} {t₀ u₀ v₀ : Tok} {n : Nat} {m : Str → Option Value} {nw₀ : List (Addr × Obj)}
    (hh : A.handled = none) (hr : IsRange s.heap r a b 1 t₀ u₀ v₀) (hsmall : Builtin.Range.small a b 1 = true) (hn : Builtin.Range.rangeSize a b 1 = (n : Int))
    (ps : σ → List (Str × Value)) (J : Nat → σ → List (Addr × Obj) → Prop) (c₀ : σ)
    (F : Fr h₀ L s.heap m) (N : News h₀ L s.heap nw₀) (hk : PsIn m (ps c₀)) (h0 : J 0 c₀ nw₀)
    (turn : ∀ (i : Nat) (t : Tok) (c : σ) (u : Str → Option Value) (h : Heap) (tk : Nat) (nw : List (Addr × Obj)) (I : Addr) (oI : Obj), i < n → J i c nw → (∀ p ∈ nw, p.1 ≠ I) →
      Fr h₀ L h (fun y => if y = x then some (.int (a + i) t) else kstB u (ps c) y) → News h₀ L h ((I, oI) :: nw) →
      wpAny (model prog w) A (execs body env) (NPost h₀ L s ps [] I oI (J (i + 1)) Q) E { s with heap := h, toks := tk })
    (fin : ∀ (c : σ) (u : Str → Option Value) (h : Heap) (tk : Nat) (nw : List (Addr × Obj)), J n c nw → Fr h₀ L h (kstB u (ps c)) → News h₀ L h nw → Q .next { s with heap := h, toks := tk })
    (hL : env.locals = L := by rfl) :
    wpAny (model prog w) A (pyIter (.ref r)) (fun it s₂ => LoopAtV prog w A h₀ env x body Q E it s₂) E s := by
  subst hL
  refine wpAny_pyIter_range hr hsmall ?_
  have old : ∀ p ∈ nw₀, p.1 < s.heap.objs.size := fun p hp => Heap.lt_size (N p hp).1
  refine loop_nw (s := { s with heap := _ }) [] (Walks.range hh s.heap.objs.size a 1 n) (fun i h H => ⟨_, H⟩) ps J c₀ ?_ (next_is_new F) (by show IsRangeIter _ _ _ _ _; rw [hn]; simpa using Heap.get?_push_size _ rfl) (F.push _) (fun p hp => ⟨Heap.get?_push_of_some _ (N p hp).1, (N p hp).2⟩) (fun p hp => Nat.ne_of_lt (old p hp)) (fun _ h => nomatch h) hk h0 ?_ ?_
  · intro hm
    exact absurd F.ns.lt ((List.mem_singleton.mp hm) ▸ Nat.lt_irrefl _)
  · rintro i v c u h tk nw oI hin ⟨t, rfl⟩ hJ _ hne F₁ N₁
    have e : a + (i : Int) * 1 = a + i := by omega
    rw [e] at F₁
    exact turn i t c u h tk nw _ oI hin hJ hne F₁ N₁
  · exact fin
noncomputable def NPostT {σ : Type} (h₀ : Heap) (L : Addr) (s : Shared) (ps : σ → List (Str × Value)) (keep : List (Addr × Obj)) (I : Addr) (oI : Obj) (J : σ → List (Addr × Obj) → Prop) (f : Flow) (s₂ : Shared) : Prop :=
  f = .next ∧ NEnd h₀ L s ps keep I oI J s₂
theorem NPostT.intro {σ : Type} {ps : σ → List (Str × Value)} {keep : List (Addr × Obj)} {I : Addr} {oI : Obj} {J : σ → List (Addr × Obj) → Prop} {h' : Heap} {tk : Nat} {m' : Str → Option Value} {led : List (Addr × Obj)} (c' : σ) (nw' : List (Addr × Obj))
    (F : Fr h₀ L h' m') (N : News h₀ L h' led) (hI : (I, oI) ∈ led) (hn : ∀ p ∈ nw', p ∈ led) (hne : ∀ p ∈ nw', p.1 ≠ I) (hq : ∀ q ∈ keep, q ∈ nw') (hk : PsIn m' (ps c')) (hJ : J c' nw') :
    NPostT h₀ L s ps keep I oI J .next { s with heap := h', toks := tk } := ⟨rfl, c', h', tk, m', led, nw', rfl, F, N, hI, hn, hne, hq, hk, hJ⟩
theorem loop_nwT {σ : Type} {target : Expr} {body : List Stmt} {I : Addr} {n : Nat} {P : Nat → Value → Prop} {St : Nat → Heap → Prop} {m : Str → Option Value} {nw₀ : List (Addr × Obj)} (keep : List (Addr × Obj))
    (W : Walks prog w A I (I :: keep.map (·.1)) [I] n P St) (hI : ∀ i h, St i h → ∃ o, h.get? I = some o) (ps : σ → List (Str × Value)) (J : Nat → σ → List (Addr × Obj) → Prop) (c₀ : σ)
    (hLf : env.locals ∉ I :: keep.map (·.1)) (hwr : h₀.get? I = none) (hst : St 0 s.heap) (F : Fr h₀ env.locals s.heap m) (N : News h₀ env.locals s.heap nw₀) (hne : ∀ p ∈ nw₀, p.1 ≠ I) (hkeep : ∀ q ∈ keep, q ∈ nw₀)
    (hgo : ∀ i (s' : Shared) v (Q' : Unit → Shared → Prop), St i s'.heap → Q' () s' → wpAny (model prog w) A (letOwnedTupleGo target (.ref I) v) Q' E s')
    (hk : PsIn m (ps c₀)) (h0 : J 0 c₀ nw₀)
    (turn : ∀ (i : Nat) (v : Value) (c : σ) (u : Str → Option Value) (h : Heap) (tk : Nat) (nw : List (Addr × Obj)) (oI : Obj) (og : Array GenState) (od : Drawn) (os : OsState), i < n → P i v → J i c nw → (∀ q ∈ keep, q ∈ nw) → (∀ p ∈ nw, p.1 ≠ I) →
      Fr h₀ env.locals h (kstB u (ps c)) → News h₀ env.locals h ((I, oI) :: nw) →
      wpAny (model prog w) A (assign target env v) (fun _ s₃ => wpAny (model prog w) A (execs body env) (NPostT h₀ env.locals ⟨h, og, od, tk, os⟩ ps keep I oI (J (i + 1))) E s₃) E ⟨h, og, od, tk, os⟩)
    (fin : ∀ (c : σ) (u : Str → Option Value) (h : Heap) (tk : Nat) (nw : List (Addr × Obj)), J n c nw → Fr h₀ env.locals h (kstB u (ps c)) → News h₀ env.locals h nw → Q .next { s with heap := h, toks := tk }) :
    LoopAtT prog w A h₀ env target body Q E (.ref I) s := by
  refine ⟨I, I :: keep.map (·.1), [I], n, P, St, m, nw₀, (fun i m₁ nx => (∀ q ∈ keep, q ∈ nx) ∧ ∃ c, PsIn m₁ (ps c) ∧ J i c nx), rfl, W, hLf, (fun b hb => by rw [List.mem_singleton.mp hb]; exact hwr), (fun p hp h => hne p hp (List.mem_singleton.mp h)), hst, F, N, hgo, ⟨hkeep, c₀, hk, h0⟩, ?_, ?_⟩
  · rintro i v m₁ nx ⟨h, og, od, tk, os⟩ own hin hP ⟨hkp, c, hk', hJ⟩ hoff hown hget hall hst1 F₁ N₁
    obtain ⟨oI, hoI⟩ := hI _ _ hst1
    have hIo : (I, oI) ∈ own := hall I List.mem_cons_self hwr oI hoI
    have ownIs : ∀ p ∈ own, p = (I, oI) ∨ p ∈ keep := by
      intro p hp
      have g := hget p hp
      rcases List.mem_cons.mp (hown p hp) with e | e
      · refine .inl (Prod.ext e ?_)
        rw [e] at g
        exact Option.some.inj (g.symm.trans hoI)
      · obtain ⟨q, hq, eq⟩ := List.mem_map.mp e
        have g2 := (N₁ q (List.mem_append_right _ (hkp q hq))).1
        rw [eq] at g2
        have : p = q := Prod.ext eq.symm (Option.some.inj (g.symm.trans g2))
        exact .inr (this ▸ hq)
    have Ntl : News h₀ env.locals h ((I, oI) :: nx) := fun p hp => N₁ p (by
      rcases List.mem_cons.mp hp with rfl | hp
      · exact List.mem_append_left _ hIo
      · exact List.mem_append_right _ hp)
    refine wpAny_mono (turn i v c m₁ h tk nx oI og od os hin hP hJ hkp (fun p hp e => hoff p hp (List.mem_singleton.mpr e)) (fr_ps F₁ hk') Ntl) (fun _ s₂ q => wpAny_mono q (fun f s₃ q => ?_) fun _ _ e => e) fun _ _ e => e
    obtain ⟨rfl, c', h', tk', m', led, nw', rfl, F', N', hIl, hn', hne', hkp', hk9, hJ9⟩ := q
    refine ⟨rfl, h', tk', m', nw', rfl, F', fun p hp => ?_, fun p hp e => hne' p hp (List.mem_singleton.mp e), hkp', c', hk9, hJ9⟩
    rcases List.mem_append.mp hp with h | h
    · rcases ownIs p h with rfl | h
      · exact N' _ hIl
      · exact N' _ (hn' _ (hkp' _ h))
    · exact N' _ (hn' _ h)
  · rintro h' tk m' nx F' N' _ ⟨_, c, hk', hJ⟩
    exact fin c m' h' tk nx hJ (fr_ps F' hk') N'
theorem iter_list_nwT {σ : Type} {L : Addr} {target : Expr} {body : List Stmt} {l : Addr} {vs : List Value} {k : Nat} {m : Str → Option Value} {nw₀ : List (Addr × Obj)}
    (hh : A.handled = none)
    (ps : σ → List (Str × Value)) (J : Nat → σ → List (Addr × Obj) → Prop) (c₀ : σ)
    (F : Fr h₀ L s.heap m) (N : News h₀ L s.heap nw₀) (hl : (l, W.listOf vs.toArray k) ∈ nw₀) (hk : PsIn m (ps c₀)) (h0 : J 0 c₀ nw₀)
    (turn : ∀ (i : Nat) (v : Value) (c : σ) (u : Str → Option Value) (h : Heap) (tk : Nat) (nw : List (Addr × Obj)) (I : Addr) (oI : Obj) (og : Array GenState) (od : Drawn) (os : OsState), i < vs.length → vs[i]? = some v → J i c nw → (l, W.listOf vs.toArray k) ∈ nw → (∀ p ∈ nw, p.1 ≠ I) →
      Fr h₀ L h (kstB u (ps c)) → News h₀ L h ((I, oI) :: nw) →
      wpAny (model prog w) A (assign target env v) (fun _ s₃ => wpAny (model prog w) A (execs body env) (NPostT h₀ L ⟨h, og, od, tk, os⟩ ps [(l, W.listOf vs.toArray k)] I oI (J (i + 1))) E s₃) E ⟨h, og, od, tk, os⟩)
    (fin : ∀ (c : σ) (u : Str → Option Value) (h : Heap) (tk : Nat) (nw : List (Addr × Obj)), J vs.length c nw → Fr h₀ L h (kstB u (ps c)) → News h₀ L h nw → Q .next { s with heap := h, toks := tk })
    (hL : env.locals = L := by rfl) :
    wpAny (model prog w) A (pyIter (.ref l)) (fun it s₂ => LoopAtT prog w A h₀ env target body Q E it s₂) E s := by
  subst hL
  have hls : s.heap.IsList l vs.toArray := isl N hl
  have hlt : l < s.heap.objs.size := Heap.lt_size (N _ hl).1
  have hne : l ≠ s.heap.objs.size := Nat.ne_of_lt hlt
  refine wpAny_pyIter_list hls ?_
  have W0 := Walks.list (prog := prog) (w := w) hh s.heap.objs.size l hne vs.toArray
  have old : ∀ p ∈ nw₀, p.1 < s.heap.objs.size := fun p hp => Heap.lt_size (N p hp).1
  have hsz : vs.toArray.size = vs.length := by simp
  rw [hsz] at W0
  refine loop_nwT (s := { s with heap := _ }) [(l, W.listOf vs.toArray k)] W0 (fun i h H => by obtain ⟨⟨o, ho, _⟩, _⟩ := H; exact ⟨o, ho⟩) ps J c₀ ?_ (next_is_new F) ⟨⟨_, Heap.get?_push_size _ rfl, rfl, rfl⟩, hls.at fun o e => Heap.get?_push_of_some _ e⟩ (F.push _) (fun p hp => ⟨Heap.get?_push_of_some _ (N p hp).1, (N p hp).2⟩) (fun p hp => Nat.ne_of_lt (old p hp)) (fun q hq => (List.mem_singleton.mp hq) ▸ hl) (fun i s' v Q' st hQ' => letGo_listiter st.1 hQ') hk h0 ?_ ?_
  · intro hm
    rcases List.mem_cons.mp hm with e | hm
    · exact absurd F.ns.lt (e ▸ Nat.lt_irrefl _)
    · exact (N _ hl).2.1 (List.mem_singleton.mp hm).symm
  · rintro i v c u h tk nw oI og od os hin hv hJ hkp hne F₁ N₁
    exact turn i v c u h tk nw _ oI og od os hin (by simpa using hv) hJ (hkp _ List.mem_cons_self) hne F₁ N₁
  · exact fin
end
end
end

section
open PySem PySem.W PyProof.Rows
section
noncomputable def NotCell (o : Obj) : Prop := ∀ v, o.data ≠ .cell v
theorem notCell_list {a : Array Value} {k : Nat} : NotCell (W.listOf a k) := fun v h => by cases h
theorem notCell_dict {es : List DictEntry} {k : Nat} : NotCell (dictOf es k) := fun v h => by cases h
theorem notCell_inst {C d : Addr} : NotCell (instObj C d) := fun v h => by cases h
theorem notCell_tuple {a : Array Value} {k : Nat} {c : Value} : NotCell { cls := c, data := .seq a k } := fun v h => by cases h
theorem StrsIn.off {nw nw' : List (Addr × Obj)} {v : Value} {ws : List Str} (h : StrsIn nw v ws) (k : ∀ q ∈ nw, NotCell q.2 → q ∈ nw') : StrsIn nw' v ws := let ⟨l, vs, ep, e, hm, hA⟩ := h; ⟨l, vs, ep, e, k _ hm notCell_list, hA⟩
theorem led5 {h₀ h : Heap} {L : Addr} {nw : List (Addr × Obj)} {a b c d e : Addr} {oa ob oc od oe : Obj} {va vb vc vd ve : Option Value} {G : Prop} (N : News h₀ L h nw)
    (ha : (a, oa) ∈ nw) (hb : (b, ob) ∈ nw) (hc : (c, oc) ∈ nw) (hd : (d, od) ∈ nw) (he : (e, oe) ∈ nw)
    (da : oa.data = .cell va) (db : ob.data = .cell vb) (dc : oc.data = .cell vc) (dd : od.data = .cell vd) (de : oe.data = .cell ve)
    (k : ∀ rest, (∀ p ∈ rest, p.1 ≠ a) → (∀ p ∈ rest, p.1 ≠ b) → (∀ p ∈ rest, p.1 ≠ c) → (∀ p ∈ rest, p.1 ≠ d) → (∀ p ∈ rest, p.1 ≠ e) → (∀ q ∈ nw, NotCell q.2 → q ∈ rest) →
      News h₀ L h ((a, oa) :: (b, ob) :: (c, oc) :: (d, od) :: (e, oe) :: rest) → G) : G := by
  have key : ∀ {x : Addr} {o : Obj} {v : Option Value}, (x, o) ∈ nw → o.data = .cell v → ∀ q ∈ nw, NotCell q.2 → ¬ q.1 = x := fun hx dx q hq hn e5 => by
    have g := (N _ hx).1
    have g2 := (N q hq).1
    rw [e5] at g2
    exact hn _ ((congrArg Obj.data (Option.some.inj (g.symm.trans g2))).symm.trans dx)
  refine k (nw.filter fun p => ¬ (p.1 = a ∨ p.1 = b ∨ p.1 = c ∨ p.1 = d ∨ p.1 = e)) ?_ ?_ ?_ ?_ ?_ ?_ ?_
  · intro p hp h; exact (of_decide_eq_true (List.mem_filter.mp hp).2) (.inl h)
  · intro p hp h; exact (of_decide_eq_true (List.mem_filter.mp hp).2) (.inr (.inl h))
  · intro p hp h; exact (of_decide_eq_true (List.mem_filter.mp hp).2) (.inr (.inr (.inl h)))
  · intro p hp h; exact (of_decide_eq_true (List.mem_filter.mp hp).2) (.inr (.inr (.inr (.inl h))))
  · intro p hp h; exact (of_decide_eq_true (List.mem_filter.mp hp).2) (.inr (.inr (.inr (.inr h))))
  · intro q hq hn
    refine List.mem_filter.mpr ⟨hq, decide_eq_true ?_⟩
    rintro (h | h | h | h | h)
    · exact key ha da q hq hn h
    · exact key hb db q hq hn h
    · exact key hc dc q hq hn h
    · exact key hd dd q hq hn h
    · exact key he de q hq hn h
  · intro p hp
    simp only [List.mem_cons] at hp
    rcases hp with rfl | rfl | rfl | rfl | rfl | hp
    · exact N _ ha
    · exact N _ hb
    · exact N _ hc
    · exact N _ hd
    · exact N _ he
    · exact N _ (List.mem_filter.mp hp).1
end
end

section
open PySem PySem.W PyProof.Rows PyProof.V PySem.Spec PySem.SeqAt
section
theorem reads_all_strs {h : Heap} : ∀ {vs : List Value} {ns : List Str}, StrsAre vs ns → ReadsAll h vs (ns.map PyData.str) []
  | _, _, .nil => .nil
  | _, _, .cons k t r => by
    have := ReadsAll.cons (Reads.str (h := h) k t) (reads_all_strs (h := h) r)
    simpa using this
theorem reads_strs {h : Heap} {a : Addr} {vs : List Value} {ns : List Str} (hl : h.IsList a vs.toArray) (hi : StrsAre vs ns) : Reads h (.ref a) (.list (ns.map PyData.str)) [a] := by
  obtain ⟨o, ho, hc, n, hd⟩ := hl
  exact Reads.list ho hc hd (by simpa using reads_all_strs hi)
theorem lay_strs (ns : List Str) (hk : ns.all PyData.strOk = true) : PyData.canLayAll0 (ns.map PyData.str) = true := by
  have := canLayAll_strs' ns
  exact this.trans hk
theorem depth_strs : ∀ ns : List Str, PyData.depthAll (ns.map PyData.str) ≤ 1
  | [] => by simp [PyData.depthAll]
  | n :: r => by
    have := depth_strs r
    simp only [List.map_cons, PyData.depthAll, PyData.depth]
    omega
theorem shaped_strs (ns : List Str) (hk : ns.all PyData.strOk = true) : shaped (.list (ns.map PyData.str)) = true := by
  have h1 := depth_strs ns
  have h2 : PyData.depth (.list (ns.map PyData.str)) ≤ 64 := by simp only [PyData.depth]; omega
  show (PyData.canLay0 (.list (ns.map PyData.str)) && decide (PyData.depth (.list (ns.map PyData.str)) ≤ 64)) = true
  rw [Bool.and_eq_true]
  exact ⟨by simp only [PyData.canLay0]; exact lay_strs ns hk, decide_eq_true h2⟩
theorem mix_strs : ∀ ns ms : List Str, noMixAll (ns.map PyData.str) (ms.map PyData.str) = true
  | [], [] => by simp [noMixAll]
  | [], _ :: _ => by simp [noMixAll]
  | _ :: _, [] => by simp [noMixAll]
  | _ :: r, _ :: q => by simp [noMixAll, noMix, mix_strs r q]
theorem same_strs : ∀ ns ms : List Str, PySem.Spec.sameAll (ns.map PyData.str) (ms.map PyData.str) = decide (ns = ms)
  | [], [] => by simp [PySem.Spec.sameAll]
  | [], _ :: _ => by simp [PySem.Spec.sameAll]
  | _ :: _, [] => by simp [PySem.Spec.sameAll]
  | n :: r, k :: q => by
    simp only [List.map_cons, PySem.Spec.sameAll, PySem.Spec.same, same_strs r q]
    by_cases h : n = k <;> simp [h]
section
variable {prog : Program} {w : World} {A : Around} {E : Value → Shared → Prop} {s : Shared}
theorem ne_strs {a b : Addr} {vs us : List Value} {ns ms : List Str} {Q : Value → Shared → Prop} (hl : s.heap.IsList a vs.toArray) (hi : StrsAre vs ns) (hl' : s.heap.IsList b us.toArray) (hi' : StrsAre us ms) (hk : ns.all PyData.strOk = true) (hk' : ms.all PyData.strOk = true) (hu : A.units + 64 < cLine)
    (h : Q (.bool (!decide (ns = ms))) s) : wpAny (model prog w) A (compareOp .NotEq (.ref a) (.ref b)) Q E s :=
  ne_dataH_same (reads_strs hl hi) (reads_strs hl' hi') (shaped_strs ns hk) (shaped_strs ms hk') hu (by simp only [noMix]; exact mix_strs ns ms) (by simp only [PySem.Spec.same]; rw [same_strs]; exact h)
end
end
end

section
open PySem PySem.W PyProof.Rows
local macro_rules | `(tactic| k_all) => `(tactic| assumption)

section
open PySem PySem.W PyProof.Rows
section
local macro_rules | `(tactic| walk_at "binaryOp FloorDiv int int") => `(tactic| ((with_reducible show wpAny _ _ (binaryOp _ _ (Value.int (4 ^ _) _)) _ _ _); refine floordiv_int (And.left (by assumption)) ?_ (Or.inl (PyProof.noPylong_small (And.right (by assumption))))))
section
variable {prog : Program} {w : World} {A : Around} {E : Value → Shared → Prop} {s : Shared} {h₀ : Heap} {L : Addr} {news : List (Addr × Obj)}
theorem item_last {value slice : PySem.Expr} {l : Addr} {vs : List Value} {c : Nat} {k : Int} {u : Tok} {v : Value} {Q : Value → Shared → Prop} (hk : k = -1)
    (N : News h₀ L s.heap news) (hm : (l, W.listOf (vs ++ [v]).toArray c) ∈ news) (h : Q v s)
    (hs : subscripted slice false (.ref l) (.int k u) = operate [.ref l, .int k u] (getItem (.ref l) (.int k u)) := by with_unfolding_all rfl) :
    wpAny (model prog w) A (subscriptTail value slice (.ref l) (.int k u)) Q E s := by
  have hl : s.heap.IsList l (vs ++ [v]).toArray := ⟨_, (N _ hm).1, rfl, _, rfl⟩
  have hz : (vs ++ [v]).toArray.size = vs.length + 1 := by simp
  refine tail_any hl.typeIs slot_list_getitem.lookup (wpAny_getItem_list_neg hl (by omega) (by rw [hz]; omega) (by omega) ?_ h) hs
  rw [hz]
  have : (k + ((vs.length + 1 : Nat) : Int)).toNat = vs.length := by omega
  rw [this]
  simp
theorem len_snoc {l : Addr} {vs : List Value} {v : Value} {c n : Nat} {Q : Value → Shared → Prop} (N : News h₀ L s.heap news) (hm : (l, W.listOf (vs ++ [v]).toArray c) ∈ news) (hn : vs.length + 1 = n) (hb : n ≤ 4096)
    (h : Q (.int (n : Int) (s.toks + 1)) { s with toks := s.toks + 1 + 1 }) : wpAny (model prog w) A (call (.builtin "len") [.ref l]) Q E s := by
  have e : (vs ++ [v]).toArray.size = n := by simp [hn]
  refine len_list (isl N hm) (by rw [e]; omega) ?_
  rw [e]
  exact h
end
noncomputable def signC (k : Int) : Nat := if k = 0 then 47 else if k = 1 then 97 else if k = 2 then 65 else 36
noncomputable def ruleC (x : Int) (k : Nat) : Nat := signC (((x.fdiv 8).fdiv (4 ^ k)).fmod 4)
noncomputable def ruleN (x : Int) : Nat := ((x.fdiv 2).fmod 4).toNat
noncomputable def ruleL (x : Int) : List Nat := (List.range (ruleN x)).map (ruleC x)
noncomputable def ruleF (x : Int) : Str := ⟨(ruleL x).toArray⟩
noncomputable def rowStep (c : List (List Str) × List Str) (x : Int) : List (List Str) × List Str :=
  if x.fmod 2 = 0 ∧ c.2 ≠ [] ∧ c.1.length < 2 then (c.1 ++ [c.2], [ruleF x]) else (c.1, c.2 ++ [ruleF x])
noncomputable def rowsP (xs : List Int) : List (List Str) × List Str := xs.foldl rowStep ([], [])
noncomputable def rowsF (xs : List Int) : List (List Str) := (rowsP xs).1 ++ [(rowsP xs).2]
theorem signC_lt (k : Int) : signC k < 128 := by unfold signC; split <;> (try split) <;> (try split) <;> decide
theorem ruleN_le (x : Int) : ruleN x ≤ 3 := by
  have h1 := Int.fmod_nonneg_of_pos (x.fdiv 2) (show (0 : Int) < 4 by decide)
  have h2 := Int.fmod_lt_of_pos (x.fdiv 2) (show (0 : Int) < 4 by decide)
  unfold ruleN
  omega
theorem ruleF_len (x : Int) : (ruleF x).length ≤ 3 := by
  have := ruleN_le x
  simp only [ruleF, Str.length, ruleL, List.size_toArray, List.length_map, List.length_range]
  exact this
theorem ruleF_ok (x : Int) : PyData.strOk (ruleF x) = true := by
  unfold PyData.strOk ruleF ruleL
  rw [List.all_toArray, List.all_eq_true]
  intro c hc
  obtain ⟨k, _, rfl⟩ := List.mem_map.mp hc
  have : ruleC x k < 128 := signC_lt _
  simp only [decide_eq_true_eq]
  omega
noncomputable def OkRows (c : List (List Str) × List Str) (i : Nat) : Prop := c.1.length ≤ 2 ∧ c.2.length ≤ i ∧ (∀ r ∈ c.2, r.length ≤ 3 ∧ PyData.strOk r = true)
theorem okRows_step {c : List (List Str) × List Str} {i : Nat} (x : Int) (h : OkRows c i) : OkRows (rowStep c x) (i + 1) := by
  obtain ⟨h1, h2, h3⟩ := h
  unfold rowStep
  split
  · rename_i hc
    refine ⟨?_, ?_, fun r hr => ?_⟩
    · simp only [List.length_append, List.length_cons, List.length_nil]; omega
    · simp only [List.length_cons, List.length_nil]; omega
    · rw [List.mem_singleton.mp hr]; exact ⟨ruleF_len x, ruleF_ok x⟩
  · refine ⟨h1, ?_, fun r hr => ?_⟩
    · simp only [List.length_append, List.length_cons, List.length_nil]; omega
    · rcases List.mem_append.mp hr with hr | hr
      · exact h3 r hr
      · rw [List.mem_singleton.mp hr]; exact ⟨ruleF_len x, ruleF_ok x⟩
theorem okRows_take (xs : List Int) : ∀ i, i ≤ xs.length → OkRows ((xs.take i).foldl rowStep ([], [])) i
  | 0, _ => ⟨by simp, by simp, fun _ h => nomatch h⟩
  | i + 1, h => by
    have ih := okRows_take xs i (by omega)
    rw [List.take_add_one, List.getElem?_eq_getElem (by omega), List.foldl_append]
    exact okRows_step _ ih
theorem pow4 {i : Nat} (h : i ≤ 3) : (4 : Int) ^ (i : Int).toNat ≠ 0 ∧ ((4 : Int) ^ (i : Int).toNat).natAbs < 1073741824 := by
  rw [Int.toNat_natCast]
  rcases i with _ | _ | _ | _ | i
  · decide
  · decide
  · decide
  · decide
  · omega
theorem item_rule {k : Int} (h0 : 0 ≤ k) (h4 : k < 4) : Txt.item (Str.ofString "/aA$") k = ⟨#[signC k]⟩ := by
  have : k = 0 ∨ k = 1 ∨ k = 2 ∨ k = 3 := by omega
  rcases this with rfl | rfl | rfl | rfl <;> decide
theorem strs_snoc' {vs : List Value} {ys : List Str} {y z : Str} {t : Tok} (e : y = z) (h : StrsAre vs ys) : StrsAre (vs ++ [.str y t]) (ys ++ [z]) := e ▸ kct_snoc h
theorem wlen {x : Int} {n : Nat} (h : n ≤ 3) : ((((List.range n).map fun k => Str.mk #[ruleC x k])).map (·.length)).sum + ((List.range n).map fun k => Str.mk #[ruleC x k]).length * 64 ≤ 16777216 := by
  have : ((((List.range n).map fun k => Str.mk #[ruleC x k])).map (·.length)) = (List.range n).map fun _ => 1 := by
    rw [List.map_map]; rfl
  rw [this, List.length_map, List.length_range]
  rcases n with _ | _ | _ | _ | n
  · decide
  · decide
  · decide
  · decide
  · omega
theorem join_rule (x : Int) : Txt.join (Str.ofString "") ((List.range (ruleN x)).map fun k => Str.mk #[ruleC x k]) = ruleF x := by
  have h := ruleN_le x
  unfold ruleF ruleL
  generalize ruleN x = n at *
  have e : Str.ofString "" = ⟨#[]⟩ := by decide
  rw [e]
  rcases n with _ | _ | _ | _ | n
  · rfl
  · rfl
  · rfl
  · rfl
  · omega
noncomputable def RowsIn (nw : List (Addr × Obj)) (v : Value) (rows : List (List Str)) : Prop := ∃ (l : Addr) (vs : List Value) (k : Nat), v = .ref l ∧ (l, W.listOf vs.toArray k) ∈ nw ∧ All2 (StrsIn nw) vs rows
theorem RowsIn.off {nw nw' : List (Addr × Obj)} {v : Value} {rows : List (List Str)} (h : RowsIn nw v rows) (k : ∀ q ∈ nw, NotCell q.2 → q ∈ nw') : RowsIn nw' v rows := let ⟨l, vs, ep, e, hm, hA⟩ := h; ⟨l, vs, ep, e, k _ hm notCell_list, hA.mono fun _ _ r => r.off k⟩
theorem name2 {h₀ h : Heap} {L a1 a2 : Addr} {o1 o2 : Obj} {news : List (Addr × Obj)} {G : Prop} (_N : News h₀ L h ((a1, o1) :: (a2, o2) :: news))
    (k : ∀ b1 b2, b1 = a1 → b2 = a2 → G) : G := k _ _ rfl rfl
theorem name_led {h₀ h : Heap} {L : Addr} {nw : List (Addr × Obj)} {G : Prop} (N : News h₀ L h nw) (k : ∀ n, n = nw → News h₀ L h n → G) : G := k _ rfl N
theorem name_L {h₀ h : Heap} {L : Addr} {m : Str → Option Value} {G : Prop} (_F : Fr h₀ L h m) (k : ∀ L2, L2 = L → G) : G := k L rfl
noncomputable def Off4 (rest : List (Addr × Obj)) (R la cx : Addr) : Prop := (∀ p ∈ rest, p.1 ≠ R) ∧ (∀ p ∈ rest, p.1 ≠ la) ∧ (∀ p ∈ rest, p.1 ≠ cx) ∧ @Ne Nat R la ∧ @Ne Nat R cx ∧ @Ne Nat la cx
structure RSt where
  c : List (List Str) × List Str
  R : Addr
  la : Addr
  lv : List Value
  vs : List Value
  k : Nat
  kl : Nat
  ox : Obj
  rest : List (Addr × Obj)
noncomputable def RSt.led (e : RSt) (cx : Addr) : List (Addr × Obj) := (e.R, W.listOf (e.vs ++ [Value.ref e.la]).toArray e.k) :: (e.la, W.listOf e.lv.toArray e.kl) :: (cx, e.ox) :: e.rest
noncomputable def RSt.ok (e : RSt) (news : List (Addr × Obj)) (cx : Addr) : Prop := Off4 e.rest e.R e.la cx ∧ All2 (StrsIn e.rest) e.vs e.c.1 ∧ StrsAre e.lv e.c.2 ∧ (∀ q ∈ news, q ∈ e.rest)
theorem rows_c {w : World} {p : Program} {loose : List Str} {mean : ExcName → Option Value} {mg mb : Str → Option Value} {news : List (Addr × Obj)} {l : Addr} {xv : List Value} {xs : List Int} {kx : Nat} (hl : (l, W.listOf xv.toArray kx) ∈ news) (hI : IntsAre xv xs) (hn : xs.length ≤ 16) :
   ClaimM Challenge.rw_nb0157_02.row.prog w (Mine.hd.heap_39 w.params) p loose mean mg mb 108 4 96 news [.ref l] (fun v nw => RowsIn nw v (rowsF xs)) := by
  intro dp un gd cn cs ad ccd cl outer A₀ base h₀ L m s Q E hB hF hX hN hT hcs hdp hun hret
  refine wpAny_call ?_
  k_dflt (((refine' code_defC ?k1 ?k2 ?k3 ?k4 ?k5 ?kA ?kF ?kK ?k6 ?k7 ?k8 ?k9 ?kB ?kD ?_ ?c2 ?c3 ?c4; (case kA => exact rfl); (case kF => exact rfl); (case kK => assumption); (case k1 => k_asm); (case k2 => k_asm); (case k3 => k_asm); (case k4 => k_asm); (case k5 => k_asm); (case k6 => k_is); (case k7 => k_is); (case k8 => ktr_room); (case k9 => exact BindsTo.of_eq rfl); (case kB => exact rfl); (case kD => decide +kernel); (case c2 => exact rfl); (case c3 => exact rfl); (case c4 => exact rfl); k_whole; intro g' L' h' tk' cells' FG' F' N' Y' B' X' T' l1; (try k_lt l1); k_cells Y'; (try simp only [List.cons_append, List.nil_append] at N'); (try dsimp only); (try k_lift B'); (try k_fold))))
  refine name_L (show Fr _ _ _ (bindL _ _ _) by k_asm) ?_
  intro Lf eL
  subst eL
  (repeat' (first | (k_unfold; first | walk_at "Seq" | (try dsimp only)) | ((fail_if_success ((first | with_reducible show wpAny _ _ (subscriptTail (PySem.Expr.Name _ _) _ (Value.ref _) (Value.int _ _)) _ _ _ | with_reducible show wpAny _ _ (compareOp CmpOp.NotEq (Value.ref _) (Value.ref _)) _ _ _ | with_reducible show wpAny _ _ (execs [PySem.Stmt.If _ _ _ _, _] _) _ _ _ | with_reducible show wpAny _ _ (call (Value.builtin "list.append") _) _ _ _ | with_reducible show wpAny _ _ (exec (PySem.Stmt.While _ _ _ _) _) _ _ _ | with_reducible show wpAny _ _ (exec (PySem.Stmt.For _ _ _ _ _) _) _ _ _ | with_reducible show wpAny _ _ (pyIter _) _ _ _ | with_reducible show wpAny _ _ (call (Value.type "list") _) _ _ _ | with_reducible show wpAny _ _ (call (Value.builtin "str.join") _) _ _ _ | with_reducible show wpAny _ _ (eval (PySem.Expr.ListComp _ [PySem.Comprehension.mk (PySem.Expr.Tuple _ _ _) _ _ _] _ _) _) _ _ _ | with_reducible show LCg.CompSrc _ _ _ _ _ _ _ _ _ _ _ _ _ _ | with_reducible show wpAny _ _ (execs (PySem.Stmt.If (PySem.Expr.Compare _ [CmpOp.Lt] _ _) [PySem.Stmt.Assign [PySem.Expr.Tuple _ _ _] _ _] _ _ :: _) _) _ _ _))); first | (k_end; wrow_close) | walk1 | (dsimp only; walk1) | (leave1; walk_say "STEP leave1"; try dsimp only) | fail "no step")))
  refine name2 (show News _ _ _ ((_, W.listOf #[_] 0) :: (_, W.listOf #[] 0) :: (Lf + 1, _) :: news) by k_asm) ?_
  intro R la e1 e2
  subst e1 e2
  rename (∀ p ∈ news, p.1 < Lf) => hlt
  rename (la < R ∧ _) => q1
  rename (_ ∧ AllLt la news) => q2
  have hnR : ∀ p ∈ news, p.1 ≠ R := fun p hp => Nat.ne_of_lt (Nat.lt_trans (hlt p hp) (by omega))
  have hnl : ∀ p ∈ news, p.1 ≠ la := fun p hp => Nat.ne_of_lt (Nat.lt_trans (hlt p hp) (by omega))
  have hnc : ∀ p ∈ news, p.1 ≠ Lf + 1 := fun p hp => Nat.ne_of_lt (Nat.lt_trans (hlt p hp) (Nat.lt_succ_self _))
  have hnR1 : @Ne Nat R la := by omega
  have hnR2 : @Ne Nat R (Lf + 1) := by omega
  have hnR3 : @Ne Nat la (Lf + 1) := by omega
  refine For_invTF (by k_asm) ?_ (by intro _; rfl)
  (repeat' (first | (k_unfold; first | walk_at "Seq" | (try dsimp only)) | ((fail_if_success ((first | with_reducible show wpAny _ _ (subscriptTail (PySem.Expr.Name _ _) _ (Value.ref _) (Value.int _ _)) _ _ _ | with_reducible show wpAny _ _ (compareOp CmpOp.NotEq (Value.ref _) (Value.ref _)) _ _ _ | with_reducible show wpAny _ _ (execs [PySem.Stmt.If _ _ _ _, _] _) _ _ _ | with_reducible show wpAny _ _ (call (Value.builtin "list.append") _) _ _ _ | with_reducible show wpAny _ _ (exec (PySem.Stmt.While _ _ _ _) _) _ _ _ | with_reducible show wpAny _ _ (exec (PySem.Stmt.For _ _ _ _ _) _) _ _ _ | with_reducible show wpAny _ _ (pyIter _) _ _ _ | with_reducible show wpAny _ _ (call (Value.type "list") _) _ _ _ | with_reducible show wpAny _ _ (call (Value.builtin "str.join") _) _ _ _ | with_reducible show wpAny _ _ (eval (PySem.Expr.ListComp _ [PySem.Comprehension.mk (PySem.Expr.Tuple _ _ _) _ _ _] _ _) _) _ _ _ | with_reducible show LCg.CompSrc _ _ _ _ _ _ _ _ _ _ _ _ _ _ | with_reducible show wpAny _ _ (execs (PySem.Stmt.If (PySem.Expr.Compare _ [CmpOp.Lt] _ _) [PySem.Stmt.Assign [PySem.Expr.Tuple _ _ _] _ _] _ _ :: _) _) _ _ _))); first | (k_end; wrow_close) | walk1 | (dsimp only; walk1) | (leave1; walk_say "STEP leave1"; try dsimp only) | fail "no step")))
  refine iter_list_nwT (vs := xv) (k := kx) rfl (fun e : RSt => [("numbers", .ref l), ("rows", .ref R)])
    (fun i e nw => e.R = R ∧ nw = e.led (Lf + 1) ∧ e.ok news (Lf + 1) ∧ e.c = (xs.take i).foldl rowStep ([], []) ∧ ∃ xo, e.ox.data = .cell xo) ⟨([], []), R, la, [], [], 0, 0, _, news⟩
    (by k_asm) (show News _ _ _ ((R, W.listOf #[Value.ref la] 0) :: (la, W.listOf #[] 0) :: (Lf + 1, _) :: news) by k_asm) (List.mem_cons_of_mem _ (List.mem_cons_of_mem _ (List.mem_cons_of_mem _ hl))) (by (((repeat (first | refine ps_cons rfl ?_ | refine ps_str (by assumption) rfl ?_ | refine ps_int (by omega) rfl ?_)); exact ps_nil)))
    ⟨rfl, rfl, ⟨⟨hnR, hnl, hnc, hnR1, hnR2, hnR3⟩, .nil, .nil, fun _ h => h⟩, rfl, _, by assumption⟩ ?turn ?fin
  case turn =>
    rintro i v ⟨c, R', la, lv, vs, k, kl, ox, rest⟩ u2 h2 tk2 nw I oI og od os hi hv ⟨eR, rfl, hok, hc, xo, hxo⟩ hkp hneI F2 N2
    dsimp only [RSt.led, RSt.ok, kstB] at eR hok hc hxo hkp hneI F2 N2 ⊢
    subst eR
    obtain ⟨⟨o1, o2, o3, o4, o5, o6⟩, hA, hLv, hsub⟩ := hok
    obtain ⟨x, t, rfl, hxi⟩ := IntsAre.at hI i v hv
    have hIR : @Ne Nat I R' := fun e => hneI (R', _) List.mem_cons_self e.symm
    have hIl : @Ne Nat I la := fun e => hneI (la, _) (List.mem_cons_of_mem _ List.mem_cons_self) e.symm
    have hIc : @Ne Nat I (Lf + 1) := fun e => hneI (Lf + 1, _) (List.mem_cons_of_mem _ (List.mem_cons_of_mem _ List.mem_cons_self)) e.symm
    have hIrest : ∀ p ∈ rest, p.1 ≠ I := fun p hp => hneI p (List.mem_cons_of_mem _ (List.mem_cons_of_mem _ (List.mem_cons_of_mem _ hp)))
    clear hneI hkp
    k_sweep
    (repeat' (first | (k_unfold; first | walk_at "Seq" | (try dsimp only)) | ((fail_if_success ((first | with_reducible show wpAny _ _ (subscriptTail (PySem.Expr.Name _ _) _ (Value.ref _) (Value.int _ _)) _ _ _ | with_reducible show wpAny _ _ (compareOp CmpOp.NotEq (Value.ref _) (Value.ref _)) _ _ _ | with_reducible show wpAny _ _ (execs [PySem.Stmt.If _ _ _ _, _] _) _ _ _ | with_reducible show wpAny _ _ (call (Value.builtin "list.append") _) _ _ _ | with_reducible show wpAny _ _ (exec (PySem.Stmt.While _ _ _ _) _) _ _ _ | with_reducible show wpAny _ _ (exec (PySem.Stmt.For _ _ _ _ _) _) _ _ _ | with_reducible show wpAny _ _ (pyIter _) _ _ _ | with_reducible show wpAny _ _ (call (Value.type "list") _) _ _ _ | with_reducible show wpAny _ _ (call (Value.builtin "str.join") _) _ _ _ | with_reducible show wpAny _ _ (eval (PySem.Expr.ListComp _ [PySem.Comprehension.mk (PySem.Expr.Tuple _ _ _) _ _ _] _ _) _) _ _ _ | with_reducible show LCg.CompSrc _ _ _ _ _ _ _ _ _ _ _ _ _ _ | with_reducible show wpAny _ _ (execs (PySem.Stmt.If (PySem.Expr.Compare _ [CmpOp.Lt] _ _) [PySem.Stmt.Assign [PySem.Expr.Tuple _ _ _] _ _] _ _ :: _) _) _ _ _))); first | (k_end; wrow_close) | walk1 | (dsimp only; walk1) | (leave1; walk_say "STEP leave1"; try dsimp only) | fail "no step")))
    have hlen : vs.length = c.1.length := hA.length
    have okr : OkRows c i := by rw [hc]; exact okRows_take xs i (by rw [← hI.length]; omega)
    obtain ⟨ok1, ok2, ok3⟩ := okr
    refine stmt_ps (by k_asm) (fun e : RSt => [("numbers", .ref l), ("rows", .ref R')]) (fun e => (I, oI) :: e.led (Lf + 1)) (fun e => e.R = R' ∧ e.ox.data = .cell (some (.int x t)) ∧ e.ok news (Lf + 1) ∧ (∀ p ∈ e.rest, p.1 ≠ I) ∧ @Ne Nat I e.la ∧ e.c = if x.fmod 2 = 0 ∧ c.2 ≠ [] ∧ c.1.length < 2 then (c.1 ++ [c.2], []) else c) ?s1 ?f1
    case s1 =>
      (repeat' (first | (k_unfold; first | walk_at "Seq" | (try dsimp only)) | ((fail_if_success ((first | with_reducible show wpAny _ _ (subscriptTail (PySem.Expr.Name _ _) _ (Value.ref _) (Value.int _ _)) _ _ _ | with_reducible show wpAny _ _ (compareOp CmpOp.NotEq (Value.ref _) (Value.ref _)) _ _ _ | with_reducible show wpAny _ _ (execs [PySem.Stmt.If _ _ _ _, _] _) _ _ _ | with_reducible show wpAny _ _ (call (Value.builtin "list.append") _) _ _ _ | with_reducible show wpAny _ _ (exec (PySem.Stmt.While _ _ _ _) _) _ _ _ | with_reducible show wpAny _ _ (exec (PySem.Stmt.For _ _ _ _ _) _) _ _ _ | with_reducible show wpAny _ _ (pyIter _) _ _ _ | with_reducible show wpAny _ _ (call (Value.type "list") _) _ _ _ | with_reducible show wpAny _ _ (call (Value.builtin "str.join") _) _ _ _ | with_reducible show wpAny _ _ (eval (PySem.Expr.ListComp _ [PySem.Comprehension.mk (PySem.Expr.Tuple _ _ _) _ _ _] _ _) _) _ _ _ | with_reducible show LCg.CompSrc _ _ _ _ _ _ _ _ _ _ _ _ _ _ | with_reducible show wpAny _ _ (execs (PySem.Stmt.If (PySem.Expr.Compare _ [CmpOp.Lt] _ _) [PySem.Stmt.Assign [PySem.Expr.Tuple _ _ _] _ _] _ _ :: _) _) _ _ _))); first | (k_end; wrow_close) | walk1 | (dsimp only; walk1) | (leave1; walk_say "STEP leave1"; try dsimp only) | fail "no step")))
      rotate_left
      · exact WEnd.intro ⟨c, R', la, lv, vs, k, kl, _, rest⟩ (by k_asm) (show News _ _ _ ((I, oI) :: (R', W.listOf (vs ++ [Value.ref la]).toArray k) :: (la, W.listOf lv.toArray kl) :: (Lf + 1, _) :: rest) by k_asm) (fun p hp => hp) (by (((repeat (first | refine ps_cons rfl ?_ | refine ps_str (by assumption) rfl ?_ | refine ps_int (by omega) rfl ?_)); exact ps_nil)))
          ⟨rfl, by assumption, ⟨⟨o1, o2, o3, o4, o5, o6⟩, hA, hLv, hsub⟩, hIrest, hIl, (if_neg fun h => absurd h.1 (by assumption)).symm⟩ (by decide)
      · refine item_last rfl (show News _ _ _ ((I, oI) :: (R', W.listOf (vs ++ [Value.ref la]).toArray k) :: (la, W.listOf lv.toArray kl) :: (Lf + 1, _) :: rest) by k_asm) (List.mem_cons_of_mem _ List.mem_cons_self) ?_
        (repeat' (first | (k_unfold; first | walk_at "Seq" | (try dsimp only)) | ((fail_if_success ((first | with_reducible show wpAny _ _ (subscriptTail (PySem.Expr.Name _ _) _ (Value.ref _) (Value.int _ _)) _ _ _ | with_reducible show wpAny _ _ (compareOp CmpOp.NotEq (Value.ref _) (Value.ref _)) _ _ _ | with_reducible show wpAny _ _ (execs [PySem.Stmt.If _ _ _ _, _] _) _ _ _ | with_reducible show wpAny _ _ (call (Value.builtin "list.append") _) _ _ _ | with_reducible show wpAny _ _ (exec (PySem.Stmt.While _ _ _ _) _) _ _ _ | with_reducible show wpAny _ _ (exec (PySem.Stmt.For _ _ _ _ _) _) _ _ _ | with_reducible show wpAny _ _ (pyIter _) _ _ _ | with_reducible show wpAny _ _ (call (Value.type "list") _) _ _ _ | with_reducible show wpAny _ _ (call (Value.builtin "str.join") _) _ _ _ | with_reducible show wpAny _ _ (eval (PySem.Expr.ListComp _ [PySem.Comprehension.mk (PySem.Expr.Tuple _ _ _) _ _ _] _ _) _) _ _ _ | with_reducible show LCg.CompSrc _ _ _ _ _ _ _ _ _ _ _ _ _ _ | with_reducible show wpAny _ _ (execs (PySem.Stmt.If (PySem.Expr.Compare _ [CmpOp.Lt] _ _) [PySem.Stmt.Assign [PySem.Expr.Tuple _ _ _] _ _] _ _ :: _) _) _ _ _))); first | (k_end; wrow_close) | walk1 | (dsimp only; walk1) | (leave1; walk_say "STEP leave1"; try dsimp only) | fail "no step")))
        refine ne_strs (isl (show News _ _ _ ((_, W.listOf #[] 0) :: (I, oI) :: (R', W.listOf (vs ++ [Value.ref la]).toArray k) :: (la, W.listOf lv.toArray kl) :: (Lf + 1, _) :: rest) by k_asm) (List.mem_cons_of_mem _ (List.mem_cons_of_mem _ (List.mem_cons_of_mem _ List.mem_cons_self)))) hLv (us := []) (isl (show News _ _ _ ((_, W.listOf #[] 0) :: (I, oI) :: _) by k_asm) List.mem_cons_self) .nil (List.all_eq_true.mpr fun r hr => (ok3 r hr).2) rfl (by ktr_units) ?_
        by_cases hl0 : c.2 = []
        · rw [decide_eq_true hl0, Bool.not_true]
          (repeat' (first | (k_unfold; first | walk_at "Seq" | (try dsimp only)) | ((fail_if_success ((first | with_reducible show wpAny _ _ (subscriptTail (PySem.Expr.Name _ _) _ (Value.ref _) (Value.int _ _)) _ _ _ | with_reducible show wpAny _ _ (compareOp CmpOp.NotEq (Value.ref _) (Value.ref _)) _ _ _ | with_reducible show wpAny _ _ (execs [PySem.Stmt.If _ _ _ _, _] _) _ _ _ | with_reducible show wpAny _ _ (call (Value.builtin "list.append") _) _ _ _ | with_reducible show wpAny _ _ (exec (PySem.Stmt.While _ _ _ _) _) _ _ _ | with_reducible show wpAny _ _ (exec (PySem.Stmt.For _ _ _ _ _) _) _ _ _ | with_reducible show wpAny _ _ (pyIter _) _ _ _ | with_reducible show wpAny _ _ (call (Value.type "list") _) _ _ _ | with_reducible show wpAny _ _ (call (Value.builtin "str.join") _) _ _ _ | with_reducible show wpAny _ _ (eval (PySem.Expr.ListComp _ [PySem.Comprehension.mk (PySem.Expr.Tuple _ _ _) _ _ _] _ _) _) _ _ _ | with_reducible show LCg.CompSrc _ _ _ _ _ _ _ _ _ _ _ _ _ _ | with_reducible show wpAny _ _ (execs (PySem.Stmt.If (PySem.Expr.Compare _ [CmpOp.Lt] _ _) [PySem.Stmt.Assign [PySem.Expr.Tuple _ _ _] _ _] _ _ :: _) _) _ _ _))); first | (k_end; wrow_close) | walk1 | (dsimp only; walk1) | (leave1; walk_say "STEP leave1"; try dsimp only) | fail "no step")))
          exact WEnd.intro ⟨c, R', la, lv, vs, k, kl, _, rest⟩ (by k_asm) (show News _ _ _ (_ :: (I, oI) :: (R', W.listOf (vs ++ [Value.ref la]).toArray k) :: (la, W.listOf lv.toArray kl) :: (Lf + 1, _) :: rest) by k_asm) (fun p hp => List.mem_cons_of_mem _ hp) (by (((repeat (first | refine ps_cons rfl ?_ | refine ps_str (by assumption) rfl ?_ | refine ps_int (by omega) rfl ?_)); exact ps_nil)))
            ⟨rfl, by assumption, ⟨⟨o1, o2, o3, o4, o5, o6⟩, hA, hLv, hsub⟩, hIrest, hIl, (if_neg fun h => absurd hl0 h.2.1).symm⟩ (by decide)
        · rw [decide_eq_false hl0, Bool.not_false]
          (repeat' (first | (k_unfold; first | walk_at "Seq" | (try dsimp only)) | ((fail_if_success ((first | with_reducible show wpAny _ _ (subscriptTail (PySem.Expr.Name _ _) _ (Value.ref _) (Value.int _ _)) _ _ _ | with_reducible show wpAny _ _ (compareOp CmpOp.NotEq (Value.ref _) (Value.ref _)) _ _ _ | with_reducible show wpAny _ _ (execs [PySem.Stmt.If _ _ _ _, _] _) _ _ _ | with_reducible show wpAny _ _ (call (Value.builtin "list.append") _) _ _ _ | with_reducible show wpAny _ _ (exec (PySem.Stmt.While _ _ _ _) _) _ _ _ | with_reducible show wpAny _ _ (exec (PySem.Stmt.For _ _ _ _ _) _) _ _ _ | with_reducible show wpAny _ _ (pyIter _) _ _ _ | with_reducible show wpAny _ _ (call (Value.type "list") _) _ _ _ | with_reducible show wpAny _ _ (call (Value.builtin "str.join") _) _ _ _ | with_reducible show wpAny _ _ (eval (PySem.Expr.ListComp _ [PySem.Comprehension.mk (PySem.Expr.Tuple _ _ _) _ _ _] _ _) _) _ _ _ | with_reducible show LCg.CompSrc _ _ _ _ _ _ _ _ _ _ _ _ _ _ | with_reducible show wpAny _ _ (execs (PySem.Stmt.If (PySem.Expr.Compare _ [CmpOp.Lt] _ _) [PySem.Stmt.Assign [PySem.Expr.Tuple _ _ _] _ _] _ _ :: _) _) _ _ _))); first | (k_end; wrow_close) | walk1 | (dsimp only; walk1) | (leave1; walk_say "STEP leave1"; try dsimp only) | fail "no step")))
          refine len_snoc (n := c.1.length + 1) (show News _ _ _ (_ :: (I, oI) :: (R', W.listOf (vs ++ [Value.ref la]).toArray k) :: (la, W.listOf lv.toArray kl) :: (Lf + 1, _) :: rest) by k_asm) (List.mem_cons_of_mem _ (List.mem_cons_of_mem _ List.mem_cons_self)) (by omega) (by omega) ?_
          (repeat' (first | (k_unfold; first | walk_at "Seq" | (try dsimp only)) | ((fail_if_success ((first | with_reducible show wpAny _ _ (subscriptTail (PySem.Expr.Name _ _) _ (Value.ref _) (Value.int _ _)) _ _ _ | with_reducible show wpAny _ _ (compareOp CmpOp.NotEq (Value.ref _) (Value.ref _)) _ _ _ | with_reducible show wpAny _ _ (execs [PySem.Stmt.If _ _ _ _, _] _) _ _ _ | with_reducible show wpAny _ _ (call (Value.builtin "list.append") _) _ _ _ | with_reducible show wpAny _ _ (exec (PySem.Stmt.While _ _ _ _) _) _ _ _ | with_reducible show wpAny _ _ (exec (PySem.Stmt.For _ _ _ _ _) _) _ _ _ | with_reducible show wpAny _ _ (pyIter _) _ _ _ | with_reducible show wpAny _ _ (call (Value.type "list") _) _ _ _ | with_reducible show wpAny _ _ (call (Value.builtin "str.join") _) _ _ _ | with_reducible show wpAny _ _ (eval (PySem.Expr.ListComp _ [PySem.Comprehension.mk (PySem.Expr.Tuple _ _ _) _ _ _] _ _) _) _ _ _ | with_reducible show LCg.CompSrc _ _ _ _ _ _ _ _ _ _ _ _ _ _ | with_reducible show wpAny _ _ (execs (PySem.Stmt.If (PySem.Expr.Compare _ [CmpOp.Lt] _ _) [PySem.Stmt.Assign [PySem.Expr.Tuple _ _ _] _ _] _ _ :: _) _) _ _ _))); first | (k_end; wrow_close) | walk1 | (dsimp only; walk1) | (leave1; walk_say "STEP leave1"; try dsimp only) | fail "no step")))
          rotate_left
          · exact WEnd.intro ⟨c, R', la, lv, vs, k, kl, _, rest⟩ (by k_asm) (show News _ _ _ (_ :: (I, oI) :: (R', W.listOf (vs ++ [Value.ref la]).toArray k) :: (la, W.listOf lv.toArray kl) :: (Lf + 1, _) :: rest) by k_asm) (fun p hp => List.mem_cons_of_mem _ hp) (by (((repeat (first | refine ps_cons rfl ?_ | refine ps_str (by assumption) rfl ?_ | refine ps_int (by omega) rfl ?_)); exact ps_nil)))
              ⟨rfl, by assumption, ⟨⟨o1, o2, o3, o4, o5, o6⟩, hA, hLv, hsub⟩, hIrest, hIl, (if_neg fun h => by omega).symm⟩ (by decide)
          · refine append_K (its := (vs ++ [Value.ref la]).toArray) (n := k) (D := R') (by k_asm) (show News _ _ _ ((_, W.listOf #[] 0) :: (_, _) :: (I, oI) :: (R', W.listOf (vs ++ [Value.ref la]).toArray k) :: (la, W.listOf lv.toArray kl) :: (Lf + 1, _) :: rest) by k_asm) (by k_upd) ?_ (by rw [List.size_toArray, List.length_append, sizeLine_eq]; simp only [List.length_cons, List.length_nil]; omega)
            intro h7 F7 N7
            refine name_head N7 ?_
            intro E2 e2
            subst e2
            k_sweep
            (repeat' (first | (k_unfold; first | walk_at "Seq" | (try dsimp only)) | ((fail_if_success ((first | with_reducible show wpAny _ _ (subscriptTail (PySem.Expr.Name _ _) _ (Value.ref _) (Value.int _ _)) _ _ _ | with_reducible show wpAny _ _ (compareOp CmpOp.NotEq (Value.ref _) (Value.ref _)) _ _ _ | with_reducible show wpAny _ _ (execs [PySem.Stmt.If _ _ _ _, _] _) _ _ _ | with_reducible show wpAny _ _ (call (Value.builtin "list.append") _) _ _ _ | with_reducible show wpAny _ _ (exec (PySem.Stmt.While _ _ _ _) _) _ _ _ | with_reducible show wpAny _ _ (exec (PySem.Stmt.For _ _ _ _ _) _) _ _ _ | with_reducible show wpAny _ _ (pyIter _) _ _ _ | with_reducible show wpAny _ _ (call (Value.type "list") _) _ _ _ | with_reducible show wpAny _ _ (call (Value.builtin "str.join") _) _ _ _ | with_reducible show wpAny _ _ (eval (PySem.Expr.ListComp _ [PySem.Comprehension.mk (PySem.Expr.Tuple _ _ _) _ _ _] _ _) _) _ _ _ | with_reducible show LCg.CompSrc _ _ _ _ _ _ _ _ _ _ _ _ _ _ | with_reducible show wpAny _ _ (execs (PySem.Stmt.If (PySem.Expr.Compare _ [CmpOp.Lt] _ _) [PySem.Stmt.Assign [PySem.Expr.Tuple _ _ _] _ _] _ _ :: _) _) _ _ _))); first | (k_end; wrow_close) | walk1 | (dsimp only; walk1) | (leave1; walk_say "STEP leave1"; try dsimp only) | fail "no step")))
            rename (_ ∧ _ ∧ _ ∧ _ ∧ _ ∧ AllLt _ rest) => q3
            obtain ⟨p1, p2, p3, p4, p5, p6⟩ := q3
            have q4 := ktn_ltOf p6
            refine WEnd.intro ⟨(c.1 ++ [c.2], []), R', E2, [], vs ++ [.ref la], k + 1, 0, _, (la, W.listOf lv.toArray kl) :: rest⟩ (by k_asm) N7 (fun p hp => ?m1) (by (((repeat (first | refine ps_cons rfl ?_ | refine ps_str (by assumption) rfl ?_ | refine ps_int (by omega) rfl ?_)); exact ps_nil)))
              ⟨rfl, by assumption, ⟨⟨?m2, fun p hp => ?m3, ?m4, ?m5, o5, ?m6⟩, ?m7, .nil, fun q hq => List.mem_cons_of_mem _ (hsub q hq)⟩, ?m8, ?m9, (if_pos ⟨by assumption, hl0, by omega⟩).symm⟩ (by decide)
            case m1 =>
              dsimp only [RSt.led] at hp
              rw [List.push_toArray]
              simp only [List.mem_cons] at hp ⊢
              rcases hp with h | h | h | h | h | h
              · exact .inr (.inr (.inl h))
              · exact .inr (.inr (.inr (.inl h)))
              · exact .inl h
              · exact .inr (.inr (.inr (.inr (.inr (.inl h)))))
              · exact .inr (.inr (.inr (.inr (.inl h))))
              · exact .inr (.inr (.inr (.inr (.inr (.inr h)))))
            case m2 => exact List.forall_mem_cons.mpr ⟨fun e => o4 e.symm, o1⟩
            case m3 =>
              rcases List.mem_cons.mp hp with rfl | hp
              · exact Nat.ne_of_lt p4
              · exact Nat.ne_of_lt (q4 p hp)
            case m4 => exact List.forall_mem_cons.mpr ⟨o6, o3⟩
            case m5 => exact Nat.ne_of_lt p3
            case m6 => exact Nat.ne_of_gt p5
            case m7 => exact (hA.mono fun a b h => h.mono fun q hq => List.mem_cons_of_mem _ hq).snoc ⟨la, lv, kl, rfl, List.mem_cons_self, hLv⟩
            case m8 => exact List.forall_mem_cons.mpr ⟨fun e => hIl e.symm, hIrest⟩
            case m9 => exact Nat.ne_of_lt p2
    clear o1 o2 o3 o4 o5 o6 hA hLv hsub hIl hIrest hxo hlen
    rintro ⟨c2, R2, la, lv, vs, k, kl, ox, rest⟩ u h tk ⟨eR2, hox, hok, hIrest, hIl, hc2⟩ F N
    dsimp only [RSt.led, RSt.ok, kstB] at eR2 hox hok hIrest hIl hc2 F N ⊢
    subst eR2
    obtain ⟨⟨o1, o2, o3, o4, o5, o6⟩, hA, hLv, hsub⟩ := hok
    k_sweep
    (repeat' (first | (k_unfold; first | walk_at "Seq" | (try dsimp only)) | ((fail_if_success ((first | with_reducible show wpAny _ _ (subscriptTail (PySem.Expr.Name _ _) _ (Value.ref _) (Value.int _ _)) _ _ _ | with_reducible show wpAny _ _ (compareOp CmpOp.NotEq (Value.ref _) (Value.ref _)) _ _ _ | with_reducible show wpAny _ _ (execs [PySem.Stmt.If _ _ _ _, _] _) _ _ _ | with_reducible show wpAny _ _ (call (Value.builtin "list.append") _) _ _ _ | with_reducible show wpAny _ _ (exec (PySem.Stmt.While _ _ _ _) _) _ _ _ | with_reducible show wpAny _ _ (exec (PySem.Stmt.For _ _ _ _ _) _) _ _ _ | with_reducible show wpAny _ _ (pyIter _) _ _ _ | with_reducible show wpAny _ _ (call (Value.type "list") _) _ _ _ | with_reducible show wpAny _ _ (call (Value.builtin "str.join") _) _ _ _ | with_reducible show wpAny _ _ (eval (PySem.Expr.ListComp _ [PySem.Comprehension.mk (PySem.Expr.Tuple _ _ _) _ _ _] _ _) _) _ _ _ | with_reducible show LCg.CompSrc _ _ _ _ _ _ _ _ _ _ _ _ _ _ | with_reducible show wpAny _ _ (execs (PySem.Stmt.If (PySem.Expr.Compare _ [CmpOp.Lt] _ _) [PySem.Stmt.Assign [PySem.Expr.Tuple _ _ _] _ _] _ _ :: _) _) _ _ _))); first | (k_end; wrow_close) | walk1 | (dsimp only; walk1) | (leave1; walk_say "STEP leave1"; try dsimp only) | fail "no step")))
    refine item_last rfl N (List.mem_cons_of_mem _ List.mem_cons_self) ?_
    (repeat' (first | (k_unfold; first | walk_at "Seq" | (try dsimp only)) | ((fail_if_success ((first | with_reducible show wpAny _ _ (subscriptTail (PySem.Expr.Name _ _) _ (Value.ref _) (Value.int _ _)) _ _ _ | with_reducible show wpAny _ _ (compareOp CmpOp.NotEq (Value.ref _) (Value.ref _)) _ _ _ | with_reducible show wpAny _ _ (execs [PySem.Stmt.If _ _ _ _, _] _) _ _ _ | with_reducible show wpAny _ _ (call (Value.builtin "list.append") _) _ _ _ | with_reducible show wpAny _ _ (exec (PySem.Stmt.While _ _ _ _) _) _ _ _ | with_reducible show wpAny _ _ (exec (PySem.Stmt.For _ _ _ _ _) _) _ _ _ | with_reducible show wpAny _ _ (pyIter _) _ _ _ | with_reducible show wpAny _ _ (call (Value.type "list") _) _ _ _ | with_reducible show wpAny _ _ (call (Value.builtin "str.join") _) _ _ _ | with_reducible show wpAny _ _ (eval (PySem.Expr.ListComp _ [PySem.Comprehension.mk (PySem.Expr.Tuple _ _ _) _ _ _] _ _) _) _ _ _ | with_reducible show LCg.CompSrc _ _ _ _ _ _ _ _ _ _ _ _ _ _ | with_reducible show wpAny _ _ (execs (PySem.Stmt.If (PySem.Expr.Compare _ [CmpOp.Lt] _ _) [PySem.Stmt.Assign [PySem.Expr.Tuple _ _ _] _ _] _ _ :: _) _) _ _ _))); first | (k_end; wrow_close) | walk1 | (dsimp only; walk1) | (leave1; walk_say "STEP leave1"; try dsimp only) | fail "no step")))
    have hrn : (x.fdiv 2).fmod 4 = ((ruleN x : Nat) : Int) := by
      have h1 := Int.fmod_nonneg_of_pos (x.fdiv 2) (show (0 : Int) < 4 by decide)
      unfold ruleN
      omega
    have hr3 := ruleN_le x
    have hvl : vs.length = c2.1.length := hA.length
    have hll := hLv.len_eq
    have hxl := hI.length
    have hl2 : c2.2.length ≤ i := by
      rw [hc2]
      split
      · exact Nat.zero_le _
      · exact ok2
    dsimp only
    refine name_led (show News _ _ _ ((I, oI) :: (R2, W.listOf (vs ++ [Value.ref la]).toArray k) :: (la, W.listOf lv.toArray kl) :: (Lf + 1, ox) :: rest) by k_asm) ?_
    intro nw9 e9 N9
    have hcell : (Lf + 1, ox) ∈ nw9 := by rw [e9]; exact List.mem_cons_of_mem _ (List.mem_cons_of_mem _ (List.mem_cons_of_mem _ List.mem_cons_self))
    refine' LCg.CompSrc.range (news := nw9) (a := 0) (b := (x.fdiv 2).fmod 4) (n := ruleN x) rfl ?F ?N ?hr (small_one (by omega) (by omega) (by omega) (by omega)) (by rw [hrn, rangeSize_nat]; omega) (by rw [sizeLine_eq]; omega) ?_
    case F => k_asm
    case N => exact N9
    case hr => assumption
    intro g
    refine comp_same (fun i ys => StrsAre ys ((List.range i).map fun k => Str.mk #[ruleC x k])) .nil ?turn2 ?fin2
    case turn2 =>
      intro j v J oJ C oC D m₂ ys h3 tk3 E' hj hv hyl hJ hC hx F3 N3 off ne
      obtain ⟨tj, rfl⟩ := hv
      rw [Int.zero_add] at hx
      have hp := pow4 (i := j) (by omega)
      have hf1 : 0 ≤ ((x.fdiv 8).fdiv (4 ^ (j : Int).toNat)).fmod 4 := Int.fmod_nonneg_of_pos _ (by decide)
      have hf2 : ((x.fdiv 8).fdiv (4 ^ (j : Int).toNat)).fmod 4 < 4 := Int.fmod_lt_of_pos _ (by decide)
      (repeat' (first | (k_unfold; first | walk_at "Seq" | (try dsimp only)) | ((fail_if_success ((first | with_reducible show wpAny _ _ (subscriptTail (PySem.Expr.Name _ _) _ (Value.ref _) (Value.int _ _)) _ _ _ | with_reducible show wpAny _ _ (compareOp CmpOp.NotEq (Value.ref _) (Value.ref _)) _ _ _ | with_reducible show wpAny _ _ (execs [PySem.Stmt.If _ _ _ _, _] _) _ _ _ | with_reducible show wpAny _ _ (call (Value.builtin "list.append") _) _ _ _ | with_reducible show wpAny _ _ (exec (PySem.Stmt.While _ _ _ _) _) _ _ _ | with_reducible show wpAny _ _ (exec (PySem.Stmt.For _ _ _ _ _) _) _ _ _ | with_reducible show wpAny _ _ (pyIter _) _ _ _ | with_reducible show wpAny _ _ (call (Value.type "list") _) _ _ _ | with_reducible show wpAny _ _ (call (Value.builtin "str.join") _) _ _ _ | with_reducible show wpAny _ _ (eval (PySem.Expr.ListComp _ [PySem.Comprehension.mk (PySem.Expr.Tuple _ _ _) _ _ _] _ _) _) _ _ _ | with_reducible show LCg.CompSrc _ _ _ _ _ _ _ _ _ _ _ _ _ _ | with_reducible show wpAny _ _ (execs (PySem.Stmt.If (PySem.Expr.Compare _ [CmpOp.Lt] _ _) [PySem.Stmt.Assign [PySem.Expr.Tuple _ _ _] _ _] _ _ :: _) _) _ _ _))); first | (k_end; wrow_close) | walk1 | (dsimp only; walk1) | (leave1; walk_say "STEP leave1"; try dsimp only) | fail "no step")))
      dsimp only
      refine LCg.CompEnd.intro F3 N3 nw9 (fun p hp => hp) off trivial ⟨rfl, ?_⟩
      rw [List.range_succ, List.map_append]
      exact strs_snoc' (item_rule hf1 hf2) hJ
    case fin2 =>
      intro ys hyl hJ
      intro D h5 tk5 F5 N5 o9
      (repeat' (first | (k_unfold; first | walk_at "Seq" | (try dsimp only)) | ((fail_if_success ((first | with_reducible show wpAny _ _ (subscriptTail (PySem.Expr.Name _ _) _ (Value.ref _) (Value.int _ _)) _ _ _ | with_reducible show wpAny _ _ (compareOp CmpOp.NotEq (Value.ref _) (Value.ref _)) _ _ _ | with_reducible show wpAny _ _ (execs [PySem.Stmt.If _ _ _ _, _] _) _ _ _ | with_reducible show wpAny _ _ (call (Value.builtin "list.append") _) _ _ _ | with_reducible show wpAny _ _ (exec (PySem.Stmt.While _ _ _ _) _) _ _ _ | with_reducible show wpAny _ _ (exec (PySem.Stmt.For _ _ _ _ _) _) _ _ _ | with_reducible show wpAny _ _ (pyIter _) _ _ _ | with_reducible show wpAny _ _ (call (Value.type "list") _) _ _ _ | with_reducible show wpAny _ _ (call (Value.builtin "str.join") _) _ _ _ | with_reducible show wpAny _ _ (eval (PySem.Expr.ListComp _ [PySem.Comprehension.mk (PySem.Expr.Tuple _ _ _) _ _ _] _ _) _) _ _ _ | with_reducible show LCg.CompSrc _ _ _ _ _ _ _ _ _ _ _ _ _ _ | with_reducible show wpAny _ _ (execs (PySem.Stmt.If (PySem.Expr.Compare _ [CmpOp.Lt] _ _) [PySem.Stmt.Assign [PySem.Expr.Tuple _ _ _] _ _] _ _ :: _) _) _ _ _))); first | (k_end; wrow_close) | walk1 | (dsimp only; walk1) | (leave1; walk_say "STEP leave1"; try dsimp only) | fail "no step")))
      refine join_listC (items := ys.toArray) ⟨_, (N5 _ List.mem_cons_self).1, rfl, _, rfl⟩ (by simpa using hJ) (by decide) (wlen hr3) ?_
      intro t' k'
      rw [join_rule]
      (repeat' (first | (k_unfold; first | walk_at "Seq" | (try dsimp only)) | ((fail_if_success ((first | with_reducible show wpAny _ _ (subscriptTail (PySem.Expr.Name _ _) _ (Value.ref _) (Value.int _ _)) _ _ _ | with_reducible show wpAny _ _ (compareOp CmpOp.NotEq (Value.ref _) (Value.ref _)) _ _ _ | with_reducible show wpAny _ _ (execs [PySem.Stmt.If _ _ _ _, _] _) _ _ _ | with_reducible show wpAny _ _ (call (Value.builtin "list.append") _) _ _ _ | with_reducible show wpAny _ _ (exec (PySem.Stmt.While _ _ _ _) _) _ _ _ | with_reducible show wpAny _ _ (exec (PySem.Stmt.For _ _ _ _ _) _) _ _ _ | with_reducible show wpAny _ _ (pyIter _) _ _ _ | with_reducible show wpAny _ _ (call (Value.type "list") _) _ _ _ | with_reducible show wpAny _ _ (call (Value.builtin "str.join") _) _ _ _ | with_reducible show wpAny _ _ (eval (PySem.Expr.ListComp _ [PySem.Comprehension.mk (PySem.Expr.Tuple _ _ _) _ _ _] _ _) _) _ _ _ | with_reducible show LCg.CompSrc _ _ _ _ _ _ _ _ _ _ _ _ _ _ | with_reducible show wpAny _ _ (execs (PySem.Stmt.If (PySem.Expr.Compare _ [CmpOp.Lt] _ _) [PySem.Stmt.Assign [PySem.Expr.Tuple _ _ _] _ _] _ _ :: _) _) _ _ _))); first | (k_end; wrow_close) | walk1 | (dsimp only; walk1) | (leave1; walk_say "STEP leave1"; try dsimp only) | fail "no step")))
      rw [e9] at o9
      obtain ⟨w1, w2, w3, w4, w5⟩ := o9
      subst e9
      refine append_K (its := lv.toArray) (n := kl) (D := la) (by k_asm) (show News _ _ _ ((D, _) :: (I, oI) :: (R2, W.listOf (vs ++ [Value.ref la]).toArray k) :: (la, W.listOf lv.toArray kl) :: (Lf + 1, ox) :: rest) by k_asm) (by k_upd) ?_ (by show lv.length ≤ sizeLine; rw [sizeLine_eq]; omega)
      intro h7 F7 N7
      k_sweep
      (repeat' (first | (k_unfold; first | walk_at "Seq" | (try dsimp only)) | ((fail_if_success ((first | with_reducible show wpAny _ _ (subscriptTail (PySem.Expr.Name _ _) _ (Value.ref _) (Value.int _ _)) _ _ _ | with_reducible show wpAny _ _ (compareOp CmpOp.NotEq (Value.ref _) (Value.ref _)) _ _ _ | with_reducible show wpAny _ _ (execs [PySem.Stmt.If _ _ _ _, _] _) _ _ _ | with_reducible show wpAny _ _ (call (Value.builtin "list.append") _) _ _ _ | with_reducible show wpAny _ _ (exec (PySem.Stmt.While _ _ _ _) _) _ _ _ | with_reducible show wpAny _ _ (exec (PySem.Stmt.For _ _ _ _ _) _) _ _ _ | with_reducible show wpAny _ _ (pyIter _) _ _ _ | with_reducible show wpAny _ _ (call (Value.type "list") _) _ _ _ | with_reducible show wpAny _ _ (call (Value.builtin "str.join") _) _ _ _ | with_reducible show wpAny _ _ (eval (PySem.Expr.ListComp _ [PySem.Comprehension.mk (PySem.Expr.Tuple _ _ _) _ _ _] _ _) _) _ _ _ | with_reducible show LCg.CompSrc _ _ _ _ _ _ _ _ _ _ _ _ _ _ | with_reducible show wpAny _ _ (execs (PySem.Stmt.If (PySem.Expr.Compare _ [CmpOp.Lt] _ _) [PySem.Stmt.Assign [PySem.Expr.Tuple _ _ _] _ _] _ _ :: _) _) _ _ _))); first | (k_end; wrow_close) | walk1 | (dsimp only; walk1) | (leave1; walk_say "STEP leave1"; try dsimp only) | fail "no step")))
      refine NPostT.intro ⟨(c2.1, c2.2 ++ [ruleF x]), R2, la, lv ++ [.str (ruleF x) t'], vs, k, kl + 1, ox, rest⟩ _ (by k_asm) N7 (List.mem_cons_of_mem _ List.mem_cons_self) (fun p hp => ?p1) ?p2 ?p3 (by (((repeat (first | refine ps_cons rfl ?_ | refine ps_str (by assumption) rfl ?_ | refine ps_int (by omega) rfl ?_)); exact ps_nil))) ⟨rfl, rfl, ⟨⟨o1, o2, o3, o4, o5, o6⟩, hA, strs_snoc' rfl hLv, hsub⟩, ?p4, _, hox⟩
      case p1 =>
        rw [List.push_toArray]
        exact List.mem_cons_of_mem _ (List.mem_cons_of_mem _ hp)
      case p2 =>
        exact List.forall_mem_cons.mpr ⟨fun e => hIR e.symm, List.forall_mem_cons.mpr ⟨fun e => hIl e.symm, List.forall_mem_cons.mpr ⟨fun e => hIc e.symm, hIrest⟩⟩⟩
      case p3 =>
        intro q hq
        rw [List.mem_singleton.mp hq]
        exact List.mem_cons_of_mem _ (List.mem_cons_of_mem _ (List.mem_cons_of_mem _ (hsub _ hl)))
      case p4 =>
        rw [List.take_add_one, hxi, List.foldl_append, ← hc]
        show _ = rowStep c x
        unfold rowStep
        rw [hc2]
        split <;> rfl
  case fin =>
    rintro ⟨c, R', la, lv, vs, k, kl, ox, rest⟩ u2 h2 tk2 nw ⟨eR, rfl, hok, hc, xo, hxo⟩ F2 N2
    dsimp only [RSt.led, RSt.ok, kstB] at eR hok hc hxo F2 N2 ⊢
    subst eR
    obtain ⟨⟨o1, o2, o3, o4, o5, o6⟩, hA, hLv, hsub⟩ := hok
    k_sweep
    (repeat' (first | (k_unfold; first | walk_at "Seq" | (try dsimp only)) | ((fail_if_success ((first | with_reducible show wpAny _ _ (subscriptTail (PySem.Expr.Name _ _) _ (Value.ref _) (Value.int _ _)) _ _ _ | with_reducible show wpAny _ _ (compareOp CmpOp.NotEq (Value.ref _) (Value.ref _)) _ _ _ | with_reducible show wpAny _ _ (execs [PySem.Stmt.If _ _ _ _, _] _) _ _ _ | with_reducible show wpAny _ _ (call (Value.builtin "list.append") _) _ _ _ | with_reducible show wpAny _ _ (exec (PySem.Stmt.While _ _ _ _) _) _ _ _ | with_reducible show wpAny _ _ (exec (PySem.Stmt.For _ _ _ _ _) _) _ _ _ | with_reducible show wpAny _ _ (pyIter _) _ _ _ | with_reducible show wpAny _ _ (call (Value.type "list") _) _ _ _ | with_reducible show wpAny _ _ (call (Value.builtin "str.join") _) _ _ _ | with_reducible show wpAny _ _ (eval (PySem.Expr.ListComp _ [PySem.Comprehension.mk (PySem.Expr.Tuple _ _ _) _ _ _] _ _) _) _ _ _ | with_reducible show LCg.CompSrc _ _ _ _ _ _ _ _ _ _ _ _ _ _ | with_reducible show wpAny _ _ (execs (PySem.Stmt.If (PySem.Expr.Compare _ [CmpOp.Lt] _ _) [PySem.Stmt.Assign [PySem.Expr.Tuple _ _ _] _ _] _ _ :: _) _) _ _ _))); first | (k_end; wrow_close) | walk1 | (dsimp only; walk1) | (leave1; walk_say "STEP leave1"; try dsimp only) | fail "no step")))
    have kN9 : News h₀ L h2 ((R', W.listOf (vs ++ [Value.ref la]).toArray k) :: (la, W.listOf lv.toArray kl) :: (Lf + 1, ox) :: rest) := by k_asm
    have hup : ∀ q ∈ rest, q ∈ ((R', W.listOf (vs ++ [Value.ref la]).toArray k) :: (la, W.listOf lv.toArray kl) :: (Lf + 1, ox) :: rest) ++ news := fun q hq => List.mem_append_left _ (List.mem_cons_of_mem _ (List.mem_cons_of_mem _ (List.mem_cons_of_mem _ hq)))
    refine hret (.ref R') ((R', W.listOf (vs ++ [Value.ref la]).toArray k) :: (la, W.listOf lv.toArray kl) :: (Lf + 1, ox) :: rest) _ _ ⟨R', vs ++ [.ref la], k, rfl, List.mem_cons_self, ?_⟩ (by k_asm) (fun q hq => ?_)
    · have e : c = rowsP xs := by rw [hc, hI.length, List.take_length]; rfl
      unfold rowsF
      rw [← e]
      exact (hA.mono fun a b h => h.mono hup).snoc ⟨la, lv, kl, rfl, List.mem_cons_of_mem _ List.mem_cons_self, hLv⟩
    · rcases List.mem_append.mp hq with hq | hq
      · exact kN9 q hq
      · exact kN9 q (List.mem_cons_of_mem _ (List.mem_cons_of_mem _ (List.mem_cons_of_mem _ (hsub q hq))))
end
end

section
open PySem PySem.W PyProof.Rows
section
theorem name_cells {h₀ h : Heap} {L a b c d e : Addr} {oa ob oc od oe : Obj} {rest : List (Addr × Obj)} {G : Prop} (_N : News h₀ L h ((a, oa) :: (b, ob) :: (c, oc) :: (d, od) :: (e, oe) :: rest))
    (k : ∀ a' b' c' d' e', a' = oa → b' = ob → c' = oc → d' = od → e' = oe → G) : G := k _ _ _ _ _ rfl rfl rfl rfl rfl
noncomputable def LawRest (k : Nat) (w : World) (fa : Addr) (cd : Value) (h₀ : Heap) (L : Addr) (s : Shared) (h : Heap) (tk : Nat) : Prop :=
  wpAny (model Challenge.rw_nb0157_02.row.prog w) (callerA.deeper (envOfC lawOf.1.1 lawOf.1.2.1 L fa cd)) (execs (lawOf.1.2.2.drop k) (envOfC lawOf.1.1 lawOf.1.2.1 L fa cd)) (LawEnd h₀ L s) (fun _ _ => False) { s with heap := h, toks := tk }
theorem law_a (nextB : ∀ (w : World) (p : Program) (loose : List Str) (mean : ExcName → Option Value) (mg mb : Str → Option Value) (fa : Addr) (cd : Value) (h₀ : Heap) (L l : Addr) (u : Str → Option Value) (s : Shared) (h : Heap) (tk : Nat) (oT oB oR oD oA : Obj) (vT : Option Value) (rest : List (Addr × Obj))
    (lnum la lr : Addr) (dv : Value) (x0 x1 x2 x3 x4 bd lo hi : Int) (nv : List Value) (kn : Nat) (t1 t2 tb : Tok),
    Below callerA h₀ [] h₀ → Fr h₀ L h (kstB u [("numbers", .ref lnum), ("low", .int lo t1), ("high", .int hi t2)]) → (Mine.hd.heap_39 w.params).In h₀ → Top p loose mean mg mb h₀ →
    News h₀ L h ((L + 1 + 1 + 1 + 1 + 1, oT) :: (L + 1 + 1 + 1 + 1, oB) :: (L + 1 + 1 + 1, oR) :: (L + 1 + 1, oD) :: (L + 1, oA) :: rest) → (∀ p ∈ rest, p.1 ≠ L + 1 + 1 + 1 + 1 + 1) →
    oT.data = .cell vT → oB.data = .cell (some (.int bd tb)) → oR.data = .cell (some (.ref lr)) → oD.data = .cell (some dv) → oA.data = .cell (some (.ref la)) →
    (lnum, W.listOf nv.toArray kn) ∈ rest → IntsAre nv [x0, x1, x2, x3, x4] → StrsIn rest (.ref la) (agF x0) → DelIs dv (dlF x0) → lo = (lowF x0 : Int) → hi = (highF x0 : Int) → RowsIn rest (.ref lr) (rowsF [x1, x2, x3, x4]) →
    LawRest 3 w fa cd h₀ L s h tk) : LawWalk lawOf.1.1 lawOf.1.2.1 lawOf.1.2.2 := by
  unfold LawRest at nextB
  dsimp only [lawOf, List.drop] at nextB ⊢
  intro w p loose mean mg mb fa cd h₀ L l u vs ns s oT oB oR oD oA vT vB vR vD vA hB hF hX hN dT dB dR dD dA hT hl hI hlen
  dsimp only [kstB] at hF
  k_fold
  (repeat' (first | (k_unfold; first | walk_at "Seq" | (try dsimp only)) | ((fail_if_success ((first | with_reducible show wpAny _ _ (execs (PySem.Stmt.Assign [_] (PySem.Expr.ListComp _ _ _ _) _ :: _) _) _ _ _ | with_reducible show wpAny _ _ (call (Value.ref _) _) _ _ _ | with_reducible show wpAny _ _ (binaryOp Operator.Add (Value.ref _) (Value.ref _)) _ _ _ | with_reducible show wpAny _ _ (call (Value.builtin "sum") _) _ _ _ | with_reducible show wpAny _ _ (subscriptTail _ (PySem.Expr.Constant _ _ _) (Value.ref _) _) _ _ _ | with_reducible show wpAny _ _ (subscriptTail _ (PySem.Expr.Slice _ _ _ _) _ _) _ _ _ | with_reducible show wpAny _ _ (exec (PySem.Stmt.While _ _ _ _) _) _ _ _ | with_reducible show wpAny _ _ (exec (PySem.Stmt.For _ _ _ _ _) _) _ _ _ | with_reducible show wpAny _ _ (pyIter _) _ _ _ | with_reducible show wpAny _ _ (call (Value.type "list") _) _ _ _ | with_reducible show wpAny _ _ (call (Value.builtin "str.join") _) _ _ _ | with_reducible show wpAny _ _ (eval (PySem.Expr.ListComp _ [PySem.Comprehension.mk (PySem.Expr.Tuple _ _ _) _ _ _] _ _) _) _ _ _ | with_reducible show LCg.CompSrc _ _ _ _ _ _ _ _ _ _ _ _ _ _ | with_reducible show wpAny _ _ (execs (PySem.Stmt.If (PySem.Expr.Compare _ [CmpOp.Lt] _ _) [PySem.Stmt.Assign [PySem.Expr.Tuple _ _ _] _ _] _ _ :: _) _) _ _ _))); first | (k_end; wrow_close) | walk1 | (dsimp only; walk1) | (leave1; walk_say "STEP leave1"; try dsimp only) | fail "no step")))
  refine isl5 (show News _ _ _ [(_, W.listOf _ _), _, _, _, _, _] by k_asm) [12182, 36, 3, 294, 26] (.cons _ _ (.cons _ _ (.cons _ _ (.cons _ _ (.cons _ _ .nil))))) ?_
  intro us hus hIus
  refine kmk_add_lit (its := vs.toArray) (its2 := us.toArray) (zs := vs ++ us) (by k_asm) (by k_asm) (hl.at fun o e => Fr.keep (by k_asm) _ o e) hus rfl ?_ (by have := hI.length; have := hIus.length; rw [sizeLine_eq]; simp only [List.length_cons, List.length_nil] at *; omega)
  intro D1 h1 F1 N1 l1
  k_lt l1
  k_sweep
  (repeat' (first | (k_unfold; first | walk_at "Seq" | (try dsimp only)) | ((fail_if_success ((first | with_reducible show wpAny _ _ (execs (PySem.Stmt.Assign [_] (PySem.Expr.ListComp _ _ _ _) _ :: _) _) _ _ _ | with_reducible show wpAny _ _ (call (Value.ref _) _) _ _ _ | with_reducible show wpAny _ _ (binaryOp Operator.Add (Value.ref _) (Value.ref _)) _ _ _ | with_reducible show wpAny _ _ (call (Value.builtin "sum") _) _ _ _ | with_reducible show wpAny _ _ (subscriptTail _ (PySem.Expr.Constant _ _ _) (Value.ref _) _) _ _ _ | with_reducible show wpAny _ _ (subscriptTail _ (PySem.Expr.Slice _ _ _ _) _ _) _ _ _ | with_reducible show wpAny _ _ (exec (PySem.Stmt.While _ _ _ _) _) _ _ _ | with_reducible show wpAny _ _ (exec (PySem.Stmt.For _ _ _ _ _) _) _ _ _ | with_reducible show wpAny _ _ (pyIter _) _ _ _ | with_reducible show wpAny _ _ (call (Value.type "list") _) _ _ _ | with_reducible show wpAny _ _ (call (Value.builtin "str.join") _) _ _ _ | with_reducible show wpAny _ _ (eval (PySem.Expr.ListComp _ [PySem.Comprehension.mk (PySem.Expr.Tuple _ _ _) _ _ _] _ _) _) _ _ _ | with_reducible show LCg.CompSrc _ _ _ _ _ _ _ _ _ _ _ _ _ _ | with_reducible show wpAny _ _ (execs (PySem.Stmt.If (PySem.Expr.Compare _ [CmpOp.Lt] _ _) [PySem.Stmt.Assign [PySem.Expr.Tuple _ _ _] _ _] _ _ :: _) _) _ _ _))); first | (k_end; wrow_close) | walk1 | (dsimp only; walk1) | (leave1; walk_say "STEP leave1"; try dsimp only) | fail "no step")))
  walk1
  refine slice_to (b := 5) (by k_asm) N1 List.mem_cons_self (by have := hI.length; have := hIus.length; rw [sizeLine_eq]; simp only [List.length_append, List.length_cons, List.length_nil] at *; omega) ?_
  intro D2 h2 F2 N2 l2
  k_lt l2
  have hI5 : IntsAre ((vs ++ us).take 5) ((ns ++ [12182, 36, 3, 294, 26]).take 5) := (hI.append hIus).take 5
  obtain ⟨x0, x1, x2, x3, x4, t0, t1, t2, t3, t4, e5⟩ := ints5 hI5 (by simp)
  rw [e5] at N2
  have hI6 : IntsAre [Value.int x0 t0, .int x1 t1, .int x2 t2, .int x3 t3, .int x4 t4] [x0, x1, x2, x3, x4] := .cons _ _ (.cons _ _ (.cons _ _ (.cons _ _ (.cons _ _ .nil))))
  refine led5 N2 (a := L + 1 + 1 + 1 + 1 + 1) (b := L + 1 + 1 + 1 + 1) (c := L + 1 + 1 + 1) (d := L + 1 + 1) (e := L + 1) (by ((repeat (first | exact List.mem_cons_self | refine List.mem_cons_of_mem _ ?_)))) (by ((repeat (first | exact List.mem_cons_self | refine List.mem_cons_of_mem _ ?_)))) (by ((repeat (first | exact List.mem_cons_self | refine List.mem_cons_of_mem _ ?_)))) (by ((repeat (first | exact List.mem_cons_self | refine List.mem_cons_of_mem _ ?_)))) (by ((repeat (first | exact List.mem_cons_self | refine List.mem_cons_of_mem _ ?_)))) dT dB dR dD dA ?_
  intro rest off1 off2 off3 off4 off5 hup N3
  have hnum := hup _ List.mem_cons_self notCell_list
  clear N2 N1 hus hup l1 l2
  k_sweep
  (repeat' (first | (k_unfold; first | walk_at "Seq" | (try dsimp only)) | ((fail_if_success ((first | with_reducible show wpAny _ _ (execs (PySem.Stmt.Assign [_] (PySem.Expr.ListComp _ _ _ _) _ :: _) _) _ _ _ | with_reducible show wpAny _ _ (call (Value.ref _) _) _ _ _ | with_reducible show wpAny _ _ (binaryOp Operator.Add (Value.ref _) (Value.ref _)) _ _ _ | with_reducible show wpAny _ _ (call (Value.builtin "sum") _) _ _ _ | with_reducible show wpAny _ _ (subscriptTail _ (PySem.Expr.Constant _ _ _) (Value.ref _) _) _ _ _ | with_reducible show wpAny _ _ (subscriptTail _ (PySem.Expr.Slice _ _ _ _) _ _) _ _ _ | with_reducible show wpAny _ _ (exec (PySem.Stmt.While _ _ _ _) _) _ _ _ | with_reducible show wpAny _ _ (exec (PySem.Stmt.For _ _ _ _ _) _) _ _ _ | with_reducible show wpAny _ _ (pyIter _) _ _ _ | with_reducible show wpAny _ _ (call (Value.type "list") _) _ _ _ | with_reducible show wpAny _ _ (call (Value.builtin "str.join") _) _ _ _ | with_reducible show wpAny _ _ (eval (PySem.Expr.ListComp _ [PySem.Comprehension.mk (PySem.Expr.Tuple _ _ _) _ _ _] _ _) _) _ _ _ | with_reducible show LCg.CompSrc _ _ _ _ _ _ _ _ _ _ _ _ _ _ | with_reducible show wpAny _ _ (execs (PySem.Stmt.If (PySem.Expr.Compare _ [CmpOp.Lt] _ _) [PySem.Stmt.Assign [PySem.Expr.Tuple _ _ _] _ _] _ _ :: _) _) _ _ _))); first | (k_end; wrow_close) | walk1 | (dsimp only; walk1) | (leave1; walk_say "STEP leave1"; try dsimp only) | fail "no step")))
  refine item_led (show News _ _ _ (_ :: _ :: _ :: _ :: _ :: rest) by k_asm) (List.mem_cons_of_mem _ (List.mem_cons_of_mem _ (List.mem_cons_of_mem _ (List.mem_cons_of_mem _ (List.mem_cons_of_mem _ hnum))))) (by decide) (by decide) rfl ?_
  (repeat' (first | (k_unfold; first | walk_at "Seq" | (try dsimp only)) | ((fail_if_success ((first | with_reducible show wpAny _ _ (execs (PySem.Stmt.Assign [_] (PySem.Expr.ListComp _ _ _ _) _ :: _) _) _ _ _ | with_reducible show wpAny _ _ (call (Value.ref _) _) _ _ _ | with_reducible show wpAny _ _ (binaryOp Operator.Add (Value.ref _) (Value.ref _)) _ _ _ | with_reducible show wpAny _ _ (call (Value.builtin "sum") _) _ _ _ | with_reducible show wpAny _ _ (subscriptTail _ (PySem.Expr.Constant _ _ _) (Value.ref _) _) _ _ _ | with_reducible show wpAny _ _ (subscriptTail _ (PySem.Expr.Slice _ _ _ _) _ _) _ _ _ | with_reducible show wpAny _ _ (exec (PySem.Stmt.While _ _ _ _) _) _ _ _ | with_reducible show wpAny _ _ (exec (PySem.Stmt.For _ _ _ _ _) _) _ _ _ | with_reducible show wpAny _ _ (pyIter _) _ _ _ | with_reducible show wpAny _ _ (call (Value.type "list") _) _ _ _ | with_reducible show wpAny _ _ (call (Value.builtin "str.join") _) _ _ _ | with_reducible show wpAny _ _ (eval (PySem.Expr.ListComp _ [PySem.Comprehension.mk (PySem.Expr.Tuple _ _ _) _ _ _] _ _) _) _ _ _ | with_reducible show LCg.CompSrc _ _ _ _ _ _ _ _ _ _ _ _ _ _ | with_reducible show wpAny _ _ (execs (PySem.Stmt.If (PySem.Expr.Compare _ [CmpOp.Lt] _ _) [PySem.Stmt.Assign [PySem.Expr.Tuple _ _ _] _ _] _ _ :: _) _) _ _ _))); first | (k_end; wrow_close) | walk1 | (dsimp only; walk1) | (leave1; walk_say "STEP leave1"; try dsimp only) | fail "no step")))
  refine' ClaimD.use ?k1 ?k2 ?k3 (show News _ _ _ (_ :: _ :: _ :: _ :: _ :: rest) by k_asm) ?k5 ?kK head_c ?kd ?ku ?_
  case k1 => k_asm
  case k2 => k_asm
  case k3 => k_asm
  case k5 => k_asm
  case kK => rfl
  case kd => exact Nat.le_of_ble_eq_true rfl
  case ku => exact Nat.le_of_ble_eq_true rfl
  rintro v4 tl4 h4 tk4 ⟨ah, la, dv, th1, th2, lo, hi, kt, ka, av, rfl, elo, ehi, mh, ma, hav, hdv⟩ F4 N4 _
  refine led5 N4 (List.mem_append_right _ (by ((repeat (first | exact List.mem_cons_self | refine List.mem_cons_of_mem _ ?_))))) (List.mem_append_right _ (by ((repeat (first | exact List.mem_cons_self | refine List.mem_cons_of_mem _ ?_))))) (List.mem_append_right _ (by ((repeat (first | exact List.mem_cons_self | refine List.mem_cons_of_mem _ ?_))))) (List.mem_append_right _ (by ((repeat (first | exact List.mem_cons_self | refine List.mem_cons_of_mem _ ?_))))) (List.mem_append_right _ (by ((repeat (first | exact List.mem_cons_self | refine List.mem_cons_of_mem _ ?_))))) dT dB dR dD dA ?_
  intro rest2 off1 off2 off3 off4 off5 hup N5
  replace hnum := hup _ (List.mem_append_right _ (List.mem_cons_of_mem _ (List.mem_cons_of_mem _ (List.mem_cons_of_mem _ (List.mem_cons_of_mem _ (List.mem_cons_of_mem _ hnum)))))) notCell_list
  replace mh := hup _ (List.mem_append_left _ mh) notCell_tuple
  replace ma := hup _ (List.mem_append_left _ ma) notCell_list
  clear N4 hup
  k_sweep
  (repeat' (first | (k_unfold; first | walk_at "Seq" | (try dsimp only)) | ((fail_if_success ((first | with_reducible show wpAny _ _ (execs (PySem.Stmt.Assign [_] (PySem.Expr.ListComp _ _ _ _) _ :: _) _) _ _ _ | with_reducible show wpAny _ _ (call (Value.ref _) _) _ _ _ | with_reducible show wpAny _ _ (binaryOp Operator.Add (Value.ref _) (Value.ref _)) _ _ _ | with_reducible show wpAny _ _ (call (Value.builtin "sum") _) _ _ _ | with_reducible show wpAny _ _ (subscriptTail _ (PySem.Expr.Constant _ _ _) (Value.ref _) _) _ _ _ | with_reducible show wpAny _ _ (subscriptTail _ (PySem.Expr.Slice _ _ _ _) _ _) _ _ _ | with_reducible show wpAny _ _ (exec (PySem.Stmt.While _ _ _ _) _) _ _ _ | with_reducible show wpAny _ _ (exec (PySem.Stmt.For _ _ _ _ _) _) _ _ _ | with_reducible show wpAny _ _ (pyIter _) _ _ _ | with_reducible show wpAny _ _ (call (Value.type "list") _) _ _ _ | with_reducible show wpAny _ _ (call (Value.builtin "str.join") _) _ _ _ | with_reducible show wpAny _ _ (eval (PySem.Expr.ListComp _ [PySem.Comprehension.mk (PySem.Expr.Tuple _ _ _) _ _ _] _ _) _) _ _ _ | with_reducible show LCg.CompSrc _ _ _ _ _ _ _ _ _ _ _ _ _ _ | with_reducible show wpAny _ _ (execs (PySem.Stmt.If (PySem.Expr.Compare _ [CmpOp.Lt] _ _) [PySem.Stmt.Assign [PySem.Expr.Tuple _ _ _] _ _] _ _ :: _) _) _ _ _))); first | (k_end; wrow_close) | walk1 | (dsimp only; walk1) | (leave1; walk_say "STEP leave1"; try dsimp only) | fail "no step")))
  clear dD dA
  refine name_cells (show News _ _ _ (_ :: _ :: _ :: _ :: _ :: rest2) by k_asm) ?_
  intro _ _ _ oD oA e1 e2 e3 e4 e5
  subst e1 e2 e3 e4 e5
  have dD : oD.data = .cell (some dv) := by assumption
  have dA : oA.data = .cell (some (.ref la)) := by assumption
  refine slice_from (s := ⟨_, _, _, _, _⟩) (b := 1) (by k_asm) (show News _ _ _ (_ :: _ :: _ :: _ :: _ :: rest2) by k_asm) (List.mem_cons_of_mem _ (List.mem_cons_of_mem _ (List.mem_cons_of_mem _ (List.mem_cons_of_mem _ (List.mem_cons_of_mem _ hnum))))) (by rw [sizeLine_eq]; simp) ?_
  intro D6 h6 F6 N6 l6
  clear l6
  k_sweep
  (repeat' (first | (k_unfold; first | walk_at "Seq" | (try dsimp only)) | ((fail_if_success ((first | with_reducible show wpAny _ _ (execs (PySem.Stmt.Assign [_] (PySem.Expr.ListComp _ _ _ _) _ :: _) _) _ _ _ | with_reducible show wpAny _ _ (call (Value.ref _) _) _ _ _ | with_reducible show wpAny _ _ (binaryOp Operator.Add (Value.ref _) (Value.ref _)) _ _ _ | with_reducible show wpAny _ _ (call (Value.builtin "sum") _) _ _ _ | with_reducible show wpAny _ _ (subscriptTail _ (PySem.Expr.Constant _ _ _) (Value.ref _) _) _ _ _ | with_reducible show wpAny _ _ (subscriptTail _ (PySem.Expr.Slice _ _ _ _) _ _) _ _ _ | with_reducible show wpAny _ _ (exec (PySem.Stmt.While _ _ _ _) _) _ _ _ | with_reducible show wpAny _ _ (exec (PySem.Stmt.For _ _ _ _ _) _) _ _ _ | with_reducible show wpAny _ _ (pyIter _) _ _ _ | with_reducible show wpAny _ _ (call (Value.type "list") _) _ _ _ | with_reducible show wpAny _ _ (call (Value.builtin "str.join") _) _ _ _ | with_reducible show wpAny _ _ (eval (PySem.Expr.ListComp _ [PySem.Comprehension.mk (PySem.Expr.Tuple _ _ _) _ _ _] _ _) _) _ _ _ | with_reducible show LCg.CompSrc _ _ _ _ _ _ _ _ _ _ _ _ _ _ | with_reducible show wpAny _ _ (execs (PySem.Stmt.If (PySem.Expr.Compare _ [CmpOp.Lt] _ _) [PySem.Stmt.Assign [PySem.Expr.Tuple _ _ _] _ _] _ _ :: _) _) _ _ _))); first | (k_end; wrow_close) | walk1 | (dsimp only; walk1) | (leave1; walk_say "STEP leave1"; try dsimp only) | fail "no step")))
  refine' ClaimM.use ?k1 ?k2 ?k3 (show News _ _ _ ((D6, _) :: _ :: _ :: _ :: _ :: _ :: rest2) by k_asm) ?k5 ?kK (rows_c (xs := [x1, x2, x3, x4]) List.mem_cons_self (.cons _ _ (.cons _ _ (.cons _ _ (.cons _ _ .nil)))) (Nat.le_of_ble_eq_true rfl)) ?kd ?ku ?_
  case k1 => k_asm
  case k2 => k_asm
  case k3 => k_asm
  case k5 => k_asm
  case kK => rfl
  case kd => exact Nat.le_of_ble_eq_true rfl
  case ku => exact Nat.le_of_ble_eq_true rfl
  rintro v7 tl7 h7 tk7 hR F7 N7
  refine led5 N7 (List.mem_append_right _ (by ((repeat (first | exact List.mem_cons_self | refine List.mem_cons_of_mem _ ?_))))) (List.mem_append_right _ (by ((repeat (first | exact List.mem_cons_self | refine List.mem_cons_of_mem _ ?_))))) (List.mem_append_right _ (by ((repeat (first | exact List.mem_cons_self | refine List.mem_cons_of_mem _ ?_))))) (List.mem_append_right _ (by ((repeat (first | exact List.mem_cons_self | refine List.mem_cons_of_mem _ ?_))))) (List.mem_append_right _ (by ((repeat (first | exact List.mem_cons_self | refine List.mem_cons_of_mem _ ?_))))) dT dB dR dD dA ?_
  intro rest3 off1 off2 off3 off4 off5 hup N8
  have hup2 : ∀ q ∈ rest2, NotCell q.2 → q ∈ rest3 := fun q hq => hup q (List.mem_append_right _ (List.mem_cons_of_mem _ (List.mem_cons_of_mem _ (List.mem_cons_of_mem _ (List.mem_cons_of_mem _ (List.mem_cons_of_mem _ (List.mem_cons_of_mem _ hq)))))))
  replace hnum := hup2 _ hnum notCell_list
  replace ma := hup2 (la, W.listOf av.toArray ka) (by assumption) notCell_list
  replace hR := hR.off hup
  obtain ⟨lr, rfl⟩ : ∃ x, v7 = .ref x := by obtain ⟨x, _, _, e, _⟩ := hR; exact ⟨x, e⟩
  clear N7 hup hup2 N6 mh
  k_sweep
  (repeat' (first | (k_unfold; first | walk_at "Seq" | (try dsimp only)) | ((fail_if_success ((first | with_reducible show wpAny _ _ (execs (PySem.Stmt.Assign [_] (PySem.Expr.ListComp _ _ _ _) _ :: _) _) _ _ _ | with_reducible show wpAny _ _ (call (Value.ref _) _) _ _ _ | with_reducible show wpAny _ _ (binaryOp Operator.Add (Value.ref _) (Value.ref _)) _ _ _ | with_reducible show wpAny _ _ (call (Value.builtin "sum") _) _ _ _ | with_reducible show wpAny _ _ (subscriptTail _ (PySem.Expr.Constant _ _ _) (Value.ref _) _) _ _ _ | with_reducible show wpAny _ _ (subscriptTail _ (PySem.Expr.Slice _ _ _ _) _ _) _ _ _ | with_reducible show wpAny _ _ (exec (PySem.Stmt.While _ _ _ _) _) _ _ _ | with_reducible show wpAny _ _ (exec (PySem.Stmt.For _ _ _ _ _) _) _ _ _ | with_reducible show wpAny _ _ (pyIter _) _ _ _ | with_reducible show wpAny _ _ (call (Value.type "list") _) _ _ _ | with_reducible show wpAny _ _ (call (Value.builtin "str.join") _) _ _ _ | with_reducible show wpAny _ _ (eval (PySem.Expr.ListComp _ [PySem.Comprehension.mk (PySem.Expr.Tuple _ _ _) _ _ _] _ _) _) _ _ _ | with_reducible show LCg.CompSrc _ _ _ _ _ _ _ _ _ _ _ _ _ _ | with_reducible show wpAny _ _ (execs (PySem.Stmt.If (PySem.Expr.Compare _ [CmpOp.Lt] _ _) [PySem.Stmt.Assign [PySem.Expr.Tuple _ _ _] _ _] _ _ :: _) _) _ _ _))); first | (k_end; wrow_close) | walk1 | (dsimp only; walk1) | (leave1; walk_say "STEP leave1"; try dsimp only) | fail "no step")))
  refine sumK rfl (by k_asm) (show News _ _ _ (_ :: _ :: _ :: _ :: _ :: rest3) by k_asm) (hl.at fun o e => Fr.keep (by k_asm) _ o e) hI ?_
  intro h9 tk9 t9 F9 N9
  generalize ns.sum = bd
  k_sweep
  (repeat' (first | (k_unfold; first | walk_at "Seq" | (try dsimp only)) | ((fail_if_success ((first | with_reducible show wpAny _ _ (execs (PySem.Stmt.Assign [_] (PySem.Expr.ListComp _ _ _ _) _ :: _) _) _ _ _ | with_reducible show wpAny _ _ (call (Value.ref _) _) _ _ _ | with_reducible show wpAny _ _ (binaryOp Operator.Add (Value.ref _) (Value.ref _)) _ _ _ | with_reducible show wpAny _ _ (call (Value.builtin "sum") _) _ _ _ | with_reducible show wpAny _ _ (subscriptTail _ (PySem.Expr.Constant _ _ _) (Value.ref _) _) _ _ _ | with_reducible show wpAny _ _ (subscriptTail _ (PySem.Expr.Slice _ _ _ _) _ _) _ _ _ | with_reducible show wpAny _ _ (exec (PySem.Stmt.While _ _ _ _) _) _ _ _ | with_reducible show wpAny _ _ (exec (PySem.Stmt.For _ _ _ _ _) _) _ _ _ | with_reducible show wpAny _ _ (pyIter _) _ _ _ | with_reducible show wpAny _ _ (call (Value.type "list") _) _ _ _ | with_reducible show wpAny _ _ (call (Value.builtin "str.join") _) _ _ _ | with_reducible show wpAny _ _ (eval (PySem.Expr.ListComp _ [PySem.Comprehension.mk (PySem.Expr.Tuple _ _ _) _ _ _] _ _) _) _ _ _ | with_reducible show LCg.CompSrc _ _ _ _ _ _ _ _ _ _ _ _ _ _ | with_reducible show wpAny _ _ (execs (PySem.Stmt.If (PySem.Expr.Compare _ [CmpOp.Lt] _ _) [PySem.Stmt.Assign [PySem.Expr.Tuple _ _ _] _ _] _ _ :: _) _) _ _ _))); first | (k_end; wrow_close) | walk1 | (dsimp only; walk1) | (leave1; walk_say "STEP leave1"; try dsimp only) | fail "no step")))
  refine led_up (show News _ _ _ (_ :: _ :: _ :: _ :: _ :: _ :: rest3) by k_asm) (fun q hq => List.mem_cons_of_mem _ hq) ?_
  intro _ _ _ N10
  clear dB dR
  refine name_cells (show News _ _ _ (_ :: _ :: _ :: _ :: _ :: rest3) from fun q hq => (show News _ _ _ (_ :: _ :: _ :: _ :: _ :: _ :: rest3) by k_asm) q (List.mem_cons_of_mem _ hq)) ?_
  intro _ oB oR _ _ e1 e2 e3 e4 e5
  subst e1 e2 e3 e4 e5
  dsimp only
  refine nextB w p loose mean mg mb fa cd h₀ L l _ s _ _ _ oB oR _ _ vT rest3 D2 la lr dv x0 x1 x2 x3 x4 bd lo hi _ _ th1 th2 _ hB (fr_ps (by k_asm) (ps_cons rfl (ps_cons rfl (ps_cons rfl ps_nil)))) (by k_asm) hT (fun q hq => (show News _ _ _ (_ :: _ :: _ :: _ :: _ :: _ :: rest3) by k_asm) q (List.mem_cons_of_mem _ hq)) off1 dT (by assumption) (by assumption) dD dA hnum hI6 ⟨la, av, ka, rfl, by assumption, hav⟩ hdv elo ehi hR
end
end

section
open PySem PySem.W PyProof.Rows
section
theorem RecIn.mono {w : World} {nw nw' : List (Addr × Obj)} {v : Value} {ag ru : List Str} {dl : Option Int} (h : RecIn w nw v ag dl ru) (k : ∀ q ∈ nw, q ∈ nw') : RecIn w nw' v ag dl ru := by
  obtain ⟨x, d, l1, l2, t1, t2, t3, t4, v1, v2, k1, k2, dv, e, m1, m2, m3, m4, r⟩ := h
  exact ⟨x, d, l1, l2, t1, t2, t3, t4, v1, v2, k1, k2, dv, e, k _ m1, k _ m2, k _ m3, k _ m4, r⟩
theorem RecIn.off {w : World} {nw nw' : List (Addr × Obj)} {v : Value} {ag ru : List Str} {dl : Option Int} (h : RecIn w nw v ag dl ru) (k : ∀ q ∈ nw, NotCell q.2 → q ∈ nw') : RecIn w nw' v ag dl ru := by
  obtain ⟨x, d, l1, l2, t1, t2, t3, t4, v1, v2, k1, k2, dv, e, m1, m2, m3, m4, r⟩ := h
  exact ⟨x, d, l1, l2, t1, t2, t3, t4, v1, v2, k1, k2, dv, e, k _ m1 notCell_inst, k _ m2 notCell_dict, k _ m3 notCell_list, k _ m4 notCell_list, r⟩
theorem RecIn.ref {w : World} {nw : List (Addr × Obj)} {v : Value} {ag ru : List Str} {dl : Option Int} (h : RecIn w nw v ag dl ru) : ∃ x, v = .ref x := by
  obtain ⟨x, d, l1, l2, t1, t2, t3, t4, v1, v2, k1, k2, dv, e, _⟩ := h
  exact ⟨x, e⟩
theorem RowsIn.mono {nw nw' : List (Addr × Obj)} {v : Value} {rows : List (List Str)} (h : RowsIn nw v rows) (k : ∀ q ∈ nw, q ∈ nw') : RowsIn nw' v rows := by
  obtain ⟨l, vs, ep, e, hm, hA⟩ := h
  exact ⟨l, vs, ep, e, k _ hm, hA.mono fun _ _ r => r.mono k⟩
theorem All2.snoc_inv {α β : Type} {R : α → β → Prop} : ∀ {as : List α} {bs : List β} {b : β}, All2 R as (bs ++ [b]) → ∃ us u, as = us ++ [u] ∧ All2 R us bs ∧ R u b
  | _, [], b, h => by
    cases h with
    | cons r h => cases h; exact ⟨[], _, rfl, .nil, r⟩
  | _, b0 :: bs, b, h => by
    cases h with
    | cons r h =>
      obtain ⟨us, u, rfl, h1, h2⟩ := All2.snoc_inv h
      exact ⟨_ :: us, u, rfl, .cons r h1, h2⟩
theorem StrsAre.snoc_inv : ∀ {as : List Value} {bs : List Str} {b : Str}, StrsAre as (bs ++ [b]) → ∃ us t, as = us ++ [.str b t] ∧ StrsAre us bs
  | _, [], b, h => by
    cases h with
    | cons x t h => cases h; exact ⟨[], t, rfl, .nil⟩
  | _, b0 :: bs, b, h => by
    cases h with
    | cons x t h =>
      obtain ⟨us, u, rfl, h1⟩ := StrsAre.snoc_inv h
      exact ⟨_ :: us, u, rfl, .cons _ _ h1⟩
theorem off3_app {I C D : Addr} {oI oC oD : Obj} {tl nw : List (Addr × Obj)} (off : LCg.Off3 I C D nw) (ord : ∀ p ∈ (I, oI) :: (C, oC) :: (D, oD) :: nw, ∀ q ∈ tl, @Ne Nat p.1 q.1) : LCg.Off3 I C D (tl ++ nw) := by
  have off' := off.mem
  refine LCg.Off3.of fun q hq => ?_
  rcases List.mem_append.mp hq with hq | hq
  · exact ⟨fun e => ord (I, oI) (List.Mem.head _) q hq e.symm, fun e => ord (C, oC) (List.Mem.tail _ (List.Mem.head _)) q hq e.symm, fun e => ord (D, oD) (List.Mem.tail _ (List.Mem.tail _ (List.Mem.head _))) q hq e.symm⟩
  · exact off' q hq
theorem sub_app {α : Type} {a b c : α} {tl nw : List α} : ∀ q ∈ a :: b :: c :: (tl ++ nw), q ∈ tl ++ (a :: b :: c :: nw) := by
  intro q hq
  simp only [List.mem_cons, List.mem_append] at hq ⊢
  rcases hq with h | h | h | h | h
  · exact .inr (.inl h)
  · exact .inr (.inr (.inl h))
  · exact .inr (.inr (.inr (.inl h)))
  · exact .inl h
  · exact .inr (.inr (.inr (.inr h)))
theorem led1 {h₀ h : Heap} {L : Addr} {nw : List (Addr × Obj)} {a : Addr} {oa : Obj} {va : Option Value} {G : Prop} (N : News h₀ L h nw) (ha : (a, oa) ∈ nw) (da : oa.data = .cell va)
    (k : ∀ rest, (∀ p ∈ rest, p.1 ≠ a) → (∀ q ∈ nw, NotCell q.2 → q ∈ rest) → (∀ q ∈ nw, q.1 ≠ a → q ∈ rest) → News h₀ L h ((a, oa) :: rest) → G) : G := by
  refine k (nw.filter fun p => ¬ p.1 = a) (fun p hp h => of_decide_eq_true (List.mem_filter.mp hp).2 h) (fun q hq hn => List.mem_filter.mpr ⟨hq, decide_eq_true fun e => ?_⟩) (fun q hq hn => List.mem_filter.mpr ⟨hq, decide_eq_true hn⟩) (fun p hp => ?_)
  · have g := (N _ ha).1
    have g2 := (N q hq).1
    rw [e] at g2
    exact hn _ ((congrArg Obj.data (Option.some.inj (g.symm.trans g2))).symm.trans da)
  · rcases List.mem_cons.mp hp with rfl | hp
    · exact N _ ha
    · exact N _ (List.mem_filter.mp hp).1
noncomputable def recsF (dl : Option Int) : List (List Str) → List (Option Int × List Str)
  | [] => []
  | r :: rs => (dl, r) :: rs.map fun r => (none, r)
theorem recsF_len (dl : Option Int) (rows : List (List Str)) : (recsF dl rows).length = rows.length := by cases rows <;> simp [recsF]
theorem recsF_get {dl : Option Int} {rows : List (List Str)} {i : Nat} {r : List Str} (h : rows[i]? = some r) : (recsF dl rows)[i]? = some (if i = 0 then dl else none, r) := by
  cases rows with
  | nil => simp at h
  | cons r0 rs =>
    cases i with
    | zero => simp [recsF] at h ⊢; exact h
    | succ i => simp [recsF] at h ⊢; first | exact h | exact ⟨r, h, rfl⟩
noncomputable def accF (rows : List (List Str)) : List (List Str) := (List.range rows.length).map fun k => (rows.take (k + 1)).flatten
noncomputable def textOf (ag : List Str) (dl : Option Int) (ru : List Str) : Str := Txt.join (Str.ofString "\n") (textLines ag dl ru)
noncomputable def ring4 : List Str := [Str.ofString "a", Str.ofString "*", Str.ofString "bc", Str.ofString "d"]
structure Good (ag : List Str) (dl : Option Int) (rows : List (List Str)) : Prop where
  ag1 : 1 ≤ ag.length
  ag3 : ag.length ≤ 3
  agl : ∀ a ∈ ag, a.length ≤ 2
  dl100 : ∀ n, dl = some n → 0 ≤ n ∧ n < 100
  rows1 : 1 ≤ rows.length
  rows3 : rows.length ≤ 3
  flat4 : rows.flatten.length ≤ 4
  ne : ∀ r ∈ rows, r ≠ []
  rule3 : ∀ r ∈ rows, ∀ x ∈ r, x.length ≤ 3
  agc : ∀ a ∈ ag, a ∈ ring4
  agn : ag.Nodup
  rulec : ∀ r ∈ rows, ∀ x ∈ r, ∀ c ∈ x.cps.toList, c ∈ [47, 97, 65, 36]
noncomputable def LoHi (ag : List Str) (lo hi : Int) : Prop := ∃ l h : Nat, lo = l ∧ hi = h ∧ l ≤ h ∧ h ≤ ag.length
theorem flatten_le {rows : List (List Str)} {r : List Str} (h : r ∈ rows) : r.length ≤ rows.flatten.length := by
  induction rows with
  | nil => exact nomatch h
  | cons a rs ih =>
    rw [List.flatten_cons, List.length_append]
    rcases List.mem_cons.mp h with rfl | h
    · omega
    · have := ih h; omega
theorem len_led {prog : Program} {w : World} {A : Around} {E : Value → Shared → Prop} {s : Shared} {h₀ : Heap} {L l : Addr} {news : List (Addr × Obj)} {vs : List Value} {c n : Nat} {Q : Value → Shared → Prop} (N : News h₀ L s.heap news) (hm : (l, W.listOf vs.toArray c) ∈ news) (hn : vs.length = n) (hb : n ≤ 4096)
    (h : Q (.int (n : Int) (s.toks + 1)) { s with toks := s.toks + 1 + 1 }) : wpAny (model prog w) A (call (.builtin "len") [.ref l]) Q E s := by
  have e : vs.toArray.size = n := by simp [hn]
  refine len_list (isl N hm) (by rw [e]; omega) ?_
  rw [e]
  exact h
end
end

section
open PySem PySem.W PyProof.Rows
section
noncomputable def nl : Str := Str.ofString "\n"
theorem nl_eq : nl = ⟨#[10]⟩ := by decide
theorem txt_join (sep : Str) (xs : List Str) : Txt.join sep xs = Str.join sep xs := StrLaws.glued_eq_join sep xs
theorem join_app (s : Str) : ∀ (xs ys : List Str), xs ≠ [] → ys ≠ [] → Str.join s xs ++ s ++ Str.join s ys = Str.join s (xs ++ ys)
  | [], _, h, _ => absurd rfl h
  | [x], [], _, h => absurd rfl h
  | [x], y :: ys, _, _ => rfl
  | x :: x2 :: xs, ys, _, hy => by
    have ih := join_app s (x2 :: xs) ys (by simp) hy
    show x ++ s ++ Str.join s (x2 :: xs) ++ s ++ Str.join s ys = x ++ s ++ Str.join s (x2 :: xs ++ ys)
    rw [← ih]
    refine Str.ext' ?_
    simp only [Str.cps_append, Array.append_assoc]
theorem join_glue {xs ys : List Str} (hx : xs ≠ []) (hy : ys ≠ []) : Txt.join nl xs ++ nl ++ Txt.join nl ys = Txt.join nl (xs ++ ys) := by
  rw [txt_join, txt_join, txt_join]
  exact join_app nl xs ys hx hy
theorem textLines_ne {ag : List Str} {dl : Option Int} {ru : List Str} (h : 1 ≤ ag.length) : textLines ag dl ru ≠ [] := by
  intro e
  have := congrArg List.length e
  simp only [textLines, List.length_append, List.length_map, List.length_nil] at this
  omega
theorem text_glue {ag : List Str} {dl : Option Int} {a r : List Str} (h : 1 ≤ ag.length) (hr : r ≠ []) : textOf ag dl a ++ Str.ofString "\n" ++ Txt.join (Str.ofString "\n") r = textOf ag dl (a ++ r) := by
  have := join_glue (textLines_ne (dl := dl) (ru := a) h) hr
  unfold textOf
  rw [show textLines ag dl (a ++ r) = textLines ag dl a ++ r by simp [textLines]]
  exact this
theorem accF_get {rows : List (List Str)} {i : Nat} (h : i < rows.length) : (accF rows)[i]? = some ((rows.take (i + 1)).flatten) := by
  unfold accF
  rw [List.getElem?_map, List.getElem?_range h]
  rfl
theorem accF_len (rows : List (List Str)) : (accF rows).length = rows.length := by simp [accF]
theorem accF_take1 (r : List Str) (rs : List (List Str)) : (accF (r :: rs)).take 1 = [r] := by
  have := accF_get (rows := r :: rs) (i := 0) (by simp)
  rw [List.take_add_one, this]
  simp
theorem accF_succ {rows : List (List Str)} {i : Nat} {r : List Str} (h : rows[i]? = some r) : (rows.take (i + 1)).flatten = (rows.take i).flatten ++ r := by
  rw [List.take_add_one, h, List.flatten_append]
  simp
theorem flatten_take_le (rows : List (List Str)) (k : Nat) : (rows.take k).flatten.length ≤ rows.flatten.length := by
  have e : rows.flatten = (rows.take k).flatten ++ (rows.drop k).flatten := by rw [← List.flatten_append, List.take_append_drop]
  rw [e, List.length_append]
  omega
theorem text_len {ag ru : List Str} {dl : Option Int} (ha : ag.length ≤ 3) (hr : ru.length ≤ 4) (hal : ∀ x ∈ ag, x.length ≤ 4) (hrl : ∀ x ∈ ru, x.length ≤ 6) (hd : ∀ n, dl = some n → 0 ≤ n ∧ n < 100) : (textOf ag dl ru).length ≤ 1000 := by
  have hb : ∀ x ∈ textLines ag dl ru, x.length ≤ 80 := by
    intro x hx
    unfold textLines at hx
    rcases List.mem_append.mp hx with hx | hx
    · rcases List.mem_append.mp hx with hx | hx
      · obtain ⟨y, hy, rfl⟩ := List.mem_map.mp hx
        exact agentLine_len (Nat.le_trans (hal y hy) (by decide))
      · cases dl with
        | none => exact nomatch hx
        | some n =>
          obtain ⟨h0, h1⟩ := hd n rfl
          simp only [delLine, List.mem_singleton] at hx
          subst hx
          exact delLine_len h0 h1
    · exact Nat.le_trans (hrl x hx) (by decide)
  have hl : (textLines ag dl ru).length ≤ 8 := by
    unfold textLines
    simp only [List.length_append, List.length_map]
    have : (delLine dl).length ≤ 1 := by cases dl <;> simp [delLine]
    omega
  have h1 := sum_len hb
  have h2 := StrLaws.join_length_le (Str.ofString "\n") (textLines ag dl ru)
  have h3 : (Str.ofString "\n").length = 1 := by decide
  rw [← txt_join, h3] at h2
  have h4 := Nat.mul_le_mul_right 80 hl
  unfold textOf
  omega
theorem join_len {ru : List Str} (hr : ru.length ≤ 4) (hrl : ∀ x ∈ ru, x.length ≤ 6) : (Txt.join (Str.ofString "\n") ru).length ≤ 100 := by
  have h1 := sum_len hrl
  have h2 := StrLaws.join_length_le (Str.ofString "\n") ru
  have h3 : (Str.ofString "\n").length = 1 := by decide
  rw [← txt_join, h3] at h2
  have h4 := Nat.mul_le_mul_right 6 hr
  omega
end
end

section
open PySem PySem.W PyProof.Rows
local macro_rules | `(tactic| walk_at "eval Name") => `(tactic| (k_here; (with_reducible show wpAny _ _ (eval (Expr.Name _ _) (compEnvC _ _ _ _)) _ _ _); k_dflt (first | refine LCgL.ld_own (by k_asm) (List.mem_cons_of_mem _ List.mem_cons_self) (by assumption) (by assumption) ?_ | refine LCgL.ld_global (by k_asm) (by k_asm) (by k_asm) (by k_is) ?_)))

section
open PySem PySem.W PyProof.Rows
section
theorem name_two {h₀ h : Heap} {L a b c d : Addr} {oa ob oc od : Obj} {rest : List (Addr × Obj)} {G : Prop} (N : News h₀ L h ((a, oa) :: (b, ob) :: (c, oc) :: (d, od) :: rest))
    (k : ∀ b' od', b' = b → od' = od → News h₀ L h ((c, oc) :: (b', ob) :: (d, od') :: rest) → G) : G := k _ _ rfl rfl (fun q hq => N q (by
      simp only [List.mem_cons] at hq ⊢
      rcases hq with h | h | h
      · exact .inr (.inr (.inl h))
      · exact .inr (.inl h)
      · exact .inr (.inr (.inr h))))
theorem law_b (nextB2 : ∀ (w : World) (p : Program) (loose : List Str) (mean : ExcName → Option Value) (mg mb : Str → Option Value) (fa : Addr) (cd : Value) (h₀ : Heap) (L : Addr) (u : Str → Option Value) (s : Shared) (h : Heap) (tk : Nat) (oT oB oR oD oA : Obj) (rest : List (Addr × Obj))
    (lnum la lr lrec lbk lt : Addr) (dv : Value) (bd lo hi : Int) (nv rv bv tv : List Value) (xs : List Int) (kn kr kb kt : Nat) (t1 t2 tb : Tok) (ag : List Str) (dl : Option Int) (rows : List (List Str)) (r0 : List Str) (rs : List (List Str)),
    Below callerA h₀ [] h₀ → Fr h₀ L h (kstB u [("numbers", .ref lnum), ("low", .int lo t1), ("high", .int hi t2), ("records", .ref lrec), ("books", .ref lbk)]) → (Mine.hd.heap_39 w.params).In h₀ → Top p loose mean mg mb h₀ →
    News h₀ L h ((lbk, W.listOf bv.toArray kb) :: (lt, W.listOf tv.toArray kt) :: rest) → @Ne Nat lbk lt → (∀ p ∈ rest, p.1 ≠ lbk) → (∀ p ∈ rest, p.1 ≠ lt) →
    (L + 1 + 1 + 1 + 1 + 1, oT) ∈ rest → (L + 1 + 1 + 1 + 1, oB) ∈ rest → (L + 1 + 1 + 1, oR) ∈ rest → (L + 1 + 1, oD) ∈ rest → (L + 1, oA) ∈ rest →
    oT.data = .cell (some (.ref lt)) → oB.data = .cell (some (.int bd tb)) → oR.data = .cell (some (.ref lr)) → oD.data = .cell (some dv) → oA.data = .cell (some (.ref la)) →
    (lnum, W.listOf nv.toArray kn) ∈ rest → IntsAre nv xs → StrsIn rest (.ref la) ag → DelIs dv dl → RowsIn rest (.ref lr) rows → Good ag dl rows → LoHi ag lo hi → rows = r0 :: rs →
    (lrec, W.listOf rv.toArray kr) ∈ rest → All2 (fun v (r : Option Int × List Str) => RecIn w rest v ag r.1 r.2) rv (recsF dl rows) →
    All2 (fun v r => RecIn w rest v ag dl r) bv [r0] → StrsAre tv [textOf ag dl r0] →
    LawRest 5 w fa cd h₀ L s h tk)
    (w : World) (p : Program) (loose : List Str) (mean : ExcName → Option Value) (mg mb : Str → Option Value) (fa : Addr) (cd : Value) (h₀ : Heap) (L : Addr) (u : Str → Option Value) (s : Shared) (h : Heap) (tk : Nat) (oT oB oR oD oA : Obj) (vT : Option Value) (rest : List (Addr × Obj))
    (lnum la lr : Addr) (dv : Value) (xs : List Int) (bd lo hi : Int) (nv : List Value) (kn : Nat) (t1 t2 tb : Tok) (ag : List Str) (dl : Option Int) (rows : List (List Str))
    (hB : Below callerA h₀ [] h₀) (hF : Fr h₀ L h (kstB u [("numbers", .ref lnum), ("low", .int lo t1), ("high", .int hi t2)])) (hX : (Mine.hd.heap_39 w.params).In h₀) (hT : Top p loose mean mg mb h₀)
    (hN : News h₀ L h ((L + 1 + 1 + 1 + 1 + 1, oT) :: (L + 1 + 1 + 1 + 1, oB) :: (L + 1 + 1 + 1, oR) :: (L + 1 + 1, oD) :: (L + 1, oA) :: rest)) (off1 : ∀ p ∈ rest, p.1 ≠ L + 1 + 1 + 1 + 1 + 1)
    (dT : oT.data = .cell vT) (dB : oB.data = .cell (some (.int bd tb))) (dR : oR.data = .cell (some (.ref lr))) (dD : oD.data = .cell (some dv)) (dA : oA.data = .cell (some (.ref la)))
    (hnum : (lnum, W.listOf nv.toArray kn) ∈ rest) (hI : IntsAre nv xs) (hag : StrsIn rest (.ref la) ag) (hdv : DelIs dv dl) (hR : RowsIn rest (.ref lr) rows) (hG : Good ag dl rows) (hlh : LoHi ag lo hi) :
    LawRest 3 w fa cd h₀ L s h tk := by
  unfold LawRest at nextB2 ⊢
  dsimp only [lawOf, List.drop] at nextB2 ⊢
  dsimp only [kstB] at hF
  obtain ⟨ag1, ag3, agl, dl100, rows1, rows3, flat4, hne, rule3, agc, agn, rulec⟩ := id hG
  obtain ⟨nw0, enw0⟩ : ∃ z, z = (L + 1 + 1 + 1 + 1 + 1, oT) :: (L + 1 + 1 + 1 + 1, oB) :: (L + 1 + 1 + 1, oR) :: (L + 1 + 1, oD) :: (L + 1, oA) :: rest := ⟨_, rfl⟩
  have mT : (L + 1 + 1 + 1 + 1 + 1, oT) ∈ nw0 := by rw [enw0]; ((repeat (first | exact List.mem_cons_self | refine List.mem_cons_of_mem _ ?_)))
  have mB : (L + 1 + 1 + 1 + 1, oB) ∈ nw0 := by rw [enw0]; ((repeat (first | exact List.mem_cons_self | refine List.mem_cons_of_mem _ ?_)))
  have mR : (L + 1 + 1 + 1, oR) ∈ nw0 := by rw [enw0]; ((repeat (first | exact List.mem_cons_self | refine List.mem_cons_of_mem _ ?_)))
  have mD : (L + 1 + 1, oD) ∈ nw0 := by rw [enw0]; ((repeat (first | exact List.mem_cons_self | refine List.mem_cons_of_mem _ ?_)))
  have mA : (L + 1, oA) ∈ nw0 := by rw [enw0]; ((repeat (first | exact List.mem_cons_self | refine List.mem_cons_of_mem _ ?_)))
  have hup0 : ∀ q ∈ rest, q ∈ nw0 := fun q hq => by rw [enw0]; exact List.mem_cons_of_mem _ (List.mem_cons_of_mem _ (List.mem_cons_of_mem _ (List.mem_cons_of_mem _ (List.mem_cons_of_mem _ hq))))
  rw [← enw0] at hN
  replace hnum := hup0 _ hnum
  replace hag := hag.mono hup0
  replace hR := hR.mono hup0
  clear enw0 hup0 off1
  obtain ⟨lr', rvv, krv, e9, hrm, hrA⟩ := id hR
  cases e9
  have hrl := hrA.length
  (try k_fold)
  (repeat' (first | (k_unfold; first | walk_at "Seq" | (try dsimp only)) | ((fail_if_success ((first | with_reducible show wpAny _ _ (execs (PySem.Stmt.For _ _ _ _ _ :: _) _) _ _ _ | with_reducible show wpAny _ _ (exec (PySem.Stmt.Assign [_] (PySem.Expr.ListComp _ _ _ _) _) _) _ _ _ | with_reducible show wpAny _ _ (call (Value.ref _) _) _ _ _ | with_reducible show wpAny _ _ (call (Value.builtin "len") _) _ _ _ | with_reducible show wpAny _ _ (call (Value.builtin "list.append") _) _ _ _ | with_reducible show wpAny _ _ (subscriptTail _ (PySem.Expr.UnaryOp _ _ _) (Value.ref _) _) _ _ _ | with_reducible show wpAny _ _ (subscriptTail _ (PySem.Expr.Name _ _) (Value.ref _) _) _ _ _ | with_reducible show wpAny _ _ (subscriptTail _ (PySem.Expr.Constant _ _ _) (Value.ref _) _) _ _ _ | with_reducible show wpAny _ _ (subscriptTail _ (PySem.Expr.Slice _ _ _ _) _ _) _ _ _ | with_reducible show wpAny _ _ (exec (PySem.Stmt.While _ _ _ _) _) _ _ _ | with_reducible show wpAny _ _ (exec (PySem.Stmt.For _ _ _ _ _) _) _ _ _ | with_reducible show wpAny _ _ (pyIter _) _ _ _ | with_reducible show wpAny _ _ (call (Value.type "list") _) _ _ _ | with_reducible show wpAny _ _ (call (Value.builtin "str.join") _) _ _ _ | with_reducible show wpAny _ _ (eval (PySem.Expr.ListComp _ [PySem.Comprehension.mk (PySem.Expr.Tuple _ _ _) _ _ _] _ _) _) _ _ _ | with_reducible show LCg.CompSrc _ _ _ _ _ _ _ _ _ _ _ _ _ _ | with_reducible show wpAny _ _ (execs (PySem.Stmt.If (PySem.Expr.Compare _ [CmpOp.Lt] _ _) [PySem.Stmt.Assign [PySem.Expr.Tuple _ _ _] _ _] _ _ :: _) _) _ _ _))); first | (k_end; wrow_close) | walk1 | (dsimp only; walk1) | (leave1; walk_say "STEP leave1"; try dsimp only) | fail "no step")))
  refine LCg.Assign_ListComp_U (F₀ := by k_asm) (by rfl) (by with_unfolding_all rfl) (by with_unfolding_all rfl) (by decide) (by rfl) (by decide) (by rfl) (by rfl) (by rfl) ?_
  (repeat' (first | (k_unfold; first | walk_at "Seq" | (try dsimp only)) | ((fail_if_success ((first | with_reducible show wpAny _ _ (execs (PySem.Stmt.For _ _ _ _ _ :: _) _) _ _ _ | with_reducible show wpAny _ _ (exec (PySem.Stmt.Assign [_] (PySem.Expr.ListComp _ _ _ _) _) _) _ _ _ | with_reducible show wpAny _ _ (call (Value.ref _) _) _ _ _ | with_reducible show wpAny _ _ (call (Value.builtin "len") _) _ _ _ | with_reducible show wpAny _ _ (call (Value.builtin "list.append") _) _ _ _ | with_reducible show wpAny _ _ (subscriptTail _ (PySem.Expr.UnaryOp _ _ _) (Value.ref _) _) _ _ _ | with_reducible show wpAny _ _ (subscriptTail _ (PySem.Expr.Name _ _) (Value.ref _) _) _ _ _ | with_reducible show wpAny _ _ (subscriptTail _ (PySem.Expr.Constant _ _ _) (Value.ref _) _) _ _ _ | with_reducible show wpAny _ _ (subscriptTail _ (PySem.Expr.Slice _ _ _ _) _ _) _ _ _ | with_reducible show wpAny _ _ (exec (PySem.Stmt.While _ _ _ _) _) _ _ _ | with_reducible show wpAny _ _ (exec (PySem.Stmt.For _ _ _ _ _) _) _ _ _ | with_reducible show wpAny _ _ (pyIter _) _ _ _ | with_reducible show wpAny _ _ (call (Value.type "list") _) _ _ _ | with_reducible show wpAny _ _ (call (Value.builtin "str.join") _) _ _ _ | with_reducible show wpAny _ _ (eval (PySem.Expr.ListComp _ [PySem.Comprehension.mk (PySem.Expr.Tuple _ _ _) _ _ _] _ _) _) _ _ _ | with_reducible show LCg.CompSrc _ _ _ _ _ _ _ _ _ _ _ _ _ _ | with_reducible show wpAny _ _ (execs (PySem.Stmt.If (PySem.Expr.Compare _ [CmpOp.Lt] _ _) [PySem.Stmt.Assign [PySem.Expr.Tuple _ _ _] _ _] _ _ :: _) _) _ _ _))); first | (k_end; wrow_close) | walk1 | (dsimp only; walk1) | (leave1; walk_say "STEP leave1"; try dsimp only) | fail "no step")))
  refine len_led (n := rows.length) hN hrm hrl (by omega) ?_
  (repeat' (first | (k_unfold; first | walk_at "Seq" | (try dsimp only)) | ((fail_if_success ((first | with_reducible show wpAny _ _ (execs (PySem.Stmt.For _ _ _ _ _ :: _) _) _ _ _ | with_reducible show wpAny _ _ (exec (PySem.Stmt.Assign [_] (PySem.Expr.ListComp _ _ _ _) _) _) _ _ _ | with_reducible show wpAny _ _ (call (Value.ref _) _) _ _ _ | with_reducible show wpAny _ _ (call (Value.builtin "len") _) _ _ _ | with_reducible show wpAny _ _ (call (Value.builtin "list.append") _) _ _ _ | with_reducible show wpAny _ _ (subscriptTail _ (PySem.Expr.UnaryOp _ _ _) (Value.ref _) _) _ _ _ | with_reducible show wpAny _ _ (subscriptTail _ (PySem.Expr.Name _ _) (Value.ref _) _) _ _ _ | with_reducible show wpAny _ _ (subscriptTail _ (PySem.Expr.Constant _ _ _) (Value.ref _) _) _ _ _ | with_reducible show wpAny _ _ (subscriptTail _ (PySem.Expr.Slice _ _ _ _) _ _) _ _ _ | with_reducible show wpAny _ _ (exec (PySem.Stmt.While _ _ _ _) _) _ _ _ | with_reducible show wpAny _ _ (exec (PySem.Stmt.For _ _ _ _ _) _) _ _ _ | with_reducible show wpAny _ _ (pyIter _) _ _ _ | with_reducible show wpAny _ _ (call (Value.type "list") _) _ _ _ | with_reducible show wpAny _ _ (call (Value.builtin "str.join") _) _ _ _ | with_reducible show wpAny _ _ (eval (PySem.Expr.ListComp _ [PySem.Comprehension.mk (PySem.Expr.Tuple _ _ _) _ _ _] _ _) _) _ _ _ | with_reducible show LCg.CompSrc _ _ _ _ _ _ _ _ _ _ _ _ _ _ | with_reducible show wpAny _ _ (execs (PySem.Stmt.If (PySem.Expr.Compare _ [CmpOp.Lt] _ _) [PySem.Stmt.Assign [PySem.Expr.Tuple _ _ _] _ _] _ _ :: _) _) _ _ _))); first | (k_end; wrow_close) | walk1 | (dsimp only; walk1) | (leave1; walk_say "STEP leave1"; try dsimp only) | fail "no step")))
  dsimp only
  refine name_led (show News _ _ _ nw0 by k_asm) ?_
  intro nw1 e1 N1
  subst e1
  refine' LCg.CompSrc.range (news := nw1) (a := 0) (b := (rows.length : Int)) (n := rows.length) rfl ?F ?N ?hr (small_one (by omega) (by omega) (by omega) (by omega)) (by rw [rangeSize_nat]; omega) (by rw [sizeLine_eq]; omega) ?_
  case F => k_asm
  case N => exact N1
  case hr => assumption
  intro g
  refine comp_rest (fun i ys nw => (∀ q ∈ nw1, q ∈ nw) ∧ All2 (fun v (r : Option Int × List Str) => RecIn w nw v ag r.1 r.2) ys ((recsF dl rows).take i)) ⟨fun _ h => h, .nil⟩ ?turn ?fin
  case turn =>
    rintro i v I oI C oC D m₂ ys nw h3 tk3 E' hi hv hyl ⟨hsub, hA⟩ hC hx F3 N3 off ne
    obtain ⟨tj, rfl⟩ := hv
    rw [Int.zero_add] at hx
    have mR' := hsub _ mR
    have mD' := hsub _ mD
    have mA' := hsub _ mA
    have hri : rows[i]? = some (rows[i]) := List.getElem?_eq_getElem hi
    obtain ⟨rvi, hrvi, hrr⟩ : ∃ x, rvv[i]? = some x ∧ StrsIn nw1 x rows[i] := by
      have e : rvv[i]? = some (rvv[i]'(by omega)) := List.getElem?_eq_getElem (by omega)
      obtain ⟨b, hb, hr⟩ := hrA.get e
      rw [hri] at hb
      cases hb
      exact ⟨_, e, hr⟩
    obtain ⟨ri, rfl⟩ := hrr.ref
    (repeat' (first | (k_unfold; first | walk_at "Seq" | (try dsimp only)) | ((fail_if_success ((first | with_reducible show wpAny _ _ (execs (PySem.Stmt.For _ _ _ _ _ :: _) _) _ _ _ | with_reducible show wpAny _ _ (exec (PySem.Stmt.Assign [_] (PySem.Expr.ListComp _ _ _ _) _) _) _ _ _ | with_reducible show wpAny _ _ (call (Value.ref _) _) _ _ _ | with_reducible show wpAny _ _ (call (Value.builtin "len") _) _ _ _ | with_reducible show wpAny _ _ (call (Value.builtin "list.append") _) _ _ _ | with_reducible show wpAny _ _ (subscriptTail _ (PySem.Expr.UnaryOp _ _ _) (Value.ref _) _) _ _ _ | with_reducible show wpAny _ _ (subscriptTail _ (PySem.Expr.Name _ _) (Value.ref _) _) _ _ _ | with_reducible show wpAny _ _ (subscriptTail _ (PySem.Expr.Constant _ _ _) (Value.ref _) _) _ _ _ | with_reducible show wpAny _ _ (subscriptTail _ (PySem.Expr.Slice _ _ _ _) _ _) _ _ _ | with_reducible show wpAny _ _ (exec (PySem.Stmt.While _ _ _ _) _) _ _ _ | with_reducible show wpAny _ _ (exec (PySem.Stmt.For _ _ _ _ _) _) _ _ _ | with_reducible show wpAny _ _ (pyIter _) _ _ _ | with_reducible show wpAny _ _ (call (Value.type "list") _) _ _ _ | with_reducible show wpAny _ _ (call (Value.builtin "str.join") _) _ _ _ | with_reducible show wpAny _ _ (eval (PySem.Expr.ListComp _ [PySem.Comprehension.mk (PySem.Expr.Tuple _ _ _) _ _ _] _ _) _) _ _ _ | with_reducible show LCg.CompSrc _ _ _ _ _ _ _ _ _ _ _ _ _ _ | with_reducible show wpAny _ _ (execs (PySem.Stmt.If (PySem.Expr.Compare _ [CmpOp.Lt] _ _) [PySem.Stmt.Assign [PySem.Expr.Tuple _ _ _] _ _] _ _ :: _) _) _ _ _))); first | (k_end; wrow_close) | walk1 | (dsimp only; walk1) | (leave1; walk_say "STEP leave1"; try dsimp only) | fail "no step")))
    all_goals
      refine item_led N3 (List.mem_cons_of_mem _ (List.mem_cons_of_mem _ (List.mem_cons_of_mem _ (hsub _ hrm)))) (by omega) (by omega) (show rvv.toArray[((i : Nat) : Int).toNat]? = some (.ref ri) by rw [Int.toNat_natCast, List.getElem?_toArray]; exact hrvi) ?_
      (repeat' (first | (k_unfold; first | walk_at "Seq" | (try dsimp only)) | ((fail_if_success ((first | with_reducible show wpAny _ _ (execs (PySem.Stmt.For _ _ _ _ _ :: _) _) _ _ _ | with_reducible show wpAny _ _ (exec (PySem.Stmt.Assign [_] (PySem.Expr.ListComp _ _ _ _) _) _) _ _ _ | with_reducible show wpAny _ _ (call (Value.ref _) _) _ _ _ | with_reducible show wpAny _ _ (call (Value.builtin "len") _) _ _ _ | with_reducible show wpAny _ _ (call (Value.builtin "list.append") _) _ _ _ | with_reducible show wpAny _ _ (subscriptTail _ (PySem.Expr.UnaryOp _ _ _) (Value.ref _) _) _ _ _ | with_reducible show wpAny _ _ (subscriptTail _ (PySem.Expr.Name _ _) (Value.ref _) _) _ _ _ | with_reducible show wpAny _ _ (subscriptTail _ (PySem.Expr.Constant _ _ _) (Value.ref _) _) _ _ _ | with_reducible show wpAny _ _ (subscriptTail _ (PySem.Expr.Slice _ _ _ _) _ _) _ _ _ | with_reducible show wpAny _ _ (exec (PySem.Stmt.While _ _ _ _) _) _ _ _ | with_reducible show wpAny _ _ (exec (PySem.Stmt.For _ _ _ _ _) _) _ _ _ | with_reducible show wpAny _ _ (pyIter _) _ _ _ | with_reducible show wpAny _ _ (call (Value.type "list") _) _ _ _ | with_reducible show wpAny _ _ (call (Value.builtin "str.join") _) _ _ _ | with_reducible show wpAny _ _ (eval (PySem.Expr.ListComp _ [PySem.Comprehension.mk (PySem.Expr.Tuple _ _ _) _ _ _] _ _) _) _ _ _ | with_reducible show LCg.CompSrc _ _ _ _ _ _ _ _ _ _ _ _ _ _ | with_reducible show wpAny _ _ (execs (PySem.Stmt.If (PySem.Expr.Compare _ [CmpOp.Lt] _ _) [PySem.Stmt.Assign [PySem.Expr.Tuple _ _ _] _ _] _ _ :: _) _) _ _ _))); first | (k_end; wrow_close) | walk1 | (dsimp only; walk1) | (leave1; walk_say "STEP leave1"; try dsimp only) | fail "no step")))
      refine' ClaimD.use ?k1 ?k2 ?k3 (show News _ _ _ ((I, oI) :: (C, oC) :: (D, LCg.lst ys) :: nw) by k_asm) ?k5 ?kK (record_c (dl := if i = 0 then dl else none) (hag.mono fun q hq => List.mem_cons_of_mem _ (List.mem_cons_of_mem _ (List.mem_cons_of_mem _ (hsub _ hq)))) (hrr.mono fun q hq => List.mem_cons_of_mem _ (List.mem_cons_of_mem _ (List.mem_cons_of_mem _ (hsub _ hq)))) ?kdel (by omega) (Nat.le_trans (flatten_le (List.getElem_mem hi)) (by omega))) ?kd ?ku ?_
      case k1 => k_asm
      case k2 => k_asm
      case k3 => k_asm
      case k5 => k_asm
      case kK => rfl
      case kdel => first | (rw [if_neg (by omega)]; exact rfl) | (rw [if_pos (by omega)]; exact hdv)
      case kd => exact Nat.le_of_ble_eq_true rfl
      case ku => exact Nat.le_of_ble_eq_true rfl
      intro v5 tl5 h5 tk5 hR5 F5 N5 ord5
      dsimp only
      refine LCg.CompEnd.intro F5 N5 (tl5 ++ nw) sub_app (off3_app off ord5) trivial ⟨fun q hq => List.mem_append_right _ (hsub q hq), ?_⟩
      rw [List.take_add_one, recsF_get hri]
      exact (hA.mono fun a b h => h.mono fun q hq => List.mem_append_right _ hq).snoc (hR5.mono fun q hq => List.mem_append_left _ hq)
  case fin =>
    rintro ys nw hyl ⟨hsub, hA⟩ D h5 tk5 F5 N5 o5
    rw [List.take_of_length_le (by rw [recsF_len]; exact Nat.le_refl _)] at hA
    dsimp only at F5 ⊢
    refine led1 (a := L + 1 + 1 + 1 + 1 + 1) N5 (List.mem_cons_of_mem _ (hsub _ mT)) dT ?_
    intro rest1 offT hup1 hup1c N6
    have hnw1 : ∀ q ∈ nw1, NotCell q.2 → q ∈ rest1 := fun q hq => hup1 q (List.mem_cons_of_mem _ (hsub q hq))
    have hnw2 : ∀ q ∈ nw, NotCell q.2 → q ∈ rest1 := fun q hq => hup1 q (List.mem_cons_of_mem _ hq)
    have hrec : (D, W.listOf ys.toArray ys.length) ∈ rest1 := hup1 _ List.mem_cons_self notCell_list
    have mB2 : (L + 1 + 1 + 1 + 1, oB) ∈ rest1 := hup1c _ (List.mem_cons_of_mem _ (hsub _ mB)) (by refine neN ?_; dsimp only; omega)
    have mR2 : (L + 1 + 1 + 1, oR) ∈ rest1 := hup1c _ (List.mem_cons_of_mem _ (hsub _ mR)) (by refine neN ?_; dsimp only; omega)
    have mD2 : (L + 1 + 1, oD) ∈ rest1 := hup1c _ (List.mem_cons_of_mem _ (hsub _ mD)) (by refine neN ?_; dsimp only; omega)
    have mA2 : (L + 1, oA) ∈ rest1 := hup1c _ (List.mem_cons_of_mem _ (hsub _ mA)) (by refine neN ?_; dsimp only; omega)
    have hnum2 := hnw1 _ hnum notCell_list
    have hrm2 := hnw1 _ hrm notCell_list
    have hag2 := hag.off hnw1
    have hR2 := hR.off hnw1
    have hrA2 := hrA.mono fun _ _ r => r.off hnw1
    have hA2 := hA.mono fun _ _ r => r.off hnw2
    clear N5 hup1 hup1c hnw1 hnw2 hnum hrm hag hR hrA hA mB mR mD mA mT hsub
    k_sweep
    (repeat' (first | (k_unfold; first | walk_at "Seq" | (try dsimp only)) | ((fail_if_success ((first | with_reducible show wpAny _ _ (execs (PySem.Stmt.For _ _ _ _ _ :: _) _) _ _ _ | with_reducible show wpAny _ _ (exec (PySem.Stmt.Assign [_] (PySem.Expr.ListComp _ _ _ _) _) _) _ _ _ | with_reducible show wpAny _ _ (call (Value.ref _) _) _ _ _ | with_reducible show wpAny _ _ (call (Value.builtin "len") _) _ _ _ | with_reducible show wpAny _ _ (call (Value.builtin "list.append") _) _ _ _ | with_reducible show wpAny _ _ (subscriptTail _ (PySem.Expr.UnaryOp _ _ _) (Value.ref _) _) _ _ _ | with_reducible show wpAny _ _ (subscriptTail _ (PySem.Expr.Name _ _) (Value.ref _) _) _ _ _ | with_reducible show wpAny _ _ (subscriptTail _ (PySem.Expr.Constant _ _ _) (Value.ref _) _) _ _ _ | with_reducible show wpAny _ _ (subscriptTail _ (PySem.Expr.Slice _ _ _ _) _ _) _ _ _ | with_reducible show wpAny _ _ (exec (PySem.Stmt.While _ _ _ _) _) _ _ _ | with_reducible show wpAny _ _ (exec (PySem.Stmt.For _ _ _ _ _) _) _ _ _ | with_reducible show wpAny _ _ (pyIter _) _ _ _ | with_reducible show wpAny _ _ (call (Value.type "list") _) _ _ _ | with_reducible show wpAny _ _ (call (Value.builtin "str.join") _) _ _ _ | with_reducible show wpAny _ _ (eval (PySem.Expr.ListComp _ [PySem.Comprehension.mk (PySem.Expr.Tuple _ _ _) _ _ _] _ _) _) _ _ _ | with_reducible show LCg.CompSrc _ _ _ _ _ _ _ _ _ _ _ _ _ _ | with_reducible show wpAny _ _ (execs (PySem.Stmt.If (PySem.Expr.Compare _ [CmpOp.Lt] _ _) [PySem.Stmt.Assign [PySem.Expr.Tuple _ _ _] _ _] _ _ :: _) _) _ _ _))); first | (k_end; wrow_close) | walk1 | (dsimp only; walk1) | (leave1; walk_say "STEP leave1"; try dsimp only) | fail "no step")))
    have hyl2 : ys.length = rows.length := hyl
    refine slice_to (s := ⟨_, _, _, _, _⟩) (b := 1) (by k_asm) (show News _ _ _ (_ :: rest1) by k_asm) (List.mem_cons_of_mem _ hrec) (by rw [sizeLine_eq]; omega) ?_
    intro D7 h7 F7 N7 l7
    k_lt l7
    k_sweep
    (repeat' (first | (k_unfold; first | walk_at "Seq" | (try dsimp only)) | ((fail_if_success ((first | with_reducible show wpAny _ _ (execs (PySem.Stmt.For _ _ _ _ _ :: _) _) _ _ _ | with_reducible show wpAny _ _ (exec (PySem.Stmt.Assign [_] (PySem.Expr.ListComp _ _ _ _) _) _) _ _ _ | with_reducible show wpAny _ _ (call (Value.ref _) _) _ _ _ | with_reducible show wpAny _ _ (call (Value.builtin "len") _) _ _ _ | with_reducible show wpAny _ _ (call (Value.builtin "list.append") _) _ _ _ | with_reducible show wpAny _ _ (subscriptTail _ (PySem.Expr.UnaryOp _ _ _) (Value.ref _) _) _ _ _ | with_reducible show wpAny _ _ (subscriptTail _ (PySem.Expr.Name _ _) (Value.ref _) _) _ _ _ | with_reducible show wpAny _ _ (subscriptTail _ (PySem.Expr.Constant _ _ _) (Value.ref _) _) _ _ _ | with_reducible show wpAny _ _ (subscriptTail _ (PySem.Expr.Slice _ _ _ _) _ _) _ _ _ | with_reducible show wpAny _ _ (exec (PySem.Stmt.While _ _ _ _) _) _ _ _ | with_reducible show wpAny _ _ (exec (PySem.Stmt.For _ _ _ _ _) _) _ _ _ | with_reducible show wpAny _ _ (pyIter _) _ _ _ | with_reducible show wpAny _ _ (call (Value.type "list") _) _ _ _ | with_reducible show wpAny _ _ (call (Value.builtin "str.join") _) _ _ _ | with_reducible show wpAny _ _ (eval (PySem.Expr.ListComp _ [PySem.Comprehension.mk (PySem.Expr.Tuple _ _ _) _ _ _] _ _) _) _ _ _ | with_reducible show LCg.CompSrc _ _ _ _ _ _ _ _ _ _ _ _ _ _ | with_reducible show wpAny _ _ (execs (PySem.Stmt.If (PySem.Expr.Compare _ [CmpOp.Lt] _ _) [PySem.Stmt.Assign [PySem.Expr.Tuple _ _ _] _ _] _ _ :: _) _) _ _ _))); first | (k_end; wrow_close) | walk1 | (dsimp only; walk1) | (leave1; walk_say "STEP leave1"; try dsimp only) | fail "no step")))
    obtain ⟨r0, rs, erows⟩ : ∃ r0 rs, rows = r0 :: rs := by
      cases rows with
      | nil => simp at rows1
      | cons a b => exact ⟨a, b, rfl⟩
    obtain ⟨v0, hv0, hr0⟩ : ∃ v0, rvv[0]? = some v0 ∧ StrsIn rest1 v0 r0 := by
      rw [erows] at hrA2
      cases hrA2 with
      | cons h _ => exact ⟨_, rfl, h⟩
    obtain ⟨ri, rfl⟩ := hr0.ref
    have hmr0 : r0 ∈ rows := by rw [erows]; exact List.mem_cons_self
    have hr0l : r0.length ≤ 4 := Nat.le_trans (flatten_le hmr0) flat4
    have hy1 : All2 (fun v r => RecIn w rest1 v ag dl r) (ys.take 1) [r0] := by
      rw [erows] at hA2
      cases hA2 with
      | cons h _ => exact .cons h .nil
    refine item_led (show News _ _ _ (_ :: _ :: rest1) by k_asm) (List.mem_cons_of_mem _ (List.mem_cons_of_mem _ hrm2)) (by decide) (by decide) (show rvv.toArray[(0 : Int).toNat]? = some (.ref ri) by rw [List.getElem?_toArray]; exact hv0) ?_
    (repeat' (first | (k_unfold; first | walk_at "Seq" | (try dsimp only)) | ((fail_if_success ((first | with_reducible show wpAny _ _ (execs (PySem.Stmt.For _ _ _ _ _ :: _) _) _ _ _ | with_reducible show wpAny _ _ (exec (PySem.Stmt.Assign [_] (PySem.Expr.ListComp _ _ _ _) _) _) _ _ _ | with_reducible show wpAny _ _ (call (Value.ref _) _) _ _ _ | with_reducible show wpAny _ _ (call (Value.builtin "len") _) _ _ _ | with_reducible show wpAny _ _ (call (Value.builtin "list.append") _) _ _ _ | with_reducible show wpAny _ _ (subscriptTail _ (PySem.Expr.UnaryOp _ _ _) (Value.ref _) _) _ _ _ | with_reducible show wpAny _ _ (subscriptTail _ (PySem.Expr.Name _ _) (Value.ref _) _) _ _ _ | with_reducible show wpAny _ _ (subscriptTail _ (PySem.Expr.Constant _ _ _) (Value.ref _) _) _ _ _ | with_reducible show wpAny _ _ (subscriptTail _ (PySem.Expr.Slice _ _ _ _) _ _) _ _ _ | with_reducible show wpAny _ _ (exec (PySem.Stmt.While _ _ _ _) _) _ _ _ | with_reducible show wpAny _ _ (exec (PySem.Stmt.For _ _ _ _ _) _) _ _ _ | with_reducible show wpAny _ _ (pyIter _) _ _ _ | with_reducible show wpAny _ _ (call (Value.type "list") _) _ _ _ | with_reducible show wpAny _ _ (call (Value.builtin "str.join") _) _ _ _ | with_reducible show wpAny _ _ (eval (PySem.Expr.ListComp _ [PySem.Comprehension.mk (PySem.Expr.Tuple _ _ _) _ _ _] _ _) _) _ _ _ | with_reducible show LCg.CompSrc _ _ _ _ _ _ _ _ _ _ _ _ _ _ | with_reducible show wpAny _ _ (execs (PySem.Stmt.If (PySem.Expr.Compare _ [CmpOp.Lt] _ _) [PySem.Stmt.Assign [PySem.Expr.Tuple _ _ _] _ _] _ _ :: _) _) _ _ _))); first | (k_end; wrow_close) | walk1 | (dsimp only; walk1) | (leave1; walk_say "STEP leave1"; try dsimp only) | fail "no step")))
    refine' Claim.use ?k1 ?k2 ?k3 (show News _ _ _ (_ :: _ :: rest1) by k_asm) ?k5 ?kK (text_c (hag2.mono fun q hq => List.mem_cons_of_mem _ (List.mem_cons_of_mem _ hq)) (hr0.mono fun q hq => List.mem_cons_of_mem _ (List.mem_cons_of_mem _ hq)) hdv (by omega) (by omega) (fun x hx => Nat.le_trans (agl x hx) (by decide)) (fun x hx => Nat.le_trans (rule3 r0 hmr0 x hx) (by decide)) dl100) ?kd ?ku ?_
    case k1 => k_asm
    case k2 => k_asm
    case k3 => k_asm
    case k5 => k_asm
    case kK => rfl
    case kd => exact Nat.le_of_ble_eq_true rfl
    case ku => exact Nat.le_of_ble_eq_true rfl
    intro t8 h8 tk8 F8 N8
    k_sweep
    (repeat' (first | (k_unfold; first | walk_at "Seq" | (try dsimp only)) | ((fail_if_success ((first | with_reducible show wpAny _ _ (execs (PySem.Stmt.For _ _ _ _ _ :: _) _) _ _ _ | with_reducible show wpAny _ _ (exec (PySem.Stmt.Assign [_] (PySem.Expr.ListComp _ _ _ _) _) _) _ _ _ | with_reducible show wpAny _ _ (call (Value.ref _) _) _ _ _ | with_reducible show wpAny _ _ (call (Value.builtin "len") _) _ _ _ | with_reducible show wpAny _ _ (call (Value.builtin "list.append") _) _ _ _ | with_reducible show wpAny _ _ (subscriptTail _ (PySem.Expr.UnaryOp _ _ _) (Value.ref _) _) _ _ _ | with_reducible show wpAny _ _ (subscriptTail _ (PySem.Expr.Name _ _) (Value.ref _) _) _ _ _ | with_reducible show wpAny _ _ (subscriptTail _ (PySem.Expr.Constant _ _ _) (Value.ref _) _) _ _ _ | with_reducible show wpAny _ _ (subscriptTail _ (PySem.Expr.Slice _ _ _ _) _ _) _ _ _ | with_reducible show wpAny _ _ (exec (PySem.Stmt.While _ _ _ _) _) _ _ _ | with_reducible show wpAny _ _ (exec (PySem.Stmt.For _ _ _ _ _) _) _ _ _ | with_reducible show wpAny _ _ (pyIter _) _ _ _ | with_reducible show wpAny _ _ (call (Value.type "list") _) _ _ _ | with_reducible show wpAny _ _ (call (Value.builtin "str.join") _) _ _ _ | with_reducible show wpAny _ _ (eval (PySem.Expr.ListComp _ [PySem.Comprehension.mk (PySem.Expr.Tuple _ _ _) _ _ _] _ _) _) _ _ _ | with_reducible show LCg.CompSrc _ _ _ _ _ _ _ _ _ _ _ _ _ _ | with_reducible show wpAny _ _ (execs (PySem.Stmt.If (PySem.Expr.Compare _ [CmpOp.Lt] _ _) [PySem.Stmt.Assign [PySem.Expr.Tuple _ _ _] _ _] _ _ :: _) _) _ _ _))); first | (k_end; wrow_close) | walk1 | (dsimp only; walk1) | (leave1; walk_say "STEP leave1"; try dsimp only) | fail "no step")))
    rename (D7 < _ ∧ _ < _ ∧ AllLt _ rest1) => q1
    obtain ⟨p1, p2, p3⟩ := q1
    have hb1 : ∀ p ∈ rest1, p.1 ≠ D7 := fun p hp => Nat.ne_of_lt (ktn_ltOf l7.2 p hp)
    have hb2 : @Ne Nat (L + 1 + 1 + 1 + 1 + 1) D7 := Nat.ne_of_lt l7.1
    refine name_two (show News _ _ _ (_ :: (_, _) :: (D7, _) :: (L + 1 + 1 + 1 + 1 + 1, _) :: rest1) by k_asm) ?_
    intro lt oT2 e1 e2 N9
    subst e1 e2
    dsimp only
    exact nextB2 w p loose mean mg mb fa cd h₀ L _ s _ _ oT2 oB oR oD oA ((L + 1 + 1 + 1 + 1 + 1, oT2) :: rest1) lnum la lr D D7 lt dv bd lo hi nv ys (ys.take 1) [_] xs kn _ 0 0 t1 t2 tb ag dl rows r0 rs hB
      (fr_ps (by k_asm) (ps_cons rfl (ps_cons rfl (ps_cons rfl (ps_cons rfl (ps_cons rfl ps_nil)))))) (by k_asm) hT N9 (Nat.ne_of_lt p1) (List.forall_mem_cons.mpr ⟨hb2, hb1⟩) (List.forall_mem_cons.mpr ⟨Nat.ne_of_lt p2, fun p hp => Nat.ne_of_lt (ktn_ltOf p3 p hp)⟩)
      List.mem_cons_self (List.mem_cons_of_mem _ mB2) (List.mem_cons_of_mem _ mR2) (List.mem_cons_of_mem _ mD2) (List.mem_cons_of_mem _ mA2) (by assumption) dB dR dD dA (List.mem_cons_of_mem _ hnum2) hI (hag2.mono fun q hq => List.mem_cons_of_mem _ hq) hdv (hR2.mono fun q hq => List.mem_cons_of_mem _ hq) hG hlh erows
      (List.mem_cons_of_mem _ hrec) (hA2.mono fun _ _ r => r.mono fun q hq => List.mem_cons_of_mem _ hq) (hy1.mono fun _ _ r => r.mono fun q hq => List.mem_cons_of_mem _ hq) (.cons _ _ .nil)
end
end

section
open PySem PySem.W PyProof.Rows
section
theorem name_snoc {h₀ h : Heap} {L a l : Addr} {oa : Obj} {vs : List Value} {x : Str} {t : Tok} {k : Nat} {rest : List (Addr × Obj)} {G : Prop} (_N : News h₀ L h ((a, oa) :: (l, W.listOf (vs ++ [Value.str x t]).toArray k) :: rest)) (g : ∀ t', t' = t → G) : G := g t rfl
structure BSt where
  bv : List Value
  tv : List Value
  kb : Nat
  kt : Nat
  rest : List (Addr × Obj)
noncomputable def BSt.led (e : BSt) (lbk lt : Addr) : List (Addr × Obj) := (lbk, W.listOf e.bv.toArray e.kb) :: (lt, W.listOf e.tv.toArray e.kt) :: e.rest
noncomputable def BSt.ok (e : BSt) (w : World) (rest : List (Addr × Obj)) (lbk lt : Addr) (ag : List Str) (dl : Option Int) (acc : List (List Str)) : Prop :=
  (∀ q ∈ rest, q ∈ e.rest) ∧ (∀ p ∈ e.rest, p.1 ≠ lbk) ∧ (∀ p ∈ e.rest, p.1 ≠ lt) ∧ All2 (fun v r => RecIn w e.rest v ag dl r) e.bv acc ∧ StrsAre e.tv (acc.map (textOf ag dl))
theorem law_b2 (nextC : ∀ (w : World) (p : Program) (loose : List Str) (mean : ExcName → Option Value) (mg mb : Str → Option Value) (fa : Addr) (cd : Value) (h₀ : Heap) (L : Addr) (u : Str → Option Value) (s : Shared) (h : Heap) (tk : Nat) (oT oB oR oD oA : Obj) (nw : List (Addr × Obj))
    (lnum la lr lrec lbk lt : Addr) (dv : Value) (bd lo hi : Int) (nv rv bv tv : List Value) (xs : List Int) (kn kr kb kt : Nat) (t1 t2 tb : Tok) (ag : List Str) (dl : Option Int) (rows : List (List Str)),
    Below callerA h₀ [] h₀ → Fr h₀ L h (kstB u [("numbers", .ref lnum), ("low", .int lo t1), ("high", .int hi t2), ("records", .ref lrec), ("books", .ref lbk)]) → (Mine.hd.heap_39 w.params).In h₀ → Top p loose mean mg mb h₀ →
    News h₀ L h nw → (L + 1 + 1 + 1 + 1 + 1, oT) ∈ nw → (L + 1 + 1 + 1 + 1, oB) ∈ nw → (L + 1 + 1 + 1, oR) ∈ nw → (L + 1 + 1, oD) ∈ nw → (L + 1, oA) ∈ nw →
    oT.data = .cell (some (.ref lt)) → oB.data = .cell (some (.int bd tb)) → oR.data = .cell (some (.ref lr)) → oD.data = .cell (some dv) → oA.data = .cell (some (.ref la)) →
    (lnum, W.listOf nv.toArray kn) ∈ nw → IntsAre nv xs → StrsIn nw (.ref la) ag → DelIs dv dl → RowsIn nw (.ref lr) rows → Good ag dl rows → LoHi ag lo hi →
    (lrec, W.listOf rv.toArray kr) ∈ nw → All2 (fun v (r : Option Int × List Str) => RecIn w nw v ag r.1 r.2) rv (recsF dl rows) →
    (lbk, W.listOf bv.toArray kb) ∈ nw → All2 (fun v r => RecIn w nw v ag dl r) bv (accF rows) → (lt, W.listOf tv.toArray kt) ∈ nw → StrsAre tv ((accF rows).map (textOf ag dl)) →
    LawRest 6 w fa cd h₀ L s h tk)
    (w : World) (p : Program) (loose : List Str) (mean : ExcName → Option Value) (mg mb : Str → Option Value) (fa : Addr) (cd : Value) (h₀ : Heap) (L : Addr) (u : Str → Option Value) (s : Shared) (h : Heap) (tk : Nat) (oT oB oR oD oA : Obj) (rest : List (Addr × Obj))
    (lnum la lr lrec lbk lt : Addr) (dv : Value) (bd lo hi : Int) (nv rv bv tv : List Value) (xs : List Int) (kn kr kb kt : Nat) (t1 t2 tb : Tok) (ag : List Str) (dl : Option Int) (rows : List (List Str)) (r0 : List Str) (rs : List (List Str))
    (hB : Below callerA h₀ [] h₀) (hF : Fr h₀ L h (kstB u [("numbers", .ref lnum), ("low", .int lo t1), ("high", .int hi t2), ("records", .ref lrec), ("books", .ref lbk)])) (hX : (Mine.hd.heap_39 w.params).In h₀) (hT : Top p loose mean mg mb h₀)
    (hN : News h₀ L h ((lbk, W.listOf bv.toArray kb) :: (lt, W.listOf tv.toArray kt) :: rest)) (hne : @Ne Nat lbk lt) (ob : ∀ p ∈ rest, p.1 ≠ lbk) (ot : ∀ p ∈ rest, p.1 ≠ lt)
    (mT : (L + 1 + 1 + 1 + 1 + 1, oT) ∈ rest) (mB : (L + 1 + 1 + 1 + 1, oB) ∈ rest) (mR : (L + 1 + 1 + 1, oR) ∈ rest) (mD : (L + 1 + 1, oD) ∈ rest) (mA : (L + 1, oA) ∈ rest)
    (dT : oT.data = .cell (some (.ref lt))) (dB : oB.data = .cell (some (.int bd tb))) (dR : oR.data = .cell (some (.ref lr))) (dD : oD.data = .cell (some dv)) (dA : oA.data = .cell (some (.ref la)))
    (hnum : (lnum, W.listOf nv.toArray kn) ∈ rest) (hI : IntsAre nv xs) (hag : StrsIn rest (.ref la) ag) (hdv : DelIs dv dl) (hR : RowsIn rest (.ref lr) rows) (hG : Good ag dl rows) (hlh : LoHi ag lo hi) (erows : rows = r0 :: rs)
    (hrec : (lrec, W.listOf rv.toArray kr) ∈ rest) (hA : All2 (fun v (r : Option Int × List Str) => RecIn w rest v ag r.1 r.2) rv (recsF dl rows))
    (hb0 : All2 (fun v r => RecIn w rest v ag dl r) bv [r0]) (ht0 : StrsAre tv [textOf ag dl r0]) :
    LawRest 5 w fa cd h₀ L s h tk := by
  unfold LawRest at nextC ⊢
  dsimp only [lawOf, List.drop] at nextC ⊢
  dsimp only [kstB] at hF
  obtain ⟨lr', rvv, krv, e9, hrm, hrA⟩ := id hR
  cases e9
  have hrl := hrA.length
  have hrvl := hA.length
  rw [recsF_len] at hrvl
  have hrsl : rows.length = rs.length + 1 := by rw [erows]; rfl
  (try k_fold)
  refine execs_cons' ?_
  refine for_at (by k_asm) (by rfl) (by rfl) ?_
  (repeat' (first | (k_unfold; first | walk_at "Seq" | (try dsimp only)) | ((fail_if_success ((first | with_reducible show wpAny _ _ (execs (PySem.Stmt.For _ _ _ _ _ :: _) _) _ _ _ | with_reducible show wpAny _ _ (exec (PySem.Stmt.Assign [_] (PySem.Expr.ListComp _ _ _ _) _) _) _ _ _ | with_reducible show wpAny _ _ (call (Value.ref _) _) _ _ _ | with_reducible show wpAny _ _ (call (Value.builtin "len") _) _ _ _ | with_reducible show wpAny _ _ (call (Value.builtin "list.append") _) _ _ _ | with_reducible show wpAny _ _ (subscriptTail _ (PySem.Expr.UnaryOp _ _ _) (Value.ref _) _) _ _ _ | with_reducible show wpAny _ _ (subscriptTail _ (PySem.Expr.Name _ _) (Value.ref _) _) _ _ _ | with_reducible show wpAny _ _ (subscriptTail _ (PySem.Expr.Constant _ _ _) (Value.ref _) _) _ _ _ | with_reducible show wpAny _ _ (subscriptTail _ (PySem.Expr.Slice _ _ _ _) _ _) _ _ _ | with_reducible show wpAny _ _ (exec (PySem.Stmt.While _ _ _ _) _) _ _ _ | with_reducible show wpAny _ _ (exec (PySem.Stmt.For _ _ _ _ _) _) _ _ _ | with_reducible show wpAny _ _ (pyIter _) _ _ _ | with_reducible show wpAny _ _ (call (Value.type "list") _) _ _ _ | with_reducible show wpAny _ _ (call (Value.builtin "str.join") _) _ _ _ | with_reducible show wpAny _ _ (eval (PySem.Expr.ListComp _ [PySem.Comprehension.mk (PySem.Expr.Tuple _ _ _) _ _ _] _ _) _) _ _ _ | with_reducible show LCg.CompSrc _ _ _ _ _ _ _ _ _ _ _ _ _ _ | with_reducible show wpAny _ _ (execs (PySem.Stmt.If (PySem.Expr.Compare _ [CmpOp.Lt] _ _) [PySem.Stmt.Assign [PySem.Expr.Tuple _ _ _] _ _] _ _ :: _) _) _ _ _))); first | (k_end; wrow_close) | walk1 | (dsimp only; walk1) | (leave1; walk_say "STEP leave1"; try dsimp only) | fail "no step")))
  refine len_led (n := rows.length) hN (List.mem_cons_of_mem _ (List.mem_cons_of_mem _ hrm)) hrl (Nat.le_trans hG.rows3 (by decide)) ?_
  (repeat' (first | (k_unfold; first | walk_at "Seq" | (try dsimp only)) | ((fail_if_success ((first | with_reducible show wpAny _ _ (execs (PySem.Stmt.For _ _ _ _ _ :: _) _) _ _ _ | with_reducible show wpAny _ _ (exec (PySem.Stmt.Assign [_] (PySem.Expr.ListComp _ _ _ _) _) _) _ _ _ | with_reducible show wpAny _ _ (call (Value.ref _) _) _ _ _ | with_reducible show wpAny _ _ (call (Value.builtin "len") _) _ _ _ | with_reducible show wpAny _ _ (call (Value.builtin "list.append") _) _ _ _ | with_reducible show wpAny _ _ (subscriptTail _ (PySem.Expr.UnaryOp _ _ _) (Value.ref _) _) _ _ _ | with_reducible show wpAny _ _ (subscriptTail _ (PySem.Expr.Name _ _) (Value.ref _) _) _ _ _ | with_reducible show wpAny _ _ (subscriptTail _ (PySem.Expr.Constant _ _ _) (Value.ref _) _) _ _ _ | with_reducible show wpAny _ _ (subscriptTail _ (PySem.Expr.Slice _ _ _ _) _ _) _ _ _ | with_reducible show wpAny _ _ (exec (PySem.Stmt.While _ _ _ _) _) _ _ _ | with_reducible show wpAny _ _ (exec (PySem.Stmt.For _ _ _ _ _) _) _ _ _ | with_reducible show wpAny _ _ (pyIter _) _ _ _ | with_reducible show wpAny _ _ (call (Value.type "list") _) _ _ _ | with_reducible show wpAny _ _ (call (Value.builtin "str.join") _) _ _ _ | with_reducible show wpAny _ _ (eval (PySem.Expr.ListComp _ [PySem.Comprehension.mk (PySem.Expr.Tuple _ _ _) _ _ _] _ _) _) _ _ _ | with_reducible show LCg.CompSrc _ _ _ _ _ _ _ _ _ _ _ _ _ _ | with_reducible show wpAny _ _ (execs (PySem.Stmt.If (PySem.Expr.Compare _ [CmpOp.Lt] _ _) [PySem.Stmt.Assign [PySem.Expr.Tuple _ _ _] _ _] _ _ :: _) _) _ _ _))); first | (k_end; wrow_close) | walk1 | (dsimp only; walk1) | (leave1; walk_say "STEP leave1"; try dsimp only) | fail "no step")))
  dsimp only
  obtain ⟨ag1, ag3, agl, dl100, rows1, rows3, flat4, hnr, rule3, agc, agn, rulec⟩ := id hG
  refine iter_range_nw (n := rs.length) (b := (rows.length : Int)) rfl (by assumption) (small_one (by omega) (by omega) (by omega) (by omega)) ?rsz (fun e : BSt => [("numbers", .ref lnum), ("low", .int lo t1), ("high", .int hi t2), ("records", .ref lrec), ("books", .ref lbk)])
    (fun i e nw => nw = e.led lbk lt ∧ e.ok w rest lbk lt ag dl ((accF rows).take (i + 1))) ⟨bv, tv, kb, kt, rest⟩ (by k_asm) (show News _ _ _ ((lbk, W.listOf bv.toArray kb) :: (lt, W.listOf tv.toArray kt) :: rest) by k_asm) (ps_cons rfl (ps_cons rfl (ps_cons rfl (ps_cons rfl (ps_cons rfl ps_nil))))) ⟨rfl, fun _ h => h, ob, ot, by rw [erows, accF_take1]; exact hb0, by rw [erows, accF_take1]; exact ht0⟩ ?turn ?fin
  case rsz =>
    unfold Builtin.Range.rangeSize
    simp only [show (1 : Int) > 0 by decide, if_true, Int.ediv_one]
    split <;> omega
  case turn =>
    rintro i tk0 ⟨bv2, tv2, kb2, kt2, rest2⟩ u2 h2 tk2 nw I oI hi ⟨rfl, hsub, ob2, ot2, hb2, ht2⟩ hneI F2 N2
    dsimp only [BSt.led, kstB] at hb2 ht2 F2 N2 hsub ob2 ot2 hneI ⊢
    have hIb : @Ne Nat I lbk := fun e => hneI (lbk, _) List.mem_cons_self e.symm
    have hIt : @Ne Nat I lt := fun e => hneI (lt, _) (List.mem_cons_of_mem _ List.mem_cons_self) e.symm
    have hIr : ∀ p ∈ rest2, p.1 ≠ I := fun p hp => hneI p (List.mem_cons_of_mem _ (List.mem_cons_of_mem _ hp))
    clear hneI
    obtain ⟨A, eA⟩ : ∃ A, A = (rows.take (i + 1)).flatten := ⟨_, rfl⟩
    rw [List.take_add_one, accF_get (by omega), ← eA] at hb2 ht2
    simp only [Option.toList_some, List.map_append, List.map_cons, List.map_nil] at hb2 ht2
    obtain ⟨bs, b, rfl, hbs, hbl⟩ := All2.snoc_inv hb2
    obtain ⟨ts, tt, rfl, hts⟩ := StrsAre.snoc_inv ht2
    obtain ⟨bx, rfl⟩ := hbl.ref
    obtain ⟨T, eT⟩ : ∃ T, T = textOf ag dl A := ⟨_, rfl⟩
    rw [← eT] at N2
    have hri : rows[i + 1]? = some (rows[i + 1]'(by omega)) := List.getElem?_eq_getElem (by omega)
    obtain ⟨r, er⟩ : ∃ r, r = rows[i + 1]'(by omega) := ⟨_, rfl⟩
    rw [← er] at hri
    have hmr : r ∈ rows := List.mem_of_getElem? hri
    have hacc := accF_succ hri
    rw [← eA] at hacc
    have hAl : A.length ≤ 4 := by rw [eA]; exact Nat.le_trans (flatten_take_le rows (i + 1)) flat4
    have hAm : ∀ x ∈ A, x.length ≤ 3 := fun x hx => by
      rw [eA] at hx
      obtain ⟨l, hl, hxl⟩ := List.mem_flatten.mp hx
      exact rule3 l (List.mem_of_mem_take hl) x hxl
    obtain ⟨rvi, hrvi, hrr⟩ : ∃ x, rvv[i + 1]? = some x ∧ StrsIn rest x r := by
      have e : rvv[i + 1]? = some (rvv[i + 1]'(by omega)) := List.getElem?_eq_getElem (by omega)
      obtain ⟨b, hb, hr⟩ := hrA.get e
      rw [hri] at hb
      cases hb
      exact ⟨_, e, hr⟩
    obtain ⟨ri, rfl⟩ := hrr.ref
    obtain ⟨rci, hrci, hrcr⟩ : ∃ x, rv[i + 1]? = some x ∧ RecIn w rest x ag none r := by
      have e : rv[i + 1]? = some (rv[i + 1]'(by omega)) := List.getElem?_eq_getElem (by omega)
      obtain ⟨b, hb, hr⟩ := hA.get e
      rw [recsF_get hri] at hb
      cases hb
      exact ⟨_, e, hr⟩
    obtain ⟨rcx, rfl⟩ := hrcr.ref
    have hTl : T.length ≤ 1000 := by
      rw [eT]
      exact text_len ag3 hAl (fun x hx => Nat.le_trans (agl x hx) (by decide)) (fun x hx => Nat.le_trans (hAm x hx) (by decide)) dl100
    k_sweep
    (repeat' (first | (k_unfold; first | walk_at "Seq" | (try dsimp only)) | ((fail_if_success ((first | with_reducible show wpAny _ _ (execs (PySem.Stmt.For _ _ _ _ _ :: _) _) _ _ _ | with_reducible show wpAny _ _ (exec (PySem.Stmt.Assign [_] (PySem.Expr.ListComp _ _ _ _) _) _) _ _ _ | with_reducible show wpAny _ _ (call (Value.ref _) _) _ _ _ | with_reducible show wpAny _ _ (call (Value.builtin "len") _) _ _ _ | with_reducible show wpAny _ _ (call (Value.builtin "list.append") _) _ _ _ | with_reducible show wpAny _ _ (subscriptTail _ (PySem.Expr.UnaryOp _ _ _) (Value.ref _) _) _ _ _ | with_reducible show wpAny _ _ (subscriptTail _ (PySem.Expr.Name _ _) (Value.ref _) _) _ _ _ | with_reducible show wpAny _ _ (subscriptTail _ (PySem.Expr.Constant _ _ _) (Value.ref _) _) _ _ _ | with_reducible show wpAny _ _ (subscriptTail _ (PySem.Expr.Slice _ _ _ _) _ _) _ _ _ | with_reducible show wpAny _ _ (exec (PySem.Stmt.While _ _ _ _) _) _ _ _ | with_reducible show wpAny _ _ (exec (PySem.Stmt.For _ _ _ _ _) _) _ _ _ | with_reducible show wpAny _ _ (pyIter _) _ _ _ | with_reducible show wpAny _ _ (call (Value.type "list") _) _ _ _ | with_reducible show wpAny _ _ (call (Value.builtin "str.join") _) _ _ _ | with_reducible show wpAny _ _ (eval (PySem.Expr.ListComp _ [PySem.Comprehension.mk (PySem.Expr.Tuple _ _ _) _ _ _] _ _) _) _ _ _ | with_reducible show LCg.CompSrc _ _ _ _ _ _ _ _ _ _ _ _ _ _ | with_reducible show wpAny _ _ (execs (PySem.Stmt.If (PySem.Expr.Compare _ [CmpOp.Lt] _ _) [PySem.Stmt.Assign [PySem.Expr.Tuple _ _ _] _ _] _ _ :: _) _) _ _ _))); first | (k_end; wrow_close) | walk1 | (dsimp only; walk1) | (leave1; walk_say "STEP leave1"; try dsimp only) | fail "no step")))
    refine item_last rfl (show News _ _ _ (_ :: (lbk, W.listOf (bs ++ [Value.ref bx]).toArray kb2) :: _ :: rest2) by k_asm) (List.mem_cons_of_mem _ List.mem_cons_self) ?_
    (repeat' (first | (k_unfold; first | walk_at "Seq" | (try dsimp only)) | ((fail_if_success ((first | with_reducible show wpAny _ _ (execs (PySem.Stmt.For _ _ _ _ _ :: _) _) _ _ _ | with_reducible show wpAny _ _ (exec (PySem.Stmt.Assign [_] (PySem.Expr.ListComp _ _ _ _) _) _) _ _ _ | with_reducible show wpAny _ _ (call (Value.ref _) _) _ _ _ | with_reducible show wpAny _ _ (call (Value.builtin "len") _) _ _ _ | with_reducible show wpAny _ _ (call (Value.builtin "list.append") _) _ _ _ | with_reducible show wpAny _ _ (subscriptTail _ (PySem.Expr.UnaryOp _ _ _) (Value.ref _) _) _ _ _ | with_reducible show wpAny _ _ (subscriptTail _ (PySem.Expr.Name _ _) (Value.ref _) _) _ _ _ | with_reducible show wpAny _ _ (subscriptTail _ (PySem.Expr.Constant _ _ _) (Value.ref _) _) _ _ _ | with_reducible show wpAny _ _ (subscriptTail _ (PySem.Expr.Slice _ _ _ _) _ _) _ _ _ | with_reducible show wpAny _ _ (exec (PySem.Stmt.While _ _ _ _) _) _ _ _ | with_reducible show wpAny _ _ (exec (PySem.Stmt.For _ _ _ _ _) _) _ _ _ | with_reducible show wpAny _ _ (pyIter _) _ _ _ | with_reducible show wpAny _ _ (call (Value.type "list") _) _ _ _ | with_reducible show wpAny _ _ (call (Value.builtin "str.join") _) _ _ _ | with_reducible show wpAny _ _ (eval (PySem.Expr.ListComp _ [PySem.Comprehension.mk (PySem.Expr.Tuple _ _ _) _ _ _] _ _) _) _ _ _ | with_reducible show LCg.CompSrc _ _ _ _ _ _ _ _ _ _ _ _ _ _ | with_reducible show wpAny _ _ (execs (PySem.Stmt.If (PySem.Expr.Compare _ [CmpOp.Lt] _ _) [PySem.Stmt.Assign [PySem.Expr.Tuple _ _ _] _ _] _ _ :: _) _) _ _ _))); first | (k_end; wrow_close) | walk1 | (dsimp only; walk1) | (leave1; walk_say "STEP leave1"; try dsimp only) | fail "no step")))
    refine item_led (show News _ _ _ (_ :: (lbk, W.listOf (bs ++ [Value.ref bx]).toArray kb2) :: _ :: rest2) by k_asm) (List.mem_cons_of_mem _ (List.mem_cons_of_mem _ (List.mem_cons_of_mem _ (hsub _ hrec)))) (by omega) (by omega) (show rv.toArray[((1 : Int) + (i : Nat)).toNat]? = some (.ref rcx) by rw [show ((1 : Int) + (i : Nat)).toNat = i + 1 by omega, List.getElem?_toArray]; exact hrci) ?_
    (repeat' (first | (k_unfold; first | walk_at "Seq" | (try dsimp only)) | ((fail_if_success ((first | with_reducible show wpAny _ _ (execs (PySem.Stmt.For _ _ _ _ _ :: _) _) _ _ _ | with_reducible show wpAny _ _ (exec (PySem.Stmt.Assign [_] (PySem.Expr.ListComp _ _ _ _) _) _) _ _ _ | with_reducible show wpAny _ _ (call (Value.ref _) _) _ _ _ | with_reducible show wpAny _ _ (call (Value.builtin "len") _) _ _ _ | with_reducible show wpAny _ _ (call (Value.builtin "list.append") _) _ _ _ | with_reducible show wpAny _ _ (subscriptTail _ (PySem.Expr.UnaryOp _ _ _) (Value.ref _) _) _ _ _ | with_reducible show wpAny _ _ (subscriptTail _ (PySem.Expr.Name _ _) (Value.ref _) _) _ _ _ | with_reducible show wpAny _ _ (subscriptTail _ (PySem.Expr.Constant _ _ _) (Value.ref _) _) _ _ _ | with_reducible show wpAny _ _ (subscriptTail _ (PySem.Expr.Slice _ _ _ _) _ _) _ _ _ | with_reducible show wpAny _ _ (exec (PySem.Stmt.While _ _ _ _) _) _ _ _ | with_reducible show wpAny _ _ (exec (PySem.Stmt.For _ _ _ _ _) _) _ _ _ | with_reducible show wpAny _ _ (pyIter _) _ _ _ | with_reducible show wpAny _ _ (call (Value.type "list") _) _ _ _ | with_reducible show wpAny _ _ (call (Value.builtin "str.join") _) _ _ _ | with_reducible show wpAny _ _ (eval (PySem.Expr.ListComp _ [PySem.Comprehension.mk (PySem.Expr.Tuple _ _ _) _ _ _] _ _) _) _ _ _ | with_reducible show LCg.CompSrc _ _ _ _ _ _ _ _ _ _ _ _ _ _ | with_reducible show wpAny _ _ (execs (PySem.Stmt.If (PySem.Expr.Compare _ [CmpOp.Lt] _ _) [PySem.Stmt.Assign [PySem.Expr.Tuple _ _ _] _ _] _ _ :: _) _) _ _ _))); first | (k_end; wrow_close) | walk1 | (dsimp only; walk1) | (leave1; walk_say "STEP leave1"; try dsimp only) | fail "no step")))
    have hup4 : ∀ q ∈ rest2, q ∈ (I, oI) :: (lbk, W.listOf (bs ++ [Value.ref bx]).toArray kb2) :: (lt, W.listOf (ts ++ [Value.str T tt]).toArray kt2) :: rest2 := fun q hq => List.mem_cons_of_mem _ (List.mem_cons_of_mem _ (List.mem_cons_of_mem _ hq))
    refine' ClaimD.use ?k1 ?k2 ?k3 (show News _ _ _ ((I, oI) :: (lbk, W.listOf (bs ++ [Value.ref bx]).toArray kb2) :: (lt, W.listOf (ts ++ [Value.str T tt]).toArray kt2) :: rest2) by k_asm) ?k5 ?kK (merge2_c (hbl.mono hup4) (hrcr.mono fun q hq => hup4 q (hsub q hq)) (by omega) (Nat.le_trans (flatten_le hmr) (by omega)) (by omega) (by omega)) ?kd ?ku ?_
    case k1 => k_asm
    case k2 => k_asm
    case k3 => k_asm
    case k5 => k_asm
    case kK => rfl
    case kd => exact Nat.le_of_ble_eq_true rfl
    case ku => exact Nat.le_of_ble_eq_true rfl
    intro v5 tl5 h5 tk5 hR5 F5 N5 ord5
    rw [List.filter_eq_self.mpr fun a ha => decide_eq_true ha] at hR5
    obtain ⟨x5, rfl⟩ := hR5.ref
    have n1 : ∀ p ∈ tl5, p.1 ≠ I := fun p hp e => ord5 _ List.mem_cons_self p hp e.symm
    have n2 : ∀ p ∈ tl5, p.1 ≠ lbk := fun p hp e => ord5 _ (List.mem_cons_of_mem _ List.mem_cons_self) p hp e.symm
    have n3 : ∀ p ∈ tl5, p.1 ≠ lt := fun p hp e => ord5 _ (List.mem_cons_of_mem _ (List.mem_cons_of_mem _ List.mem_cons_self)) p hp e.symm
    have N6 : News h₀ L h5 ((lbk, W.listOf (bs ++ [Value.ref bx]).toArray kb2) :: (lt, W.listOf (ts ++ [Value.str T tt]).toArray kt2) :: (I, oI) :: (tl5 ++ rest2)) := fun q hq => N5 q (by
      simp only [List.mem_cons, List.mem_append] at hq ⊢
      rcases hq with h | h | h | h | h
      · exact .inr (.inr (.inl h))
      · exact .inr (.inr (.inr (.inl h)))
      · exact .inr (.inl h)
      · exact .inl h
      · exact .inr (.inr (.inr (.inr h))))
    have ob3 : ∀ p ∈ tl5 ++ rest2, p.1 ≠ lbk := fun p hp => (List.mem_append.mp hp).elim (n2 p) (ob2 p)
    have ot3 : ∀ p ∈ tl5 ++ rest2, p.1 ≠ lt := fun p hp => (List.mem_append.mp hp).elim (n3 p) (ot2 p)
    have oi3 : ∀ p ∈ tl5 ++ rest2, p.1 ≠ I := fun p hp => (List.mem_append.mp hp).elim (n1 p) (hIr p)
    have hR6 := hR5.mono fun q hq => List.mem_append_left rest2 hq
    have hbs6 := hbs.mono fun _ _ r => r.mono fun q hq => List.mem_append_right tl5 hq
    have hbl6 := hbl.mono fun q hq => List.mem_append_right tl5 hq
    have hsub6 : ∀ q ∈ rest, q ∈ tl5 ++ rest2 := fun q hq => List.mem_append_right tl5 (hsub q hq)
    generalize tl5 ++ rest2 = rest5 at N6 ob3 ot3 oi3 hR6 hbs6 hbl6 hsub6
    clear N5 n1 n2 n3 ord5 hR5 hup4 hsub
    have mT5 := hsub6 _ mT
    have mR5 := hsub6 _ mR
    k_sweep
    (repeat' (first | (k_unfold; first | walk_at "Seq" | (try dsimp only)) | ((fail_if_success ((first | with_reducible show wpAny _ _ (execs (PySem.Stmt.For _ _ _ _ _ :: _) _) _ _ _ | with_reducible show wpAny _ _ (exec (PySem.Stmt.Assign [_] (PySem.Expr.ListComp _ _ _ _) _) _) _ _ _ | with_reducible show wpAny _ _ (call (Value.ref _) _) _ _ _ | with_reducible show wpAny _ _ (call (Value.builtin "len") _) _ _ _ | with_reducible show wpAny _ _ (call (Value.builtin "list.append") _) _ _ _ | with_reducible show wpAny _ _ (subscriptTail _ (PySem.Expr.UnaryOp _ _ _) (Value.ref _) _) _ _ _ | with_reducible show wpAny _ _ (subscriptTail _ (PySem.Expr.Name _ _) (Value.ref _) _) _ _ _ | with_reducible show wpAny _ _ (subscriptTail _ (PySem.Expr.Constant _ _ _) (Value.ref _) _) _ _ _ | with_reducible show wpAny _ _ (subscriptTail _ (PySem.Expr.Slice _ _ _ _) _ _) _ _ _ | with_reducible show wpAny _ _ (exec (PySem.Stmt.While _ _ _ _) _) _ _ _ | with_reducible show wpAny _ _ (exec (PySem.Stmt.For _ _ _ _ _) _) _ _ _ | with_reducible show wpAny _ _ (pyIter _) _ _ _ | with_reducible show wpAny _ _ (call (Value.type "list") _) _ _ _ | with_reducible show wpAny _ _ (call (Value.builtin "str.join") _) _ _ _ | with_reducible show wpAny _ _ (eval (PySem.Expr.ListComp _ [PySem.Comprehension.mk (PySem.Expr.Tuple _ _ _) _ _ _] _ _) _) _ _ _ | with_reducible show LCg.CompSrc _ _ _ _ _ _ _ _ _ _ _ _ _ _ | with_reducible show wpAny _ _ (execs (PySem.Stmt.If (PySem.Expr.Compare _ [CmpOp.Lt] _ _) [PySem.Stmt.Assign [PySem.Expr.Tuple _ _ _] _ _] _ _ :: _) _) _ _ _))); first | (k_end; wrow_close) | walk1 | (dsimp only; walk1) | (leave1; walk_say "STEP leave1"; try dsimp only) | fail "no step")))
    refine append_K (its := (bs ++ [Value.ref bx]).toArray) (n := kb2) (D := lbk) (by k_asm) (show News _ _ _ ((lbk, W.listOf (bs ++ [Value.ref bx]).toArray kb2) :: (lt, W.listOf (ts ++ [Value.str T tt]).toArray kt2) :: (I, oI) :: rest5) by k_asm) (Upd.head (List.forall_mem_cons.mpr ⟨fun e => hne e.symm, List.forall_mem_cons.mpr ⟨hIb, ob3⟩⟩)) ?_ ?zz
    case zz =>
      have := hbs.length
      rw [List.length_take] at this
      rw [sizeLine_eq, List.size_toArray, List.length_append]
      simp only [List.length_cons, List.length_nil]
      omega
    intro h7 F7 N7
    k_sweep
    (repeat' (first | (k_unfold; first | walk_at "Seq" | (try dsimp only)) | ((fail_if_success ((first | with_reducible show wpAny _ _ (execs (PySem.Stmt.For _ _ _ _ _ :: _) _) _ _ _ | with_reducible show wpAny _ _ (exec (PySem.Stmt.Assign [_] (PySem.Expr.ListComp _ _ _ _) _) _) _ _ _ | with_reducible show wpAny _ _ (call (Value.ref _) _) _ _ _ | with_reducible show wpAny _ _ (call (Value.builtin "len") _) _ _ _ | with_reducible show wpAny _ _ (call (Value.builtin "list.append") _) _ _ _ | with_reducible show wpAny _ _ (subscriptTail _ (PySem.Expr.UnaryOp _ _ _) (Value.ref _) _) _ _ _ | with_reducible show wpAny _ _ (subscriptTail _ (PySem.Expr.Name _ _) (Value.ref _) _) _ _ _ | with_reducible show wpAny _ _ (subscriptTail _ (PySem.Expr.Constant _ _ _) (Value.ref _) _) _ _ _ | with_reducible show wpAny _ _ (subscriptTail _ (PySem.Expr.Slice _ _ _ _) _ _) _ _ _ | with_reducible show wpAny _ _ (exec (PySem.Stmt.While _ _ _ _) _) _ _ _ | with_reducible show wpAny _ _ (exec (PySem.Stmt.For _ _ _ _ _) _) _ _ _ | with_reducible show wpAny _ _ (pyIter _) _ _ _ | with_reducible show wpAny _ _ (call (Value.type "list") _) _ _ _ | with_reducible show wpAny _ _ (call (Value.builtin "str.join") _) _ _ _ | with_reducible show wpAny _ _ (eval (PySem.Expr.ListComp _ [PySem.Comprehension.mk (PySem.Expr.Tuple _ _ _) _ _ _] _ _) _) _ _ _ | with_reducible show LCg.CompSrc _ _ _ _ _ _ _ _ _ _ _ _ _ _ | with_reducible show wpAny _ _ (execs (PySem.Stmt.If (PySem.Expr.Compare _ [CmpOp.Lt] _ _) [PySem.Stmt.Assign [PySem.Expr.Tuple _ _ _] _ _] _ _ :: _) _) _ _ _))); first | (k_end; wrow_close) | walk1 | (dsimp only; walk1) | (leave1; walk_say "STEP leave1"; try dsimp only) | fail "no step")))
    refine item_last rfl (show News _ _ _ (_ :: (lt, W.listOf (ts ++ [Value.str T tt]).toArray kt2) :: _ :: rest5) by k_asm) (List.mem_cons_of_mem _ List.mem_cons_self) ?_
    (repeat' (first | (k_unfold; first | walk_at "Seq" | (try dsimp only)) | ((fail_if_success ((first | with_reducible show wpAny _ _ (execs (PySem.Stmt.For _ _ _ _ _ :: _) _) _ _ _ | with_reducible show wpAny _ _ (exec (PySem.Stmt.Assign [_] (PySem.Expr.ListComp _ _ _ _) _) _) _ _ _ | with_reducible show wpAny _ _ (call (Value.ref _) _) _ _ _ | with_reducible show wpAny _ _ (call (Value.builtin "len") _) _ _ _ | with_reducible show wpAny _ _ (call (Value.builtin "list.append") _) _ _ _ | with_reducible show wpAny _ _ (subscriptTail _ (PySem.Expr.UnaryOp _ _ _) (Value.ref _) _) _ _ _ | with_reducible show wpAny _ _ (subscriptTail _ (PySem.Expr.Name _ _) (Value.ref _) _) _ _ _ | with_reducible show wpAny _ _ (subscriptTail _ (PySem.Expr.Constant _ _ _) (Value.ref _) _) _ _ _ | with_reducible show wpAny _ _ (subscriptTail _ (PySem.Expr.Slice _ _ _ _) _ _) _ _ _ | with_reducible show wpAny _ _ (exec (PySem.Stmt.While _ _ _ _) _) _ _ _ | with_reducible show wpAny _ _ (exec (PySem.Stmt.For _ _ _ _ _) _) _ _ _ | with_reducible show wpAny _ _ (pyIter _) _ _ _ | with_reducible show wpAny _ _ (call (Value.type "list") _) _ _ _ | with_reducible show wpAny _ _ (call (Value.builtin "str.join") _) _ _ _ | with_reducible show wpAny _ _ (eval (PySem.Expr.ListComp _ [PySem.Comprehension.mk (PySem.Expr.Tuple _ _ _) _ _ _] _ _) _) _ _ _ | with_reducible show LCg.CompSrc _ _ _ _ _ _ _ _ _ _ _ _ _ _ | with_reducible show wpAny _ _ (execs (PySem.Stmt.If (PySem.Expr.Compare _ [CmpOp.Lt] _ _) [PySem.Stmt.Assign [PySem.Expr.Tuple _ _ _] _ _] _ _ :: _) _) _ _ _))); first | (k_end; wrow_close) | walk1 | (dsimp only; walk1) | (leave1; walk_say "STEP leave1"; try dsimp only) | fail "no step")))
    refine item_led (show News _ _ _ (_ :: (lt, W.listOf (ts ++ [Value.str T tt]).toArray kt2) :: _ :: rest5) by k_asm) (List.mem_cons_of_mem _ (List.mem_cons_of_mem _ (List.mem_cons_of_mem _ (hsub6 _ hrm)))) (by omega) (by omega) (show rvv.toArray[((1 : Int) + (i : Nat)).toNat]? = some (.ref ri) by rw [show ((1 : Int) + (i : Nat)).toNat = i + 1 by omega, List.getElem?_toArray]; exact hrvi) ?_
    (repeat' (first | (k_unfold; first | walk_at "Seq" | (try dsimp only)) | ((fail_if_success ((first | with_reducible show wpAny _ _ (execs (PySem.Stmt.For _ _ _ _ _ :: _) _) _ _ _ | with_reducible show wpAny _ _ (exec (PySem.Stmt.Assign [_] (PySem.Expr.ListComp _ _ _ _) _) _) _ _ _ | with_reducible show wpAny _ _ (call (Value.ref _) _) _ _ _ | with_reducible show wpAny _ _ (call (Value.builtin "len") _) _ _ _ | with_reducible show wpAny _ _ (call (Value.builtin "list.append") _) _ _ _ | with_reducible show wpAny _ _ (subscriptTail _ (PySem.Expr.UnaryOp _ _ _) (Value.ref _) _) _ _ _ | with_reducible show wpAny _ _ (subscriptTail _ (PySem.Expr.Name _ _) (Value.ref _) _) _ _ _ | with_reducible show wpAny _ _ (subscriptTail _ (PySem.Expr.Constant _ _ _) (Value.ref _) _) _ _ _ | with_reducible show wpAny _ _ (subscriptTail _ (PySem.Expr.Slice _ _ _ _) _ _) _ _ _ | with_reducible show wpAny _ _ (exec (PySem.Stmt.While _ _ _ _) _) _ _ _ | with_reducible show wpAny _ _ (exec (PySem.Stmt.For _ _ _ _ _) _) _ _ _ | with_reducible show wpAny _ _ (pyIter _) _ _ _ | with_reducible show wpAny _ _ (call (Value.type "list") _) _ _ _ | with_reducible show wpAny _ _ (call (Value.builtin "str.join") _) _ _ _ | with_reducible show wpAny _ _ (eval (PySem.Expr.ListComp _ [PySem.Comprehension.mk (PySem.Expr.Tuple _ _ _) _ _ _] _ _) _) _ _ _ | with_reducible show LCg.CompSrc _ _ _ _ _ _ _ _ _ _ _ _ _ _ | with_reducible show wpAny _ _ (execs (PySem.Stmt.If (PySem.Expr.Compare _ [CmpOp.Lt] _ _) [PySem.Stmt.Assign [PySem.Expr.Tuple _ _ _] _ _] _ _ :: _) _) _ _ _))); first | (k_end; wrow_close) | walk1 | (dsimp only; walk1) | (leave1; walk_say "STEP leave1"; try dsimp only) | fail "no step")))
    obtain ⟨ri', rrv, rre, e9, hrrm, hrrA⟩ := hrr
    cases e9
    have hrl4 : r.length ≤ 4 := Nat.le_trans (flatten_le hmr) flat4
    have hr3 : ∀ x ∈ r, x.length ≤ 3 := rule3 r hmr
    refine join_listC (items := rrv.toArray) (ys := r) (isl (show News _ _ _ (_ :: (lt, W.listOf (ts ++ [Value.str T tt]).toArray kt2) :: _ :: rest5) by k_asm) (List.mem_cons_of_mem _ (List.mem_cons_of_mem _ (List.mem_cons_of_mem _ (hsub6 _ hrrm))))) (by simpa using hrrA) (by decide) ?jz ?_
    case jz =>
      have := sum_len hr3
      omega
    have hJl := join_len hrl4 fun x hx => Nat.le_trans (hr3 x hx) (by decide)
    obtain ⟨Jt, eJ⟩ : ∃ J, J = Txt.join (Str.ofString "\n") r := ⟨_, rfl⟩
    rw [← eJ] at hJl ⊢
    intro t8 k8
    (repeat' (first | (k_unfold; first | walk_at "Seq" | (try dsimp only)) | ((fail_if_success ((first | with_reducible show wpAny _ _ (execs (PySem.Stmt.For _ _ _ _ _ :: _) _) _ _ _ | with_reducible show wpAny _ _ (exec (PySem.Stmt.Assign [_] (PySem.Expr.ListComp _ _ _ _) _) _) _ _ _ | with_reducible show wpAny _ _ (call (Value.ref _) _) _ _ _ | with_reducible show wpAny _ _ (call (Value.builtin "len") _) _ _ _ | with_reducible show wpAny _ _ (call (Value.builtin "list.append") _) _ _ _ | with_reducible show wpAny _ _ (subscriptTail _ (PySem.Expr.UnaryOp _ _ _) (Value.ref _) _) _ _ _ | with_reducible show wpAny _ _ (subscriptTail _ (PySem.Expr.Name _ _) (Value.ref _) _) _ _ _ | with_reducible show wpAny _ _ (subscriptTail _ (PySem.Expr.Constant _ _ _) (Value.ref _) _) _ _ _ | with_reducible show wpAny _ _ (subscriptTail _ (PySem.Expr.Slice _ _ _ _) _ _) _ _ _ | with_reducible show wpAny _ _ (exec (PySem.Stmt.While _ _ _ _) _) _ _ _ | with_reducible show wpAny _ _ (exec (PySem.Stmt.For _ _ _ _ _) _) _ _ _ | with_reducible show wpAny _ _ (pyIter _) _ _ _ | with_reducible show wpAny _ _ (call (Value.type "list") _) _ _ _ | with_reducible show wpAny _ _ (call (Value.builtin "str.join") _) _ _ _ | with_reducible show wpAny _ _ (eval (PySem.Expr.ListComp _ [PySem.Comprehension.mk (PySem.Expr.Tuple _ _ _) _ _ _] _ _) _) _ _ _ | with_reducible show LCg.CompSrc _ _ _ _ _ _ _ _ _ _ _ _ _ _ | with_reducible show wpAny _ _ (execs (PySem.Stmt.If (PySem.Expr.Compare _ [CmpOp.Lt] _ _) [PySem.Stmt.Assign [PySem.Expr.Tuple _ _ _] _ _] _ _ :: _) _) _ _ _))); first | (k_end; wrow_close) | walk1 | (dsimp only; walk1) | (leave1; walk_say "STEP leave1"; try dsimp only) | fail "no step")))
    refine append_K (its := (ts ++ [Value.str T tt]).toArray) (n := kt2) (D := lt) (by k_asm) (show News _ _ _ ((lbk, _) :: (lt, W.listOf (ts ++ [Value.str T tt]).toArray kt2) :: (I, oI) :: rest5) by k_asm) (Upd.tail hne (Upd.head (List.forall_mem_cons.mpr ⟨hIt, ot3⟩))) ?_ ?zz
    case zz =>
      have := hts.len_eq
      rw [List.length_map, List.length_take] at this
      rw [sizeLine_eq, List.size_toArray, List.length_append]
      simp only [List.length_cons, List.length_nil]
      omega
    intro h9 F9 N9
    rw [List.push_toArray, List.push_toArray] at N9
    refine name_snoc N9 ?_
    intro t9 e9
    rw [← e9] at N9
    k_sweep
    (repeat' (first | (k_unfold; first | walk_at "Seq" | (try dsimp only)) | ((fail_if_success ((first | with_reducible show wpAny _ _ (execs (PySem.Stmt.For _ _ _ _ _ :: _) _) _ _ _ | with_reducible show wpAny _ _ (exec (PySem.Stmt.Assign [_] (PySem.Expr.ListComp _ _ _ _) _) _) _ _ _ | with_reducible show wpAny _ _ (call (Value.ref _) _) _ _ _ | with_reducible show wpAny _ _ (call (Value.builtin "len") _) _ _ _ | with_reducible show wpAny _ _ (call (Value.builtin "list.append") _) _ _ _ | with_reducible show wpAny _ _ (subscriptTail _ (PySem.Expr.UnaryOp _ _ _) (Value.ref _) _) _ _ _ | with_reducible show wpAny _ _ (subscriptTail _ (PySem.Expr.Name _ _) (Value.ref _) _) _ _ _ | with_reducible show wpAny _ _ (subscriptTail _ (PySem.Expr.Constant _ _ _) (Value.ref _) _) _ _ _ | with_reducible show wpAny _ _ (subscriptTail _ (PySem.Expr.Slice _ _ _ _) _ _) _ _ _ | with_reducible show wpAny _ _ (exec (PySem.Stmt.While _ _ _ _) _) _ _ _ | with_reducible show wpAny _ _ (exec (PySem.Stmt.For _ _ _ _ _) _) _ _ _ | with_reducible show wpAny _ _ (pyIter _) _ _ _ | with_reducible show wpAny _ _ (call (Value.type "list") _) _ _ _ | with_reducible show wpAny _ _ (call (Value.builtin "str.join") _) _ _ _ | with_reducible show wpAny _ _ (eval (PySem.Expr.ListComp _ [PySem.Comprehension.mk (PySem.Expr.Tuple _ _ _) _ _ _] _ _) _) _ _ _ | with_reducible show LCg.CompSrc _ _ _ _ _ _ _ _ _ _ _ _ _ _ | with_reducible show wpAny _ _ (execs (PySem.Stmt.If (PySem.Expr.Compare _ [CmpOp.Lt] _ _) [PySem.Stmt.Assign [PySem.Expr.Tuple _ _ _] _ _] _ _ :: _) _) _ _ _))); first | (k_end; wrow_close) | walk1 | (dsimp only; walk1) | (leave1; walk_say "STEP leave1"; try dsimp only) | fail "no step")))
    refine NPost.intro ⟨bs ++ [Value.ref bx] ++ [Value.ref x5], ts ++ [Value.str T tt] ++ [Value.str (T ++ Str.ofString "\n" ++ Jt) t9], kb2 + 1, kt2 + 1, rest5⟩ _ (by k_asm) N9 (List.mem_cons_of_mem _ (List.mem_cons_of_mem _ List.mem_cons_self)) (fun q hq => ?p1) ?p2 (fun _ h => nomatch h) (ps_cons rfl (ps_cons rfl (ps_cons rfl (ps_cons rfl (ps_cons rfl ps_nil))))) ⟨rfl, hsub6, ob3, ot3, ?p3, ?p4⟩
    case p1 =>
      simp only [BSt.led, List.mem_cons] at hq ⊢
      rcases hq with h | h | h
      · exact .inl h
      · exact .inr (.inl h)
      · exact .inr (.inr (.inr h))
    case p2 => exact List.forall_mem_cons.mpr ⟨fun e => hIb e.symm, List.forall_mem_cons.mpr ⟨fun e => hIt e.symm, oi3⟩⟩
    case p3 =>
      rw [List.take_add_one, accF_get (by omega), List.take_add_one, accF_get (by omega), ← eA, hacc]
      exact (hbs6.snoc hbl6).snoc hR6
    case p4 =>
      rw [List.take_add_one, accF_get (by omega), List.take_add_one, accF_get (by omega), ← eA, hacc]
      simp only [Option.toList_some, List.map_append, List.map_cons, List.map_nil]
      refine StrsAre.append' (StrsAre.append' hts ?_) ?_
      · rw [← eT]; exact .cons _ _ .nil
      · have e : T ++ Str.ofString "\n" ++ Jt = textOf ag dl (A ++ r) := by rw [eT, eJ]; exact text_glue ag1 (hnr r hmr)
        rw [← e]
        exact .cons _ _ .nil
  case fin =>
    rintro ⟨bv2, tv2, kb2, kt2, rest2⟩ u2 h2 tk2 nw ⟨rfl, hsub, ob2, ot2, hb2, ht2⟩ F2 N2
    dsimp only [BSt.led, kstB] at hb2 ht2 F2 N2 hsub ob2 ot2 ⊢
    rw [List.take_of_length_le (by rw [accF_len]; omega)] at hb2 ht2
    k_sweep
    refine Seq.next ?_
    have hup : ∀ q ∈ rest, q ∈ (lbk, W.listOf bv2.toArray kb2) :: (lt, W.listOf tv2.toArray kt2) :: rest2 := fun q hq => List.mem_cons_of_mem _ (List.mem_cons_of_mem _ (hsub q hq))
    have hup2 : ∀ q ∈ rest2, q ∈ (lbk, W.listOf bv2.toArray kb2) :: (lt, W.listOf tv2.toArray kt2) :: rest2 := fun q hq => List.mem_cons_of_mem _ (List.mem_cons_of_mem _ hq)
    exact nextC w p loose mean mg mb fa cd h₀ L _ s h2 _ oT oB oR oD oA ((lbk, W.listOf bv2.toArray kb2) :: (lt, W.listOf tv2.toArray kt2) :: rest2) lnum la lr lrec lbk lt dv bd lo hi nv rv bv2 tv2 xs kn kr kb2 kt2 t1 t2 tb ag dl rows hB
      (fr_ps (by k_asm) (ps_cons rfl (ps_cons rfl (ps_cons rfl (ps_cons rfl (ps_cons rfl ps_nil)))))) (by k_asm) hT (by k_asm) (hup _ mT) (hup _ mB) (hup _ mR) (hup _ mD) (hup _ mA) dT dB dR dD dA (hup _ hnum) hI (hag.mono hup) hdv (hR.mono hup) hG hlh (hup _ hrec) (hA.mono fun _ _ r => r.mono hup)
      List.mem_cons_self (hb2.mono fun _ _ r => r.mono hup2) (List.mem_cons_of_mem _ List.mem_cons_self) ht2
end
end

section
open PySem PySem.W PyProof.Rows
section
noncomputable def keptF (ag : List Str) (l h : Nat) : List Str := ag.take l ++ ag.drop h
noncomputable def greatF (ag : List Str) (l h : Nat) : List Str := (((ag.drop l).take (h - l)).filter fun a => decide (a ≠ Str.ofString "*")).map Txt.upper
noncomputable def narrowF (ag : List Str) (l h : Nat) : List Str := (keptF ag l h).reverse ++ [Str.ofString "e"] ++ greatF ag l h
noncomputable def jl : List (List Nat) → List Nat
  | [] => []
  | [x] => x
  | x :: y :: r => x ++ 10 :: jl (y :: r)
theorem join_toList : ∀ xs : List Str, (Str.join nl xs).cps.toList = jl (xs.map (·.cps.toList))
  | [] => rfl
  | [x] => rfl
  | x :: y :: r => by
    have ih := join_toList (y :: r)
    show (x ++ nl ++ Str.join nl (y :: r)).cps.toList = _
    rw [Str.cps_append, Str.cps_append, Array.toList_append, Array.toList_append, ih]
    simp [jl, nl_eq]
theorem span_eq {c : Nat} : ∀ {x y A B : List Nat}, c ∉ x → c ∉ y → x ++ c :: A = y ++ c :: B → x = y ∧ A = B
  | [], [], A, B, _, _, h => ⟨rfl, by simpa using h⟩
  | [], b :: y, A, B, _, hy, h => by
    simp only [List.nil_append, List.cons_append, List.cons.injEq] at h
    exact absurd (h.1 ▸ List.mem_cons_self) hy
  | a :: x, [], A, B, hx, _, h => by
    simp only [List.nil_append, List.cons_append, List.cons.injEq] at h
    exact absurd (h.1 ▸ List.mem_cons_self) hx
  | a :: x, b :: y, A, B, hx, hy, h => by
    simp only [List.cons_append, List.cons.injEq] at h
    obtain ⟨e1, e2⟩ := span_eq (fun m => hx (List.mem_cons_of_mem _ m)) (fun m => hy (List.mem_cons_of_mem _ m)) h.2
    exact ⟨by rw [h.1, e1], e2⟩
theorem jl_inj : ∀ {xs ys : List (List Nat)}, xs ≠ [] → ys ≠ [] → (∀ x ∈ xs, 10 ∉ x) → (∀ y ∈ ys, 10 ∉ y) → jl xs = jl ys → xs = ys
  | [], _, h, _, _, _, _ => absurd rfl h
  | _, [], _, h, _, _, _ => absurd rfl h
  | [x], [y], _, _, _, _, h => by simp only [jl] at h; rw [h]
  | [x], y :: y2 :: r, _, _, hx, _, h => by
    simp only [jl] at h
    exact absurd (by rw [h]; simp) (hx x List.mem_cons_self)
  | x :: x2 :: r, [y], _, _, _, hy, h => by
    simp only [jl] at h
    exact absurd (by rw [← h]; simp) (hy y List.mem_cons_self)
  | x :: x2 :: r, y :: y2 :: q, _, _, hx, hy, h => by
    simp only [jl] at h
    obtain ⟨e1, e2⟩ := span_eq (hx x List.mem_cons_self) (hy y List.mem_cons_self) h
    have := jl_inj (xs := x2 :: r) (ys := y2 :: q) (by simp) (by simp) (fun z hz => hx z (List.mem_cons_of_mem _ hz)) (fun z hz => hy z (List.mem_cons_of_mem _ hz)) e2
    rw [e1, this]
theorem str_of_list {x y : Str} (h : x.cps.toList = y.cps.toList) : x = y := Str.ext' (Array.toList_inj.mp h)
theorem map_cps_inj : ∀ {xs ys : List Str}, xs.map (·.cps.toList) = ys.map (·.cps.toList) → xs = ys
  | [], [], _ => rfl
  | [], _ :: _, h => by simp at h
  | _ :: _, [], h => by simp at h
  | x :: xs, y :: ys, h => by
    simp only [List.map_cons, List.cons.injEq] at h
    rw [str_of_list h.1, map_cps_inj h.2]
theorem split_join {xs : List Str} (hx : xs ≠ []) (h0 : jl (xs.map (·.cps.toList)) ≠ []) (hf : ∀ x ∈ xs, 10 ∉ x.cps.toList) : Txt.split (Txt.join nl xs) nl = xs := by
  rw [txt_join]
  have h1 := StrLaws.join_split (Str.join nl xs) nl
  have h2 : ∀ p ∈ Txt.split (Str.join nl xs) nl, 10 ∉ p.cps.toList := by rw [nl_eq]; exact StrLaws.split_free _ 10
  generalize Txt.split (Str.join nl xs) nl = ps at *
  have h3 := congrArg (fun z : Str => z.cps.toList) h1
  simp only [join_toList] at h3
  have hp : ps ≠ [] := by
    rintro rfl
    exact h0 h3.symm
  refine map_cps_inj (jl_inj (by simpa using hp) (by simpa using hx) ?_ ?_ h3)
  · intro y hy
    obtain ⟨p, hp, rfl⟩ := List.mem_map.mp hy
    exact h2 p hp
  · intro y hy
    obtain ⟨p, hp, rfl⟩ := List.mem_map.mp hy
    exact hf p hp
theorem ring4_facts : ∀ a ∈ ring4, a.length ≤ 2 ∧ PyData.strOk a = true ∧ a ≠ Str.ofString "e" ∧ 10 ∉ a.cps.toList ∧ (∀ c ∈ a.cps.toList, c < 128) := by decide +kernel
theorem ring4_upper : ∀ a ∈ ring4, a ≠ Str.ofString "*" → Txt.upper a ∉ ring4 ∧ (Txt.upper a).length ≤ 2 := by decide +kernel
theorem num_free : ∀ k : Nat, k < 100 → 10 ∉ (Str.ofString (toString (k : Int))).cps.toList ∧ ∀ c ∈ (Str.ofString (toString (k : Int))).cps.toList, c < 128 := by decide +kernel
theorem line_free {ag ru : List Str} {dl : Option Int} (ha : ∀ a ∈ ag, a ∈ ring4) (hd : ∀ n, dl = some n → 0 ≤ n ∧ n < 100) (hr : ∀ x ∈ ru, ∀ c ∈ x.cps.toList, c ∈ [47, 97, 65, 36]) :
    ∀ x ∈ textLines ag dl ru, 10 ∉ x.cps.toList ∧ ∀ c ∈ x.cps.toList, c < 128 := by
  have hu : 10 ∉ (Str.ofString "User-agent: ").cps.toList ∧ ∀ c ∈ (Str.ofString "User-agent: ").cps.toList, c < 128 := by decide +kernel
  have hc : 10 ∉ (Str.ofString "Crawl-delay: ").cps.toList ∧ ∀ c ∈ (Str.ofString "Crawl-delay: ").cps.toList, c < 128 := by decide +kernel
  intro x hx
  unfold textLines at hx
  rcases List.mem_append.mp hx with hx | hx
  · rcases List.mem_append.mp hx with hx | hx
    · obtain ⟨y, hy, rfl⟩ := List.mem_map.mp hx
      have f := ring4_facts y (ha y hy)
      unfold agentLine
      rw [Str.cps_append, Array.toList_append]
      refine ⟨fun h => (List.mem_append.mp h).elim hu.1 f.2.2.2.1, fun c h => (List.mem_append.mp h).elim (hu.2 c) (f.2.2.2.2 c)⟩
    · cases dl with
      | none => exact nomatch hx
      | some n =>
        obtain ⟨h0, h1⟩ := hd n rfl
        obtain ⟨k, rfl⟩ := Int.eq_ofNat_of_zero_le h0
        simp only [delLine, List.mem_singleton] at hx
        subst hx
        have f := num_free k (by omega)
        rw [Str.cps_append, Array.toList_append]
        exact ⟨fun h => (List.mem_append.mp h).elim hc.1 f.1, fun c h => (List.mem_append.mp h).elim (hc.2 c) (f.2 c)⟩
  · have hq := hr x hx
    refine ⟨fun h => ?_, fun c h => ?_⟩
    · have := hq _ h
      simp at this
    · have := hq _ h
      simp only [List.mem_cons, List.not_mem_nil, or_false] at this
      omega
theorem jl_ne {x : List Nat} (h : x ≠ []) : ∀ (r : List (List Nat)), jl (x :: r) ≠ []
  | [] => h
  | y :: r => by simp [jl]
theorem split_text {ag ru : List Str} {dl : Option Int} (h1 : 1 ≤ ag.length) (ha : ∀ a ∈ ag, a ∈ ring4) (hd : ∀ n, dl = some n → 0 ≤ n ∧ n < 100) (hr : ∀ x ∈ ru, ∀ c ∈ x.cps.toList, c ∈ [47, 97, 65, 36]) :
    Txt.split (textOf ag dl ru) (Str.ofString "\n") = textLines ag dl ru := by
  refine split_join (textLines_ne h1) ?_ fun x hx => (line_free ha hd hr x hx).1
  cases ag with
  | nil => simp at h1
  | cons a as =>
    have : (agentLine a).cps.toList ≠ [] := by
      unfold agentLine
      rw [Str.cps_append, Array.toList_append]
      intro e
      have e2 := (List.append_eq_nil_iff.mp e).1
      exact absurd e2 (by decide +kernel)
    exact jl_ne this _
theorem cut_lines {ag ru : List Str} {dl : Option Int} {l h : Nat} (hl : l ≤ h) (hh : h ≤ ag.length) : (textLines ag dl ru).take l ++ (textLines ag dl ru).drop h = textLines (keptF ag l h) dl ru := by
  unfold textLines keptF
  rw [List.append_assoc, List.take_append_of_le_length (by simp; omega), List.drop_append_of_le_length (by simp; omega)]
  simp [List.map_append, List.map_take, List.map_drop]
theorem kept_filter {ag : List Str} {l h : Nat} (ha : ∀ a ∈ ag, a ∈ ring4) (hn : ag.Nodup) (hl : l ≤ h) (hh : h ≤ ag.length) : (ag.filter fun a => decide (a ∈ narrowF ag l h)) = keptF ag l h := by
  have e : ag = ag.take l ++ ((ag.drop l).take (h - l) ++ ag.drop h) := by
    have e2 : ag.drop h = (ag.drop l).drop (h - l) := by rw [List.drop_drop]; congr 1; omega
    rw [e2, List.take_append_drop, List.take_append_drop]
  have hm : ∀ x ∈ ag, (x ∈ narrowF ag l h ↔ x ∈ keptF ag l h) := by
    intro x hx
    have fx := ring4_facts x (ha x hx)
    unfold narrowF
    simp only [List.mem_append, List.mem_reverse, List.mem_singleton]
    constructor
    · rintro ((hk | he) | hg)
      · exact hk
      · exact absurd he fx.2.2.1
      · exfalso
        unfold greatF at hg
        obtain ⟨y, hy, e⟩ := List.mem_map.mp hg
        obtain ⟨hy1, hy2⟩ := List.mem_filter.mp hy
        have hy3 := ha y (List.mem_of_mem_drop (List.mem_of_mem_take hy1))
        exact (ring4_upper y hy3 (of_decide_eq_true hy2)).1 (e ▸ ha x hx)
    · intro hk; exact .inl (.inl hk)
  have hn2 : (ag.take l ++ ((ag.drop l).take (h - l) ++ ag.drop h)).Nodup := by rw [← e]; exact hn
  obtain ⟨P, eP⟩ : ∃ P, P = ag.take l := ⟨_, rfl⟩
  obtain ⟨M, eM⟩ : ∃ M, M = (ag.drop l).take (h - l) := ⟨_, rfl⟩
  obtain ⟨S, eS⟩ : ∃ S, S = ag.drop h := ⟨_, rfl⟩
  have ek : keptF ag l h = P ++ S := by rw [eP, eS]; rfl
  have hm2 : ∀ x ∈ ag, (x ∈ narrowF ag l h ↔ x ∈ P ++ S) := fun x hx => by rw [← ek]; exact hm x hx
  rw [ek, List.filter_congr (fun x hx => decide_eq_decide.mpr (hm2 x hx))]
  rw [← eP, ← eM, ← eS] at e hn2
  rw [e, List.filter_append, List.filter_append]
  have fP : P.filter (fun x => decide (x ∈ P ++ S)) = P := List.filter_eq_self.mpr fun x hx => decide_eq_true (List.mem_append_left _ hx)
  have fS : S.filter (fun x => decide (x ∈ P ++ S)) = S := List.filter_eq_self.mpr fun x hx => decide_eq_true (List.mem_append_right _ hx)
  rw [fP, fS, List.filter_eq_nil_iff.mpr, List.nil_append]
  intro x hx h9
  have h9 := of_decide_eq_true h9
  rw [List.nodup_append] at hn2
  obtain ⟨_, h2, h3⟩ := hn2
  rw [List.nodup_append] at h2
  rcases List.mem_append.mp h9 with h9 | h9
  · exact h3 x h9 x (List.mem_append_left _ hx) rfl
  · exact h2.2.2 x hx x h9 rfl
theorem accF_last {rows : List (List Str)} (h : 1 ≤ rows.length) : ∃ pre, accF rows = pre ++ [rows.flatten] := by
  refine ⟨(accF rows).take (rows.length - 1), ?_⟩
  have e := accF_get (rows := rows) (i := rows.length - 1) (by omega)
  have e2 : rows.take (rows.length - 1 + 1) = rows := List.take_of_length_le (by omega)
  rw [e2] at e
  have : (accF rows).take (rows.length - 1 + 1) = accF rows := List.take_of_length_le (by rw [accF_len]; omega)
  calc accF rows = (accF rows).take (rows.length - 1 + 1) := this.symm
    _ = _ := by rw [List.take_add_one, e]; rfl
theorem flat_ne {rows : List (List Str)} (h : 1 ≤ rows.length) (hn : ∀ r ∈ rows, r ≠ []) : rows.flatten ≠ [] := by
  cases rows with
  | nil => simp at h
  | cons r rs =>
    have := hn r List.mem_cons_self
    cases r with
    | nil => exact absurd rfl this
    | cons a b => simp
theorem strF_text {ag ru : List Str} {dl : Option Int} (ha : ag ≠ []) (hr : ru ≠ []) : strF ag dl ru = textOf ag dl ru := by
  unfold strF
  rw [if_neg ha]
  cases ru with
  | nil => exact absurd rfl hr
  | cons a b => rfl
theorem strF_nil {ru : List Str} {dl : Option Int} : strF [] dl ru = Str.ofString "" := rfl
theorem strF_allow {ag : List Str} {dl : Option Int} (ha : ag ≠ []) : strF ag dl [] = textOf ag dl [Str.ofString "Allow:"] := by
  unfold strF
  rw [if_neg ha]
  rfl
theorem kept_mem {ag : List Str} {l h : Nat} {x : Str} (hx : x ∈ keptF ag l h) : x ∈ ag := (List.mem_append.mp hx).elim List.mem_of_mem_take List.mem_of_mem_drop
theorem narrow_facts {ag : List Str} {l h : Nat} (ha : ∀ a ∈ ag, a ∈ ring4) (h3 : ag.length ≤ 3) : narrowF ag l h ≠ [] ∧ (narrowF ag l h).length ≤ 16 ∧ ∀ x ∈ narrowF ag l h, x.length ≤ 2 := by
  refine ⟨?_, ?_, ?_⟩
  · unfold narrowF; simp
  · unfold narrowF greatF keptF
    have := List.length_filter_le (fun a => decide (a ≠ Str.ofString "*")) ((ag.drop l).take (h - l))
    simp only [List.length_append, List.length_reverse, List.length_cons, List.length_nil, List.length_map, List.length_take, List.length_drop] at this ⊢
    omega
  · intro x hx
    unfold narrowF at hx
    simp only [List.mem_append, List.mem_reverse, List.mem_singleton] at hx
    rcases hx with (hk | he) | hg
    · exact (ring4_facts x (ha x (kept_mem hk))).1
    · rw [he]; decide +kernel
    · unfold greatF at hg
      obtain ⟨y, hy, rfl⟩ := List.mem_map.mp hg
      obtain ⟨hy1, hy2⟩ := List.mem_filter.mp hy
      exact (ring4_upper y (ha y (List.mem_of_mem_drop (List.mem_of_mem_take hy1))) (of_decide_eq_true hy2)).2
end
end

section
open PySem PySem.W PyProof.Rows
section
theorem name_l1 {h₀ h : Heap} {L l : Addr} {x : Str} {t : Tok} {k : Nat} {rest : List (Addr × Obj)} {G : Prop} (N : News h₀ L h ((l, W.listOf #[Value.str x t] k) :: rest)) (g : ∀ l' t', l' = l → News h₀ L h ((l', W.listOf [Value.str x t'].toArray k) :: rest) → G) : G := g l t rfl N
theorem strs_reverse : ∀ {vs : List Value} {ws : List Str}, StrsAre vs ws → StrsAre vs.reverse ws.reverse
  | _, _, .nil => .nil
  | _, _, .cons x t r => by
    rw [List.reverse_cons, List.reverse_cons]
    exact (strs_reverse r).append' (.cons _ _ .nil)
structure LArgs where
  lnum : Addr
  la : Addr
  lr : Addr
  lrec : Addr
  lbk : Addr
  lt : Addr
  dv : Value
  bd : Int
  lo : Int
  hi : Int
  nv : List Value
  rv : List Value
  bv : List Value
  tv : List Value
  xs : List Int
  kn : Nat
  kr : Nat
  kb : Nat
  kt : Nat
  tb : Tok
  ag : List Str
  dl : Option Int
  rows : List (List Str)
  oT : Obj
  oB : Obj
  oR : Obj
  oD : Obj
  oA : Obj
structure LawF (w : World) (L : Addr) (a : LArgs) (nw : List (Addr × Obj)) : Prop where
  mT : (L + 1 + 1 + 1 + 1 + 1, a.oT) ∈ nw
  mB : (L + 1 + 1 + 1 + 1, a.oB) ∈ nw
  mR : (L + 1 + 1 + 1, a.oR) ∈ nw
  mD : (L + 1 + 1, a.oD) ∈ nw
  mA : (L + 1, a.oA) ∈ nw
  dT : a.oT.data = .cell (some (.ref a.lt))
  dB : a.oB.data = .cell (some (.int a.bd a.tb))
  dR : a.oR.data = .cell (some (.ref a.lr))
  dD : a.oD.data = .cell (some a.dv)
  dA : a.oA.data = .cell (some (.ref a.la))
  hnum : (a.lnum, W.listOf a.nv.toArray a.kn) ∈ nw
  hI : IntsAre a.nv a.xs
  hag : StrsIn nw (.ref a.la) a.ag
  hdv : DelIs a.dv a.dl
  hR : RowsIn nw (.ref a.lr) a.rows
  hG : Good a.ag a.dl a.rows
  hlh : LoHi a.ag a.lo a.hi
  hrec : (a.lrec, W.listOf a.rv.toArray a.kr) ∈ nw
  hA : All2 (fun v (r : Option Int × List Str) => RecIn w nw v a.ag r.1 r.2) a.rv (recsF a.dl a.rows)
  hbk : (a.lbk, W.listOf a.bv.toArray a.kb) ∈ nw
  hb : All2 (fun v r => RecIn w nw v a.ag a.dl r) a.bv (accF a.rows)
  htx : (a.lt, W.listOf a.tv.toArray a.kt) ∈ nw
  ht : StrsAre a.tv ((accF a.rows).map (textOf a.ag a.dl))
theorem LawF.mono {w : World} {L : Addr} {a : LArgs} {nw nw' : List (Addr × Obj)} (h : LawF w L a nw) (k : ∀ q ∈ nw, q ∈ nw') : LawF w L a nw' :=
  ⟨k _ h.mT, k _ h.mB, k _ h.mR, k _ h.mD, k _ h.mA, h.dT, h.dB, h.dR, h.dD, h.dA, k _ h.hnum, h.hI, h.hag.mono k, h.hdv, h.hR.mono k, h.hG, h.hlh, k _ h.hrec, h.hA.mono fun _ _ r => r.mono k, k _ h.hbk, h.hb.mono fun _ _ r => r.mono k, k _ h.htx, h.ht⟩
theorem law_c (nextD : ∀ (w : World) (p : Program) (loose : List Str) (mean : ExcName → Option Value) (mg mb : Str → Option Value) (fa : Addr) (cd : Value) (h₀ : Heap) (L : Addr) (u : Str → Option Value) (s : Shared) (h : Heap) (tk : Nat) (a : LArgs) (t1 t2 : Tok) (nw : List (Addr × Obj)) (l hh : Nat) (lkp lgr lnr : Addr),
    Below callerA h₀ [] h₀ → Fr h₀ L h (kstB u [("numbers", .ref a.lnum), ("low", .int (l : Int) t1), ("high", .int (hh : Int) t2), ("records", .ref a.lrec), ("books", .ref a.lbk), ("kept", .ref lkp), ("great", .ref lgr), ("narrow", .ref lnr)]) → (Mine.hd.heap_39 w.params).In h₀ → Top p loose mean mg mb h₀ →
    News h₀ L h nw → LawF w L a nw → l ≤ hh → hh ≤ a.ag.length → StrsIn nw (.ref lkp) (keptF a.ag l hh) → StrsIn nw (.ref lgr) (greatF a.ag l hh) → RecIn w nw (.ref lnr) (narrowF a.ag l hh) none [] →
    LawRest 8 w fa cd h₀ L s h tk)
    (w : World) (p : Program) (loose : List Str) (mean : ExcName → Option Value) (mg mb : Str → Option Value) (fa : Addr) (cd : Value) (h₀ : Heap) (L : Addr) (u : Str → Option Value) (s : Shared) (h : Heap) (tk : Nat) (a : LArgs) (t1 t2 : Tok) (nw : List (Addr × Obj))
    (hB : Below callerA h₀ [] h₀) (hF : Fr h₀ L h (kstB u [("numbers", .ref a.lnum), ("low", .int a.lo t1), ("high", .int a.hi t2), ("records", .ref a.lrec), ("books", .ref a.lbk)])) (hX : (Mine.hd.heap_39 w.params).In h₀) (hT : Top p loose mean mg mb h₀)
    (hN : News h₀ L h nw) (hL : LawF w L a nw) : LawRest 6 w fa cd h₀ L s h tk := by
  unfold LawRest at nextD ⊢
  dsimp only [lawOf, List.drop] at nextD ⊢
  dsimp only [kstB] at hF
  obtain ⟨l, hh, el, eh, hlh, hhl⟩ := hL.hlh
  rw [el, eh] at hF
  obtain ⟨la', av, ka, e9, hma, hav⟩ := id hL.hag
  cases e9
  have hal := hav.len_eq
  have mA := hL.mA
  have dA := hL.dA
  have hag3 := hL.hG.ag3
  (try k_fold)
  (repeat' (first | (k_unfold; first | walk_at "Seq" | (try dsimp only)) | ((fail_if_success ((first | with_reducible show wpAny _ _ (eval (PySem.Expr.ListComp _ _ _ _) _) _ _ _ | with_reducible show wpAny _ _ (call (Value.ref _) _) _ _ _ | with_reducible show wpAny _ _ (binaryOp Operator.Add (Value.ref _) (Value.ref _)) _ _ _ | with_reducible show wpAny _ _ (subscriptTail _ (PySem.Expr.Slice _ _ _ _) _ _) _ _ _ | with_reducible show wpAny _ _ (execs (PySem.Stmt.Assign [PySem.Expr.Tuple [PySem.Expr.Name (Str.ofString "less") _, _] _ _] _ _ :: _) _) _ _ _ | with_reducible show wpAny _ _ (exec (PySem.Stmt.While _ _ _ _) _) _ _ _ | with_reducible show wpAny _ _ (exec (PySem.Stmt.For _ _ _ _ _) _) _ _ _ | with_reducible show wpAny _ _ (pyIter _) _ _ _ | with_reducible show wpAny _ _ (call (Value.type "list") _) _ _ _ | with_reducible show wpAny _ _ (call (Value.builtin "str.join") _) _ _ _ | with_reducible show wpAny _ _ (eval (PySem.Expr.ListComp _ [PySem.Comprehension.mk (PySem.Expr.Tuple _ _ _) _ _ _] _ _) _) _ _ _ | with_reducible show LCg.CompSrc _ _ _ _ _ _ _ _ _ _ _ _ _ _ | with_reducible show wpAny _ _ (execs (PySem.Stmt.If (PySem.Expr.Compare _ [CmpOp.Lt] _ _) [PySem.Stmt.Assign [PySem.Expr.Tuple _ _ _] _ _] _ _ :: _) _) _ _ _))); first | (k_end; wrow_close) | walk1 | (dsimp only; walk1) | (leave1; walk_say "STEP leave1"; try dsimp only) | fail "no step")))
  have hz4 : av.length ≤ 4 := by omega
  refine slice_to (s := ⟨_, _, _, _, _⟩) (b := l) (by k_asm) hN hma (by rw [sizeLine_eq]; omega) ?_
  intro D1 h1 F1 N1 _
  k_sweep
  (repeat' (first | (k_unfold; first | walk_at "Seq" | (try dsimp only)) | ((fail_if_success ((first | with_reducible show wpAny _ _ (eval (PySem.Expr.ListComp _ _ _ _) _) _ _ _ | with_reducible show wpAny _ _ (call (Value.ref _) _) _ _ _ | with_reducible show wpAny _ _ (binaryOp Operator.Add (Value.ref _) (Value.ref _)) _ _ _ | with_reducible show wpAny _ _ (subscriptTail _ (PySem.Expr.Slice _ _ _ _) _ _) _ _ _ | with_reducible show wpAny _ _ (execs (PySem.Stmt.Assign [PySem.Expr.Tuple [PySem.Expr.Name (Str.ofString "less") _, _] _ _] _ _ :: _) _) _ _ _ | with_reducible show wpAny _ _ (exec (PySem.Stmt.While _ _ _ _) _) _ _ _ | with_reducible show wpAny _ _ (exec (PySem.Stmt.For _ _ _ _ _) _) _ _ _ | with_reducible show wpAny _ _ (pyIter _) _ _ _ | with_reducible show wpAny _ _ (call (Value.type "list") _) _ _ _ | with_reducible show wpAny _ _ (call (Value.builtin "str.join") _) _ _ _ | with_reducible show wpAny _ _ (eval (PySem.Expr.ListComp _ [PySem.Comprehension.mk (PySem.Expr.Tuple _ _ _) _ _ _] _ _) _) _ _ _ | with_reducible show LCg.CompSrc _ _ _ _ _ _ _ _ _ _ _ _ _ _ | with_reducible show wpAny _ _ (execs (PySem.Stmt.If (PySem.Expr.Compare _ [CmpOp.Lt] _ _) [PySem.Stmt.Assign [PySem.Expr.Tuple _ _ _] _ _] _ _ :: _) _) _ _ _))); first | (k_end; wrow_close) | walk1 | (dsimp only; walk1) | (leave1; walk_say "STEP leave1"; try dsimp only) | fail "no step")))
  refine slice_from (s := ⟨_, _, _, _, _⟩) (b := hh) (by k_asm) N1 (List.mem_cons_of_mem _ hma) (by rw [sizeLine_eq]; omega) ?_
  intro D2 h2 F2 N2 _
  k_sweep
  (repeat' (first | (k_unfold; first | walk_at "Seq" | (try dsimp only)) | ((fail_if_success ((first | with_reducible show wpAny _ _ (eval (PySem.Expr.ListComp _ _ _ _) _) _ _ _ | with_reducible show wpAny _ _ (call (Value.ref _) _) _ _ _ | with_reducible show wpAny _ _ (binaryOp Operator.Add (Value.ref _) (Value.ref _)) _ _ _ | with_reducible show wpAny _ _ (subscriptTail _ (PySem.Expr.Slice _ _ _ _) _ _) _ _ _ | with_reducible show wpAny _ _ (execs (PySem.Stmt.Assign [PySem.Expr.Tuple [PySem.Expr.Name (Str.ofString "less") _, _] _ _] _ _ :: _) _) _ _ _ | with_reducible show wpAny _ _ (exec (PySem.Stmt.While _ _ _ _) _) _ _ _ | with_reducible show wpAny _ _ (exec (PySem.Stmt.For _ _ _ _ _) _) _ _ _ | with_reducible show wpAny _ _ (pyIter _) _ _ _ | with_reducible show wpAny _ _ (call (Value.type "list") _) _ _ _ | with_reducible show wpAny _ _ (call (Value.builtin "str.join") _) _ _ _ | with_reducible show wpAny _ _ (eval (PySem.Expr.ListComp _ [PySem.Comprehension.mk (PySem.Expr.Tuple _ _ _) _ _ _] _ _) _) _ _ _ | with_reducible show LCg.CompSrc _ _ _ _ _ _ _ _ _ _ _ _ _ _ | with_reducible show wpAny _ _ (execs (PySem.Stmt.If (PySem.Expr.Compare _ [CmpOp.Lt] _ _) [PySem.Stmt.Assign [PySem.Expr.Tuple _ _ _] _ _] _ _ :: _) _) _ _ _))); first | (k_end; wrow_close) | walk1 | (dsimp only; walk1) | (leave1; walk_say "STEP leave1"; try dsimp only) | fail "no step")))
  refine kmk_add_lit (its := (av.take l).toArray) (its2 := (av.drop hh).toArray) (zs := av.take l ++ av.drop hh) (by k_asm) N2 (isl N2 (List.mem_cons_of_mem _ List.mem_cons_self)) (isl N2 List.mem_cons_self) rfl ?_ (by
    rw [sizeLine_eq]
    show (av.take l).length + (av.drop hh).length ≤ _
    rw [List.length_take, List.length_drop]
    omega)
  intro D3 h3 F3 N3 _
  refine led_up N3 (fun q hq => List.mem_cons_of_mem _ (List.mem_cons_of_mem _ (List.mem_cons_of_mem _ hq))) ?_
  clear N3
  intro n3 hn3 hs3 N3
  have hkp := hn3 _ List.mem_cons_self
  k_sweep
  (repeat' (first | (k_unfold; first | walk_at "Seq" | (try dsimp only)) | ((fail_if_success ((first | with_reducible show wpAny _ _ (eval (PySem.Expr.ListComp _ _ _ _) _) _ _ _ | with_reducible show wpAny _ _ (call (Value.ref _) _) _ _ _ | with_reducible show wpAny _ _ (binaryOp Operator.Add (Value.ref _) (Value.ref _)) _ _ _ | with_reducible show wpAny _ _ (subscriptTail _ (PySem.Expr.Slice _ _ _ _) _ _) _ _ _ | with_reducible show wpAny _ _ (execs (PySem.Stmt.Assign [PySem.Expr.Tuple [PySem.Expr.Name (Str.ofString "less") _, _] _ _] _ _ :: _) _) _ _ _ | with_reducible show wpAny _ _ (exec (PySem.Stmt.While _ _ _ _) _) _ _ _ | with_reducible show wpAny _ _ (exec (PySem.Stmt.For _ _ _ _ _) _) _ _ _ | with_reducible show wpAny _ _ (pyIter _) _ _ _ | with_reducible show wpAny _ _ (call (Value.type "list") _) _ _ _ | with_reducible show wpAny _ _ (call (Value.builtin "str.join") _) _ _ _ | with_reducible show wpAny _ _ (eval (PySem.Expr.ListComp _ [PySem.Comprehension.mk (PySem.Expr.Tuple _ _ _) _ _ _] _ _) _) _ _ _ | with_reducible show LCg.CompSrc _ _ _ _ _ _ _ _ _ _ _ _ _ _ | with_reducible show wpAny _ _ (execs (PySem.Stmt.If (PySem.Expr.Compare _ [CmpOp.Lt] _ _) [PySem.Stmt.Assign [PySem.Expr.Tuple _ _ _] _ _] _ _ :: _) _) _ _ _))); first | (k_end; wrow_close) | walk1 | (dsimp only; walk1) | (leave1; walk_say "STEP leave1"; try dsimp only) | fail "no step")))
  have mA3 := hs3 _ mA
  have hma3 := hs3 _ hma
  refine LCt.ListComp_T (F₀ := by k_asm) (by with_unfolding_all rfl) (by decide) (by rfl) (by decide) (by rfl) ?_
  (repeat' (first | (k_unfold; first | walk_at "Seq" | (try dsimp only)) | ((fail_if_success ((first | with_reducible show wpAny _ _ (eval (PySem.Expr.ListComp _ _ _ _) _) _ _ _ | with_reducible show wpAny _ _ (call (Value.ref _) _) _ _ _ | with_reducible show wpAny _ _ (binaryOp Operator.Add (Value.ref _) (Value.ref _)) _ _ _ | with_reducible show wpAny _ _ (subscriptTail _ (PySem.Expr.Slice _ _ _ _) _ _) _ _ _ | with_reducible show wpAny _ _ (execs (PySem.Stmt.Assign [PySem.Expr.Tuple [PySem.Expr.Name (Str.ofString "less") _, _] _ _] _ _ :: _) _) _ _ _ | with_reducible show wpAny _ _ (exec (PySem.Stmt.While _ _ _ _) _) _ _ _ | with_reducible show wpAny _ _ (exec (PySem.Stmt.For _ _ _ _ _) _) _ _ _ | with_reducible show wpAny _ _ (pyIter _) _ _ _ | with_reducible show wpAny _ _ (call (Value.type "list") _) _ _ _ | with_reducible show wpAny _ _ (call (Value.builtin "str.join") _) _ _ _ | with_reducible show wpAny _ _ (eval (PySem.Expr.ListComp _ [PySem.Comprehension.mk (PySem.Expr.Tuple _ _ _) _ _ _] _ _) _) _ _ _ | with_reducible show LCg.CompSrc _ _ _ _ _ _ _ _ _ _ _ _ _ _ | with_reducible show wpAny _ _ (execs (PySem.Stmt.If (PySem.Expr.Compare _ [CmpOp.Lt] _ _) [PySem.Stmt.Assign [PySem.Expr.Tuple _ _ _] _ _] _ _ :: _) _) _ _ _))); first | (k_end; wrow_close) | walk1 | (dsimp only; walk1) | (leave1; walk_say "STEP leave1"; try dsimp only) | fail "no step")))
  refine slice_mid (s := ⟨_, _, _, _, _⟩) (vs := av) (a := l) (b := hh) (by k_asm) N3 hma3 (by rw [sizeLine_eq]; omega) rfl rfl ?_
  intro D4 h4 F4 N4 _
  k_sweep
  (repeat' (first | (k_unfold; first | walk_at "Seq" | (try dsimp only)) | ((fail_if_success ((first | with_reducible show wpAny _ _ (eval (PySem.Expr.ListComp _ _ _ _) _) _ _ _ | with_reducible show wpAny _ _ (call (Value.ref _) _) _ _ _ | with_reducible show wpAny _ _ (binaryOp Operator.Add (Value.ref _) (Value.ref _)) _ _ _ | with_reducible show wpAny _ _ (subscriptTail _ (PySem.Expr.Slice _ _ _ _) _ _) _ _ _ | with_reducible show wpAny _ _ (execs (PySem.Stmt.Assign [PySem.Expr.Tuple [PySem.Expr.Name (Str.ofString "less") _, _] _ _] _ _ :: _) _) _ _ _ | with_reducible show wpAny _ _ (exec (PySem.Stmt.While _ _ _ _) _) _ _ _ | with_reducible show wpAny _ _ (exec (PySem.Stmt.For _ _ _ _ _) _) _ _ _ | with_reducible show wpAny _ _ (pyIter _) _ _ _ | with_reducible show wpAny _ _ (call (Value.type "list") _) _ _ _ | with_reducible show wpAny _ _ (call (Value.builtin "str.join") _) _ _ _ | with_reducible show wpAny _ _ (eval (PySem.Expr.ListComp _ [PySem.Comprehension.mk (PySem.Expr.Tuple _ _ _) _ _ _] _ _) _) _ _ _ | with_reducible show LCg.CompSrc _ _ _ _ _ _ _ _ _ _ _ _ _ _ | with_reducible show wpAny _ _ (execs (PySem.Stmt.If (PySem.Expr.Compare _ [CmpOp.Lt] _ _) [PySem.Stmt.Assign [PySem.Expr.Tuple _ _ _] _ _] _ _ :: _) _) _ _ _))); first | (k_end; wrow_close) | walk1 | (dsimp only; walk1) | (leave1; walk_say "STEP leave1"; try dsimp only) | fail "no step")))
  obtain ⟨mv, emv⟩ : ∃ z, z = (av.drop l).take (hh - l) := ⟨_, rfl⟩
  obtain ⟨M, eM⟩ : ∃ z, z = (a.ag.drop l).take (hh - l) := ⟨_, rfl⟩
  have hmv : StrsAre mv M := by rw [emv, eM]; exact StrsAre.take'' _ (StrsAre.drop'' _ hav)
  have hMl : ∀ x ∈ M, x.length ≤ 2 := fun x hx => hL.hG.agl x (by rw [eM] at hx; exact List.mem_of_mem_drop (List.mem_of_mem_take hx))
  have hmvl : mv.length ≤ 4 := by rw [emv, List.length_take, List.length_drop]; omega
  rw [← emv] at N4
  obtain ⟨n4, en4⟩ : ∃ z, z = (D4, W.listOf mv.toArray 0) :: n3 := ⟨_, rfl⟩
  have hD4 : (D4, W.listOf mv.toArray 0) ∈ n4 := by rw [en4]; exact List.mem_cons_self
  have hs4 : ∀ q ∈ n3, q ∈ n4 := fun q hq => by rw [en4]; exact List.mem_cons_of_mem _ hq
  rw [← en4] at N4
  clear en4
  dsimp only
  refine LCt.CompSrcT.ledger (its := mv.toArray) (by rfl) (by k_asm) N4 hD4 (by rw [sizeLine_eq, List.size_toArray]; omega) ?_
  intro g'
  refine comp_restT (fun i zs nw' => nw' = n4 ∧ StrsAre zs (((M.take i).filter fun a => decide (a ≠ Str.ofString "*")).map Txt.upper)) ⟨rfl, .nil⟩ ?turn ?fin
  case turn =>
    rintro i v I oI C oC D m₂ zs nw' h5 tk5 E' hi hv ⟨rfl, hZ⟩ hC hx F5 N5 off ne
    obtain ⟨y, t, rfl, hyi⟩ := hmv.item i v (by simpa using hv)
    have hyl := hMl y (List.mem_of_getElem? hyi)
    have hq2 : ((M.take (i + 1)).filter fun a => decide (a ≠ Str.ofString "*")).map Txt.upper = ((M.take i).filter fun a => decide (a ≠ Str.ofString "*")).map Txt.upper ++ if y ≠ Str.ofString "*" then [Txt.upper y] else [] := by
      rw [List.take_add_one, hyi, List.filter_append, List.map_append]
      congr 1
      by_cases hp : y = Str.ofString "*" <;> simp [hp]
    (repeat' (first | (k_unfold; first | walk_at "Seq" | (try dsimp only)) | ((fail_if_success ((first | with_reducible show wpAny _ _ (eval (PySem.Expr.ListComp _ _ _ _) _) _ _ _ | with_reducible show wpAny _ _ (call (Value.ref _) _) _ _ _ | with_reducible show wpAny _ _ (binaryOp Operator.Add (Value.ref _) (Value.ref _)) _ _ _ | with_reducible show wpAny _ _ (subscriptTail _ (PySem.Expr.Slice _ _ _ _) _ _) _ _ _ | with_reducible show wpAny _ _ (execs (PySem.Stmt.Assign [PySem.Expr.Tuple [PySem.Expr.Name (Str.ofString "less") _, _] _ _] _ _ :: _) _) _ _ _ | with_reducible show wpAny _ _ (exec (PySem.Stmt.While _ _ _ _) _) _ _ _ | with_reducible show wpAny _ _ (exec (PySem.Stmt.For _ _ _ _ _) _) _ _ _ | with_reducible show wpAny _ _ (pyIter _) _ _ _ | with_reducible show wpAny _ _ (call (Value.type "list") _) _ _ _ | with_reducible show wpAny _ _ (call (Value.builtin "str.join") _) _ _ _ | with_reducible show wpAny _ _ (eval (PySem.Expr.ListComp _ [PySem.Comprehension.mk (PySem.Expr.Tuple _ _ _) _ _ _] _ _) _) _ _ _ | with_reducible show LCg.CompSrc _ _ _ _ _ _ _ _ _ _ _ _ _ _ | with_reducible show wpAny _ _ (execs (PySem.Stmt.If (PySem.Expr.Compare _ [CmpOp.Lt] _ _) [PySem.Stmt.Assign [PySem.Expr.Tuple _ _ _] _ _] _ _ :: _) _) _ _ _))); first | (k_end; wrow_close) | walk1 | (dsimp only; walk1) | (leave1; walk_say "STEP leave1"; try dsimp only) | fail "no step")))
    · have hp : y ≠ Str.ofString "*" := by
        have h9 : (y != Str.ofString "*") = true := by assumption
        simpa using h9
      (try dsimp only)
      refine LCg.CompEnd.intro F5 (show News _ _ _ ((I, oI) :: (C, oC) :: (D, LCg.lst zs) :: nw') by k_asm) nw' (fun p hp => hp) off (.inr ⟨_, hD4, rfl, _, rfl⟩) ⟨rfl, ?_⟩
      rw [hq2, if_pos hp]
      exact strs_snoc' rfl hZ
    · have hp : ¬ y ≠ Str.ofString "*" := by
        have h9 : (y != Str.ofString "*") = false := by assumption
        simpa using h9
      (try dsimp only)
      refine LCg.CompEnd.intro F5 (show News _ _ _ ((I, oI) :: (C, oC) :: (D, LCg.lst zs) :: nw') by k_asm) nw' (fun p hp => hp) off (.inr ⟨_, hD4, rfl, _, rfl⟩) ⟨rfl, ?_⟩
      rw [hq2, if_neg hp, List.append_nil]
      exact hZ
  case fin =>
    rintro zs nw' ⟨rfl, hZ⟩ D h5 tk5 F5 N5 o5
    rw [List.size_toArray, hmv.len_eq, List.take_length] at hZ
    have hzl : zs.length ≤ 4 := by
      have e1 := hZ.len_eq
      rw [List.length_map] at e1
      have e2 := List.length_filter_le (fun a => decide (a ≠ Str.ofString "*")) M
      have e3 := hmv.len_eq
      omega
    have hgr : (D, W.listOf zs.toArray zs.length) ∈ (D, LCg.lst zs) :: nw' := List.mem_cons_self
    obtain ⟨n5, en5⟩ : ∃ z, z = (D, LCg.lst zs) :: nw' := ⟨_, rfl⟩
    have hs5 : ∀ q ∈ nw', q ∈ n5 := fun q hq => by rw [en5]; exact List.mem_cons_of_mem _ hq
    rw [← en5] at hgr N5
    clear en5 o5
    have hkp5 := hs5 _ (hs4 _ hkp)
    dsimp only at F5 ⊢
    k_sweep
    (repeat' (first | (k_unfold; first | walk_at "Seq" | (try dsimp only)) | ((fail_if_success ((first | with_reducible show wpAny _ _ (eval (PySem.Expr.ListComp _ _ _ _) _) _ _ _ | with_reducible show wpAny _ _ (call (Value.ref _) _) _ _ _ | with_reducible show wpAny _ _ (binaryOp Operator.Add (Value.ref _) (Value.ref _)) _ _ _ | with_reducible show wpAny _ _ (subscriptTail _ (PySem.Expr.Slice _ _ _ _) _ _) _ _ _ | with_reducible show wpAny _ _ (execs (PySem.Stmt.Assign [PySem.Expr.Tuple [PySem.Expr.Name (Str.ofString "less") _, _] _ _] _ _ :: _) _) _ _ _ | with_reducible show wpAny _ _ (exec (PySem.Stmt.While _ _ _ _) _) _ _ _ | with_reducible show wpAny _ _ (exec (PySem.Stmt.For _ _ _ _ _) _) _ _ _ | with_reducible show wpAny _ _ (pyIter _) _ _ _ | with_reducible show wpAny _ _ (call (Value.type "list") _) _ _ _ | with_reducible show wpAny _ _ (call (Value.builtin "str.join") _) _ _ _ | with_reducible show wpAny _ _ (eval (PySem.Expr.ListComp _ [PySem.Comprehension.mk (PySem.Expr.Tuple _ _ _) _ _ _] _ _) _) _ _ _ | with_reducible show LCg.CompSrc _ _ _ _ _ _ _ _ _ _ _ _ _ _ | with_reducible show wpAny _ _ (execs (PySem.Stmt.If (PySem.Expr.Compare _ [CmpOp.Lt] _ _) [PySem.Stmt.Assign [PySem.Expr.Tuple _ _ _] _ _] _ _ :: _) _) _ _ _))); first | (k_end; wrow_close) | walk1 | (dsimp only; walk1) | (leave1; walk_say "STEP leave1"; try dsimp only) | fail "no step")))
    obtain ⟨kv, ekv⟩ : ∃ z, z = av.take l ++ av.drop hh := ⟨_, rfl⟩
    rw [← ekv] at hkp5
    have hkv : StrsAre kv (keptF a.ag l hh) := by rw [ekv]; exact StrsAre.append' (StrsAre.take'' _ hav) (StrsAre.drop'' _ hav)
    have hkvl : kv.length ≤ 4 := by rw [ekv, List.length_append, List.length_take, List.length_drop]; omega
    refine krv_lit (s := ⟨_, _, _, _, _⟩) (its := kv.toArray) (zs := kv.reverse) (by k_asm) (show News _ _ _ (_ :: n5) by k_asm) (isl (show News _ _ _ (_ :: n5) by k_asm) (List.mem_cons_of_mem _ hkp5)) (.int _ _) rfl ?_ (by with_unfolding_all rfl) (by intro _; with_unfolding_all rfl) (by rw [sizeLine_eq, List.size_toArray]; omega)
    intro D6 h6 F6 N6 _
    k_sweep
    (repeat' (first | (k_unfold; first | walk_at "Seq" | (try dsimp only)) | ((fail_if_success ((first | with_reducible show wpAny _ _ (eval (PySem.Expr.ListComp _ _ _ _) _) _ _ _ | with_reducible show wpAny _ _ (call (Value.ref _) _) _ _ _ | with_reducible show wpAny _ _ (binaryOp Operator.Add (Value.ref _) (Value.ref _)) _ _ _ | with_reducible show wpAny _ _ (subscriptTail _ (PySem.Expr.Slice _ _ _ _) _ _) _ _ _ | with_reducible show wpAny _ _ (execs (PySem.Stmt.Assign [PySem.Expr.Tuple [PySem.Expr.Name (Str.ofString "less") _, _] _ _] _ _ :: _) _) _ _ _ | with_reducible show wpAny _ _ (exec (PySem.Stmt.While _ _ _ _) _) _ _ _ | with_reducible show wpAny _ _ (exec (PySem.Stmt.For _ _ _ _ _) _) _ _ _ | with_reducible show wpAny _ _ (pyIter _) _ _ _ | with_reducible show wpAny _ _ (call (Value.type "list") _) _ _ _ | with_reducible show wpAny _ _ (call (Value.builtin "str.join") _) _ _ _ | with_reducible show wpAny _ _ (eval (PySem.Expr.ListComp _ [PySem.Comprehension.mk (PySem.Expr.Tuple _ _ _) _ _ _] _ _) _) _ _ _ | with_reducible show LCg.CompSrc _ _ _ _ _ _ _ _ _ _ _ _ _ _ | with_reducible show wpAny _ _ (execs (PySem.Stmt.If (PySem.Expr.Compare _ [CmpOp.Lt] _ _) [PySem.Stmt.Assign [PySem.Expr.Tuple _ _ _] _ _] _ _ :: _) _) _ _ _))); first | (k_end; wrow_close) | walk1 | (dsimp only; walk1) | (leave1; walk_say "STEP leave1"; try dsimp only) | fail "no step")))
    refine name_l1 (show News _ _ _ ((_, W.listOf #[_] 0) :: (D6, W.listOf kv.reverse.toArray 0) :: _ :: n5) by k_asm) ?_
    intro le te e7 N7
    subst e7
    refine kmk_add_lit (its := kv.reverse.toArray) (its2 := [Value.str (Str.ofString "e") te].toArray) (zs := kv.reverse ++ [Value.str (Str.ofString "e") te]) (by k_asm) N7 (isl N7 (List.mem_cons_of_mem _ List.mem_cons_self)) (isl N7 List.mem_cons_self) rfl ?_ (by
      rw [sizeLine_eq]
      show kv.reverse.length + 1 ≤ _
      rw [List.length_reverse]
      omega)
    intro D8 h8 F8 N8 _
    k_sweep
    (repeat' (first | (k_unfold; first | walk_at "Seq" | (try dsimp only)) | ((fail_if_success ((first | with_reducible show wpAny _ _ (eval (PySem.Expr.ListComp _ _ _ _) _) _ _ _ | with_reducible show wpAny _ _ (call (Value.ref _) _) _ _ _ | with_reducible show wpAny _ _ (binaryOp Operator.Add (Value.ref _) (Value.ref _)) _ _ _ | with_reducible show wpAny _ _ (subscriptTail _ (PySem.Expr.Slice _ _ _ _) _ _) _ _ _ | with_reducible show wpAny _ _ (execs (PySem.Stmt.Assign [PySem.Expr.Tuple [PySem.Expr.Name (Str.ofString "less") _, _] _ _] _ _ :: _) _) _ _ _ | with_reducible show wpAny _ _ (exec (PySem.Stmt.While _ _ _ _) _) _ _ _ | with_reducible show wpAny _ _ (exec (PySem.Stmt.For _ _ _ _ _) _) _ _ _ | with_reducible show wpAny _ _ (pyIter _) _ _ _ | with_reducible show wpAny _ _ (call (Value.type "list") _) _ _ _ | with_reducible show wpAny _ _ (call (Value.builtin "str.join") _) _ _ _ | with_reducible show wpAny _ _ (eval (PySem.Expr.ListComp _ [PySem.Comprehension.mk (PySem.Expr.Tuple _ _ _) _ _ _] _ _) _) _ _ _ | with_reducible show LCg.CompSrc _ _ _ _ _ _ _ _ _ _ _ _ _ _ | with_reducible show wpAny _ _ (execs (PySem.Stmt.If (PySem.Expr.Compare _ [CmpOp.Lt] _ _) [PySem.Stmt.Assign [PySem.Expr.Tuple _ _ _] _ _] _ _ :: _) _) _ _ _))); first | (k_end; wrow_close) | walk1 | (dsimp only; walk1) | (leave1; walk_say "STEP leave1"; try dsimp only) | fail "no step")))
    refine kmk_add_lit (its := (kv.reverse ++ [Value.str (Str.ofString "e") te]).toArray) (its2 := zs.toArray) (zs := kv.reverse ++ [Value.str (Str.ofString "e") te] ++ zs) (by k_asm) N8 (isl N8 List.mem_cons_self) (isl N8 (List.mem_cons_of_mem _ (List.mem_cons_of_mem _ (List.mem_cons_of_mem _ (List.mem_cons_of_mem _ hgr))))) rfl ?_ (by
      rw [sizeLine_eq]
      show (kv.reverse ++ [Value.str (Str.ofString "e") te]).length + zs.length ≤ _
      rw [List.length_append, List.length_reverse]
      simp only [List.length_cons, List.length_nil]
      omega)
    intro D9 h9 F9 N9 _
    k_sweep
    (repeat' (first | (k_unfold; first | walk_at "Seq" | (try dsimp only)) | ((fail_if_success ((first | with_reducible show wpAny _ _ (eval (PySem.Expr.ListComp _ _ _ _) _) _ _ _ | with_reducible show wpAny _ _ (call (Value.ref _) _) _ _ _ | with_reducible show wpAny _ _ (binaryOp Operator.Add (Value.ref _) (Value.ref _)) _ _ _ | with_reducible show wpAny _ _ (subscriptTail _ (PySem.Expr.Slice _ _ _ _) _ _) _ _ _ | with_reducible show wpAny _ _ (execs (PySem.Stmt.Assign [PySem.Expr.Tuple [PySem.Expr.Name (Str.ofString "less") _, _] _ _] _ _ :: _) _) _ _ _ | with_reducible show wpAny _ _ (exec (PySem.Stmt.While _ _ _ _) _) _ _ _ | with_reducible show wpAny _ _ (exec (PySem.Stmt.For _ _ _ _ _) _) _ _ _ | with_reducible show wpAny _ _ (pyIter _) _ _ _ | with_reducible show wpAny _ _ (call (Value.type "list") _) _ _ _ | with_reducible show wpAny _ _ (call (Value.builtin "str.join") _) _ _ _ | with_reducible show wpAny _ _ (eval (PySem.Expr.ListComp _ [PySem.Comprehension.mk (PySem.Expr.Tuple _ _ _) _ _ _] _ _) _) _ _ _ | with_reducible show LCg.CompSrc _ _ _ _ _ _ _ _ _ _ _ _ _ _ | with_reducible show wpAny _ _ (execs (PySem.Stmt.If (PySem.Expr.Compare _ [CmpOp.Lt] _ _) [PySem.Stmt.Assign [PySem.Expr.Tuple _ _ _] _ _] _ _ :: _) _) _ _ _))); first | (k_end; wrow_close) | walk1 | (dsimp only; walk1) | (leave1; walk_say "STEP leave1"; try dsimp only) | fail "no step")))
    have hnw : StrsAre (kv.reverse ++ [Value.str (Str.ofString "e") te] ++ zs) (narrowF a.ag l hh) := by
      unfold narrowF greatF
      rw [← eM]
      exact ((strs_reverse hkv).append' (.cons _ _ .nil)).append' hZ
    have hnl : (narrowF a.ag l hh).length ≤ 64 := by
      rw [← hnw.len_eq, List.length_append, List.length_append, List.length_reverse]
      simp only [List.length_cons, List.length_nil]
      omega
    refine led_one (show News _ _ _ ((_, W.listOf #[] 0) :: (D9, W.listOf (kv.reverse ++ [Value.str (Str.ofString "e") te] ++ zs).toArray 0) :: _ :: _ :: _ :: _ :: n5) by k_asm) ?_
    intro l0 n6 e8 hl0 hs6 N10
    subst e8
    have hD9 := hs6 _ List.mem_cons_self
    have hs7 : ∀ q ∈ n5, q ∈ n6 := fun q hq => hs6 q (List.mem_cons_of_mem _ (List.mem_cons_of_mem _ (List.mem_cons_of_mem _ (List.mem_cons_of_mem _ (List.mem_cons_of_mem _ hq)))))
    clear hs6
    refine' ClaimD.use ?k1 ?k2 ?k3 N10 ?k5 ?kK (record_c (dl := none) (ag := narrowF a.ag l hh) (ru := []) ⟨D9, _, 0, rfl, hD9, hnw⟩ ⟨l0, [], 0, rfl, hl0, .nil⟩ rfl hnl (by decide)) ?kd ?ku ?_
    case k1 => k_asm
    case k2 => k_asm
    case k3 => k_asm
    case k5 => k_asm
    case kK => rfl
    case kd => exact Nat.le_of_ble_eq_true rfl
    case ku => exact Nat.le_of_ble_eq_true rfl
    intro v11 tl11 h11 tk11 hR11 F11 N11 _
    obtain ⟨lnr, rfl⟩ := hR11.ref
    have hs8 : ∀ q ∈ n5, q ∈ tl11 ++ n6 := fun q hq => List.mem_append_right _ (hs7 q hq)
    have hR12 := hR11.mono fun q hq => List.mem_append_left n6 hq
    generalize tl11 ++ n6 = n7 at N11 hs8 hR12
    clear hs7 hR11
    k_sweep
    (repeat' (first | (k_unfold; first | walk_at "Seq" | (try dsimp only)) | ((fail_if_success ((first | with_reducible show wpAny _ _ (eval (PySem.Expr.ListComp _ _ _ _) _) _ _ _ | with_reducible show wpAny _ _ (call (Value.ref _) _) _ _ _ | with_reducible show wpAny _ _ (binaryOp Operator.Add (Value.ref _) (Value.ref _)) _ _ _ | with_reducible show wpAny _ _ (subscriptTail _ (PySem.Expr.Slice _ _ _ _) _ _) _ _ _ | with_reducible show wpAny _ _ (execs (PySem.Stmt.Assign [PySem.Expr.Tuple [PySem.Expr.Name (Str.ofString "less") _, _] _ _] _ _ :: _) _) _ _ _ | with_reducible show wpAny _ _ (exec (PySem.Stmt.While _ _ _ _) _) _ _ _ | with_reducible show wpAny _ _ (exec (PySem.Stmt.For _ _ _ _ _) _) _ _ _ | with_reducible show wpAny _ _ (pyIter _) _ _ _ | with_reducible show wpAny _ _ (call (Value.type "list") _) _ _ _ | with_reducible show wpAny _ _ (call (Value.builtin "str.join") _) _ _ _ | with_reducible show wpAny _ _ (eval (PySem.Expr.ListComp _ [PySem.Comprehension.mk (PySem.Expr.Tuple _ _ _) _ _ _] _ _) _) _ _ _ | with_reducible show LCg.CompSrc _ _ _ _ _ _ _ _ _ _ _ _ _ _ | with_reducible show wpAny _ _ (execs (PySem.Stmt.If (PySem.Expr.Compare _ [CmpOp.Lt] _ _) [PySem.Stmt.Assign [PySem.Expr.Tuple _ _ _] _ _] _ _ :: _) _) _ _ _))); first | (k_end; wrow_close) | walk1 | (dsimp only; walk1) | (leave1; walk_say "STEP leave1"; try dsimp only) | fail "no step")))
    dsimp only
    have hs9 : ∀ q ∈ nw, q ∈ n7 := fun q hq => hs8 q (hs5 q (hs4 q (hs3 q hq)))
    exact nextD w p loose mean mg mb fa cd h₀ L _ s _ _ a t1 t2 n7 l hh D3 D lnr hB (fr_ps (by k_asm) (ps_cons rfl (ps_cons rfl (ps_cons rfl (ps_cons rfl (ps_cons rfl (ps_cons rfl (ps_cons rfl (ps_cons rfl ps_nil))))))))) (by k_asm) hT (by k_asm) (hL.mono hs9) hlh hhl
      ⟨D3, kv, _, rfl, hs8 _ hkp5, hkv⟩ ⟨D, zs, _, rfl, hs8 _ hgr, by unfold greatF; rw [← eM]; exact hZ⟩ hR12
end
end

section
open PySem PySem.W PyProof.Rows
section
theorem strback {Q : Value → Shared → Prop} {y : Str} {t : Tok} {s : Shared} (h : Q (.str y t) s) : StrBack Q (.str y t) s := h
noncomputable def lessF (ag : List Str) (dl : Option Int) (rows : List (List Str)) (l h : Nat) : Str := strF (keptF ag l h) dl rows.flatten
theorem law_d1 (nextE : ∀ (w : World) (p : Program) (loose : List Str) (mean : ExcName → Option Value) (mg mb : Str → Option Value) (fa : Addr) (cd : Value) (h₀ : Heap) (L : Addr) (u : Str → Option Value) (s : Shared) (h : Heap) (tk : Nat) (a : LArgs) (t1 t2 t3 : Tok) (nw : List (Addr × Obj)) (l hh : Nat) (lkp lgr lnr lln : Addr),
    Below callerA h₀ [] h₀ → Fr h₀ L h (kstB u [("numbers", .ref a.lnum), ("low", .int (l : Int) t1), ("high", .int (hh : Int) t2), ("records", .ref a.lrec), ("books", .ref a.lbk), ("kept", .ref lkp), ("great", .ref lgr), ("narrow", .ref lnr), ("less", .str (lessF a.ag a.dl a.rows l hh) t3), ("lines", .ref lln)]) → (Mine.hd.heap_39 w.params).In h₀ → Top p loose mean mg mb h₀ →
    News h₀ L h nw → LawF w L a nw → l ≤ hh → hh ≤ a.ag.length → StrsIn nw (.ref lkp) (keptF a.ag l hh) → StrsIn nw (.ref lgr) (greatF a.ag l hh) → RecIn w nw (.ref lnr) (narrowF a.ag l hh) none [] → StrsIn nw (.ref lln) (textLines a.ag a.dl a.rows.flatten) →
    LawRest 9 w fa cd h₀ L s h tk)
    (w : World) (p : Program) (loose : List Str) (mean : ExcName → Option Value) (mg mb : Str → Option Value) (fa : Addr) (cd : Value) (h₀ : Heap) (L : Addr) (u : Str → Option Value) (s : Shared) (h : Heap) (tk : Nat) (a : LArgs) (t1 t2 : Tok) (nw : List (Addr × Obj)) (l hh : Nat) (lkp lgr lnr : Addr)
    (hB : Below callerA h₀ [] h₀) (hF : Fr h₀ L h (kstB u [("numbers", .ref a.lnum), ("low", .int (l : Int) t1), ("high", .int (hh : Int) t2), ("records", .ref a.lrec), ("books", .ref a.lbk), ("kept", .ref lkp), ("great", .ref lgr), ("narrow", .ref lnr)])) (hX : (Mine.hd.heap_39 w.params).In h₀) (hT : Top p loose mean mg mb h₀)
    (hN : News h₀ L h nw) (hL : LawF w L a nw) (hlh : l ≤ hh) (hhl : hh ≤ a.ag.length) (hkp : StrsIn nw (.ref lkp) (keptF a.ag l hh)) (hgr : StrsIn nw (.ref lgr) (greatF a.ag l hh)) (hnr : RecIn w nw (.ref lnr) (narrowF a.ag l hh) none []) : LawRest 8 w fa cd h₀ L s h tk := by
  unfold LawRest at nextE ⊢
  dsimp only [lawOf, List.drop] at nextE ⊢
  dsimp only [kstB] at hF
  obtain ⟨ag1, ag3, agl, dl100, rows1, rows3, flat4, hnrw, rule3, agc, agn, rulec⟩ := id hL.hG
  obtain ⟨pre, hpre⟩ := accF_last rows1
  have hb := hL.hb
  have ht := hL.ht
  rw [hpre] at hb
  rw [hpre, List.map_append, List.map_cons, List.map_nil] at ht
  obtain ⟨bs, b, ebv, hbs, hbl⟩ := All2.snoc_inv hb
  obtain ⟨ts, tt, etv, hts⟩ := StrsAre.snoc_inv ht
  obtain ⟨bx, rfl⟩ := hbl.ref
  have hbk := hL.hbk
  have htx := hL.htx
  rw [ebv] at hbk
  rw [etv] at htx
  have mT := hL.mT
  have dT := hL.dT
  have hfl := rulec
  have hfull : ∀ x ∈ a.rows.flatten, x.length ≤ 3 ∧ ∀ c ∈ x.cps.toList, c ∈ [47, 97, 65, 36] := fun x hx => by
    obtain ⟨r, hr, hxr⟩ := List.mem_flatten.mp hx
    exact ⟨rule3 r hr x hxr, rulec r hr x hxr⟩
  obtain ⟨T, eT⟩ : ∃ T, T = textOf a.ag a.dl a.rows.flatten := ⟨_, rfl⟩
  have hTl : T.length ≤ 1000 := by
    rw [eT]
    exact text_len ag3 flat4 (fun x hx => Nat.le_trans (agl x hx) (by decide)) (fun x hx => Nat.le_trans (hfull x hx).1 (by decide)) dl100
  rw [← eT] at htx
  have hnf := narrow_facts (l := l) (h := hh) agc ag3
  have hkl : (keptF a.ag l hh).length ≤ 6 := by unfold keptF; rw [List.length_append, List.length_take, List.length_drop]; omega
  have hkm : ∀ x ∈ keptF a.ag l hh, x.length ≤ 2 := fun x hx => agl x (kept_mem hx)
  (try k_fold)
  (repeat' (first | (k_unfold; first | walk_at "Seq" | (try dsimp only)) | ((fail_if_success ((first | with_reducible show wpAny _ _ (eval (PySem.Expr.ListComp _ _ _ _) _) _ _ _ | with_reducible show wpAny _ _ (call (Value.ref _) _) _ _ _ | with_reducible show wpAny _ _ (call (Value.type "str") _) _ _ _ | with_reducible show wpAny _ _ (call (Value.builtin "str.split") _) _ _ _ | with_reducible show wpAny _ _ (compareOp CmpOp.NotEq _ _) _ _ _ | with_reducible show wpAny _ _ (binaryOp Operator.Add (Value.ref _) (Value.ref _)) _ _ _ | with_reducible show wpAny _ _ (subscriptTail _ (PySem.Expr.UnaryOp _ _ _) (Value.ref _) _) _ _ _ | with_reducible show wpAny _ _ (subscriptTail _ (PySem.Expr.Slice _ _ _ _) _ _) _ _ _ | with_reducible show wpAny _ _ (execs (PySem.Stmt.If _ _ _ _ :: _) _) _ _ _ | with_reducible show wpAny _ _ (exec (PySem.Stmt.While _ _ _ _) _) _ _ _ | with_reducible show wpAny _ _ (exec (PySem.Stmt.For _ _ _ _ _) _) _ _ _ | with_reducible show wpAny _ _ (pyIter _) _ _ _ | with_reducible show wpAny _ _ (call (Value.type "list") _) _ _ _ | with_reducible show wpAny _ _ (call (Value.builtin "str.join") _) _ _ _ | with_reducible show wpAny _ _ (eval (PySem.Expr.ListComp _ [PySem.Comprehension.mk (PySem.Expr.Tuple _ _ _) _ _ _] _ _) _) _ _ _ | with_reducible show LCg.CompSrc _ _ _ _ _ _ _ _ _ _ _ _ _ _ | with_reducible show wpAny _ _ (execs (PySem.Stmt.If (PySem.Expr.Compare _ [CmpOp.Lt] _ _) [PySem.Stmt.Assign [PySem.Expr.Tuple _ _ _] _ _] _ _ :: _) _) _ _ _))); first | (k_end; wrow_close) | walk1 | (dsimp only; walk1) | (leave1; walk_say "STEP leave1"; try dsimp only) | fail "no step")))
  refine item_last rfl hN hbk ?_
  (repeat' (first | (k_unfold; first | walk_at "Seq" | (try dsimp only)) | ((fail_if_success ((first | with_reducible show wpAny _ _ (eval (PySem.Expr.ListComp _ _ _ _) _) _ _ _ | with_reducible show wpAny _ _ (call (Value.ref _) _) _ _ _ | with_reducible show wpAny _ _ (call (Value.type "str") _) _ _ _ | with_reducible show wpAny _ _ (call (Value.builtin "str.split") _) _ _ _ | with_reducible show wpAny _ _ (compareOp CmpOp.NotEq _ _) _ _ _ | with_reducible show wpAny _ _ (binaryOp Operator.Add (Value.ref _) (Value.ref _)) _ _ _ | with_reducible show wpAny _ _ (subscriptTail _ (PySem.Expr.UnaryOp _ _ _) (Value.ref _) _) _ _ _ | with_reducible show wpAny _ _ (subscriptTail _ (PySem.Expr.Slice _ _ _ _) _ _) _ _ _ | with_reducible show wpAny _ _ (execs (PySem.Stmt.If _ _ _ _ :: _) _) _ _ _ | with_reducible show wpAny _ _ (exec (PySem.Stmt.While _ _ _ _) _) _ _ _ | with_reducible show wpAny _ _ (exec (PySem.Stmt.For _ _ _ _ _) _) _ _ _ | with_reducible show wpAny _ _ (pyIter _) _ _ _ | with_reducible show wpAny _ _ (call (Value.type "list") _) _ _ _ | with_reducible show wpAny _ _ (call (Value.builtin "str.join") _) _ _ _ | with_reducible show wpAny _ _ (eval (PySem.Expr.ListComp _ [PySem.Comprehension.mk (PySem.Expr.Tuple _ _ _) _ _ _] _ _) _) _ _ _ | with_reducible show LCg.CompSrc _ _ _ _ _ _ _ _ _ _ _ _ _ _ | with_reducible show wpAny _ _ (execs (PySem.Stmt.If (PySem.Expr.Compare _ [CmpOp.Lt] _ _) [PySem.Stmt.Assign [PySem.Expr.Tuple _ _ _] _ _] _ _ :: _) _) _ _ _))); first | (k_end; wrow_close) | walk1 | (dsimp only; walk1) | (leave1; walk_say "STEP leave1"; try dsimp only) | fail "no step")))
  refine' ClaimD.use ?k1 ?k2 ?k3 (show News _ _ _ nw by k_asm) ?k5 ?kK (merge2_c hbl hnr (by omega) (by decide) (by omega) (by omega)) ?kd ?ku ?_
  case k1 => k_asm
  case k2 => k_asm
  case k3 => k_asm
  case k5 => k_asm
  case kK => rfl
  case kd => exact Nat.le_of_ble_eq_true rfl
  case ku => exact Nat.le_of_ble_eq_true rfl
  intro v1 tl1 h1 tk1 hR1 F1 N1 _
  rw [kept_filter agc agn hlh hhl, List.append_nil] at hR1
  have hR2 := hR1.mono fun q hq => List.mem_append_left nw hq
  have hs1 : ∀ q ∈ nw, q ∈ tl1 ++ nw := fun q hq => List.mem_append_right _ hq
  generalize tl1 ++ nw = n1 at N1 hR2 hs1
  clear hR1
  obtain ⟨x1, rfl⟩ := hR2.ref
  obtain ⟨_, d1, l11, l12, u11, u12, u13, u14, w1, w2, k11, k12, dv1, e9, m11, m12, m13, m14, _⟩ := id hR2
  cases e9
  k_sweep
  (repeat' (first | (k_unfold; first | walk_at "Seq" | (try dsimp only)) | ((fail_if_success ((first | with_reducible show wpAny _ _ (eval (PySem.Expr.ListComp _ _ _ _) _) _ _ _ | with_reducible show wpAny _ _ (call (Value.ref _) _) _ _ _ | with_reducible show wpAny _ _ (call (Value.type "str") _) _ _ _ | with_reducible show wpAny _ _ (call (Value.builtin "str.split") _) _ _ _ | with_reducible show wpAny _ _ (compareOp CmpOp.NotEq _ _) _ _ _ | with_reducible show wpAny _ _ (binaryOp Operator.Add (Value.ref _) (Value.ref _)) _ _ _ | with_reducible show wpAny _ _ (subscriptTail _ (PySem.Expr.UnaryOp _ _ _) (Value.ref _) _) _ _ _ | with_reducible show wpAny _ _ (subscriptTail _ (PySem.Expr.Slice _ _ _ _) _ _) _ _ _ | with_reducible show wpAny _ _ (execs (PySem.Stmt.If _ _ _ _ :: _) _) _ _ _ | with_reducible show wpAny _ _ (exec (PySem.Stmt.While _ _ _ _) _) _ _ _ | with_reducible show wpAny _ _ (exec (PySem.Stmt.For _ _ _ _ _) _) _ _ _ | with_reducible show wpAny _ _ (pyIter _) _ _ _ | with_reducible show wpAny _ _ (call (Value.type "list") _) _ _ _ | with_reducible show wpAny _ _ (call (Value.builtin "str.join") _) _ _ _ | with_reducible show wpAny _ _ (eval (PySem.Expr.ListComp _ [PySem.Comprehension.mk (PySem.Expr.Tuple _ _ _) _ _ _] _ _) _) _ _ _ | with_reducible show LCg.CompSrc _ _ _ _ _ _ _ _ _ _ _ _ _ _ | with_reducible show wpAny _ _ (execs (PySem.Stmt.If (PySem.Expr.Compare _ [CmpOp.Lt] _ _) [PySem.Stmt.Assign [PySem.Expr.Tuple _ _ _] _ _] _ _ :: _) _) _ _ _))); first | (k_end; wrow_close) | walk1 | (dsimp only; walk1) | (leave1; walk_say "STEP leave1"; try dsimp only) | fail "no step")))
  (k_dflt (refine' kso_call ?k1 ?k2 ?k3 ?k4 ?k5 ?_; (case k1 => k_units); (case k2 => k_in); (case k3 => k_inst); (case k4 => k_is); (case k5 => k_is); k_whole))
  refine' Claim.use ?k1 ?k2 ?k3 N1 ?k5 ?kK (str_c hR2 (by omega) (by omega) (fun x hx => Nat.le_trans (hkm x hx) (by decide)) (fun x hx => Nat.le_trans (hfull x hx).1 (by decide)) dl100) ?kd ?ku ?_
  case k1 => k_asm
  case k2 => k_asm
  case k3 => k_asm
  case k5 => k_asm
  case kK => rfl
  case kd => exact Nat.le_of_ble_eq_true rfl
  case ku => exact Nat.le_of_ble_eq_true rfl
  intro t3 h3 tk3 F3 N3
  refine strback ?_
  have hbk3 := hs1 _ hbk
  have htx3 := hs1 _ htx
  have mT3 := hs1 _ mT
  k_sweep
  (repeat' (first | (k_unfold; first | walk_at "Seq" | (try dsimp only)) | ((fail_if_success ((first | with_reducible show wpAny _ _ (eval (PySem.Expr.ListComp _ _ _ _) _) _ _ _ | with_reducible show wpAny _ _ (call (Value.ref _) _) _ _ _ | with_reducible show wpAny _ _ (call (Value.type "str") _) _ _ _ | with_reducible show wpAny _ _ (call (Value.builtin "str.split") _) _ _ _ | with_reducible show wpAny _ _ (compareOp CmpOp.NotEq _ _) _ _ _ | with_reducible show wpAny _ _ (binaryOp Operator.Add (Value.ref _) (Value.ref _)) _ _ _ | with_reducible show wpAny _ _ (subscriptTail _ (PySem.Expr.UnaryOp _ _ _) (Value.ref _) _) _ _ _ | with_reducible show wpAny _ _ (subscriptTail _ (PySem.Expr.Slice _ _ _ _) _ _) _ _ _ | with_reducible show wpAny _ _ (execs (PySem.Stmt.If _ _ _ _ :: _) _) _ _ _ | with_reducible show wpAny _ _ (exec (PySem.Stmt.While _ _ _ _) _) _ _ _ | with_reducible show wpAny _ _ (exec (PySem.Stmt.For _ _ _ _ _) _) _ _ _ | with_reducible show wpAny _ _ (pyIter _) _ _ _ | with_reducible show wpAny _ _ (call (Value.type "list") _) _ _ _ | with_reducible show wpAny _ _ (call (Value.builtin "str.join") _) _ _ _ | with_reducible show wpAny _ _ (eval (PySem.Expr.ListComp _ [PySem.Comprehension.mk (PySem.Expr.Tuple _ _ _) _ _ _] _ _) _) _ _ _ | with_reducible show LCg.CompSrc _ _ _ _ _ _ _ _ _ _ _ _ _ _ | with_reducible show wpAny _ _ (execs (PySem.Stmt.If (PySem.Expr.Compare _ [CmpOp.Lt] _ _) [PySem.Stmt.Assign [PySem.Expr.Tuple _ _ _] _ _] _ _ :: _) _) _ _ _))); first | (k_end; wrow_close) | walk1 | (dsimp only; walk1) | (leave1; walk_say "STEP leave1"; try dsimp only) | fail "no step")))
  refine item_last rfl (show News _ _ _ n1 by k_asm) htx3 ?_
  (repeat' (first | (k_unfold; first | walk_at "Seq" | (try dsimp only)) | ((fail_if_success ((first | with_reducible show wpAny _ _ (eval (PySem.Expr.ListComp _ _ _ _) _) _ _ _ | with_reducible show wpAny _ _ (call (Value.ref _) _) _ _ _ | with_reducible show wpAny _ _ (call (Value.type "str") _) _ _ _ | with_reducible show wpAny _ _ (call (Value.builtin "str.split") _) _ _ _ | with_reducible show wpAny _ _ (compareOp CmpOp.NotEq _ _) _ _ _ | with_reducible show wpAny _ _ (binaryOp Operator.Add (Value.ref _) (Value.ref _)) _ _ _ | with_reducible show wpAny _ _ (subscriptTail _ (PySem.Expr.UnaryOp _ _ _) (Value.ref _) _) _ _ _ | with_reducible show wpAny _ _ (subscriptTail _ (PySem.Expr.Slice _ _ _ _) _ _) _ _ _ | with_reducible show wpAny _ _ (execs (PySem.Stmt.If _ _ _ _ :: _) _) _ _ _ | with_reducible show wpAny _ _ (exec (PySem.Stmt.While _ _ _ _) _) _ _ _ | with_reducible show wpAny _ _ (exec (PySem.Stmt.For _ _ _ _ _) _) _ _ _ | with_reducible show wpAny _ _ (pyIter _) _ _ _ | with_reducible show wpAny _ _ (call (Value.type "list") _) _ _ _ | with_reducible show wpAny _ _ (call (Value.builtin "str.join") _) _ _ _ | with_reducible show wpAny _ _ (eval (PySem.Expr.ListComp _ [PySem.Comprehension.mk (PySem.Expr.Tuple _ _ _) _ _ _] _ _) _) _ _ _ | with_reducible show LCg.CompSrc _ _ _ _ _ _ _ _ _ _ _ _ _ _ | with_reducible show wpAny _ _ (execs (PySem.Stmt.If (PySem.Expr.Compare _ [CmpOp.Lt] _ _) [PySem.Stmt.Assign [PySem.Expr.Tuple _ _ _] _ _] _ _ :: _) _) _ _ _))); first | (k_end; wrow_close) | walk1 | (dsimp only; walk1) | (leave1; walk_say "STEP leave1"; try dsimp only) | fail "no step")))
  refine splitN1A (by k_asm) (show News _ _ _ n1 by k_asm) (by decide) ?_ (by rw [sizeLine_eq]; omega)
  intro ls h4 k4 els hls hsz4 hl4 F4 N4
  rw [els, eT, split_text ag1 agc dl100 (fun x hx => (hfull x hx).2)] at hls
  dsimp only at N4 ⊢
  generalize h3.objs.size = lln at N4 ⊢
  refine led_one (show News _ _ _ ((lln, W.listOf (strValues ls).toArray 0) :: n1) from N4) ?_
  intro lln' n5 e5 hln hs5 N5
  subst e5
  clear N4 hl4
  have hs6 : ∀ q ∈ nw, q ∈ n5 := fun q hq => hs5 q (hs1 q hq)
  k_sweep
  (repeat' (first | (k_unfold; first | walk_at "Seq" | (try dsimp only)) | ((fail_if_success ((first | with_reducible show wpAny _ _ (eval (PySem.Expr.ListComp _ _ _ _) _) _ _ _ | with_reducible show wpAny _ _ (call (Value.ref _) _) _ _ _ | with_reducible show wpAny _ _ (call (Value.type "str") _) _ _ _ | with_reducible show wpAny _ _ (call (Value.builtin "str.split") _) _ _ _ | with_reducible show wpAny _ _ (compareOp CmpOp.NotEq _ _) _ _ _ | with_reducible show wpAny _ _ (binaryOp Operator.Add (Value.ref _) (Value.ref _)) _ _ _ | with_reducible show wpAny _ _ (subscriptTail _ (PySem.Expr.UnaryOp _ _ _) (Value.ref _) _) _ _ _ | with_reducible show wpAny _ _ (subscriptTail _ (PySem.Expr.Slice _ _ _ _) _ _) _ _ _ | with_reducible show wpAny _ _ (execs (PySem.Stmt.If _ _ _ _ :: _) _) _ _ _ | with_reducible show wpAny _ _ (exec (PySem.Stmt.While _ _ _ _) _) _ _ _ | with_reducible show wpAny _ _ (exec (PySem.Stmt.For _ _ _ _ _) _) _ _ _ | with_reducible show wpAny _ _ (pyIter _) _ _ _ | with_reducible show wpAny _ _ (call (Value.type "list") _) _ _ _ | with_reducible show wpAny _ _ (call (Value.builtin "str.join") _) _ _ _ | with_reducible show wpAny _ _ (eval (PySem.Expr.ListComp _ [PySem.Comprehension.mk (PySem.Expr.Tuple _ _ _) _ _ _] _ _) _) _ _ _ | with_reducible show LCg.CompSrc _ _ _ _ _ _ _ _ _ _ _ _ _ _ | with_reducible show wpAny _ _ (execs (PySem.Stmt.If (PySem.Expr.Compare _ [CmpOp.Lt] _ _) [PySem.Stmt.Assign [PySem.Expr.Tuple _ _ _] _ _] _ _ :: _) _) _ _ _))); first | (k_end; wrow_close) | walk1 | (dsimp only; walk1) | (leave1; walk_say "STEP leave1"; try dsimp only) | fail "no step")))
  dsimp only
  exact nextE w p loose mean mg mb fa cd h₀ L _ s _ _ a t1 t2 t3 n5 l hh lkp lgr lnr _ hB (fr_ps (by k_asm) (ps_cons rfl (ps_cons rfl (ps_cons rfl (ps_cons rfl (ps_cons rfl (ps_cons rfl (ps_cons rfl (ps_cons rfl (ps_cons rfl (ps_cons rfl ps_nil))))))))))) (by k_asm) hT (show News _ _ _ n5 from fun q hq => (show News _ _ _ (_ :: n5) by k_asm) q (List.mem_cons_of_mem _ hq)) (hL.mono hs6) hlh hhl
    (hkp.mono hs6) (hgr.mono hs6) (hnr.mono hs6) ⟨_, _, 0, rfl, hln, hls⟩
end
end

section
open PySem PySem.W PyProof.Rows
section
theorem ne_same {prog : Program} {w : World} {A : Around} {E : Value → Shared → Prop} {s : Shared} {x y : Str} {t u : Tok} {Q : Value → Shared → Prop} (e : x = y) (h : Q (.bool false) s) : wpAny (model prog w) A (compareOp .NotEq (.str x t) (.str y u)) Q E s := by
  subst e
  exact PyProof.Rows.ne_str (by rw [bne_self_eq_false]; exact h)
theorem law_d2 (nextF : ∀ (w : World) (p : Program) (loose : List Str) (mean : ExcName → Option Value) (mg mb : Str → Option Value) (fa : Addr) (cd : Value) (h₀ : Heap) (L : Addr) (u : Str → Option Value) (s : Shared) (h : Heap) (tk : Nat) (a : LArgs) (t3 : Tok) (nw : List (Addr × Obj)) (l hh : Nat),
    Below callerA h₀ [] h₀ → Fr h₀ L h (kstB u [("numbers", .ref a.lnum), ("records", .ref a.lrec), ("books", .ref a.lbk), ("less", .str (lessF a.ag a.dl a.rows l hh) t3)]) → (Mine.hd.heap_39 w.params).In h₀ → Top p loose mean mg mb h₀ →
    News h₀ L h nw → LawF w L a nw → l ≤ hh → hh ≤ a.ag.length →
    LawRest 11 w fa cd h₀ L s h tk)
    (w : World) (p : Program) (loose : List Str) (mean : ExcName → Option Value) (mg mb : Str → Option Value) (fa : Addr) (cd : Value) (h₀ : Heap) (L : Addr) (u : Str → Option Value) (s : Shared) (h : Heap) (tk : Nat) (a : LArgs) (t1 t2 t3 : Tok) (nw : List (Addr × Obj)) (l hh : Nat) (lkp lgr lnr lln : Addr)
    (hB : Below callerA h₀ [] h₀) (hF : Fr h₀ L h (kstB u [("numbers", .ref a.lnum), ("low", .int (l : Int) t1), ("high", .int (hh : Int) t2), ("records", .ref a.lrec), ("books", .ref a.lbk), ("kept", .ref lkp), ("great", .ref lgr), ("narrow", .ref lnr), ("less", .str (lessF a.ag a.dl a.rows l hh) t3), ("lines", .ref lln)])) (hX : (Mine.hd.heap_39 w.params).In h₀) (hT : Top p loose mean mg mb h₀)
    (hN : News h₀ L h nw) (hL : LawF w L a nw) (hlh : l ≤ hh) (hhl : hh ≤ a.ag.length) (hkp : StrsIn nw (.ref lkp) (keptF a.ag l hh)) (hgr : StrsIn nw (.ref lgr) (greatF a.ag l hh)) (hnr : RecIn w nw (.ref lnr) (narrowF a.ag l hh) none []) (hln : StrsIn nw (.ref lln) (textLines a.ag a.dl a.rows.flatten)) : LawRest 9 w fa cd h₀ L s h tk := by
  unfold LawRest at nextF ⊢
  dsimp only [lawOf, List.drop] at nextF ⊢
  dsimp only [kstB] at hF
  obtain ⟨ag1, ag3, agl, dl100, rows1, rows3, flat4, hnrw, rule3, agc, agn, rulec⟩ := id hL.hG
  have hfull : ∀ x ∈ a.rows.flatten, x.length ≤ 3 ∧ ∀ c ∈ x.cps.toList, c ∈ [47, 97, 65, 36] := fun x hx => by
    obtain ⟨r, hr, hxr⟩ := List.mem_flatten.mp hx
    exact ⟨rule3 r hr x hxr, rulec r hr x hxr⟩
  have hfne := flat_ne rows1 hnrw
  have hnf := narrow_facts (l := l) (h := hh) agc ag3
  have hkl : (keptF a.ag l hh).length ≤ 6 := by unfold keptF; rw [List.length_append, List.length_take, List.length_drop]; omega
  have hkm : ∀ x ∈ keptF a.ag l hh, x.length ≤ 2 := fun x hx => agl x (kept_mem hx)
  obtain ⟨_, kv, kkv, e9, hkm1, hkv⟩ := id hkp
  cases e9
  obtain ⟨_, lv, klv, e9, hlm1, hlv⟩ := id hln
  cases e9
  have hkvl := hkv.len_eq
  have hlvl := hlv.len_eq
  have hll : (textLines a.ag a.dl a.rows.flatten).length ≤ 8 := by
    unfold textLines
    simp only [List.length_append, List.length_map]
    have : (delLine a.dl).length ≤ 1 := by cases a.dl <;> simp [delLine]
    omega
  obtain ⟨Ls, eLs⟩ : ∃ z, z = lessF a.ag a.dl a.rows l hh := ⟨_, rfl⟩
  have hLsl : Ls.length ≤ 1000 := by
    rw [eLs]
    unfold lessF
    by_cases hk : keptF a.ag l hh = []
    · rw [hk, strF_nil]; decide
    · rw [strF_text hk hfne]
      exact text_len (by have h9 := hkl; unfold keptF at h9 ⊢; rw [List.length_append, List.length_take, List.length_drop] at h9 ⊢; omega) flat4 (fun x hx => Nat.le_trans (hkm x hx) (by decide)) (fun x hx => Nat.le_trans (hfull x hx).1 (by decide)) dl100
  rw [← eLs] at hF
  (try k_fold)
  refine stmt_ps (by k_asm) (fun _ : Unit => [("numbers", .ref a.lnum), ("records", .ref a.lrec), ("books", .ref a.lbk), ("kept", .ref lkp), ("great", .ref lgr), ("narrow", .ref lnr), ("less", .str Ls t3)]) (fun _ => nw) (fun _ => True) ?s1 ?f1
  case s1 =>
    (repeat' (first | (k_unfold; first | walk_at "Seq" | (try dsimp only)) | ((fail_if_success ((first | with_reducible show wpAny _ _ (eval (PySem.Expr.ListComp _ _ _ _) _) _ _ _ | with_reducible show wpAny _ _ (call (Value.ref _) _) _ _ _ | with_reducible show wpAny _ _ (call (Value.type "str") _) _ _ _ | with_reducible show wpAny _ _ (call (Value.builtin "str.split") _) _ _ _ | with_reducible show wpAny _ _ (compareOp CmpOp.NotEq _ _) _ _ _ | with_reducible show wpAny _ _ (binaryOp Operator.Add (Value.ref _) (Value.ref _)) _ _ _ | with_reducible show wpAny _ _ (subscriptTail _ (PySem.Expr.UnaryOp _ _ _) (Value.ref _) _) _ _ _ | with_reducible show wpAny _ _ (subscriptTail _ (PySem.Expr.Slice _ _ _ _) _ _) _ _ _ | with_reducible show wpAny _ _ (execs (PySem.Stmt.If _ _ _ _ :: _) _) _ _ _ | with_reducible show wpAny _ _ (exec (PySem.Stmt.While _ _ _ _) _) _ _ _ | with_reducible show wpAny _ _ (exec (PySem.Stmt.For _ _ _ _ _) _) _ _ _ | with_reducible show wpAny _ _ (pyIter _) _ _ _ | with_reducible show wpAny _ _ (call (Value.type "list") _) _ _ _ | with_reducible show wpAny _ _ (call (Value.builtin "str.join") _) _ _ _ | with_reducible show wpAny _ _ (eval (PySem.Expr.ListComp _ [PySem.Comprehension.mk (PySem.Expr.Tuple _ _ _) _ _ _] _ _) _) _ _ _ | with_reducible show LCg.CompSrc _ _ _ _ _ _ _ _ _ _ _ _ _ _ | with_reducible show wpAny _ _ (execs (PySem.Stmt.If (PySem.Expr.Compare _ [CmpOp.Lt] _ _) [PySem.Stmt.Assign [PySem.Expr.Tuple _ _ _] _ _] _ _ :: _) _) _ _ _))); first | (k_end; wrow_close) | walk1 | (dsimp only; walk1) | (leave1; walk_say "STEP leave1"; try dsimp only) | fail "no step")))
    refine ne_strs (isl (show News _ _ _ (_ :: nw) by k_asm) (List.mem_cons_of_mem _ hkm1)) hkv (us := []) (isl (show News _ _ _ ((_, W.listOf #[] 0) :: nw) by k_asm) List.mem_cons_self) .nil (List.all_eq_true.mpr fun r hr => (ring4_facts r (agc r (kept_mem hr))).2.1) rfl (Nat.le_of_ble_eq_true rfl) ?_
    by_cases hk0 : keptF a.ag l hh = []
    · rw [decide_eq_true hk0, Bool.not_true]
      (repeat' (first | (k_unfold; first | walk_at "Seq" | (try dsimp only)) | ((fail_if_success ((first | with_reducible show wpAny _ _ (eval (PySem.Expr.ListComp _ _ _ _) _) _ _ _ | with_reducible show wpAny _ _ (call (Value.ref _) _) _ _ _ | with_reducible show wpAny _ _ (call (Value.type "str") _) _ _ _ | with_reducible show wpAny _ _ (call (Value.builtin "str.split") _) _ _ _ | with_reducible show wpAny _ _ (compareOp CmpOp.NotEq _ _) _ _ _ | with_reducible show wpAny _ _ (binaryOp Operator.Add (Value.ref _) (Value.ref _)) _ _ _ | with_reducible show wpAny _ _ (subscriptTail _ (PySem.Expr.UnaryOp _ _ _) (Value.ref _) _) _ _ _ | with_reducible show wpAny _ _ (subscriptTail _ (PySem.Expr.Slice _ _ _ _) _ _) _ _ _ | with_reducible show wpAny _ _ (execs (PySem.Stmt.If _ _ _ _ :: _) _) _ _ _ | with_reducible show wpAny _ _ (exec (PySem.Stmt.While _ _ _ _) _) _ _ _ | with_reducible show wpAny _ _ (exec (PySem.Stmt.For _ _ _ _ _) _) _ _ _ | with_reducible show wpAny _ _ (pyIter _) _ _ _ | with_reducible show wpAny _ _ (call (Value.type "list") _) _ _ _ | with_reducible show wpAny _ _ (call (Value.builtin "str.join") _) _ _ _ | with_reducible show wpAny _ _ (eval (PySem.Expr.ListComp _ [PySem.Comprehension.mk (PySem.Expr.Tuple _ _ _) _ _ _] _ _) _) _ _ _ | with_reducible show LCg.CompSrc _ _ _ _ _ _ _ _ _ _ _ _ _ _ | with_reducible show wpAny _ _ (execs (PySem.Stmt.If (PySem.Expr.Compare _ [CmpOp.Lt] _ _) [PySem.Stmt.Assign [PySem.Expr.Tuple _ _ _] _ _] _ _ :: _) _) _ _ _))); first | (k_end; wrow_close) | walk1 | (dsimp only; walk1) | (leave1; walk_say "STEP leave1"; try dsimp only) | fail "no step")))
      refine ne_same (by rw [eLs]; unfold lessF; rw [hk0]; rfl) ?_
      (repeat' (first | (k_unfold; first | walk_at "Seq" | (try dsimp only)) | ((fail_if_success ((first | with_reducible show wpAny _ _ (eval (PySem.Expr.ListComp _ _ _ _) _) _ _ _ | with_reducible show wpAny _ _ (call (Value.ref _) _) _ _ _ | with_reducible show wpAny _ _ (call (Value.type "str") _) _ _ _ | with_reducible show wpAny _ _ (call (Value.builtin "str.split") _) _ _ _ | with_reducible show wpAny _ _ (compareOp CmpOp.NotEq _ _) _ _ _ | with_reducible show wpAny _ _ (binaryOp Operator.Add (Value.ref _) (Value.ref _)) _ _ _ | with_reducible show wpAny _ _ (subscriptTail _ (PySem.Expr.UnaryOp _ _ _) (Value.ref _) _) _ _ _ | with_reducible show wpAny _ _ (subscriptTail _ (PySem.Expr.Slice _ _ _ _) _ _) _ _ _ | with_reducible show wpAny _ _ (execs (PySem.Stmt.If _ _ _ _ :: _) _) _ _ _ | with_reducible show wpAny _ _ (exec (PySem.Stmt.While _ _ _ _) _) _ _ _ | with_reducible show wpAny _ _ (exec (PySem.Stmt.For _ _ _ _ _) _) _ _ _ | with_reducible show wpAny _ _ (pyIter _) _ _ _ | with_reducible show wpAny _ _ (call (Value.type "list") _) _ _ _ | with_reducible show wpAny _ _ (call (Value.builtin "str.join") _) _ _ _ | with_reducible show wpAny _ _ (eval (PySem.Expr.ListComp _ [PySem.Comprehension.mk (PySem.Expr.Tuple _ _ _) _ _ _] _ _) _) _ _ _ | with_reducible show LCg.CompSrc _ _ _ _ _ _ _ _ _ _ _ _ _ _ | with_reducible show wpAny _ _ (execs (PySem.Stmt.If (PySem.Expr.Compare _ [CmpOp.Lt] _ _) [PySem.Stmt.Assign [PySem.Expr.Tuple _ _ _] _ _] _ _ :: _) _) _ _ _))); first | (k_end; wrow_close) | walk1 | (dsimp only; walk1) | (leave1; walk_say "STEP leave1"; try dsimp only) | fail "no step")))
      exact WEnd.intro () (by k_asm) (show News _ _ _ (_ :: nw) by k_asm) (fun p hp => List.mem_cons_of_mem _ hp) (by (((repeat (first | refine ps_cons rfl ?_ | refine ps_str (by assumption) rfl ?_ | refine ps_int (by omega) rfl ?_)); exact ps_nil))) trivial (by decide)
    · rw [decide_eq_false hk0, Bool.not_false]
      (repeat' (first | (k_unfold; first | walk_at "Seq" | (try dsimp only)) | ((fail_if_success ((first | with_reducible show wpAny _ _ (eval (PySem.Expr.ListComp _ _ _ _) _) _ _ _ | with_reducible show wpAny _ _ (call (Value.ref _) _) _ _ _ | with_reducible show wpAny _ _ (call (Value.type "str") _) _ _ _ | with_reducible show wpAny _ _ (call (Value.builtin "str.split") _) _ _ _ | with_reducible show wpAny _ _ (compareOp CmpOp.NotEq _ _) _ _ _ | with_reducible show wpAny _ _ (binaryOp Operator.Add (Value.ref _) (Value.ref _)) _ _ _ | with_reducible show wpAny _ _ (subscriptTail _ (PySem.Expr.UnaryOp _ _ _) (Value.ref _) _) _ _ _ | with_reducible show wpAny _ _ (subscriptTail _ (PySem.Expr.Slice _ _ _ _) _ _) _ _ _ | with_reducible show wpAny _ _ (execs (PySem.Stmt.If _ _ _ _ :: _) _) _ _ _ | with_reducible show wpAny _ _ (exec (PySem.Stmt.While _ _ _ _) _) _ _ _ | with_reducible show wpAny _ _ (exec (PySem.Stmt.For _ _ _ _ _) _) _ _ _ | with_reducible show wpAny _ _ (pyIter _) _ _ _ | with_reducible show wpAny _ _ (call (Value.type "list") _) _ _ _ | with_reducible show wpAny _ _ (call (Value.builtin "str.join") _) _ _ _ | with_reducible show wpAny _ _ (eval (PySem.Expr.ListComp _ [PySem.Comprehension.mk (PySem.Expr.Tuple _ _ _) _ _ _] _ _) _) _ _ _ | with_reducible show LCg.CompSrc _ _ _ _ _ _ _ _ _ _ _ _ _ _ | with_reducible show wpAny _ _ (execs (PySem.Stmt.If (PySem.Expr.Compare _ [CmpOp.Lt] _ _) [PySem.Stmt.Assign [PySem.Expr.Tuple _ _ _] _ _] _ _ :: _) _) _ _ _))); first | (k_end; wrow_close) | walk1 | (dsimp only; walk1) | (leave1; walk_say "STEP leave1"; try dsimp only) | fail "no step")))
      refine slice_to (s := ⟨_, _, _, _, _⟩) (vs := lv) (b := l) (by k_asm) (show News _ _ _ (_ :: nw) by k_asm) (List.mem_cons_of_mem _ hlm1) (by rw [sizeLine_eq]; omega) ?_
      intro D1 h1 F1 N1 _
      k_sweep
      (repeat' (first | (k_unfold; first | walk_at "Seq" | (try dsimp only)) | ((fail_if_success ((first | with_reducible show wpAny _ _ (eval (PySem.Expr.ListComp _ _ _ _) _) _ _ _ | with_reducible show wpAny _ _ (call (Value.ref _) _) _ _ _ | with_reducible show wpAny _ _ (call (Value.type "str") _) _ _ _ | with_reducible show wpAny _ _ (call (Value.builtin "str.split") _) _ _ _ | with_reducible show wpAny _ _ (compareOp CmpOp.NotEq _ _) _ _ _ | with_reducible show wpAny _ _ (binaryOp Operator.Add (Value.ref _) (Value.ref _)) _ _ _ | with_reducible show wpAny _ _ (subscriptTail _ (PySem.Expr.UnaryOp _ _ _) (Value.ref _) _) _ _ _ | with_reducible show wpAny _ _ (subscriptTail _ (PySem.Expr.Slice _ _ _ _) _ _) _ _ _ | with_reducible show wpAny _ _ (execs (PySem.Stmt.If _ _ _ _ :: _) _) _ _ _ | with_reducible show wpAny _ _ (exec (PySem.Stmt.While _ _ _ _) _) _ _ _ | with_reducible show wpAny _ _ (exec (PySem.Stmt.For _ _ _ _ _) _) _ _ _ | with_reducible show wpAny _ _ (pyIter _) _ _ _ | with_reducible show wpAny _ _ (call (Value.type "list") _) _ _ _ | with_reducible show wpAny _ _ (call (Value.builtin "str.join") _) _ _ _ | with_reducible show wpAny _ _ (eval (PySem.Expr.ListComp _ [PySem.Comprehension.mk (PySem.Expr.Tuple _ _ _) _ _ _] _ _) _) _ _ _ | with_reducible show LCg.CompSrc _ _ _ _ _ _ _ _ _ _ _ _ _ _ | with_reducible show wpAny _ _ (execs (PySem.Stmt.If (PySem.Expr.Compare _ [CmpOp.Lt] _ _) [PySem.Stmt.Assign [PySem.Expr.Tuple _ _ _] _ _] _ _ :: _) _) _ _ _))); first | (k_end; wrow_close) | walk1 | (dsimp only; walk1) | (leave1; walk_say "STEP leave1"; try dsimp only) | fail "no step")))
      refine slice_from (s := ⟨_, _, _, _, _⟩) (vs := lv) (b := hh) (by k_asm) N1 (List.mem_cons_of_mem _ (List.mem_cons_of_mem _ hlm1)) (by rw [sizeLine_eq]; omega) ?_
      intro D2 h2 F2 N2 _
      k_sweep
      (repeat' (first | (k_unfold; first | walk_at "Seq" | (try dsimp only)) | ((fail_if_success ((first | with_reducible show wpAny _ _ (eval (PySem.Expr.ListComp _ _ _ _) _) _ _ _ | with_reducible show wpAny _ _ (call (Value.ref _) _) _ _ _ | with_reducible show wpAny _ _ (call (Value.type "str") _) _ _ _ | with_reducible show wpAny _ _ (call (Value.builtin "str.split") _) _ _ _ | with_reducible show wpAny _ _ (compareOp CmpOp.NotEq _ _) _ _ _ | with_reducible show wpAny _ _ (binaryOp Operator.Add (Value.ref _) (Value.ref _)) _ _ _ | with_reducible show wpAny _ _ (subscriptTail _ (PySem.Expr.UnaryOp _ _ _) (Value.ref _) _) _ _ _ | with_reducible show wpAny _ _ (subscriptTail _ (PySem.Expr.Slice _ _ _ _) _ _) _ _ _ | with_reducible show wpAny _ _ (execs (PySem.Stmt.If _ _ _ _ :: _) _) _ _ _ | with_reducible show wpAny _ _ (exec (PySem.Stmt.While _ _ _ _) _) _ _ _ | with_reducible show wpAny _ _ (exec (PySem.Stmt.For _ _ _ _ _) _) _ _ _ | with_reducible show wpAny _ _ (pyIter _) _ _ _ | with_reducible show wpAny _ _ (call (Value.type "list") _) _ _ _ | with_reducible show wpAny _ _ (call (Value.builtin "str.join") _) _ _ _ | with_reducible show wpAny _ _ (eval (PySem.Expr.ListComp _ [PySem.Comprehension.mk (PySem.Expr.Tuple _ _ _) _ _ _] _ _) _) _ _ _ | with_reducible show LCg.CompSrc _ _ _ _ _ _ _ _ _ _ _ _ _ _ | with_reducible show wpAny _ _ (execs (PySem.Stmt.If (PySem.Expr.Compare _ [CmpOp.Lt] _ _) [PySem.Stmt.Assign [PySem.Expr.Tuple _ _ _] _ _] _ _ :: _) _) _ _ _))); first | (k_end; wrow_close) | walk1 | (dsimp only; walk1) | (leave1; walk_say "STEP leave1"; try dsimp only) | fail "no step")))
      refine kmk_add_lit (its := (lv.take l).toArray) (its2 := (lv.drop hh).toArray) (zs := lv.take l ++ lv.drop hh) (by k_asm) N2 (isl N2 (List.mem_cons_of_mem _ List.mem_cons_self)) (isl N2 List.mem_cons_self) rfl ?_ (by
        rw [sizeLine_eq]
        show (lv.take l).length + (lv.drop hh).length ≤ _
        rw [List.length_take, List.length_drop]
        omega)
      intro D3 h3 F3 N3 _
      k_sweep
      (repeat' (first | (k_unfold; first | walk_at "Seq" | (try dsimp only)) | ((fail_if_success ((first | with_reducible show wpAny _ _ (eval (PySem.Expr.ListComp _ _ _ _) _) _ _ _ | with_reducible show wpAny _ _ (call (Value.ref _) _) _ _ _ | with_reducible show wpAny _ _ (call (Value.type "str") _) _ _ _ | with_reducible show wpAny _ _ (call (Value.builtin "str.split") _) _ _ _ | with_reducible show wpAny _ _ (compareOp CmpOp.NotEq _ _) _ _ _ | with_reducible show wpAny _ _ (binaryOp Operator.Add (Value.ref _) (Value.ref _)) _ _ _ | with_reducible show wpAny _ _ (subscriptTail _ (PySem.Expr.UnaryOp _ _ _) (Value.ref _) _) _ _ _ | with_reducible show wpAny _ _ (subscriptTail _ (PySem.Expr.Slice _ _ _ _) _ _) _ _ _ | with_reducible show wpAny _ _ (execs (PySem.Stmt.If _ _ _ _ :: _) _) _ _ _ | with_reducible show wpAny _ _ (exec (PySem.Stmt.While _ _ _ _) _) _ _ _ | with_reducible show wpAny _ _ (exec (PySem.Stmt.For _ _ _ _ _) _) _ _ _ | with_reducible show wpAny _ _ (pyIter _) _ _ _ | with_reducible show wpAny _ _ (call (Value.type "list") _) _ _ _ | with_reducible show wpAny _ _ (call (Value.builtin "str.join") _) _ _ _ | with_reducible show wpAny _ _ (eval (PySem.Expr.ListComp _ [PySem.Comprehension.mk (PySem.Expr.Tuple _ _ _) _ _ _] _ _) _) _ _ _ | with_reducible show LCg.CompSrc _ _ _ _ _ _ _ _ _ _ _ _ _ _ | with_reducible show wpAny _ _ (execs (PySem.Stmt.If (PySem.Expr.Compare _ [CmpOp.Lt] _ _) [PySem.Stmt.Assign [PySem.Expr.Tuple _ _ _] _ _] _ _ :: _) _) _ _ _))); first | (k_end; wrow_close) | walk1 | (dsimp only; walk1) | (leave1; walk_say "STEP leave1"; try dsimp only) | fail "no step")))
      have hcut : StrsAre (lv.take l ++ lv.drop hh) (textLines (keptF a.ag l hh) a.dl a.rows.flatten) := by
        rw [← cut_lines hlh hhl]
        exact StrsAre.append' (StrsAre.take'' _ hlv) (StrsAre.drop'' _ hlv)
      refine join_listC (items := (lv.take l ++ lv.drop hh).toArray) (ys := textLines (keptF a.ag l hh) a.dl a.rows.flatten) (isl N3 List.mem_cons_self) (by simpa using hcut) (by decide) (lines_fit (by omega) (by omega) (fun x hx => Nat.le_trans (hkm x hx) (by decide)) (fun x hx => Nat.le_trans (hfull x hx).1 (by decide)) dl100) ?_
      intro t4 k4
      (repeat' (first | (k_unfold; first | walk_at "Seq" | (try dsimp only)) | ((fail_if_success ((first | with_reducible show wpAny _ _ (eval (PySem.Expr.ListComp _ _ _ _) _) _ _ _ | with_reducible show wpAny _ _ (call (Value.ref _) _) _ _ _ | with_reducible show wpAny _ _ (call (Value.type "str") _) _ _ _ | with_reducible show wpAny _ _ (call (Value.builtin "str.split") _) _ _ _ | with_reducible show wpAny _ _ (compareOp CmpOp.NotEq _ _) _ _ _ | with_reducible show wpAny _ _ (binaryOp Operator.Add (Value.ref _) (Value.ref _)) _ _ _ | with_reducible show wpAny _ _ (subscriptTail _ (PySem.Expr.UnaryOp _ _ _) (Value.ref _) _) _ _ _ | with_reducible show wpAny _ _ (subscriptTail _ (PySem.Expr.Slice _ _ _ _) _ _) _ _ _ | with_reducible show wpAny _ _ (execs (PySem.Stmt.If _ _ _ _ :: _) _) _ _ _ | with_reducible show wpAny _ _ (exec (PySem.Stmt.While _ _ _ _) _) _ _ _ | with_reducible show wpAny _ _ (exec (PySem.Stmt.For _ _ _ _ _) _) _ _ _ | with_reducible show wpAny _ _ (pyIter _) _ _ _ | with_reducible show wpAny _ _ (call (Value.type "list") _) _ _ _ | with_reducible show wpAny _ _ (call (Value.builtin "str.join") _) _ _ _ | with_reducible show wpAny _ _ (eval (PySem.Expr.ListComp _ [PySem.Comprehension.mk (PySem.Expr.Tuple _ _ _) _ _ _] _ _) _) _ _ _ | with_reducible show LCg.CompSrc _ _ _ _ _ _ _ _ _ _ _ _ _ _ | with_reducible show wpAny _ _ (execs (PySem.Stmt.If (PySem.Expr.Compare _ [CmpOp.Lt] _ _) [PySem.Stmt.Assign [PySem.Expr.Tuple _ _ _] _ _] _ _ :: _) _) _ _ _))); first | (k_end; wrow_close) | walk1 | (dsimp only; walk1) | (leave1; walk_say "STEP leave1"; try dsimp only) | fail "no step")))
      refine ne_same (by rw [eLs]; unfold lessF; rw [strF_text hk0 hfne]; rfl) ?_
      (repeat' (first | (k_unfold; first | walk_at "Seq" | (try dsimp only)) | ((fail_if_success ((first | with_reducible show wpAny _ _ (eval (PySem.Expr.ListComp _ _ _ _) _) _ _ _ | with_reducible show wpAny _ _ (call (Value.ref _) _) _ _ _ | with_reducible show wpAny _ _ (call (Value.type "str") _) _ _ _ | with_reducible show wpAny _ _ (call (Value.builtin "str.split") _) _ _ _ | with_reducible show wpAny _ _ (compareOp CmpOp.NotEq _ _) _ _ _ | with_reducible show wpAny _ _ (binaryOp Operator.Add (Value.ref _) (Value.ref _)) _ _ _ | with_reducible show wpAny _ _ (subscriptTail _ (PySem.Expr.UnaryOp _ _ _) (Value.ref _) _) _ _ _ | with_reducible show wpAny _ _ (subscriptTail _ (PySem.Expr.Slice _ _ _ _) _ _) _ _ _ | with_reducible show wpAny _ _ (execs (PySem.Stmt.If _ _ _ _ :: _) _) _ _ _ | with_reducible show wpAny _ _ (exec (PySem.Stmt.While _ _ _ _) _) _ _ _ | with_reducible show wpAny _ _ (exec (PySem.Stmt.For _ _ _ _ _) _) _ _ _ | with_reducible show wpAny _ _ (pyIter _) _ _ _ | with_reducible show wpAny _ _ (call (Value.type "list") _) _ _ _ | with_reducible show wpAny _ _ (call (Value.builtin "str.join") _) _ _ _ | with_reducible show wpAny _ _ (eval (PySem.Expr.ListComp _ [PySem.Comprehension.mk (PySem.Expr.Tuple _ _ _) _ _ _] _ _) _) _ _ _ | with_reducible show LCg.CompSrc _ _ _ _ _ _ _ _ _ _ _ _ _ _ | with_reducible show wpAny _ _ (execs (PySem.Stmt.If (PySem.Expr.Compare _ [CmpOp.Lt] _ _) [PySem.Stmt.Assign [PySem.Expr.Tuple _ _ _] _ _] _ _ :: _) _) _ _ _))); first | (k_end; wrow_close) | walk1 | (dsimp only; walk1) | (leave1; walk_say "STEP leave1"; try dsimp only) | fail "no step")))
      exact WEnd.intro () (by k_asm) N3 (fun p hp => List.mem_cons_of_mem _ (List.mem_cons_of_mem _ (List.mem_cons_of_mem _ (List.mem_cons_of_mem _ hp)))) (by (((repeat (first | refine ps_cons rfl ?_ | refine ps_str (by assumption) rfl ?_ | refine ps_int (by omega) rfl ?_)); exact ps_nil))) trivial (by decide)
  clear hF hN
  rintro _ u2 h2 tk2 _ F2 N2
  dsimp only [kstB] at F2 N2 ⊢
  k_sweep
  refine execs_cons' ?_
  obtain ⟨_, d1, l11, l12, u11, u12, u13, u14, w1, w2, k11, k12, dv1, e9, m11, m12, m13, m14, _⟩ := id hnr
  cases e9
  (repeat' (first | (k_unfold; first | walk_at "Seq" | (try dsimp only)) | ((fail_if_success ((first | with_reducible show wpAny _ _ (eval (PySem.Expr.ListComp _ _ _ _) _) _ _ _ | with_reducible show wpAny _ _ (call (Value.ref _) _) _ _ _ | with_reducible show wpAny _ _ (call (Value.type "str") _) _ _ _ | with_reducible show wpAny _ _ (call (Value.builtin "str.split") _) _ _ _ | with_reducible show wpAny _ _ (compareOp CmpOp.NotEq _ _) _ _ _ | with_reducible show wpAny _ _ (binaryOp Operator.Add (Value.ref _) (Value.ref _)) _ _ _ | with_reducible show wpAny _ _ (subscriptTail _ (PySem.Expr.UnaryOp _ _ _) (Value.ref _) _) _ _ _ | with_reducible show wpAny _ _ (subscriptTail _ (PySem.Expr.Slice _ _ _ _) _ _) _ _ _ | with_reducible show wpAny _ _ (execs (PySem.Stmt.If _ _ _ _ :: _) _) _ _ _ | with_reducible show wpAny _ _ (exec (PySem.Stmt.While _ _ _ _) _) _ _ _ | with_reducible show wpAny _ _ (exec (PySem.Stmt.For _ _ _ _ _) _) _ _ _ | with_reducible show wpAny _ _ (pyIter _) _ _ _ | with_reducible show wpAny _ _ (call (Value.type "list") _) _ _ _ | with_reducible show wpAny _ _ (call (Value.builtin "str.join") _) _ _ _ | with_reducible show wpAny _ _ (eval (PySem.Expr.ListComp _ [PySem.Comprehension.mk (PySem.Expr.Tuple _ _ _) _ _ _] _ _) _) _ _ _ | with_reducible show LCg.CompSrc _ _ _ _ _ _ _ _ _ _ _ _ _ _ | with_reducible show wpAny _ _ (execs (PySem.Stmt.If (PySem.Expr.Compare _ [CmpOp.Lt] _ _) [PySem.Stmt.Assign [PySem.Expr.Tuple _ _ _] _ _] _ _ :: _) _) _ _ _))); first | (k_end; wrow_close) | walk1 | (dsimp only; walk1) | (leave1; walk_say "STEP leave1"; try dsimp only) | fail "no step")))
  (k_dflt (refine' kso_call ?k1 ?k2 ?k3 ?k4 ?k5 ?_; (case k1 => k_units); (case k2 => k_in); (case k3 => k_inst); (case k4 => k_is); (case k5 => k_is); k_whole))
  refine' Claim.use ?k1 ?k2 ?k3 (show News _ _ _ nw by k_asm) ?k5 ?kK (str_c hnr (Nat.le_trans hnf.2.1 (by decide)) (by decide) (fun x hx => Nat.le_trans (hnf.2.2 x hx) (by decide)) (fun _ h => nomatch h) (fun _ h => nomatch h)) ?kd ?ku ?_
  case k1 => k_asm
  case k2 => k_asm
  case k3 => k_asm
  case k5 => k_asm
  case kK => rfl
  case kd => exact Nat.le_of_ble_eq_true rfl
  case ku => exact Nat.le_of_ble_eq_true rfl
  intro t5 h5 tk5 F5 N5
  refine strback ?_
  k_sweep
  (repeat' (first | (k_unfold; first | walk_at "Seq" | (try dsimp only)) | ((fail_if_success ((first | with_reducible show wpAny _ _ (eval (PySem.Expr.ListComp _ _ _ _) _) _ _ _ | with_reducible show wpAny _ _ (call (Value.ref _) _) _ _ _ | with_reducible show wpAny _ _ (call (Value.type "str") _) _ _ _ | with_reducible show wpAny _ _ (call (Value.builtin "str.split") _) _ _ _ | with_reducible show wpAny _ _ (compareOp CmpOp.NotEq _ _) _ _ _ | with_reducible show wpAny _ _ (binaryOp Operator.Add (Value.ref _) (Value.ref _)) _ _ _ | with_reducible show wpAny _ _ (subscriptTail _ (PySem.Expr.UnaryOp _ _ _) (Value.ref _) _) _ _ _ | with_reducible show wpAny _ _ (subscriptTail _ (PySem.Expr.Slice _ _ _ _) _ _) _ _ _ | with_reducible show wpAny _ _ (execs (PySem.Stmt.If _ _ _ _ :: _) _) _ _ _ | with_reducible show wpAny _ _ (exec (PySem.Stmt.While _ _ _ _) _) _ _ _ | with_reducible show wpAny _ _ (exec (PySem.Stmt.For _ _ _ _ _) _) _ _ _ | with_reducible show wpAny _ _ (pyIter _) _ _ _ | with_reducible show wpAny _ _ (call (Value.type "list") _) _ _ _ | with_reducible show wpAny _ _ (call (Value.builtin "str.join") _) _ _ _ | with_reducible show wpAny _ _ (eval (PySem.Expr.ListComp _ [PySem.Comprehension.mk (PySem.Expr.Tuple _ _ _) _ _ _] _ _) _) _ _ _ | with_reducible show LCg.CompSrc _ _ _ _ _ _ _ _ _ _ _ _ _ _ | with_reducible show wpAny _ _ (execs (PySem.Stmt.If (PySem.Expr.Compare _ [CmpOp.Lt] _ _) [PySem.Stmt.Assign [PySem.Expr.Tuple _ _ _] _ _] _ _ :: _) _) _ _ _))); first | (k_end; wrow_close) | walk1 | (dsimp only; walk1) | (leave1; walk_say "STEP leave1"; try dsimp only) | fail "no step")))
  refine krv_lit (s := ⟨_, _, _, _, _⟩) (its := kv.toArray) (zs := kv.reverse) (by k_asm) (show News _ _ _ nw by k_asm) (isl (show News _ _ _ nw by k_asm) hkm1) (.int _ _) rfl ?_ (by with_unfolding_all rfl) (by intro _; with_unfolding_all rfl) (by rw [sizeLine_eq, List.size_toArray]; omega)
  intro D6 h6 F6 N6 _
  k_sweep
  (repeat' (first | (k_unfold; first | walk_at "Seq" | (try dsimp only)) | ((fail_if_success ((first | with_reducible show wpAny _ _ (eval (PySem.Expr.ListComp _ _ _ _) _) _ _ _ | with_reducible show wpAny _ _ (call (Value.ref _) _) _ _ _ | with_reducible show wpAny _ _ (call (Value.type "str") _) _ _ _ | with_reducible show wpAny _ _ (call (Value.builtin "str.split") _) _ _ _ | with_reducible show wpAny _ _ (compareOp CmpOp.NotEq _ _) _ _ _ | with_reducible show wpAny _ _ (binaryOp Operator.Add (Value.ref _) (Value.ref _)) _ _ _ | with_reducible show wpAny _ _ (subscriptTail _ (PySem.Expr.UnaryOp _ _ _) (Value.ref _) _) _ _ _ | with_reducible show wpAny _ _ (subscriptTail _ (PySem.Expr.Slice _ _ _ _) _ _) _ _ _ | with_reducible show wpAny _ _ (execs (PySem.Stmt.If _ _ _ _ :: _) _) _ _ _ | with_reducible show wpAny _ _ (exec (PySem.Stmt.While _ _ _ _) _) _ _ _ | with_reducible show wpAny _ _ (exec (PySem.Stmt.For _ _ _ _ _) _) _ _ _ | with_reducible show wpAny _ _ (pyIter _) _ _ _ | with_reducible show wpAny _ _ (call (Value.type "list") _) _ _ _ | with_reducible show wpAny _ _ (call (Value.builtin "str.join") _) _ _ _ | with_reducible show wpAny _ _ (eval (PySem.Expr.ListComp _ [PySem.Comprehension.mk (PySem.Expr.Tuple _ _ _) _ _ _] _ _) _) _ _ _ | with_reducible show LCg.CompSrc _ _ _ _ _ _ _ _ _ _ _ _ _ _ | with_reducible show wpAny _ _ (execs (PySem.Stmt.If (PySem.Expr.Compare _ [CmpOp.Lt] _ _) [PySem.Stmt.Assign [PySem.Expr.Tuple _ _ _] _ _] _ _ :: _) _) _ _ _))); first | (k_end; wrow_close) | walk1 | (dsimp only; walk1) | (leave1; walk_say "STEP leave1"; try dsimp only) | fail "no step")))
  refine name_l1 (show News _ _ _ ((_, W.listOf #[_] 0) :: (D6, W.listOf kv.reverse.toArray 0) :: nw) by k_asm) ?_
  intro le te e7 N7
  subst e7
  refine kmk_add_lit (its := kv.reverse.toArray) (its2 := [Value.str (Str.ofString "e") te].toArray) (zs := kv.reverse ++ [Value.str (Str.ofString "e") te]) (by k_asm) N7 (isl N7 (List.mem_cons_of_mem _ List.mem_cons_self)) (isl N7 List.mem_cons_self) rfl ?_ (by
    rw [sizeLine_eq]
    show kv.reverse.length + 1 ≤ _
    rw [List.length_reverse]
    omega)
  intro D8 h8 F8 N8 _
  obtain ⟨_, zs, kzs, e9, hgm, hgv⟩ := id hgr
  cases e9
  have hgl : zs.length ≤ 16 := by
    have e1 := hgv.len_eq
    have e2 := hnf.2.1
    unfold narrowF at e2
    rw [List.length_append] at e2
    omega
  k_sweep
  (repeat' (first | (k_unfold; first | walk_at "Seq" | (try dsimp only)) | ((fail_if_success ((first | with_reducible show wpAny _ _ (eval (PySem.Expr.ListComp _ _ _ _) _) _ _ _ | with_reducible show wpAny _ _ (call (Value.ref _) _) _ _ _ | with_reducible show wpAny _ _ (call (Value.type "str") _) _ _ _ | with_reducible show wpAny _ _ (call (Value.builtin "str.split") _) _ _ _ | with_reducible show wpAny _ _ (compareOp CmpOp.NotEq _ _) _ _ _ | with_reducible show wpAny _ _ (binaryOp Operator.Add (Value.ref _) (Value.ref _)) _ _ _ | with_reducible show wpAny _ _ (subscriptTail _ (PySem.Expr.UnaryOp _ _ _) (Value.ref _) _) _ _ _ | with_reducible show wpAny _ _ (subscriptTail _ (PySem.Expr.Slice _ _ _ _) _ _) _ _ _ | with_reducible show wpAny _ _ (execs (PySem.Stmt.If _ _ _ _ :: _) _) _ _ _ | with_reducible show wpAny _ _ (exec (PySem.Stmt.While _ _ _ _) _) _ _ _ | with_reducible show wpAny _ _ (exec (PySem.Stmt.For _ _ _ _ _) _) _ _ _ | with_reducible show wpAny _ _ (pyIter _) _ _ _ | with_reducible show wpAny _ _ (call (Value.type "list") _) _ _ _ | with_reducible show wpAny _ _ (call (Value.builtin "str.join") _) _ _ _ | with_reducible show wpAny _ _ (eval (PySem.Expr.ListComp _ [PySem.Comprehension.mk (PySem.Expr.Tuple _ _ _) _ _ _] _ _) _) _ _ _ | with_reducible show LCg.CompSrc _ _ _ _ _ _ _ _ _ _ _ _ _ _ | with_reducible show wpAny _ _ (execs (PySem.Stmt.If (PySem.Expr.Compare _ [CmpOp.Lt] _ _) [PySem.Stmt.Assign [PySem.Expr.Tuple _ _ _] _ _] _ _ :: _) _) _ _ _))); first | (k_end; wrow_close) | walk1 | (dsimp only; walk1) | (leave1; walk_say "STEP leave1"; try dsimp only) | fail "no step")))
  refine kmk_add_lit (its := (kv.reverse ++ [Value.str (Str.ofString "e") te]).toArray) (its2 := zs.toArray) (zs := kv.reverse ++ [Value.str (Str.ofString "e") te] ++ zs) (by k_asm) N8 (isl N8 List.mem_cons_self) (isl N8 (List.mem_cons_of_mem _ (List.mem_cons_of_mem _ (List.mem_cons_of_mem _ hgm)))) rfl ?_ (by
    rw [sizeLine_eq]
    show (kv.reverse ++ [Value.str (Str.ofString "e") te]).length + zs.length ≤ _
    rw [List.length_append, List.length_reverse]
    simp only [List.length_cons, List.length_nil]
    omega)
  intro D9 h9 F9 N9 _
  k_sweep
  (repeat' (first | (k_unfold; first | walk_at "Seq" | (try dsimp only)) | ((fail_if_success ((first | with_reducible show wpAny _ _ (eval (PySem.Expr.ListComp _ _ _ _) _) _ _ _ | with_reducible show wpAny _ _ (call (Value.ref _) _) _ _ _ | with_reducible show wpAny _ _ (call (Value.type "str") _) _ _ _ | with_reducible show wpAny _ _ (call (Value.builtin "str.split") _) _ _ _ | with_reducible show wpAny _ _ (compareOp CmpOp.NotEq _ _) _ _ _ | with_reducible show wpAny _ _ (binaryOp Operator.Add (Value.ref _) (Value.ref _)) _ _ _ | with_reducible show wpAny _ _ (subscriptTail _ (PySem.Expr.UnaryOp _ _ _) (Value.ref _) _) _ _ _ | with_reducible show wpAny _ _ (subscriptTail _ (PySem.Expr.Slice _ _ _ _) _ _) _ _ _ | with_reducible show wpAny _ _ (execs (PySem.Stmt.If _ _ _ _ :: _) _) _ _ _ | with_reducible show wpAny _ _ (exec (PySem.Stmt.While _ _ _ _) _) _ _ _ | with_reducible show wpAny _ _ (exec (PySem.Stmt.For _ _ _ _ _) _) _ _ _ | with_reducible show wpAny _ _ (pyIter _) _ _ _ | with_reducible show wpAny _ _ (call (Value.type "list") _) _ _ _ | with_reducible show wpAny _ _ (call (Value.builtin "str.join") _) _ _ _ | with_reducible show wpAny _ _ (eval (PySem.Expr.ListComp _ [PySem.Comprehension.mk (PySem.Expr.Tuple _ _ _) _ _ _] _ _) _) _ _ _ | with_reducible show LCg.CompSrc _ _ _ _ _ _ _ _ _ _ _ _ _ _ | with_reducible show wpAny _ _ (execs (PySem.Stmt.If (PySem.Expr.Compare _ [CmpOp.Lt] _ _) [PySem.Stmt.Assign [PySem.Expr.Tuple _ _ _] _ _] _ _ :: _) _) _ _ _))); first | (k_end; wrow_close) | walk1 | (dsimp only; walk1) | (leave1; walk_say "STEP leave1"; try dsimp only) | fail "no step")))
  refine name_l1 (show News _ _ _ ((_, W.listOf #[_] 0) :: (D9, W.listOf (kv.reverse ++ [Value.str (Str.ofString "e") te] ++ zs).toArray 0) :: _ :: _ :: _ :: nw) by k_asm) ?_
  intro la9 ta9 e8 N10
  subst e8
  have hnw : StrsAre (kv.reverse ++ [Value.str (Str.ofString "e") te] ++ zs) (narrowF a.ag l hh) := by
    unfold narrowF
    exact ((strs_reverse hkv).append' (.cons _ _ .nil)).append' hgv
  refine' Claim.use ?k1 ?k2 ?k3 N10 ?k5 ?kK (text_c (dl := none) (ag := narrowF a.ag l hh) (ru := [Str.ofString "Allow:"]) ⟨D9, _, 0, rfl, List.mem_cons_of_mem _ List.mem_cons_self, hnw⟩ ⟨la9, _, 0, rfl, List.mem_cons_self, .cons _ _ .nil⟩ rfl (Nat.le_trans hnf.2.1 (by decide)) (by decide) (fun x hx => Nat.le_trans (hnf.2.2 x hx) (by decide)) (fun x hx => by rw [List.mem_singleton.mp hx]; decide +kernel) (fun _ h => nomatch h)) ?kd ?ku ?_
  case k1 => k_asm
  case k2 => k_asm
  case k3 => k_asm
  case k5 => k_asm
  case kK => rfl
  case kd => exact Nat.le_of_ble_eq_true rfl
  case ku => exact Nat.le_of_ble_eq_true rfl
  intro t11 h11 tk11 F11 N11
  k_sweep
  (repeat' (first | (k_unfold; first | walk_at "Seq" | (try dsimp only)) | ((fail_if_success ((first | with_reducible show wpAny _ _ (eval (PySem.Expr.ListComp _ _ _ _) _) _ _ _ | with_reducible show wpAny _ _ (call (Value.ref _) _) _ _ _ | with_reducible show wpAny _ _ (call (Value.type "str") _) _ _ _ | with_reducible show wpAny _ _ (call (Value.builtin "str.split") _) _ _ _ | with_reducible show wpAny _ _ (compareOp CmpOp.NotEq _ _) _ _ _ | with_reducible show wpAny _ _ (binaryOp Operator.Add (Value.ref _) (Value.ref _)) _ _ _ | with_reducible show wpAny _ _ (subscriptTail _ (PySem.Expr.UnaryOp _ _ _) (Value.ref _) _) _ _ _ | with_reducible show wpAny _ _ (subscriptTail _ (PySem.Expr.Slice _ _ _ _) _ _) _ _ _ | with_reducible show wpAny _ _ (execs (PySem.Stmt.If _ _ _ _ :: _) _) _ _ _ | with_reducible show wpAny _ _ (exec (PySem.Stmt.While _ _ _ _) _) _ _ _ | with_reducible show wpAny _ _ (exec (PySem.Stmt.For _ _ _ _ _) _) _ _ _ | with_reducible show wpAny _ _ (pyIter _) _ _ _ | with_reducible show wpAny _ _ (call (Value.type "list") _) _ _ _ | with_reducible show wpAny _ _ (call (Value.builtin "str.join") _) _ _ _ | with_reducible show wpAny _ _ (eval (PySem.Expr.ListComp _ [PySem.Comprehension.mk (PySem.Expr.Tuple _ _ _) _ _ _] _ _) _) _ _ _ | with_reducible show LCg.CompSrc _ _ _ _ _ _ _ _ _ _ _ _ _ _ | with_reducible show wpAny _ _ (execs (PySem.Stmt.If (PySem.Expr.Compare _ [CmpOp.Lt] _ _) [PySem.Stmt.Assign [PySem.Expr.Tuple _ _ _] _ _] _ _ :: _) _) _ _ _))); first | (k_end; wrow_close) | walk1 | (dsimp only; walk1) | (leave1; walk_say "STEP leave1"; try dsimp only) | fail "no step")))
  refine ne_same (strF_allow hnf.1) ?_
  (repeat' (first | (k_unfold; first | walk_at "Seq" | (try dsimp only)) | ((fail_if_success ((first | with_reducible show wpAny _ _ (eval (PySem.Expr.ListComp _ _ _ _) _) _ _ _ | with_reducible show wpAny _ _ (call (Value.ref _) _) _ _ _ | with_reducible show wpAny _ _ (call (Value.type "str") _) _ _ _ | with_reducible show wpAny _ _ (call (Value.builtin "str.split") _) _ _ _ | with_reducible show wpAny _ _ (compareOp CmpOp.NotEq _ _) _ _ _ | with_reducible show wpAny _ _ (binaryOp Operator.Add (Value.ref _) (Value.ref _)) _ _ _ | with_reducible show wpAny _ _ (subscriptTail _ (PySem.Expr.UnaryOp _ _ _) (Value.ref _) _) _ _ _ | with_reducible show wpAny _ _ (subscriptTail _ (PySem.Expr.Slice _ _ _ _) _ _) _ _ _ | with_reducible show wpAny _ _ (execs (PySem.Stmt.If _ _ _ _ :: _) _) _ _ _ | with_reducible show wpAny _ _ (exec (PySem.Stmt.While _ _ _ _) _) _ _ _ | with_reducible show wpAny _ _ (exec (PySem.Stmt.For _ _ _ _ _) _) _ _ _ | with_reducible show wpAny _ _ (pyIter _) _ _ _ | with_reducible show wpAny _ _ (call (Value.type "list") _) _ _ _ | with_reducible show wpAny _ _ (call (Value.builtin "str.join") _) _ _ _ | with_reducible show wpAny _ _ (eval (PySem.Expr.ListComp _ [PySem.Comprehension.mk (PySem.Expr.Tuple _ _ _) _ _ _] _ _) _) _ _ _ | with_reducible show LCg.CompSrc _ _ _ _ _ _ _ _ _ _ _ _ _ _ | with_reducible show wpAny _ _ (execs (PySem.Stmt.If (PySem.Expr.Compare _ [CmpOp.Lt] _ _) [PySem.Stmt.Assign [PySem.Expr.Tuple _ _ _] _ _] _ _ :: _) _) _ _ _))); first | (k_end; wrow_close) | walk1 | (dsimp only; walk1) | (leave1; walk_say "STEP leave1"; try dsimp only) | fail "no step")))
  dsimp only
  exact nextF w p loose mean mg mb fa cd h₀ L _ s _ _ a t3 nw l hh hB (fr_ps (by k_asm) (ps_cons rfl (ps_cons rfl (ps_cons rfl (ps_cons (by rw [← eLs]; rfl) ps_nil))))) (by k_asm) hT (fun q hq => N11 q (List.mem_cons_of_mem _ (List.mem_cons_of_mem _ (List.mem_cons_of_mem _ (List.mem_cons_of_mem _ (List.mem_cons_of_mem _ hq)))))) hL hlh hhl
end
end

section
open PySem PySem.W PyProof.Rows
section
theorem jl_mem {P : Nat → Prop} (h10 : P 10) : ∀ (xs : List (List Nat)), (∀ x ∈ xs, ∀ c ∈ x, P c) → ∀ c ∈ jl xs, P c
  | [], _, c, h => nomatch h
  | [x], hx, c, h => hx x List.mem_cons_self c h
  | x :: y :: r, hx, c, h => by
    simp only [jl, List.mem_append, List.mem_cons] at h
    rcases h with h | h | h
    · exact hx x List.mem_cons_self c h
    · rw [h]; exact h10
    · exact jl_mem h10 (y :: r) (fun z hz => hx z (List.mem_cons_of_mem _ hz)) c h
theorem text_chars {ag ru : List Str} {dl : Option Int} (ha : ∀ a ∈ ag, a ∈ ring4) (hd : ∀ n, dl = some n → 0 ≤ n ∧ n < 100) (hr : ∀ x ∈ ru, ∀ c ∈ x.cps.toList, c ∈ [47, 97, 65, 36]) :
    ∀ c ∈ (textOf ag dl ru).cps.toList, c < 128 := by
  unfold textOf
  rw [txt_join, show Str.ofString "\n" = nl from rfl, join_toList]
  refine jl_mem (by decide) _ fun x hx => ?_
  obtain ⟨y, hy, rfl⟩ := List.mem_map.mp hx
  exact (line_free ha hd hr y hy).2
theorem strOk_of {x : Str} (h : ∀ c ∈ x.cps.toList, c < 128) : PyData.strOk x = true := by
  unfold PyData.strOk
  rw [Array.all_eq_true']
  intro c hc
  have := h c (Array.mem_toList_iff.mpr hc)
  exact decide_eq_true (by omega)
theorem text_ok {ag ru : List Str} {dl : Option Int} (ha : ∀ a ∈ ag, a ∈ ring4) (hd : ∀ n, dl = some n → 0 ≤ n ∧ n < 100) (hr : ∀ x ∈ ru, ∀ c ∈ x.cps.toList, c ∈ [47, 97, 65, 36]) : PyData.strOk (textOf ag dl ru) = true := strOk_of (text_chars ha hd hr)
theorem accF_mem {rows : List (List Str)} {r : List Str} (h : r ∈ accF rows) : ∃ k, k < rows.length ∧ r = (rows.take (k + 1)).flatten := by
  unfold accF at h
  obtain ⟨k, hk, rfl⟩ := List.mem_map.mp h
  exact ⟨k, List.mem_range.mp hk, rfl⟩
theorem acc_facts {ag : List Str} {dl : Option Int} {rows : List (List Str)} (G : Good ag dl rows) {r : List Str} (h : r ∈ accF rows) : r ≠ [] ∧ r.length ≤ 4 ∧ (∀ x ∈ r, x.length ≤ 3 ∧ ∀ c ∈ x.cps.toList, c ∈ [47, 97, 65, 36]) := by
  obtain ⟨k, hk, rfl⟩ := accF_mem h
  refine ⟨flat_ne (by rw [List.length_take]; omega) fun q hq => G.ne q (List.mem_of_mem_take hq), Nat.le_trans (flatten_take_le rows (k + 1)) G.flat4, fun x hx => ?_⟩
  obtain ⟨q, hq, hxq⟩ := List.mem_flatten.mp hx
  exact ⟨G.rule3 q (List.mem_of_mem_take hq) x hxq, G.rulec q (List.mem_of_mem_take hq) x hxq⟩
theorem row_facts {ag : List Str} {dl : Option Int} {rows : List (List Str)} (G : Good ag dl rows) {r : List Str} (h : r ∈ rows) : r ≠ [] ∧ r.length ≤ 4 ∧ (∀ x ∈ r, x.length ≤ 3 ∧ ∀ c ∈ x.cps.toList, c ∈ [47, 97, 65, 36]) :=
  ⟨G.ne r h, Nat.le_trans (flatten_le h) G.flat4, fun x hx => ⟨G.rule3 r h x hx, G.rulec r h x hx⟩⟩
theorem ag_ne {ag : List Str} {dl : Option Int} {rows : List (List Str)} (G : Good ag dl rows) : ag ≠ [] := fun e => by
  have := G.ag1
  rw [e] at this
  simp at this
theorem recsF_drop (dl : Option Int) (rows : List (List Str)) : (recsF dl rows).drop 1 = (rows.drop 1).map fun r => (none, r) := by
  cases rows with
  | nil => rfl
  | cons r rs => rfl
end
end

section
open PySem PySem.W PyProof.Rows
section
theorem law_e (nextG : ∀ (w : World) (p : Program) (loose : List Str) (mean : ExcName → Option Value) (mg mb : Str → Option Value) (fa : Addr) (cd : Value) (h₀ : Heap) (L : Addr) (u : Str → Option Value) (s : Shared) (h : Heap) (tk : Nat) (a : LArgs) (t3 : Tok) (nw : List (Addr × Obj)) (l hh : Nat),
    Below callerA h₀ [] h₀ → Fr h₀ L h (kstB u [("numbers", .ref a.lnum), ("records", .ref a.lrec), ("less", .str (lessF a.ag a.dl a.rows l hh) t3)]) → (Mine.hd.heap_39 w.params).In h₀ → Top p loose mean mg mb h₀ →
    News h₀ L h nw → LawF w L a nw → l ≤ hh → hh ≤ a.ag.length →
    LawRest 13 w fa cd h₀ L s h tk)
    (w : World) (p : Program) (loose : List Str) (mean : ExcName → Option Value) (mg mb : Str → Option Value) (fa : Addr) (cd : Value) (h₀ : Heap) (L : Addr) (u : Str → Option Value) (s : Shared) (h : Heap) (tk : Nat) (a : LArgs) (t3 : Tok) (nw : List (Addr × Obj)) (l hh : Nat)
    (hB : Below callerA h₀ [] h₀) (hF : Fr h₀ L h (kstB u [("numbers", .ref a.lnum), ("records", .ref a.lrec), ("books", .ref a.lbk), ("less", .str (lessF a.ag a.dl a.rows l hh) t3)])) (hX : (Mine.hd.heap_39 w.params).In h₀) (hT : Top p loose mean mg mb h₀)
    (hN : News h₀ L h nw) (hL : LawF w L a nw) (hlh : l ≤ hh) (hhl : hh ≤ a.ag.length) : LawRest 11 w fa cd h₀ L s h tk := by
  unfold LawRest at nextG ⊢
  dsimp only [lawOf, List.drop] at nextG ⊢
  dsimp only [kstB] at hF
  have G := hL.hG
  have hbl := hL.hb.length
  have hrl := hL.hA.length
  rw [accF_len] at hbl
  rw [recsF_len] at hrl
  have hr3 := G.rows3
  have mT := hL.mT
  have dT := hL.dT
  have mR := hL.mR
  have dR := hL.dR
  have mA := hL.mA
  have dA := hL.dA
  (try k_fold)
  refine execs_cons' ?_
  (repeat' (first | (k_unfold; first | walk_at "Seq" | (try dsimp only)) | ((fail_if_success ((first | with_reducible show wpAny _ _ (execs (PySem.Stmt.Assign [PySem.Expr.Name _ _] (PySem.Expr.BinOp _ _ _ _) _ :: _) _) _ _ _ | with_reducible show wpAny _ _ (eval (PySem.Expr.ListComp _ _ _ _) _) _ _ _ | with_reducible show wpAny _ _ (call (Value.ref _) _) _ _ _ | with_reducible show wpAny _ _ (call (Value.type "str") _) _ _ _ | with_reducible show wpAny _ _ (call (Value.builtin "str.split") _) _ _ _ | with_reducible show wpAny _ _ (compareOp CmpOp.NotEq _ _) _ _ _ | with_reducible show wpAny _ _ (binaryOp Operator.Add (Value.ref _) (Value.ref _)) _ _ _ | with_reducible show wpAny _ _ (subscriptTail _ (PySem.Expr.UnaryOp _ _ _) (Value.ref _) _) _ _ _ | with_reducible show wpAny _ _ (subscriptTail _ (PySem.Expr.Slice _ _ _ _) _ _) _ _ _ | with_reducible show wpAny _ _ (execs (PySem.Stmt.If _ _ _ _ :: _) _) _ _ _ | with_reducible show wpAny _ _ (exec (PySem.Stmt.While _ _ _ _) _) _ _ _ | with_reducible show wpAny _ _ (exec (PySem.Stmt.For _ _ _ _ _) _) _ _ _ | with_reducible show wpAny _ _ (pyIter _) _ _ _ | with_reducible show wpAny _ _ (call (Value.type "list") _) _ _ _ | with_reducible show wpAny _ _ (call (Value.builtin "str.join") _) _ _ _ | with_reducible show wpAny _ _ (eval (PySem.Expr.ListComp _ [PySem.Comprehension.mk (PySem.Expr.Tuple _ _ _) _ _ _] _ _) _) _ _ _ | with_reducible show LCg.CompSrc _ _ _ _ _ _ _ _ _ _ _ _ _ _ | with_reducible show wpAny _ _ (execs (PySem.Stmt.If (PySem.Expr.Compare _ [CmpOp.Lt] _ _) [PySem.Stmt.Assign [PySem.Expr.Tuple _ _ _] _ _] _ _ :: _) _) _ _ _))); first | (k_end; wrow_close) | walk1 | (dsimp only; walk1) | (leave1; walk_say "STEP leave1"; try dsimp only) | fail "no step")))
  refine LCg.ListComp_U (F₀ := by k_asm) (by with_unfolding_all rfl) (by decide) (by rfl) (by decide) (by rfl) ?_
  (repeat' (first | (k_unfold; first | walk_at "Seq" | (try dsimp only)) | ((fail_if_success ((first | with_reducible show wpAny _ _ (execs (PySem.Stmt.Assign [PySem.Expr.Name _ _] (PySem.Expr.BinOp _ _ _ _) _ :: _) _) _ _ _ | with_reducible show wpAny _ _ (eval (PySem.Expr.ListComp _ _ _ _) _) _ _ _ | with_reducible show wpAny _ _ (call (Value.ref _) _) _ _ _ | with_reducible show wpAny _ _ (call (Value.type "str") _) _ _ _ | with_reducible show wpAny _ _ (call (Value.builtin "str.split") _) _ _ _ | with_reducible show wpAny _ _ (compareOp CmpOp.NotEq _ _) _ _ _ | with_reducible show wpAny _ _ (binaryOp Operator.Add (Value.ref _) (Value.ref _)) _ _ _ | with_reducible show wpAny _ _ (subscriptTail _ (PySem.Expr.UnaryOp _ _ _) (Value.ref _) _) _ _ _ | with_reducible show wpAny _ _ (subscriptTail _ (PySem.Expr.Slice _ _ _ _) _ _) _ _ _ | with_reducible show wpAny _ _ (execs (PySem.Stmt.If _ _ _ _ :: _) _) _ _ _ | with_reducible show wpAny _ _ (exec (PySem.Stmt.While _ _ _ _) _) _ _ _ | with_reducible show wpAny _ _ (exec (PySem.Stmt.For _ _ _ _ _) _) _ _ _ | with_reducible show wpAny _ _ (pyIter _) _ _ _ | with_reducible show wpAny _ _ (call (Value.type "list") _) _ _ _ | with_reducible show wpAny _ _ (call (Value.builtin "str.join") _) _ _ _ | with_reducible show wpAny _ _ (eval (PySem.Expr.ListComp _ [PySem.Comprehension.mk (PySem.Expr.Tuple _ _ _) _ _ _] _ _) _) _ _ _ | with_reducible show LCg.CompSrc _ _ _ _ _ _ _ _ _ _ _ _ _ _ | with_reducible show wpAny _ _ (execs (PySem.Stmt.If (PySem.Expr.Compare _ [CmpOp.Lt] _ _) [PySem.Stmt.Assign [PySem.Expr.Tuple _ _ _] _ _] _ _ :: _) _) _ _ _))); first | (k_end; wrow_close) | walk1 | (dsimp only; walk1) | (leave1; walk_say "STEP leave1"; try dsimp only) | fail "no step")))
  (try dsimp only)
  refine LCg.CompSrc.ledger (its := a.bv.toArray) (by rfl) (by k_asm) hN hL.hbk (by rw [sizeLine_eq, List.size_toArray]; omega) ?_
  intro g'
  refine comp_same (fun i ys => StrsAre ys (((accF a.rows).take i).map (textOf a.ag a.dl))) .nil ?turn ?fin
  case turn =>
    rintro i v I oI C oC D m₂ ys h3 tk3 E' hi hv hl3 hJ hC hx F3 N3 off ne
    obtain ⟨ac, hac, hrb⟩ := hL.hb.get (show a.bv[i]? = some v by simpa using hv)
    have hf := acc_facts G (List.mem_of_getElem? hac)
    have hrb3 := hrb.mono fun q hq => List.mem_cons_of_mem (I, oI) (List.mem_cons_of_mem (C, oC) (List.mem_cons_of_mem (D, LCg.lst ys) hq))
    obtain ⟨_, d1, l11, l12, u11, u12, u13, u14, w1, w2, k11, k12, dv1, e9, m11, m12, m13, m14, _⟩ := id hrb3
    cases e9
    (repeat' (first | (k_unfold; first | walk_at "Seq" | (try dsimp only)) | ((fail_if_success ((first | with_reducible show wpAny _ _ (execs (PySem.Stmt.Assign [PySem.Expr.Name _ _] (PySem.Expr.BinOp _ _ _ _) _ :: _) _) _ _ _ | with_reducible show wpAny _ _ (eval (PySem.Expr.ListComp _ _ _ _) _) _ _ _ | with_reducible show wpAny _ _ (call (Value.ref _) _) _ _ _ | with_reducible show wpAny _ _ (call (Value.type "str") _) _ _ _ | with_reducible show wpAny _ _ (call (Value.builtin "str.split") _) _ _ _ | with_reducible show wpAny _ _ (compareOp CmpOp.NotEq _ _) _ _ _ | with_reducible show wpAny _ _ (binaryOp Operator.Add (Value.ref _) (Value.ref _)) _ _ _ | with_reducible show wpAny _ _ (subscriptTail _ (PySem.Expr.UnaryOp _ _ _) (Value.ref _) _) _ _ _ | with_reducible show wpAny _ _ (subscriptTail _ (PySem.Expr.Slice _ _ _ _) _ _) _ _ _ | with_reducible show wpAny _ _ (execs (PySem.Stmt.If _ _ _ _ :: _) _) _ _ _ | with_reducible show wpAny _ _ (exec (PySem.Stmt.While _ _ _ _) _) _ _ _ | with_reducible show wpAny _ _ (exec (PySem.Stmt.For _ _ _ _ _) _) _ _ _ | with_reducible show wpAny _ _ (pyIter _) _ _ _ | with_reducible show wpAny _ _ (call (Value.type "list") _) _ _ _ | with_reducible show wpAny _ _ (call (Value.builtin "str.join") _) _ _ _ | with_reducible show wpAny _ _ (eval (PySem.Expr.ListComp _ [PySem.Comprehension.mk (PySem.Expr.Tuple _ _ _) _ _ _] _ _) _) _ _ _ | with_reducible show LCg.CompSrc _ _ _ _ _ _ _ _ _ _ _ _ _ _ | with_reducible show wpAny _ _ (execs (PySem.Stmt.If (PySem.Expr.Compare _ [CmpOp.Lt] _ _) [PySem.Stmt.Assign [PySem.Expr.Tuple _ _ _] _ _] _ _ :: _) _) _ _ _))); first | (k_end; wrow_close) | walk1 | (dsimp only; walk1) | (leave1; walk_say "STEP leave1"; try dsimp only) | fail "no step")))
    (k_dflt (refine' kso_call ?k1 ?k2 ?k3 ?k4 ?k5 ?_; (case k1 => k_units); (case k2 => k_in); (case k3 => k_inst); (case k4 => k_is); (case k5 => k_is); k_whole))
    refine' Claim.use ?k1 ?k2 ?k3 (show News _ _ _ ((I, oI) :: (C, oC) :: (D, LCg.lst ys) :: nw) by k_asm) ?k5 ?kK (str_c hrb3 (by have := G.ag3; omega) (by omega) (fun x hx => Nat.le_trans (G.agl x hx) (by decide)) (fun x hx => Nat.le_trans (hf.2.2 x hx).1 (by decide)) G.dl100) ?kd ?ku ?_
    case k1 => k_asm
    case k2 => k_asm
    case k3 => k_asm
    case k5 => k_asm
    case kK => rfl
    case kd => exact Nat.le_of_ble_eq_true rfl
    case ku => exact Nat.le_of_ble_eq_true rfl
    intro t5 h5 tk5 F5 N5
    refine strback ?_
    (try dsimp only)
    refine LCg.CompEnd.intro F5 N5 nw (fun p hp => hp) off (.inr ⟨_, hL.hbk, rfl, _, rfl⟩) ⟨rfl, ?_⟩
    rw [List.take_add_one, hac, List.map_append]
    exact strs_snoc' (strF_text (ag_ne G) hf.1) hJ
  case fin =>
    intro ys hyl hJ D h5 tk5 F5 N5 o5
    rw [List.take_of_length_le (by rw [accF_len, List.size_toArray]; omega)] at hJ
    dsimp only at F5 ⊢
    k_sweep
    (repeat' (first | (k_unfold; first | walk_at "Seq" | (try dsimp only)) | ((fail_if_success ((first | with_reducible show wpAny _ _ (execs (PySem.Stmt.Assign [PySem.Expr.Name _ _] (PySem.Expr.BinOp _ _ _ _) _ :: _) _) _ _ _ | with_reducible show wpAny _ _ (eval (PySem.Expr.ListComp _ _ _ _) _) _ _ _ | with_reducible show wpAny _ _ (call (Value.ref _) _) _ _ _ | with_reducible show wpAny _ _ (call (Value.type "str") _) _ _ _ | with_reducible show wpAny _ _ (call (Value.builtin "str.split") _) _ _ _ | with_reducible show wpAny _ _ (compareOp CmpOp.NotEq _ _) _ _ _ | with_reducible show wpAny _ _ (binaryOp Operator.Add (Value.ref _) (Value.ref _)) _ _ _ | with_reducible show wpAny _ _ (subscriptTail _ (PySem.Expr.UnaryOp _ _ _) (Value.ref _) _) _ _ _ | with_reducible show wpAny _ _ (subscriptTail _ (PySem.Expr.Slice _ _ _ _) _ _) _ _ _ | with_reducible show wpAny _ _ (execs (PySem.Stmt.If _ _ _ _ :: _) _) _ _ _ | with_reducible show wpAny _ _ (exec (PySem.Stmt.While _ _ _ _) _) _ _ _ | with_reducible show wpAny _ _ (exec (PySem.Stmt.For _ _ _ _ _) _) _ _ _ | with_reducible show wpAny _ _ (pyIter _) _ _ _ | with_reducible show wpAny _ _ (call (Value.type "list") _) _ _ _ | with_reducible show wpAny _ _ (call (Value.builtin "str.join") _) _ _ _ | with_reducible show wpAny _ _ (eval (PySem.Expr.ListComp _ [PySem.Comprehension.mk (PySem.Expr.Tuple _ _ _) _ _ _] _ _) _) _ _ _ | with_reducible show LCg.CompSrc _ _ _ _ _ _ _ _ _ _ _ _ _ _ | with_reducible show wpAny _ _ (execs (PySem.Stmt.If (PySem.Expr.Compare _ [CmpOp.Lt] _ _) [PySem.Stmt.Assign [PySem.Expr.Tuple _ _ _] _ _] _ _ :: _) _) _ _ _))); first | (k_end; wrow_close) | walk1 | (dsimp only; walk1) | (leave1; walk_say "STEP leave1"; try dsimp only) | fail "no step")))
    have hok : (((accF a.rows).map (textOf a.ag a.dl)).all PyData.strOk) = true := List.all_eq_true.mpr fun x hx => by
      obtain ⟨r, hr, rfl⟩ := List.mem_map.mp hx
      exact text_ok G.agc G.dl100 fun x hx => ((acc_facts G hr).2.2 x hx).2
    refine ne_strs (isl N5 List.mem_cons_self) hJ (isl N5 (List.mem_cons_of_mem _ hL.htx)) hL.ht hok hok (Nat.le_of_ble_eq_true rfl) ?_
    simp only [decide_true, Bool.not_true]
    (repeat' (first | (k_unfold; first | walk_at "Seq" | (try dsimp only)) | ((fail_if_success ((first | with_reducible show wpAny _ _ (execs (PySem.Stmt.Assign [PySem.Expr.Name _ _] (PySem.Expr.BinOp _ _ _ _) _ :: _) _) _ _ _ | with_reducible show wpAny _ _ (eval (PySem.Expr.ListComp _ _ _ _) _) _ _ _ | with_reducible show wpAny _ _ (call (Value.ref _) _) _ _ _ | with_reducible show wpAny _ _ (call (Value.type "str") _) _ _ _ | with_reducible show wpAny _ _ (call (Value.builtin "str.split") _) _ _ _ | with_reducible show wpAny _ _ (compareOp CmpOp.NotEq _ _) _ _ _ | with_reducible show wpAny _ _ (binaryOp Operator.Add (Value.ref _) (Value.ref _)) _ _ _ | with_reducible show wpAny _ _ (subscriptTail _ (PySem.Expr.UnaryOp _ _ _) (Value.ref _) _) _ _ _ | with_reducible show wpAny _ _ (subscriptTail _ (PySem.Expr.Slice _ _ _ _) _ _) _ _ _ | with_reducible show wpAny _ _ (execs (PySem.Stmt.If _ _ _ _ :: _) _) _ _ _ | with_reducible show wpAny _ _ (exec (PySem.Stmt.While _ _ _ _) _) _ _ _ | with_reducible show wpAny _ _ (exec (PySem.Stmt.For _ _ _ _ _) _) _ _ _ | with_reducible show wpAny _ _ (pyIter _) _ _ _ | with_reducible show wpAny _ _ (call (Value.type "list") _) _ _ _ | with_reducible show wpAny _ _ (call (Value.builtin "str.join") _) _ _ _ | with_reducible show wpAny _ _ (eval (PySem.Expr.ListComp _ [PySem.Comprehension.mk (PySem.Expr.Tuple _ _ _) _ _ _] _ _) _) _ _ _ | with_reducible show LCg.CompSrc _ _ _ _ _ _ _ _ _ _ _ _ _ _ | with_reducible show wpAny _ _ (execs (PySem.Stmt.If (PySem.Expr.Compare _ [CmpOp.Lt] _ _) [PySem.Stmt.Assign [PySem.Expr.Tuple _ _ _] _ _] _ _ :: _) _) _ _ _))); first | (k_end; wrow_close) | walk1 | (dsimp only; walk1) | (leave1; walk_say "STEP leave1"; try dsimp only) | fail "no step")))
    refine led_up N5 (fun q hq => List.mem_cons_of_mem _ hq) ?_
    clear N5
    intro n1 _ hs1 N1
    have hL1 := hL.mono hs1
    have mT1 := hL1.mT
    have mR1 := hL1.mR
    have mA1 := hL1.mA
    obtain ⟨_, rvv, krv, e9, hrm, hrA⟩ := id hL1.hR
    cases e9
    have hrl2 := hrA.length
    refine execs_cons' ?_
    k_sweep
    (repeat' (first | (k_unfold; first | walk_at "Seq" | (try dsimp only)) | ((fail_if_success ((first | with_reducible show wpAny _ _ (execs (PySem.Stmt.Assign [PySem.Expr.Name _ _] (PySem.Expr.BinOp _ _ _ _) _ :: _) _) _ _ _ | with_reducible show wpAny _ _ (eval (PySem.Expr.ListComp _ _ _ _) _) _ _ _ | with_reducible show wpAny _ _ (call (Value.ref _) _) _ _ _ | with_reducible show wpAny _ _ (call (Value.type "str") _) _ _ _ | with_reducible show wpAny _ _ (call (Value.builtin "str.split") _) _ _ _ | with_reducible show wpAny _ _ (compareOp CmpOp.NotEq _ _) _ _ _ | with_reducible show wpAny _ _ (binaryOp Operator.Add (Value.ref _) (Value.ref _)) _ _ _ | with_reducible show wpAny _ _ (subscriptTail _ (PySem.Expr.UnaryOp _ _ _) (Value.ref _) _) _ _ _ | with_reducible show wpAny _ _ (subscriptTail _ (PySem.Expr.Slice _ _ _ _) _ _) _ _ _ | with_reducible show wpAny _ _ (execs (PySem.Stmt.If _ _ _ _ :: _) _) _ _ _ | with_reducible show wpAny _ _ (exec (PySem.Stmt.While _ _ _ _) _) _ _ _ | with_reducible show wpAny _ _ (exec (PySem.Stmt.For _ _ _ _ _) _) _ _ _ | with_reducible show wpAny _ _ (pyIter _) _ _ _ | with_reducible show wpAny _ _ (call (Value.type "list") _) _ _ _ | with_reducible show wpAny _ _ (call (Value.builtin "str.join") _) _ _ _ | with_reducible show wpAny _ _ (eval (PySem.Expr.ListComp _ [PySem.Comprehension.mk (PySem.Expr.Tuple _ _ _) _ _ _] _ _) _) _ _ _ | with_reducible show LCg.CompSrc _ _ _ _ _ _ _ _ _ _ _ _ _ _ | with_reducible show wpAny _ _ (execs (PySem.Stmt.If (PySem.Expr.Compare _ [CmpOp.Lt] _ _) [PySem.Stmt.Assign [PySem.Expr.Tuple _ _ _] _ _] _ _ :: _) _) _ _ _))); first | (k_end; wrow_close) | walk1 | (dsimp only; walk1) | (leave1; walk_say "STEP leave1"; try dsimp only) | fail "no step")))
    refine LCg.ListComp_U (F₀ := by k_asm) (by with_unfolding_all rfl) (by decide) (by rfl) (by decide) (by rfl) ?_
    (repeat' (first | (k_unfold; first | walk_at "Seq" | (try dsimp only)) | ((fail_if_success ((first | with_reducible show wpAny _ _ (execs (PySem.Stmt.Assign [PySem.Expr.Name _ _] (PySem.Expr.BinOp _ _ _ _) _ :: _) _) _ _ _ | with_reducible show wpAny _ _ (eval (PySem.Expr.ListComp _ _ _ _) _) _ _ _ | with_reducible show wpAny _ _ (call (Value.ref _) _) _ _ _ | with_reducible show wpAny _ _ (call (Value.type "str") _) _ _ _ | with_reducible show wpAny _ _ (call (Value.builtin "str.split") _) _ _ _ | with_reducible show wpAny _ _ (compareOp CmpOp.NotEq _ _) _ _ _ | with_reducible show wpAny _ _ (binaryOp Operator.Add (Value.ref _) (Value.ref _)) _ _ _ | with_reducible show wpAny _ _ (subscriptTail _ (PySem.Expr.UnaryOp _ _ _) (Value.ref _) _) _ _ _ | with_reducible show wpAny _ _ (subscriptTail _ (PySem.Expr.Slice _ _ _ _) _ _) _ _ _ | with_reducible show wpAny _ _ (execs (PySem.Stmt.If _ _ _ _ :: _) _) _ _ _ | with_reducible show wpAny _ _ (exec (PySem.Stmt.While _ _ _ _) _) _ _ _ | with_reducible show wpAny _ _ (exec (PySem.Stmt.For _ _ _ _ _) _) _ _ _ | with_reducible show wpAny _ _ (pyIter _) _ _ _ | with_reducible show wpAny _ _ (call (Value.type "list") _) _ _ _ | with_reducible show wpAny _ _ (call (Value.builtin "str.join") _) _ _ _ | with_reducible show wpAny _ _ (eval (PySem.Expr.ListComp _ [PySem.Comprehension.mk (PySem.Expr.Tuple _ _ _) _ _ _] _ _) _) _ _ _ | with_reducible show LCg.CompSrc _ _ _ _ _ _ _ _ _ _ _ _ _ _ | with_reducible show wpAny _ _ (execs (PySem.Stmt.If (PySem.Expr.Compare _ [CmpOp.Lt] _ _) [PySem.Stmt.Assign [PySem.Expr.Tuple _ _ _] _ _] _ _ :: _) _) _ _ _))); first | (k_end; wrow_close) | walk1 | (dsimp only; walk1) | (leave1; walk_say "STEP leave1"; try dsimp only) | fail "no step")))
    refine slice_from (s := ⟨_, _, _, _, _⟩) (b := 1) (by k_asm) N1 hL1.hrec (by rw [sizeLine_eq]; omega) ?_
    intro D2 h2 F2 N2 _
    (try dsimp only at F2)
    (try dsimp only)
    k_sweep
    (repeat' (first | (k_unfold; first | walk_at "Seq" | (try dsimp only)) | ((fail_if_success ((first | with_reducible show wpAny _ _ (execs (PySem.Stmt.Assign [PySem.Expr.Name _ _] (PySem.Expr.BinOp _ _ _ _) _ :: _) _) _ _ _ | with_reducible show wpAny _ _ (eval (PySem.Expr.ListComp _ _ _ _) _) _ _ _ | with_reducible show wpAny _ _ (call (Value.ref _) _) _ _ _ | with_reducible show wpAny _ _ (call (Value.type "str") _) _ _ _ | with_reducible show wpAny _ _ (call (Value.builtin "str.split") _) _ _ _ | with_reducible show wpAny _ _ (compareOp CmpOp.NotEq _ _) _ _ _ | with_reducible show wpAny _ _ (binaryOp Operator.Add (Value.ref _) (Value.ref _)) _ _ _ | with_reducible show wpAny _ _ (subscriptTail _ (PySem.Expr.UnaryOp _ _ _) (Value.ref _) _) _ _ _ | with_reducible show wpAny _ _ (subscriptTail _ (PySem.Expr.Slice _ _ _ _) _ _) _ _ _ | with_reducible show wpAny _ _ (execs (PySem.Stmt.If _ _ _ _ :: _) _) _ _ _ | with_reducible show wpAny _ _ (exec (PySem.Stmt.While _ _ _ _) _) _ _ _ | with_reducible show wpAny _ _ (exec (PySem.Stmt.For _ _ _ _ _) _) _ _ _ | with_reducible show wpAny _ _ (pyIter _) _ _ _ | with_reducible show wpAny _ _ (call (Value.type "list") _) _ _ _ | with_reducible show wpAny _ _ (call (Value.builtin "str.join") _) _ _ _ | with_reducible show wpAny _ _ (eval (PySem.Expr.ListComp _ [PySem.Comprehension.mk (PySem.Expr.Tuple _ _ _) _ _ _] _ _) _) _ _ _ | with_reducible show LCg.CompSrc _ _ _ _ _ _ _ _ _ _ _ _ _ _ | with_reducible show wpAny _ _ (execs (PySem.Stmt.If (PySem.Expr.Compare _ [CmpOp.Lt] _ _) [PySem.Stmt.Assign [PySem.Expr.Tuple _ _ _] _ _] _ _ :: _) _) _ _ _))); first | (k_end; wrow_close) | walk1 | (dsimp only; walk1) | (leave1; walk_say "STEP leave1"; try dsimp only) | fail "no step")))
    obtain ⟨rv2, erv2⟩ : ∃ z, z = a.rv.drop 1 := ⟨_, rfl⟩
    obtain ⟨rs2, ers2⟩ : ∃ z, z = a.rows.drop 1 := ⟨_, rfl⟩
    have hA2 : All2 (fun v r => RecIn w n1 v a.ag none r) rv2 rs2 := by
      have h9 := hL1.hA.drop 1
      rw [recsF_drop, ← erv2, ← ers2] at h9
      clear erv2 ers2
      generalize e : rs2.map (fun r => ((none : Option Int), r)) = ps at h9
      induction h9 generalizing rs2 with
      | nil => cases rs2 with
        | nil => exact .nil
        | cons _ _ => simp at e
      | cons h _ ih => cases rs2 with
        | nil => simp at e
        | cons r rs =>
          simp only [List.map_cons, List.cons.injEq] at e
          obtain ⟨e1, e2⟩ := e
          subst e1
          exact .cons h (ih _ e2)
    have hrs2 : ∀ r ∈ rs2, r ∈ a.rows := fun r hr => List.mem_of_mem_drop (ers2 ▸ hr)
    have hrv2l : rv2.length = rs2.length := hA2.length
    have hrs2l : rs2.length ≤ 3 := by rw [ers2, List.length_drop]; omega
    rw [← erv2] at N2
    refine LCg.CompSrc.ledger (its := rv2.toArray) (by rfl) (by k_asm) N2 List.mem_cons_self (by rw [sizeLine_eq, List.size_toArray]; omega) ?_
    intro g2
    have hup2 : ∀ q ∈ n1, q ∈ (D2, W.listOf rv2.toArray 0) :: n1 := fun q hq => List.mem_cons_of_mem _ hq
    have hsrc : (D2, W.listOf rv2.toArray 0) ∈ (D2, W.listOf rv2.toArray 0) :: n1 := List.mem_cons_self
    obtain ⟨n2, en2⟩ : ∃ z, z = (D2, W.listOf rv2.toArray 0) :: n1 := ⟨_, rfl⟩
    rw [← en2] at hup2 hsrc N2 ⊢
    clear en2
    refine comp_same (fun i ys => StrsAre ys ((rs2.take i).map (textOf a.ag none))) .nil ?turn2 ?fin2
    case turn2 =>
      rintro i v I oI C oC D4 m₂ ys2 h3 tk3 E' hi hv hl3 hJ3 hC hx F3 N3 off ne
      obtain ⟨ac, hac, hrb⟩ := hA2.get (show rv2[i]? = some v by simpa using hv)
      have hf := row_facts G (hrs2 _ (List.mem_of_getElem? hac))
      have hrb3 := hrb.mono fun q hq => List.mem_cons_of_mem (I, oI) (List.mem_cons_of_mem (C, oC) (List.mem_cons_of_mem (D4, LCg.lst ys2) (hup2 q hq)))
      obtain ⟨_, d1, l11, l12, u11, u12, u13, u14, w1, w2, k11, k12, dv1, e9, m11, m12, m13, m14, _⟩ := id hrb3
      cases e9
      (repeat' (first | (k_unfold; first | walk_at "Seq" | (try dsimp only)) | ((fail_if_success ((first | with_reducible show wpAny _ _ (execs (PySem.Stmt.Assign [PySem.Expr.Name _ _] (PySem.Expr.BinOp _ _ _ _) _ :: _) _) _ _ _ | with_reducible show wpAny _ _ (eval (PySem.Expr.ListComp _ _ _ _) _) _ _ _ | with_reducible show wpAny _ _ (call (Value.ref _) _) _ _ _ | with_reducible show wpAny _ _ (call (Value.type "str") _) _ _ _ | with_reducible show wpAny _ _ (call (Value.builtin "str.split") _) _ _ _ | with_reducible show wpAny _ _ (compareOp CmpOp.NotEq _ _) _ _ _ | with_reducible show wpAny _ _ (binaryOp Operator.Add (Value.ref _) (Value.ref _)) _ _ _ | with_reducible show wpAny _ _ (subscriptTail _ (PySem.Expr.UnaryOp _ _ _) (Value.ref _) _) _ _ _ | with_reducible show wpAny _ _ (subscriptTail _ (PySem.Expr.Slice _ _ _ _) _ _) _ _ _ | with_reducible show wpAny _ _ (execs (PySem.Stmt.If _ _ _ _ :: _) _) _ _ _ | with_reducible show wpAny _ _ (exec (PySem.Stmt.While _ _ _ _) _) _ _ _ | with_reducible show wpAny _ _ (exec (PySem.Stmt.For _ _ _ _ _) _) _ _ _ | with_reducible show wpAny _ _ (pyIter _) _ _ _ | with_reducible show wpAny _ _ (call (Value.type "list") _) _ _ _ | with_reducible show wpAny _ _ (call (Value.builtin "str.join") _) _ _ _ | with_reducible show wpAny _ _ (eval (PySem.Expr.ListComp _ [PySem.Comprehension.mk (PySem.Expr.Tuple _ _ _) _ _ _] _ _) _) _ _ _ | with_reducible show LCg.CompSrc _ _ _ _ _ _ _ _ _ _ _ _ _ _ | with_reducible show wpAny _ _ (execs (PySem.Stmt.If (PySem.Expr.Compare _ [CmpOp.Lt] _ _) [PySem.Stmt.Assign [PySem.Expr.Tuple _ _ _] _ _] _ _ :: _) _) _ _ _))); first | (k_end; wrow_close) | walk1 | (dsimp only; walk1) | (leave1; walk_say "STEP leave1"; try dsimp only) | fail "no step")))
      (k_dflt (refine' kso_call ?k1 ?k2 ?k3 ?k4 ?k5 ?_; (case k1 => k_units); (case k2 => k_in); (case k3 => k_inst); (case k4 => k_is); (case k5 => k_is); k_whole))
      refine' Claim.use ?k1 ?k2 ?k3 (show News _ _ _ ((I, oI) :: (C, oC) :: (D4, LCg.lst ys2) :: n2) by k_asm) ?k5 ?kK (str_c hrb3 (by have := G.ag3; omega) (by omega) (fun x hx => Nat.le_trans (G.agl x hx) (by decide)) (fun x hx => Nat.le_trans (hf.2.2 x hx).1 (by decide)) (fun _ h => nomatch h)) ?kd ?ku ?_
      case k1 => k_asm
      case k2 => k_asm
      case k3 => k_asm
      case k5 => k_asm
      case kK => rfl
      case kd => exact Nat.le_of_ble_eq_true rfl
      case ku => exact Nat.le_of_ble_eq_true rfl
      intro t5 h5 tk5 F5 N5
      refine strback ?_
      (try dsimp only)
      refine LCg.CompEnd.intro F5 N5 n2 (fun p hp => hp) off (.inr ⟨_, hsrc, rfl, _, rfl⟩) ⟨rfl, ?_⟩
      rw [List.take_add_one, hac, List.map_append]
      exact strs_snoc' (strF_text (ag_ne G) hf.1) hJ3
    case fin2 =>
      intro ys2 hyl2 hJ2 D4 h6 tk6 F6 N6 o6
      rw [List.take_of_length_le (by rw [List.size_toArray]; omega)] at hJ2
      (try dsimp only at F6)
      (try dsimp only)
      k_sweep
      (repeat' (first | (k_unfold; first | walk_at "Seq" | (try dsimp only)) | ((fail_if_success ((first | with_reducible show wpAny _ _ (execs (PySem.Stmt.Assign [PySem.Expr.Name _ _] (PySem.Expr.BinOp _ _ _ _) _ :: _) _) _ _ _ | with_reducible show wpAny _ _ (eval (PySem.Expr.ListComp _ _ _ _) _) _ _ _ | with_reducible show wpAny _ _ (call (Value.ref _) _) _ _ _ | with_reducible show wpAny _ _ (call (Value.type "str") _) _ _ _ | with_reducible show wpAny _ _ (call (Value.builtin "str.split") _) _ _ _ | with_reducible show wpAny _ _ (compareOp CmpOp.NotEq _ _) _ _ _ | with_reducible show wpAny _ _ (binaryOp Operator.Add (Value.ref _) (Value.ref _)) _ _ _ | with_reducible show wpAny _ _ (subscriptTail _ (PySem.Expr.UnaryOp _ _ _) (Value.ref _) _) _ _ _ | with_reducible show wpAny _ _ (subscriptTail _ (PySem.Expr.Slice _ _ _ _) _ _) _ _ _ | with_reducible show wpAny _ _ (execs (PySem.Stmt.If _ _ _ _ :: _) _) _ _ _ | with_reducible show wpAny _ _ (exec (PySem.Stmt.While _ _ _ _) _) _ _ _ | with_reducible show wpAny _ _ (exec (PySem.Stmt.For _ _ _ _ _) _) _ _ _ | with_reducible show wpAny _ _ (pyIter _) _ _ _ | with_reducible show wpAny _ _ (call (Value.type "list") _) _ _ _ | with_reducible show wpAny _ _ (call (Value.builtin "str.join") _) _ _ _ | with_reducible show wpAny _ _ (eval (PySem.Expr.ListComp _ [PySem.Comprehension.mk (PySem.Expr.Tuple _ _ _) _ _ _] _ _) _) _ _ _ | with_reducible show LCg.CompSrc _ _ _ _ _ _ _ _ _ _ _ _ _ _ | with_reducible show wpAny _ _ (execs (PySem.Stmt.If (PySem.Expr.Compare _ [CmpOp.Lt] _ _) [PySem.Stmt.Assign [PySem.Expr.Tuple _ _ _] _ _] _ _ :: _) _) _ _ _))); first | (k_end; wrow_close) | walk1 | (dsimp only; walk1) | (leave1; walk_say "STEP leave1"; try dsimp only) | fail "no step")))
      refine LCg.ListComp_U (F₀ := by k_asm) (by with_unfolding_all rfl) (by decide) (by rfl) (by decide) (by rfl) ?_
      have mR2 := hup2 _ mR1
      have mA2 := hup2 _ mA1
      (repeat' (first | (k_unfold; first | walk_at "Seq" | (try dsimp only)) | ((fail_if_success ((first | with_reducible show wpAny _ _ (execs (PySem.Stmt.Assign [PySem.Expr.Name _ _] (PySem.Expr.BinOp _ _ _ _) _ :: _) _) _ _ _ | with_reducible show wpAny _ _ (eval (PySem.Expr.ListComp _ _ _ _) _) _ _ _ | with_reducible show wpAny _ _ (call (Value.ref _) _) _ _ _ | with_reducible show wpAny _ _ (call (Value.type "str") _) _ _ _ | with_reducible show wpAny _ _ (call (Value.builtin "str.split") _) _ _ _ | with_reducible show wpAny _ _ (compareOp CmpOp.NotEq _ _) _ _ _ | with_reducible show wpAny _ _ (binaryOp Operator.Add (Value.ref _) (Value.ref _)) _ _ _ | with_reducible show wpAny _ _ (subscriptTail _ (PySem.Expr.UnaryOp _ _ _) (Value.ref _) _) _ _ _ | with_reducible show wpAny _ _ (subscriptTail _ (PySem.Expr.Slice _ _ _ _) _ _) _ _ _ | with_reducible show wpAny _ _ (execs (PySem.Stmt.If _ _ _ _ :: _) _) _ _ _ | with_reducible show wpAny _ _ (exec (PySem.Stmt.While _ _ _ _) _) _ _ _ | with_reducible show wpAny _ _ (exec (PySem.Stmt.For _ _ _ _ _) _) _ _ _ | with_reducible show wpAny _ _ (pyIter _) _ _ _ | with_reducible show wpAny _ _ (call (Value.type "list") _) _ _ _ | with_reducible show wpAny _ _ (call (Value.builtin "str.join") _) _ _ _ | with_reducible show wpAny _ _ (eval (PySem.Expr.ListComp _ [PySem.Comprehension.mk (PySem.Expr.Tuple _ _ _) _ _ _] _ _) _) _ _ _ | with_reducible show LCg.CompSrc _ _ _ _ _ _ _ _ _ _ _ _ _ _ | with_reducible show wpAny _ _ (execs (PySem.Stmt.If (PySem.Expr.Compare _ [CmpOp.Lt] _ _) [PySem.Stmt.Assign [PySem.Expr.Tuple _ _ _] _ _] _ _ :: _) _) _ _ _))); first | (k_end; wrow_close) | walk1 | (dsimp only; walk1) | (leave1; walk_say "STEP leave1"; try dsimp only) | fail "no step")))
      refine slice_from (s := ⟨_, _, _, _, _⟩) (b := 1) (by k_asm) (show News _ _ _ ((D4, LCg.lst ys2) :: n2) by k_asm) (List.mem_cons_of_mem _ (hup2 _ hrm)) (by rw [sizeLine_eq]; omega) ?_
      intro D7 h7 F7 N7 _
      (try dsimp only at F7)
      (try dsimp only)
      k_sweep
      (repeat' (first | (k_unfold; first | walk_at "Seq" | (try dsimp only)) | ((fail_if_success ((first | with_reducible show wpAny _ _ (execs (PySem.Stmt.Assign [PySem.Expr.Name _ _] (PySem.Expr.BinOp _ _ _ _) _ :: _) _) _ _ _ | with_reducible show wpAny _ _ (eval (PySem.Expr.ListComp _ _ _ _) _) _ _ _ | with_reducible show wpAny _ _ (call (Value.ref _) _) _ _ _ | with_reducible show wpAny _ _ (call (Value.type "str") _) _ _ _ | with_reducible show wpAny _ _ (call (Value.builtin "str.split") _) _ _ _ | with_reducible show wpAny _ _ (compareOp CmpOp.NotEq _ _) _ _ _ | with_reducible show wpAny _ _ (binaryOp Operator.Add (Value.ref _) (Value.ref _)) _ _ _ | with_reducible show wpAny _ _ (subscriptTail _ (PySem.Expr.UnaryOp _ _ _) (Value.ref _) _) _ _ _ | with_reducible show wpAny _ _ (subscriptTail _ (PySem.Expr.Slice _ _ _ _) _ _) _ _ _ | with_reducible show wpAny _ _ (execs (PySem.Stmt.If _ _ _ _ :: _) _) _ _ _ | with_reducible show wpAny _ _ (exec (PySem.Stmt.While _ _ _ _) _) _ _ _ | with_reducible show wpAny _ _ (exec (PySem.Stmt.For _ _ _ _ _) _) _ _ _ | with_reducible show wpAny _ _ (pyIter _) _ _ _ | with_reducible show wpAny _ _ (call (Value.type "list") _) _ _ _ | with_reducible show wpAny _ _ (call (Value.builtin "str.join") _) _ _ _ | with_reducible show wpAny _ _ (eval (PySem.Expr.ListComp _ [PySem.Comprehension.mk (PySem.Expr.Tuple _ _ _) _ _ _] _ _) _) _ _ _ | with_reducible show LCg.CompSrc _ _ _ _ _ _ _ _ _ _ _ _ _ _ | with_reducible show wpAny _ _ (execs (PySem.Stmt.If (PySem.Expr.Compare _ [CmpOp.Lt] _ _) [PySem.Stmt.Assign [PySem.Expr.Tuple _ _ _] _ _] _ _ :: _) _) _ _ _))); first | (k_end; wrow_close) | walk1 | (dsimp only; walk1) | (leave1; walk_say "STEP leave1"; try dsimp only) | fail "no step")))
      obtain ⟨rw2, erw2⟩ : ∃ z, z = rvv.drop 1 := ⟨_, rfl⟩
      have hrA2 : All2 (StrsIn n1) rw2 rs2 := by rw [erw2, ers2]; exact hrA.drop 1
      have hrw2l : rw2.length = rs2.length := hrA2.length
      rw [← erw2] at N7
      refine LCg.CompSrc.ledger (its := rw2.toArray) (by rfl) (by k_asm) N7 List.mem_cons_self (by rw [sizeLine_eq, List.size_toArray]; omega) ?_
      intro g3
      have hup3 : ∀ q ∈ n2, q ∈ (D7, W.listOf rw2.toArray 0) :: (D4, LCg.lst ys2) :: n2 := fun q hq => List.mem_cons_of_mem _ (List.mem_cons_of_mem _ hq)
      have hsrc3 : (D7, W.listOf rw2.toArray 0) ∈ (D7, W.listOf rw2.toArray 0) :: (D4, LCg.lst ys2) :: n2 := List.mem_cons_self
      have hD43 : (D4, W.listOf ys2.toArray ys2.length) ∈ (D7, W.listOf rw2.toArray 0) :: (D4, LCg.lst ys2) :: n2 := List.mem_cons_of_mem _ List.mem_cons_self
      obtain ⟨n3, en3⟩ : ∃ z, z = (D7, W.listOf rw2.toArray 0) :: (D4, LCg.lst ys2) :: n2 := ⟨_, rfl⟩
      rw [← en3] at hup3 hsrc3 hD43 N7 ⊢
      clear en3
      have mA3 := hup3 _ mA2
      refine comp_same (fun i ys => StrsAre ys ((rs2.take i).map (textOf a.ag none))) .nil ?turn3 ?fin3
      case turn3 =>
        rintro i v I oI C oC D8 m₂ ys3 h8 tk8 E' hi hv hl3 hJ3 hC hx F8 N8 off ne
        obtain ⟨ac, hac, hrb⟩ := hrA2.get (show rw2[i]? = some v by simpa using hv)
        have hf := row_facts G (hrs2 _ (List.mem_of_getElem? hac))
        obtain ⟨rx, rfl⟩ := hrb.ref
        have hup8 : ∀ q ∈ n1, q ∈ (I, oI) :: (C, oC) :: (D8, LCg.lst ys3) :: n3 := fun q hq => List.mem_cons_of_mem _ (List.mem_cons_of_mem _ (List.mem_cons_of_mem _ (hup3 _ (hup2 _ hq))))
        (repeat' (first | (k_unfold; first | walk_at "Seq" | (try dsimp only)) | ((fail_if_success ((first | with_reducible show wpAny _ _ (execs (PySem.Stmt.Assign [PySem.Expr.Name _ _] (PySem.Expr.BinOp _ _ _ _) _ :: _) _) _ _ _ | with_reducible show wpAny _ _ (eval (PySem.Expr.ListComp _ _ _ _) _) _ _ _ | with_reducible show wpAny _ _ (call (Value.ref _) _) _ _ _ | with_reducible show wpAny _ _ (call (Value.type "str") _) _ _ _ | with_reducible show wpAny _ _ (call (Value.builtin "str.split") _) _ _ _ | with_reducible show wpAny _ _ (compareOp CmpOp.NotEq _ _) _ _ _ | with_reducible show wpAny _ _ (binaryOp Operator.Add (Value.ref _) (Value.ref _)) _ _ _ | with_reducible show wpAny _ _ (subscriptTail _ (PySem.Expr.UnaryOp _ _ _) (Value.ref _) _) _ _ _ | with_reducible show wpAny _ _ (subscriptTail _ (PySem.Expr.Slice _ _ _ _) _ _) _ _ _ | with_reducible show wpAny _ _ (execs (PySem.Stmt.If _ _ _ _ :: _) _) _ _ _ | with_reducible show wpAny _ _ (exec (PySem.Stmt.While _ _ _ _) _) _ _ _ | with_reducible show wpAny _ _ (exec (PySem.Stmt.For _ _ _ _ _) _) _ _ _ | with_reducible show wpAny _ _ (pyIter _) _ _ _ | with_reducible show wpAny _ _ (call (Value.type "list") _) _ _ _ | with_reducible show wpAny _ _ (call (Value.builtin "str.join") _) _ _ _ | with_reducible show wpAny _ _ (eval (PySem.Expr.ListComp _ [PySem.Comprehension.mk (PySem.Expr.Tuple _ _ _) _ _ _] _ _) _) _ _ _ | with_reducible show LCg.CompSrc _ _ _ _ _ _ _ _ _ _ _ _ _ _ | with_reducible show wpAny _ _ (execs (PySem.Stmt.If (PySem.Expr.Compare _ [CmpOp.Lt] _ _) [PySem.Stmt.Assign [PySem.Expr.Tuple _ _ _] _ _] _ _ :: _) _) _ _ _))); first | (k_end; wrow_close) | walk1 | (dsimp only; walk1) | (leave1; walk_say "STEP leave1"; try dsimp only) | fail "no step")))
        refine' Claim.use ?k1 ?k2 ?k3 (show News _ _ _ ((I, oI) :: (C, oC) :: (D8, LCg.lst ys3) :: n3) by k_asm) ?k5 ?kK (text_c (dl := none) (hL1.hag.mono hup8) (hrb.mono hup8) rfl (by have := G.ag3; omega) (by omega) (fun x hx => Nat.le_trans (G.agl x hx) (by decide)) (fun x hx => Nat.le_trans (hf.2.2 x hx).1 (by decide)) (fun _ h => nomatch h)) ?kd ?ku ?_
        case k1 => k_asm
        case k2 => k_asm
        case k3 => k_asm
        case k5 => k_asm
        case kK => rfl
        case kd => exact Nat.le_of_ble_eq_true rfl
        case ku => exact Nat.le_of_ble_eq_true rfl
        intro t9 h9 tk9 F9 N9
        (try dsimp only)
        refine LCg.CompEnd.intro F9 N9 n3 (fun p hp => hp) off (.inr ⟨_, hsrc3, rfl, _, rfl⟩) ⟨rfl, ?_⟩
        rw [List.take_add_one, hac, List.map_append]
        exact strs_snoc' rfl hJ3
      case fin3 =>
        intro ys3 hyl3 hJ3 D8 h8 tk8 F8 N8 o8
        rw [List.take_of_length_le (by rw [List.size_toArray]; omega)] at hJ3
        (try dsimp only at F8)
        (try dsimp only)
        k_sweep
        (repeat' (first | (k_unfold; first | walk_at "Seq" | (try dsimp only)) | ((fail_if_success ((first | with_reducible show wpAny _ _ (execs (PySem.Stmt.Assign [PySem.Expr.Name _ _] (PySem.Expr.BinOp _ _ _ _) _ :: _) _) _ _ _ | with_reducible show wpAny _ _ (eval (PySem.Expr.ListComp _ _ _ _) _) _ _ _ | with_reducible show wpAny _ _ (call (Value.ref _) _) _ _ _ | with_reducible show wpAny _ _ (call (Value.type "str") _) _ _ _ | with_reducible show wpAny _ _ (call (Value.builtin "str.split") _) _ _ _ | with_reducible show wpAny _ _ (compareOp CmpOp.NotEq _ _) _ _ _ | with_reducible show wpAny _ _ (binaryOp Operator.Add (Value.ref _) (Value.ref _)) _ _ _ | with_reducible show wpAny _ _ (subscriptTail _ (PySem.Expr.UnaryOp _ _ _) (Value.ref _) _) _ _ _ | with_reducible show wpAny _ _ (subscriptTail _ (PySem.Expr.Slice _ _ _ _) _ _) _ _ _ | with_reducible show wpAny _ _ (execs (PySem.Stmt.If _ _ _ _ :: _) _) _ _ _ | with_reducible show wpAny _ _ (exec (PySem.Stmt.While _ _ _ _) _) _ _ _ | with_reducible show wpAny _ _ (exec (PySem.Stmt.For _ _ _ _ _) _) _ _ _ | with_reducible show wpAny _ _ (pyIter _) _ _ _ | with_reducible show wpAny _ _ (call (Value.type "list") _) _ _ _ | with_reducible show wpAny _ _ (call (Value.builtin "str.join") _) _ _ _ | with_reducible show wpAny _ _ (eval (PySem.Expr.ListComp _ [PySem.Comprehension.mk (PySem.Expr.Tuple _ _ _) _ _ _] _ _) _) _ _ _ | with_reducible show LCg.CompSrc _ _ _ _ _ _ _ _ _ _ _ _ _ _ | with_reducible show wpAny _ _ (execs (PySem.Stmt.If (PySem.Expr.Compare _ [CmpOp.Lt] _ _) [PySem.Stmt.Assign [PySem.Expr.Tuple _ _ _] _ _] _ _ :: _) _) _ _ _))); first | (k_end; wrow_close) | walk1 | (dsimp only; walk1) | (leave1; walk_say "STEP leave1"; try dsimp only) | fail "no step")))
        have hok2 : ((rs2.map (textOf a.ag none)).all PyData.strOk) = true := List.all_eq_true.mpr fun x hx => by
          obtain ⟨r, hr, rfl⟩ := List.mem_map.mp hx
          exact text_ok G.agc (fun _ h => nomatch h) fun x hx => ((row_facts G (hrs2 r hr)).2.2 x hx).2
        refine ne_strs (isl (show News _ _ _ ((D8, LCg.lst ys3) :: n3) by k_asm) (List.mem_cons_of_mem _ hD43)) hJ2 (isl (show News _ _ _ ((D8, LCg.lst ys3) :: n3) by k_asm) (show (D8, W.listOf ys3.toArray ys3.length) ∈ _ from List.mem_cons_self)) hJ3 hok2 hok2 (Nat.le_of_ble_eq_true rfl) ?_
        simp only [decide_true, Bool.not_true]
        (repeat' (first | (k_unfold; first | walk_at "Seq" | (try dsimp only)) | ((fail_if_success ((first | with_reducible show wpAny _ _ (execs (PySem.Stmt.Assign [PySem.Expr.Name _ _] (PySem.Expr.BinOp _ _ _ _) _ :: _) _) _ _ _ | with_reducible show wpAny _ _ (eval (PySem.Expr.ListComp _ _ _ _) _) _ _ _ | with_reducible show wpAny _ _ (call (Value.ref _) _) _ _ _ | with_reducible show wpAny _ _ (call (Value.type "str") _) _ _ _ | with_reducible show wpAny _ _ (call (Value.builtin "str.split") _) _ _ _ | with_reducible show wpAny _ _ (compareOp CmpOp.NotEq _ _) _ _ _ | with_reducible show wpAny _ _ (binaryOp Operator.Add (Value.ref _) (Value.ref _)) _ _ _ | with_reducible show wpAny _ _ (subscriptTail _ (PySem.Expr.UnaryOp _ _ _) (Value.ref _) _) _ _ _ | with_reducible show wpAny _ _ (subscriptTail _ (PySem.Expr.Slice _ _ _ _) _ _) _ _ _ | with_reducible show wpAny _ _ (execs (PySem.Stmt.If _ _ _ _ :: _) _) _ _ _ | with_reducible show wpAny _ _ (exec (PySem.Stmt.While _ _ _ _) _) _ _ _ | with_reducible show wpAny _ _ (exec (PySem.Stmt.For _ _ _ _ _) _) _ _ _ | with_reducible show wpAny _ _ (pyIter _) _ _ _ | with_reducible show wpAny _ _ (call (Value.type "list") _) _ _ _ | with_reducible show wpAny _ _ (call (Value.builtin "str.join") _) _ _ _ | with_reducible show wpAny _ _ (eval (PySem.Expr.ListComp _ [PySem.Comprehension.mk (PySem.Expr.Tuple _ _ _) _ _ _] _ _) _) _ _ _ | with_reducible show LCg.CompSrc _ _ _ _ _ _ _ _ _ _ _ _ _ _ | with_reducible show wpAny _ _ (execs (PySem.Stmt.If (PySem.Expr.Compare _ [CmpOp.Lt] _ _) [PySem.Stmt.Assign [PySem.Expr.Tuple _ _ _] _ _] _ _ :: _) _) _ _ _))); first | (k_end; wrow_close) | walk1 | (dsimp only; walk1) | (leave1; walk_say "STEP leave1"; try dsimp only) | fail "no step")))
        (try dsimp only)
        exact nextG w p loose mean mg mb fa cd h₀ L _ s _ _ a t3 n1 l hh hB (fr_ps (by k_asm) (ps_cons rfl (ps_cons rfl (ps_cons rfl ps_nil)))) (by k_asm) hT (fun q hq => (show News _ _ _ ((D8, LCg.lst ys3) :: n3) by k_asm) q (List.mem_cons_of_mem _ (hup3 _ (hup2 _ hq)))) hL1 hlh hhl
end
end

section
open PySem PySem.W PyProof.Rows
section
noncomputable def Ins (a b : List Nat) : Prop := ∃ p m s, a = p ++ s ∧ b = p ++ m ++ s
theorem preN_symm : ∀ a b : List Nat, preN a b = preN b a
  | [], [] => rfl
  | [], _ :: _ => rfl
  | _ :: _, [] => rfl
  | x :: xs, y :: ys => by
    simp only [preN]
    by_cases h : x = y
    · rw [if_pos h, if_pos h.symm, preN_symm xs ys]
    · rw [if_neg h, if_neg fun e => h e.symm]
theorem preN_pre : ∀ x y : List Nat, preN x (x ++ y) = x.length
  | [], [] => rfl
  | [], _ :: _ => rfl
  | x :: xs, y => by simp [preN, preN_pre xs y]
theorem preN_split : ∀ (p : List Nat) {c d : Nat} (x y : List Nat), c ≠ d → preN (p ++ c :: x) (p ++ d :: y) = p.length
  | [], c, d, x, y, h => by simp [preN, h]
  | a :: p, c, d, x, y, h => by simp [preN, preN_split p x y h]
theorem Ins.tail {x : Nat} {a b : List Nat} (h : Ins (x :: a) (x :: b)) : Ins a b := by
  obtain ⟨p, m, s, e1, e2⟩ := h
  cases p with
  | cons y p =>
    simp only [List.cons_append, List.cons.injEq] at e1 e2
    exact ⟨p, m, s, e1.2, e2.2⟩
  | nil =>
    simp only [List.nil_append] at e1 e2
    cases m with
    | nil =>
      rw [List.nil_append, ← e1] at e2
      simp only [List.cons.injEq, true_and] at e2
      exact ⟨[], [], a, rfl, by simp [e2]⟩
    | cons y m =>
      rw [← e1] at e2
      simp only [List.cons_append, List.cons.injEq] at e2
      exact ⟨[], m ++ [x], a, rfl, by rw [e2.2]; simp⟩
theorem Ins.cut : ∀ {a b : List Nat}, Ins a b → ∃ m, b.drop (preN a b) = m ++ a.drop (preN a b)
  | [], b, _ => ⟨b, by cases b <;> simp [preN]⟩
  | x :: a, [], h => by
    obtain ⟨p, m, s, e1, e2⟩ := h
    have e3 := congrArg List.length e1
    have e4 := congrArg List.length e2
    simp only [List.length_append, List.length_cons, List.length_nil] at e3 e4
    omega
  | x :: a, y :: b, h => by
    by_cases hx : x = y
    · subst hx
      obtain ⟨m, e⟩ := Ins.cut h.tail
      exact ⟨m, by simpa [preN] using e⟩
    · obtain ⟨p, m, s, e1, e2⟩ := h
      cases p with
      | cons z p =>
        simp only [List.cons_append, List.cons.injEq] at e1 e2
        exact absurd (e1.1.trans e2.1.symm) hx
      | nil =>
        refine ⟨m, ?_⟩
        simp only [preN, if_neg hx, List.drop_zero]
        rw [e1, e2]
        simp
theorem levT_ins {m a : List Nat} {mc : Int} : levT (levS a (m ++ a)).1 (levS a (m ++ a)).2 mc = 2 * (m.length : Int) ∧ levT (levS (m ++ a) a).1 (levS (m ++ a) a).2 mc = 2 * (m.length : Int) := by
  have e1 : preN a.reverse (m ++ a).reverse = a.length := by rw [List.reverse_append, preN_pre, List.length_reverse]
  have e2 : preN (m ++ a).reverse a.reverse = a.length := by rw [preN_symm, e1]
  unfold levS
  dsimp only
  rw [e1, e2]
  constructor
  · rw [levT_empty (by simp)]
    simp
  · rw [levT_empty (by simp)]
    simp
theorem ins_lev {a b : List Nat} (h : Ins a b) (mc : Int) : levF a b mc = 2 * ((b.length : Int) - a.length) ∧ levF b a mc = 2 * ((b.length : Int) - a.length) := by
  by_cases hab : a = b
  · subst hab
    unfold levF
    rw [if_pos rfl]
    omega
  · obtain ⟨m, e⟩ := h.cut
    have l1 := preN_le_left a b
    have l2 := preN_le_right a b
    have hm : (m.length : Int) = (b.length : Int) - a.length := by
      have := congrArg List.length e
      rw [List.length_append, List.length_drop, List.length_drop] at this
      omega
    unfold levF
    rw [if_neg hab, if_neg fun e => hab e.symm]
    unfold levP
    dsimp only
    rw [preN_symm b a, e, levT_ins.1, levT_ins.2, hm]
    exact ⟨rfl, rfl⟩
theorem ins_straight {a b : List Nat} (h : Ins a b) (mc : Int) : levF a b mc = 2 * (((a.length : Int) - b.length).natAbs : Int) ∧ levF b a (-mc) = 2 * (((a.length : Int) - b.length).natAbs : Int) := by
  have hl : (a.length : Int) ≤ b.length := by
    obtain ⟨p, m, s, rfl, rfl⟩ := h
    simp only [List.length_append]
    omega
  rw [(ins_lev h mc).1, (ins_lev h (-mc)).2]
  constructor <;> omega
theorem sub_facts : ∀ c : Nat, c < 128 → (Txt.swapcase ⟨#[c]⟩ = ⟨#[swapC c]⟩) ∧ (∀ d ∈ [36, swapC c], d ≠ c → subN d c = priceC c d ∧ subN c d = priceC c d ∧ 1 ≤ priceC c d) := by decide +kernel
theorem lev_one {c d : Nat} {mc pr : Int} (h : subN d c = pr) (h1 : 1 ≤ pr) (h2 : pr ≤ 2) : levT [c] [d] mc = dueC pr mc := by
  have e : levT [c] [d] mc = if mc < 0 then mc + 1 else if pr > mc then mc + 1 else pr := by
    unfold levT
    rw [if_neg (by simp), if_neg (by simp)]
    unfold levA levB
    simp only [List.length_cons, List.length_nil, Nat.lt_irrefl, if_false]
    split
    · rw [if_pos (by omega)]
    · rw [if_neg (by omega)]
      have hri : rangeInts 2 2 1 = [2] := by decide
      have hin : inn d [c] [2] (((0 : Nat) : Int) * 2) (((0 : Nat) : Int) * 2) 9223372036854775807 = ([pr], pr, pr) := by
        have e1 : min (min (((0 : Nat) : Int) * 2) 2 + 2) (((0 : Nat) : Int) * 2 + pr) = pr := by omega
        simp only [inn, h]
        rw [e1, if_pos (by omega)]
      simp only [Nat.zero_add]
      rw [hri]
      simp only [out]
      rw [hin]
  rw [e]
  unfold dueC
  split
  · rw [if_neg (by omega)]
  · split <;> split <;> omega
theorem over_lev {la : List Nat} {P c d : Nat} {mc : Int} (hP : P < la.length) (hc : la[P]'hP = c) (h128 : c < 128) (hd : d ∈ [36, swapC c]) : levF la (la.set P d) mc = dueC (priceC c d) mc ∧ levF (la.set P d) la mc = dueC (priceC c d) mc := by
  have e1 : la = la.take P ++ c :: la.drop (P + 1) := by
    rw [← hc, ← List.drop_eq_getElem_cons hP, List.take_append_drop]
  have e2 : la.set P d = la.take P ++ d :: la.drop (P + 1) := by rw [List.set_eq_take_append_cons_drop, if_pos hP]
  by_cases hdc : d = c
  · subst hdc
    have e3 : la.set P d = la := by rw [e2, ← e1]
    rw [e3]
    unfold levF priceC dueC
    simp
  · obtain ⟨s1, s2, s3⟩ := (sub_facts c h128).2 d hd hdc
    have p2 : priceC c d ≤ 2 := by unfold priceC; split <;> (try split) <;> decide
    obtain ⟨p, ep⟩ : ∃ p, p = la.take P := ⟨_, rfl⟩
    obtain ⟨q, eq⟩ : ∃ q, q = la.drop (P + 1) := ⟨_, rfl⟩
    rw [← ep, ← eq] at e1 e2
    rw [e2, e1]
    have key : ∀ (c d : Nat), c ≠ d → ∀ mc, levF (p ++ c :: q) (p ++ d :: q) mc = levT [c] [d] mc := fun c d h mc => by
      unfold levF levP levS
      rw [if_neg (by simpa using h)]
      dsimp only
      rw [preN_split p q q h]
      simp only [List.drop_left, List.reverse_cons]
      have e4 : preN (q.reverse ++ [c]) (q.reverse ++ [d]) = q.length := by rw [preN_split q.reverse [] [] h, List.length_reverse]
      rw [e4]
      simp
    rw [key c d (fun e => hdc e.symm), key d c hdc, lev_one s1 s3 p2, lev_one s2 s3 p2]
    exact ⟨rfl, rfl⟩
end
end

section
open PySem PySem.W PyProof.Rows
section
noncomputable def StrP (x y : Str) : Prop := x.length ≤ 1000 ∧ y.length ≤ 1000 ∧ Ins x.cps.toList y.cps.toList
theorem jl_app : ∀ (A B : List (List Nat)), A ≠ [] → B ≠ [] → jl (A ++ B) = jl A ++ 10 :: jl B
  | [], _, h, _ => absurd rfl h
  | [x], [], _, h => absurd rfl h
  | [x], y :: r, _, _ => rfl
  | x :: x2 :: A, B, _, hB => by
    have ih := jl_app (x2 :: A) B (by simp) hB
    simp only [List.cons_append] at ih ⊢
    simp only [jl]
    rw [ih]
    simp
theorem ins_jl (A M B : List (List Nat)) (hB : B ≠ []) : Ins (jl (A ++ B)) (jl (A ++ (M ++ B))) := by
  by_cases hM : M = []
  · subst hM
    exact ⟨jl (A ++ B), [], [], by simp, by simp⟩
  · have e1 := jl_app M B hM hB
    by_cases hA : A = []
    · subst hA
      exact ⟨[], jl M ++ [10], jl B, by simp, by simp [e1]⟩
    · have e2 := jl_app A B hA hB
      have e3 := jl_app A (M ++ B) hA (by simp [hB])
      exact ⟨jl A ++ [10], jl M ++ [10], jl B, by simp [e2], by simp [e3, e1]⟩
theorem ins_text {A M B : List Str} (hB : B ≠ []) : Ins (Txt.join nl (A ++ B)).cps.toList (Txt.join nl (A ++ (M ++ B))).cps.toList := by
  rw [txt_join, txt_join, join_toList, join_toList, List.map_append, List.map_append, List.map_append]
  exact ins_jl _ _ _ (by simpa using hB)
theorem ins_refl (a : List Nat) : Ins a a := ⟨a, [], [], by simp, by simp⟩
theorem text_len2 {ag ru : List Str} {dl : Option Int} {rows : List (List Str)} {d : Option Int} (G : Good ag d rows) {ag2 : List Str} (h2 : ag2.length ≤ 3) (hm : ∀ x ∈ ag2, x ∈ ag) (hr : ru.length ≤ 4) (hrl : ∀ x ∈ ru, x.length ≤ 3) (hd : ∀ n, dl = some n → 0 ≤ n ∧ n < 100) : (textOf ag2 dl ru).length ≤ 1000 :=
  text_len h2 hr (fun x hx => Nat.le_trans (G.agl x (hm x hx)) (by decide)) (fun x hx => Nat.le_trans (hrl x hx) (by decide)) hd
theorem full_facts {ag : List Str} {dl : Option Int} {rows : List (List Str)} (G : Good ag dl rows) : rows.flatten ≠ [] ∧ (∀ x ∈ rows.flatten, x.length ≤ 3 ∧ ∀ c ∈ x.cps.toList, c ∈ [47, 97, 65, 36]) :=
  ⟨flat_ne G.rows1 G.ne, fun x hx => by
    obtain ⟨r, hr, hxr⟩ := List.mem_flatten.mp hx
    exact ⟨G.rule3 r hr x hxr, G.rulec r hr x hxr⟩⟩
theorem pair_texts {ag : List Str} {dl : Option Int} {rows : List (List Str)} (G : Good ag dl rows) {i j : Nat} (hij : i < j) (hj : j < rows.length) : StrP (textOf ag dl ((rows.take (i + 1)).flatten)) (textOf ag dl ((rows.take (j + 1)).flatten)) := by
  have fi := acc_facts G (List.mem_of_getElem? (accF_get (rows := rows) (i := i) (by omega)))
  have fj := acc_facts G (List.mem_of_getElem? (accF_get (rows := rows) (i := j) (by omega)))
  refine ⟨text_len2 G G.ag3 (fun _ h => h) fi.2.1 (fun x hx => (fi.2.2 x hx).1) G.dl100, text_len2 G G.ag3 (fun _ h => h) fj.2.1 (fun x hx => (fj.2.2 x hx).1) G.dl100, ?_⟩
  have e : rows.take (j + 1) = rows.take (i + 1) ++ (rows.take (j + 1)).drop (i + 1) := by
    have := List.take_append_drop (i + 1) (rows.take (j + 1))
    rw [List.take_take, Nat.min_eq_left (by omega)] at this
    exact this.symm
  have hne : ((rows.take (j + 1)).drop (i + 1)).flatten ≠ [] := flat_ne (by rw [List.length_drop, List.length_take]; omega) fun q hq => G.ne q (List.mem_of_mem_take (List.mem_of_mem_drop hq))
  rw [e, List.flatten_append]
  rw [← text_glue G.ag1 hne, Str.cps_append, Str.cps_append, Array.toList_append, Array.toList_append]
  exact ⟨(textOf ag dl (rows.take (i + 1)).flatten).cps.toList, _, [], by simp, by rw [List.append_assoc, List.append_nil]⟩
theorem pair_less {ag : List Str} {dl : Option Int} {rows : List (List Str)} (G : Good ag dl rows) {l h : Nat} (hl : l ≤ h) (hh : h ≤ ag.length) : StrP (strF (keptF ag l h) dl rows.flatten) (textOf ag dl rows.flatten) := by
  have f := full_facts G
  have hlong := text_len2 G G.ag3 (fun _ h => h) G.flat4 (fun x hx => (f.2 x hx).1) G.dl100
  by_cases hk : keptF ag l h = []
  · rw [hk, strF_nil]
    exact ⟨by decide, hlong, ⟨[], (textOf ag dl rows.flatten).cps.toList, [], rfl, by simp⟩⟩
  · rw [strF_text hk f.1]
    have h3 := G.ag3
    refine ⟨text_len2 G (by unfold keptF; rw [List.length_append, List.length_take, List.length_drop]; omega) (fun x hx => kept_mem hx) G.flat4 (fun x hx => (f.2 x hx).1) G.dl100, hlong, ?_⟩
    unfold textOf
    have e : ag = ag.take l ++ ((ag.drop l).take (h - l) ++ ag.drop h) := by
      have e2 : ag.drop h = (ag.drop l).drop (h - l) := by rw [List.drop_drop]; congr 1; omega
      rw [e2, List.take_append_drop, List.take_append_drop]
    have e1 : textLines (keptF ag l h) dl rows.flatten = (ag.take l).map agentLine ++ ((ag.drop h).map agentLine ++ delLine dl ++ rows.flatten) := by
      unfold textLines keptF
      simp
    have e2 : textLines ag dl rows.flatten = (ag.take l).map agentLine ++ (((ag.drop l).take (h - l)).map agentLine ++ ((ag.drop h).map agentLine ++ delLine dl ++ rows.flatten)) := by
      unfold textLines
      conv => lhs; rw [e]
      simp
    rw [e1, e2]
    exact ins_text (by simp [f.1])
theorem recs_last {dl : Option Int} {rows : List (List Str)} (h : 1 ≤ rows.length) : ∃ pre dx r prev, recsF dl rows = pre ++ [(dx, r)] ∧ rows.flatten = prev ++ r ∧ r ∈ rows ∧ ((dx = dl ∧ prev = []) ∨ dx = none) := by
  cases rows with
  | nil => simp at h
  | cons r0 rs =>
    by_cases hrs : rs = []
    · subst hrs
      exact ⟨[], dl, r0, [], rfl, by simp, List.mem_cons_self, .inl ⟨rfl, rfl⟩⟩
    · have e := List.dropLast_concat_getLast hrs
      refine ⟨(dl, r0) :: rs.dropLast.map fun r => (none, r), none, rs.getLast hrs, (r0 :: rs.dropLast).flatten, ?_, ?_, List.mem_cons_of_mem _ (List.getLast_mem hrs), .inr rfl⟩
      · unfold recsF
        conv => lhs; rw [← e]
        simp
      · conv => lhs; rw [← e]
        simp
theorem pair_rec {ag : List Str} {dl : Option Int} {rows : List (List Str)} (G : Good ag dl rows) {dx : Option Int} {r prev : List Str} (hf : rows.flatten = prev ++ r) (hr : r ∈ rows) (hd : (dx = dl ∧ prev = []) ∨ dx = none) : StrP (strF ag dx r) (textOf ag dl rows.flatten) := by
  have f := full_facts G
  have rf := row_facts G hr
  have hlong := text_len2 G G.ag3 (fun _ h => h) G.flat4 (fun x hx => (f.2 x hx).1) G.dl100
  rw [strF_text (ag_ne G) rf.1]
  rcases hd with ⟨rfl, rfl⟩ | rfl
  · rw [List.nil_append] at hf
    rw [hf] at hlong ⊢
    exact ⟨hlong, hlong, ins_refl _⟩
  · refine ⟨text_len2 G G.ag3 (fun _ h => h) rf.2.1 (fun x hx => (rf.2.2 x hx).1) (fun _ h => nomatch h), hlong, ?_⟩
    unfold textOf
    have e1 : textLines ag none r = ag.map agentLine ++ r := by simp [textLines, delLine]
    have e2 : textLines ag dl rows.flatten = ag.map agentLine ++ ((delLine dl ++ prev) ++ r) := by rw [hf]; simp [textLines]
    rw [e1, e2]
    exact ins_text rf.1
theorem rec_del {dl dx : Option Int} {prev : List Str} (hd : (dx = dl ∧ prev = []) ∨ dx = none) (h : ∀ n, dl = some n → 0 ≤ n ∧ n < 100) : ∀ n, dx = some n → 0 ≤ n ∧ n < 100 := by
  rcases hd with ⟨rfl, _⟩ | rfl
  · exact h
  · exact fun _ h => nomatch h
end
end

section
open PySem PySem.Spec PySem.Calls PySem.W PyProof.Rows
section
open PyProof.Rows.LCg (NsObj lst Off3 Off1 fr_but news_but ns_obj lst_snoc)
theorem comp2_out (elt t1 i1 t2 i2 : Expr) (scope : Scope) (pos : Pos) (it acc : Value) (env : Env) :
    compTurn (.ListComp elt [⟨t1, i1, [], 0⟩, ⟨t2, i2, [], 0⟩] scope pos) 0 it acc env = (do
      standAt i1.pos
      match ← pyNext it with
      | none => pure (.done .next)
      | some v =>
        letOwnedTupleGo t1 it v
        assign t1 env v
        let x ← eval i2 env
        standAt i2.pos
        let x ← foldedSetIterable i2 env x
        let _ ← runOwn (.compStart (.ListComp elt [⟨t1, i1, [], 0⟩, ⟨t2, i2, [], 0⟩] scope pos) 1 (← holding [x] (pyIter x)) acc env) env
        again (.compLoop (.ListComp elt [⟨t1, i1, [], 0⟩, ⟨t2, i2, [], 0⟩] scope pos) 0 it acc env)) := by rfl
theorem comp2_in (elt t1 i1 t2 i2 : Expr) (scope : Scope) (pos : Pos) (it acc : Value) (env : Env) :
    compTurn (.ListComp elt [⟨t1, i1, [], 0⟩, ⟨t2, i2, [], 0⟩] scope pos) 1 it acc env = (do
      standAt i2.pos
      match ← pyNext it with
      | none => pure (.done .next)
      | some v =>
        letOwnedTupleGo t2 it v
        assign t2 env v
        (do let _ ← call (.builtin "list.append") [acc, ← eval elt env])
        again (.compLoop (.ListComp elt [⟨t1, i1, [], 0⟩, ⟨t2, i2, [], 0⟩] scope pos) 1 it acc env)) := by rfl
section
variable {prog : Program} {w : World} {A : Around} {E : Value → Shared → Prop} {R : Result → Shared → Prop} {s : Shared} {env : Env} {elt i1 i2 : Expr} {t1 t2 : Expr} {scope : Scope} {pos : Pos} {it acc : Value}
theorem comp2_start (h0 : codeAny (model prog w) A (.compLoop (.ListComp elt [⟨t1, i1, [], 0⟩, ⟨t2, i2, [], 0⟩] scope pos) 1 it acc env) R s)
    (h : wpAny (model prog w) A (pyIter it) (fun it' s' => codeAny (model prog w) A (.compLoop (.ListComp elt [⟨t1, i1, [], 0⟩, ⟨t2, i2, [], 0⟩] scope pos) 1 it' acc env) R s')
      (notedBy (model prog w) A env fun x s' => R (.error x) s') s) :
    codeAny (model prog w) A (.compStart (.ListComp elt [⟨t1, i1, [], 0⟩, ⟨t2, i2, [], 0⟩] scope pos) 1 it acc env) R s := by
  refine codeAny_of_tree ?_
  show wpAny _ _ ((compStart (.ListComp elt [⟨t1, i1, [], 0⟩, ⟨t2, i2, [], 0⟩] scope pos) 1 it acc env).onRaise (fun x => do noteFrame x env; standAt theWindowsPlace)) _ _ s
  refine wpAny_notedAt ?_
  unfold compStart
  show wpAny _ _ (ask >>= _) _ _ s
  refine wpAny_bind (wpAny_askSetting (wpAny_ite ?_))
  split
  · first
      | exact wpAny_bind (wpAny_pure (wpAny_pure (And.intro rfl h0)))
      | exact wpAny_pure (And.intro rfl h0)
  · first
      | exact wpAny_bind (wpAny_rule (wpAny_bind (wpAny_standAt (wpAny_bind (wpAny_mono h (fun it' s' h' => wpAny_pure (And.intro rfl h')) fun _ _ x => x)))))
theorem comp2_loop_in (I : Nat → Shared → Prop)
    (turn : ∀ n s, I n s → wpAny (model prog w) A (pyNext it) (fun r s₁ => match r with
      | none => R (.ok .next) s₁
      | some v => wpAny (model prog w) A (assign t2 env v) (fun _ s₂ => wpAny (model prog w) A (eval elt env) (fun x s₄ =>
              wpAny (model prog w) A (call (.builtin "list.append") [acc, x]) (fun _ s₅ => ∃ m, m < n ∧ I m s₅) (notedBy (model prog w) A env fun e s' => R (.error e) s') s₄) (notedBy (model prog w) A env fun e s' => R (.error e) s') s₂)
            (notedBy (model prog w) A env fun e s' => R (.error e) s') s₁) (notedBy (model prog w) A env fun e s' => R (.error e) s') s)
    (n : Nat) (h : I n s) (ht : ∀ v, letOwnedTupleGo t2 it v = pure () := by intro _; rfl) :
    codeAny (model prog w) A (.compLoop (.ListComp elt [⟨t1, i1, [], 0⟩, ⟨t2, i2, [], 0⟩] scope pos) 1 it acc env) R s := by
  refine codeAny_loop rfl I (fun n s hI => ?_) n h
  show wpAny _ A ((compTurn (.ListComp elt [⟨t1, i1, [], 0⟩, ⟨t2, i2, [], 0⟩] scope pos) 1 it acc env).onRaise (fun x => do noteFrame x env; theTreesLotGoes x)) _ _ s
  refine wpAny_noted ?_
  rw [comp2_in]
  refine wpAny_bind (wpAny_standAt (wpAny_bind (wpAny_mono (turn n s hI) (fun r s₁ h₁ => ?_) fun _ _ h' => h')))
  cases r with
  | none => exact wpAny_pure h₁
  | some v =>
    refine wpAny_bind (wpAny_of_eq (ht v) ?_)
    refine wpAny_bind (wpAny_mono h₁ (fun _ s₂ h₂ => ?_) fun _ _ h' => h')
    exact wpAny_bind (wpAny_bind (wpAny_mono h₂ (fun x s₄ h₄ => wpAny_bind (wpAny_mono h₄ (fun _ s₅ h₅ => wpAny_pure (wpAny_pure ⟨rfl, h₅⟩)) fun _ _ h' => h')) fun _ _ h' => h'))
theorem comp2_loop_out (I : Nat → Shared → Prop)
    (turn : ∀ n s, I n s → wpAny (model prog w) A (pyNext it) (fun r s₁ => match r with
      | none => R (.ok .next) s₁
      | some v => wpAny (model prog w) A (assign t1 env v) (fun _ s₂ => wpAny (model prog w) A (eval i2 env) (fun x s₃ => wpAny (model prog w) A (pyIter x) (fun it2 s₄ =>
              codeAny (model prog w) A (.compStart (.ListComp elt [⟨t1, i1, [], 0⟩, ⟨t2, i2, [], 0⟩] scope pos) 1 it2 acc env) (fun r s' => match r with | .ok _ => ∃ m, m < n ∧ I m s' | .error e => cameBackBy (model prog w) A env (notedBy (model prog w) A env fun e s' => R (.error e) s') e s') s₄)
              (notedBy (model prog w) A env fun e s' => R (.error e) s') s₃) (notedBy (model prog w) A env fun e s' => R (.error e) s') s₂)
            (notedBy (model prog w) A env fun e s' => R (.error e) s') s₁) (notedBy (model prog w) A env fun e s' => R (.error e) s') s)
    (n : Nat) (h : I n s) (hs : ∀ x, foldedSetIterable i2 env x = pure x) (ht : ∀ v, letOwnedTupleGo t1 it v = pure () := by intro _; rfl) :
    codeAny (model prog w) A (.compLoop (.ListComp elt [⟨t1, i1, [], 0⟩, ⟨t2, i2, [], 0⟩] scope pos) 0 it acc env) R s := by
  refine codeAny_loop rfl I (fun n s hI => ?_) n h
  show wpAny _ A ((compTurn (.ListComp elt [⟨t1, i1, [], 0⟩, ⟨t2, i2, [], 0⟩] scope pos) 0 it acc env).onRaise (fun x => do noteFrame x env; theTreesLotGoes x)) _ _ s
  refine wpAny_noted ?_
  rw [comp2_out]
  refine wpAny_bind (wpAny_standAt (wpAny_bind (wpAny_mono (turn n s hI) (fun r s₁ h₁ => ?_) fun _ _ h' => h')))
  cases r with
  | none => exact wpAny_pure h₁
  | some v =>
    refine wpAny_bind (wpAny_of_eq (ht v) ?_)
    refine wpAny_bind (wpAny_mono h₁ (fun _ s₂ h₂ => ?_) fun _ _ h' => h')
    refine wpAny_bind (wpAny_mono h₂ (fun x s₃ h₃ => wpAny_bind (wpAny_standAt (wpAny_bind (wpAny_of_eq (hs x) (wpAny_bind (wpAny_holding (wpAny_mono h₃ (fun it2 s₄ h₄ => ?_) fun _ _ h' => h'))))))) fun _ _ h' => h')
    refine wpAny_bind (wpAny_runOwn (codeAny_mono h₄ fun r s' h' => ?_))
    cases r with
    | error e => exact h'
    | ok f => exact wpAny_pure ⟨rfl, h'⟩
end
section
variable {prog : Program} {w : World} {A : Around} {E : Value → Shared → Prop} {s : Shared} {h₀ : Heap} {L : Addr} {m : Str → Option Value} {env : Env}
noncomputable def RgEnd (s : Shared) (h₀ : Heap) (L : Addr) (m : Str → Option Value) (nw : List (Addr × Obj)) (i : Nat) (xv : Value) (s' : Shared) : Prop :=
  ∃ r t u v h' tk', xv = .ref r ∧ s' = { s with heap := h', toks := tk' } ∧ Fr h₀ L h' m ∧ News h₀ L h' nw ∧ IsRange h' r 0 i 1 t u v
noncomputable def ElEnd (s : Shared) (h₀ : Heap) (L : Addr) (m : Str → Option Value) (I C D I2 : Addr) (all : List (Addr × Obj)) (Jn : Value → List (Addr × Obj) → Prop) (y : Value) (s' : Shared) : Prop :=
  ∃ h' tk' new, s' = { s with heap := h', toks := tk' } ∧ Fr h₀ L h' m ∧ News h₀ L h' (new ++ all) ∧ (∀ p ∈ new, p.1 ≠ I ∧ p.1 ≠ C ∧ p.1 ≠ D ∧ p.1 ≠ I2) ∧ Jn y new
theorem RgEnd.intro {s : Shared} {nw : List (Addr × Obj)} {i r : Addr} {t u v : Tok} {h' : Heap} {tk' : Nat} (F : Fr h₀ L h' m) (N : News h₀ L h' nw) (hr : IsRange h' r 0 (i : Nat) 1 t u v) : RgEnd s h₀ L m nw i (.ref r) { s with heap := h', toks := tk' } :=
  ⟨r, t, u, v, h', tk', rfl, rfl, F, N, hr⟩
theorem ElEnd.intro {s : Shared} {I C D I2 : Addr} {all : List (Addr × Obj)} {Jn : Value → List (Addr × Obj) → Prop} {y : Value} {h' : Heap} {tk' : Nat} (new : List (Addr × Obj)) (F : Fr h₀ L h' m) (N : News h₀ L h' (new ++ all)) (off : ∀ p ∈ new, p.1 ≠ I ∧ p.1 ≠ C ∧ p.1 ≠ D ∧ p.1 ≠ I2) (hJ : Jn y new) : ElEnd s h₀ L m I C D I2 all Jn y { s with heap := h', toks := tk' } :=
  ⟨h', tk', new, rfl, F, N, off, hJ⟩
theorem RgEnd.elim {s : Shared} {nw : List (Addr × Obj)} {i : Nat} {xv : Value} {s' : Shared} {P : Value → Shared → Prop} (h : RgEnd s h₀ L m nw i xv s')
    (f : ∀ r t u v h' tk', Fr h₀ L h' m → News h₀ L h' nw → IsRange h' r 0 i 1 t u v → P (.ref r) { s with heap := h', toks := tk' }) : P xv s' := by
  obtain ⟨r, t, u, v, h', tk', rfl, rfl, F, N, hr⟩ := h
  exact f r t u v h' tk' F N hr
theorem ElEnd.elim {s : Shared} {I C D I2 : Addr} {all : List (Addr × Obj)} {Jn : Value → List (Addr × Obj) → Prop} {y : Value} {s' : Shared} {P : Shared → Prop} (h : ElEnd s h₀ L m I C D I2 all Jn y s')
    (f : ∀ h' tk' new, Fr h₀ L h' m → News h₀ L h' (new ++ all) → (∀ p ∈ new, p.1 ≠ I ∧ p.1 ≠ C ∧ p.1 ≠ D ∧ p.1 ≠ I2) → Jn y new → P { s with heap := h', toks := tk' }) : P s' := by
  obtain ⟨h', tk', new, rfl, F, N, off, hJ⟩ := h
  exact f h' tk' new F N off hJ
noncomputable def OutI (s : Shared) (h₀ : Heap) (L : Addr) (m : Str → Option Value) (J : Nat → Nat → List Value → List (Addr × Obj) → Prop) (n : Nat) (I C D : Addr) (k : Nat) (s' : Shared) : Prop :=
  ∃ h' tk i ys m' nw, s' = { s with heap := h', toks := tk } ∧ i ≤ n ∧ k = n + 1 - i ∧ IsRangeIter h' I (0 + (i : Nat) * 1) ((n : Int) - (i : Nat)) 1 ∧ Fr h₀ L h' m ∧ h'.Ns C m' ∧ News h₀ L h' ((D, lst ys) :: nw) ∧ Off3 I C D nw ∧ J i 0 ys nw
theorem OutI.elim {s : Shared} {J : Nat → Nat → List Value → List (Addr × Obj) → Prop} {n : Nat} {I C D : Addr} {k : Nat} {s' : Shared} {P : Shared → Prop} (h : OutI s h₀ L m J n I C D k s')
    (f : ∀ h' tk i ys m' nw, i ≤ n → k = n + 1 - i → IsRangeIter h' I (0 + (i : Nat) * 1) ((n : Int) - (i : Nat)) 1 → Fr h₀ L h' m → h'.Ns C m' → News h₀ L h' ((D, lst ys) :: nw) → Off3 I C D nw → J i 0 ys nw → P { s with heap := h', toks := tk }) : P s' := by
  obtain ⟨h', tk, i, ys, m', nw, rfl, hi, hk, hst', F', hn', N', off', hJ⟩ := h
  exact f h' tk i ys m' nw hi hk hst' F' hn' N' off' hJ
noncomputable def InI (s : Shared) (h₀ : Heap) (L : Addr) (m : Str → Option Value) (J : Nat → Nat → List Value → List (Addr × Obj) → Prop) (n i : Nat) (x1 : Str) (tv : Tok) (I C D I2 : Addr) (k : Nat) (s' : Shared) : Prop :=
  ∃ h' tk j ys m' nw, s' = { s with heap := h', toks := tk } ∧ j ≤ i ∧ k = i + 1 - j ∧ IsRangeIter h' I2 (0 + (j : Nat) * 1) ((i : Int) - (j : Nat)) 1 ∧ Fr h₀ L h' m ∧ h'.Ns C m' ∧ m' x1 = some (.int i tv) ∧ IsRangeIter h' I (0 + ((i + 1 : Nat) : Int) * 1) ((n : Int) - ((i + 1 : Nat) : Int)) 1 ∧ News h₀ L h' ((D, lst ys) :: nw) ∧ Off3 I C D nw ∧ (∀ p ∈ nw, p.1 ≠ I2) ∧ J i j ys nw
theorem InI.elim {s : Shared} {J : Nat → Nat → List Value → List (Addr × Obj) → Prop} {n i : Nat} {x1 : Str} {tv : Tok} {I C D I2 : Addr} {k : Nat} {s' : Shared} {P : Shared → Prop} (h : InI s h₀ L m J n i x1 tv I C D I2 k s')
    (f : ∀ h' tk j ys m' nw, j ≤ i → k = i + 1 - j → IsRangeIter h' I2 (0 + (j : Nat) * 1) ((i : Int) - (j : Nat)) 1 → Fr h₀ L h' m → h'.Ns C m' → m' x1 = some (.int i tv) → IsRangeIter h' I (0 + ((i + 1 : Nat) : Int) * 1) ((n : Int) - ((i + 1 : Nat) : Int)) 1 → News h₀ L h' ((D, lst ys) :: nw) → Off3 I C D nw → (∀ p ∈ nw, p.1 ≠ I2) → J i j ys nw → P { s with heap := h', toks := tk }) : P s' := by
  obtain ⟨h', tk, j, ys, m', nw, rfl, hj, hk, hst, Fg, hn, hx1v, hstI, Ng, offg, offI2g, hJg⟩ := h
  exact f h' tk j ys m' nw hj hk hst Fg hn hx1v hstI Ng offg offI2g hJg
theorem listComp_2 {elt i1 i2 : Expr} {x1 x2 : Str} {p1 p2 : Pos} {scope : Scope} {cl : List (Str × Addr)} {pos : Pos} {n : Nat} {Q : Value → Shared → Prop} (F₀ : Fr h₀ L s.heap m) (hh : A.handled = none)
    (hclos : closureFor scope env = pure cl) (hcell : ∀ y ∈ scope.names, y.2 ≠ .cell) (hkind : scope.kind = .function)
    (hnames : ∀ y ∈ scope.names, y.2 = .local → scope.names.lookup y.1 = some .local) (hx1 : scope.names.lookup x1 = some .local) (hx2 : scope.names.lookup x2 = some .local) (hx : x1 ≠ x2) (hn : n ≤ 1000)
    (J : Nat → Nat → List Value → List (Addr × Obj) → Prop)
    (nw₀ : List (Addr × Obj)) (hJ₀ : J 0 0 [] nw₀) (h : wpAny (model prog w) A (eval i1 env) (RgEnd s h₀ L m nw₀ n) E s)
    (iter : ∀ (i : Nat) (t : Tok) (I : Addr) (oI : Obj) (C : Addr) (oC : Obj) (D : Addr) (m₂ : Str → Option Value) (ys : List Value) (nw : List (Addr × Obj)) (h : Heap) (tk : Nat) (E' : Value → Shared → Prop), i < n → J i 0 ys nw → NsObj oC m₂ → m₂ x1 = some (.int i t) → Fr h₀ L h m →
      News h₀ L h ((I, oI) :: (C, oC) :: (D, lst ys) :: nw) →
      wpAny (model prog w) A (eval i2 (compEnvC scope cl C env)) (RgEnd s h₀ L m ((I, oI) :: (C, oC) :: (D, lst ys) :: nw) i) E' { s with heap := h, toks := tk })
    (turn : ∀ (i k : Nat) (t1 t2 : Tok) (I : Addr) (oI : Obj) (C : Addr) (oC : Obj) (D : Addr) (I2 : Addr) (oI2 : Obj) (m₂ : Str → Option Value) (ys : List Value) (nw : List (Addr × Obj)) (h : Heap) (tk : Nat) (E' : Value → Shared → Prop), i < n → k < i → J i k ys nw → NsObj oC m₂ → m₂ x1 = some (.int i t1) → m₂ x2 = some (.int k t2) → Fr h₀ L h m →
      News h₀ L h ((I, oI) :: (C, oC) :: (D, lst ys) :: (I2, oI2) :: nw) →
      wpAny (model prog w) A (eval elt (compEnvC scope cl C env)) (ElEnd s h₀ L m I C D I2 ((I, oI) :: (C, oC) :: (D, lst ys) :: (I2, oI2) :: nw) fun y new => J i (k + 1) (ys ++ [y]) (new ++ nw)) E' { s with heap := h, toks := tk })
    (up : ∀ i ys nw, i < n → J i i ys nw → J (i + 1) 0 ys nw) (hlen : ∀ i k ys nw, J i k ys nw → ys.length ≤ 1000000)
    (fin : ∀ ys nw D h tk, J n 0 ys nw → Fr h₀ L h m → News h₀ L h ((D, lst ys) :: nw) → (∀ p ∈ nw, p.1 ≠ D) → Q (.ref D) { s with heap := h, toks := tk })
    (hs1 : ∀ x, foldedSetIterable i1 env x = pure x := by intro _; rfl) (hs2 : ∀ C x, foldedSetIterable i2 (compEnvC scope cl C env) x = pure x := by intro _ _; rfl) :
    wpAny (model prog w) A (eval (.ListComp elt [⟨.Name x1 p1, i1, [], 0⟩, ⟨.Name x2 p2, i2, [], 0⟩] scope pos) env) Q E s := by
  rw [eval_ListComp]
  refine wpAny_comprehension_free (use := none) rfl hs1 hclos hkind hnames (wpAny_mono h (fun xv s₁ h₁ => ?_) fun _ _ e => e)
  refine RgEnd.elim (P := fun xv s₁ => wpAny (model prog w) A (pyIter xv) _ _ s₁) h₁ fun r t u v hp₁ tk₁ F₁ N₁ hr => ?_
  have hsm : Builtin.Range.small 0 (n : Int) 1 = true := small_one (by omega) (by omega) (by omega) (by omega)
  have hrn : Builtin.Range.rangeSize 0 (n : Int) 1 = ((n : Nat) : Int) := by rw [rangeSize_nat]; omega
  refine wpAny_pyIter_range hr hsm ?_
  -- the outer iterator
  obtain ⟨I, eI⟩ : ∃ I, I = hp₁.objs.size := ⟨_, rfl⟩
  obtain ⟨hp₂, ehp₂⟩ : ∃ z, z = hp₁.push { cls := .type "range_iterator", data := .fields #[rawInt 0, rawInt (Builtin.Range.rangeSize 0 (n : Int) 1), rawInt 1] } := ⟨_, rfl⟩
  have F₂ : Fr h₀ L hp₂ m := by rw [ehp₂]; exact F₁.push _
  have N₂ : News h₀ L hp₂ nw₀ := fun p hp => by rw [ehp₂]; exact ⟨Heap.get?_push_of_some _ (N₁ p hp).1, (N₁ p hp).2⟩
  have hI₂ : hp₂.get? I = some { cls := .type "range_iterator", data := .fields #[rawInt 0, rawInt (Builtin.Range.rangeSize 0 (n : Int) 1), rawInt 1] } := by rw [ehp₂, eI]; exact Heap.get?_push_size _ rfl
  have offI : ∀ p ∈ nw₀, p.1 ≠ I := fun p hp => by rw [eI]; exact Nat.ne_of_lt (Heap.lt_size (N₁ p hp).1)
  have hIL : L ≠ I := by rw [eI]; exact Nat.ne_of_lt F₁.ns.lt
  have hI₀ : h₀.get? I = none := by rw [eI]; exact next_is_new F₁
  show wpAny (model prog w) A (newList []) _ _ { s with heap := hp₁.push _, toks := tk₁ }
  rw [← ehp₂]
  obtain ⟨D, eD⟩ : ∃ D, D = hp₂.objs.size := ⟨_, rfl⟩
  refine wpAny_newObj_type (wpAny_newFunctionEnv hcell (by intro y hy; simp at hy) (fun h₁ hns₁ hsb₁ => ?_) hkind)
  dsimp only at hns₁ hsb₁ ⊢
  generalize hH2 : hp₂.push { cls := .type "list", dict := none, data := .seq ([] : List Value).toArray } = H2 at hns₁ hsb₁ ⊢
  obtain ⟨C, eC⟩ : ∃ C, C = H2.objs.size := ⟨_, rfl⟩
  have hC : C = D + 1 := by rw [eC, eD, ← hH2, Heap.size_push]
  rw [← eC] at hns₁ hsb₁
  rw [← eC, ← eD]
  have eI1 : (hp₁.objs.size : Nat) = I := eI.symm
  rw [eI1]
  have hDC : @Ne Nat D C := by rw [hC]; exact Nat.ne_of_lt (Nat.lt_succ_self _)
  have below : ∀ b : Nat, b < D → b ≠ C ∧ b ≠ D := fun b hb => ⟨by rw [hC]; exact Nat.ne_of_lt (Nat.lt_succ_of_lt hb), Nat.ne_of_lt hb⟩
  have hIlt : @LT.lt Nat _ I D := by rw [eD]; exact Heap.lt_size hI₂
  have old : ∀ b o, hp₂.get? b = some o → h₁.get? b = some o := fun b o e => hsb₁.extBut b o (below b (by rw [eD]; exact Heap.lt_size e)).1 (Heap.get?_push_of_some _ (hH2 ▸ Heap.get?_push_of_some _ e))
  have hacc0 : H2.get? D = some (lst []) := by rw [← hH2, eD]; exact Heap.get?_push_size hp₂ (o := { cls := .type "list", dict := none, data := .seq ([] : List Value).toArray }) rfl
  have hacc : h₁.get? D = some (lst []) := hsb₁.extBut _ _ hDC (Heap.get?_push_of_some _ hacc0)
  have fresh₀ : ∀ a : Nat, D ≤ a → h₀.get? a = none := fun a ha => by
    cases e : h₀.get? a with
    | none => rfl
    | some o' => exact absurd (Heap.lt_size (F₂.keep a o' e)) (Nat.not_lt.mpr (eD ▸ ha))
  have hD₀ : h₀.get? D = none := fresh₀ _ (Nat.le_refl _)
  have hC₀ : h₀.get? C = none := fresh₀ _ (by rw [hC]; exact Nat.le_succ _)
  have hLlt : @LT.lt Nat _ L D := by rw [eD]; exact F₂.ns.lt
  have hDL : @Ne Nat D L := Ne.symm (below L hLlt).2
  have hCL : @Ne Nat C L := Ne.symm (below L hLlt).1
  have hCI : @Ne Nat I C := (below I hIlt).1
  have hDI : @Ne Nat I D := (below I hIlt).2
  have off₀ : Off3 I C D nw₀ := LCg.Off3.of fun p hp => ⟨offI p hp, (below _ (by rw [eD]; exact Heap.lt_size (N₂ p hp).1)).1, (below _ (by rw [eD]; exact Heap.lt_size (N₂ p hp).1)).2⟩
  have W1 := LCg.range_walks (prog := prog) (w := w) (A := A) (I := I) hh 0 n
  have loop : ∀ tk, codeAny (model prog w) A (.compLoop (.ListComp elt [⟨.Name x1 p1, i1, [], 0⟩, ⟨.Name x2 p2, i2, [], 0⟩] scope pos) 0 (.ref I) (.ref D) (compEnvC scope cl C env))
        (compPost (model prog w) A E none Q (.ref D) C) { s with heap := h₁, toks := tk } := by
    intro tk₀
    refine comp2_loop_out (OutI s h₀ L m J n I C D)
      ?_ (n + 1) ⟨h₁, tk₀, 0, [], _, nw₀, rfl, Nat.zero_le _, rfl, ?_, F₂.keeps old, hns₁, fun p hp => ?_, off₀, hJ₀⟩ (hs2 C)
    · intro k s' hO
      refine OutI.elim (P := fun s' => wpAny (model prog w) A (pyNext (.ref I)) _ _ s') hO fun h' tk i ys m' nw hi hk hst' F' hn' N' off' hJ => ?_
      subst hk
      have off3 := off'.mem
      by_cases hlt : i < n
      · refine W1.item i _ _ _ hlt hst' fun v h₂ tk₂ hPv hst₂ hk₂ => ?_
        obtain ⟨tv, rfl⟩ := hPv
        rw [Int.zero_add]
        refine wpAny_assign_Name (wpAny_storeName_local (lookup_relabel_local hx1) (hn'.at' fun o e => hk₂ _ o (by simpa using Ne.symm hCI) e) (fun h₃ hn₃ hs₃ => ?_) (by simp [compEnvC, relabel, hkind]))
        obtain ⟨oC, heC, hoC⟩ := ns_obj hn₃
        have zI₃ : h₃.get? I = some _ := hs₃.extBut _ _ hCI hst₂
        have F₃ : Fr h₀ L h₃ m := (fr_but F' hk₂ hIL hI₀).change hs₃ hCL hC₀
        have N₂' : News h₀ L h₂ ((D, lst ys) :: nw) := news_but N' hk₂ fun p hp => by
          rcases List.mem_cons.mp hp with rfl | hp
          · exact Ne.symm hDI
          · exact (off3 p hp).1
        have N₃ : News h₀ L h₃ ((I, _) :: (C, oC) :: (D, lst ys) :: nw) := fun p hp => by
          rcases List.mem_cons.mp hp with rfl | hp
          · exact ⟨zI₃, Ne.symm hIL, hI₀⟩
          · rcases List.mem_cons.mp hp with rfl | hp
            · exact ⟨heC, hCL, hC₀⟩
            · have z := N₂' p hp
              refine ⟨hs₃.extBut _ _ ?_ z.1, z.2⟩
              rcases List.mem_cons.mp hp with rfl | hp
              · exact hDC
              · exact (off3 p hp).2.1
        refine wpAny_mono (iter i tv I _ C oC D _ ys nw h₃ _ _ hlt hJ hoC (by simp) F₃ N₃) (fun xv s₄ h₄ => ?_) fun _ _ e => e
        refine RgEnd.elim (P := fun xv s₁ => wpAny (model prog w) A (pyIter xv) _ _ s₁) h₄ fun r2 ta ua va h₄ tk₄ F₄ N₄ hr₂ => ?_
        have hsm2 : Builtin.Range.small 0 (i : Int) 1 = true := small_one (by omega) (by omega) (by omega) (by omega)
        have hrn2 : Builtin.Range.rangeSize 0 (i : Int) 1 = ((i : Nat) : Int) := by rw [rangeSize_nat]; omega
        refine wpAny_pyIter_range hr₂ hsm2 ?_
        obtain ⟨I2, eI2⟩ : ∃ I2, I2 = h₄.objs.size := ⟨_, rfl⟩
        obtain ⟨h₅, eh₅⟩ : ∃ z, z = h₄.push { cls := .type "range_iterator", data := .fields #[rawInt 0, rawInt (Builtin.Range.rangeSize 0 (i : Int) 1), rawInt 1] } := ⟨_, rfl⟩
        have F₅ : Fr h₀ L h₅ m := by rw [eh₅]; exact F₄.push _
        have N₅ : News h₀ L h₅ _ := fun p hp => by rw [eh₅]; exact ⟨Heap.get?_push_of_some _ (N₄ p hp).1, (N₄ p hp).2⟩
        have hI2 : IsRangeIter h₅ I2 (0 + ((0 : Nat) : Int) * 1) ((i : Int) - ((0 : Nat) : Int)) 1 := by
          have e := Heap.get?_push_size h₄ (o := { cls := .type "range_iterator", data := .fields #[rawInt 0, rawInt (Builtin.Range.rangeSize 0 (i : Int) 1), rawInt 1] }) rfl
          rw [hrn2, ← eI2] at e
          rw [eh₅, hrn2]
          simpa using e
        have offI2 : ∀ p ∈ (I, _) :: (C, oC) :: (D, lst ys) :: nw, p.1 ≠ I2 := fun p hp => by rw [eI2]; exact Nat.ne_of_lt (Heap.lt_size (N₄ p hp).1)
        have hI2L : @Ne Nat L I2 := by rw [eI2]; exact Nat.ne_of_lt F₄.ns.lt
        have hI20 : h₀.get? I2 = none := by rw [eI2]; exact next_is_new F₄
        have hII2 : @Ne Nat I I2 := offI2 _ List.mem_cons_self
        have hCI2 : @Ne Nat C I2 := offI2 _ (List.mem_cons_of_mem _ List.mem_cons_self)
        have hDI2 : @Ne Nat D I2 := offI2 _ (List.mem_cons_of_mem _ (List.mem_cons_of_mem _ List.mem_cons_self))
        have hnI2 : ∀ p ∈ nw, p.1 ≠ I2 := fun p hp => offI2 p (List.mem_cons_of_mem _ (List.mem_cons_of_mem _ (List.mem_cons_of_mem _ hp)))
        show codeAny (model prog w) A _ _ { s with heap := h₄.push _, toks := tk₄ }
        rw [← eh₅]
        show codeAny (model prog w) A (.compStart _ 1 (.ref h₄.objs.size) _ _) _ _
        rw [← eI2]
        have W2 := LCg.range_walks (prog := prog) (w := w) (A := A) (I := I2) hh 0 i
        have inner : ∀ (tk0 : Nat), codeAny (model prog w) A (.compLoop (.ListComp elt [⟨.Name x1 p1, i1, [], 0⟩, ⟨.Name x2 p2, i2, [], 0⟩] scope pos) 1 (.ref I2) (.ref D) (compEnvC scope cl C env))
            (fun r s' => match r with
              | .ok _ => ∃ m₉, m₉ < n + 1 - i ∧ OutI s h₀ L m J n I C D m₉ s'
              | .error e => cameBackBy (model prog w) A (compEnvC scope cl C env) (notedBy (model prog w) A (compEnvC scope cl C env) fun e s' => compPost (model prog w) A E none Q (Value.ref D) C (Except.error e) s') e s') { s with heap := h₅, toks := tk0 } := by
          intro tk0
          refine comp2_loop_in (InI s h₀ L m J n i x1 tv I C D I2)
            ?_ (i + 1) ⟨h₅, tk0, 0, ys, _, nw, rfl, Nat.zero_le _, rfl, hI2, F₅, hoC.ns (N₅ _ (List.mem_cons_of_mem _ List.mem_cons_self)).1, by simp, (N₅ _ List.mem_cons_self).1, fun p hp => N₅ p (List.mem_cons_of_mem _ (List.mem_cons_of_mem _ hp)), off', hnI2, hJ⟩
          intro k s' hO
          refine InI.elim (P := fun s' => wpAny (model prog w) A (pyNext (.ref I2)) _ _ s') hO fun g tkg j ys m' nw hj hk hst Fg hn hx1v hstI Ng offg offI2g hJg => ?_
          subst hk
          have off3g := offg.mem
          by_cases hltj : j < i
          · refine W2.item j _ _ _ hltj hst fun v g₂ tkg₂ hPv hst₂ hk₂ => ?_
            obtain ⟨tw, rfl⟩ := hPv
            rw [Int.zero_add]
            refine wpAny_assign_Name (wpAny_storeName_local (lookup_relabel_local hx2) (hn.at' fun o e => hk₂ _ o (by simpa using hCI2) e) (fun g₃ hn₃ hs₃ => ?_) (by simp [compEnvC, relabel, hkind]))
            obtain ⟨oC, heC, hoC⟩ := ns_obj hn₃
            have zI : g₃.get? I = some _ := hs₃.extBut _ _ hCI (hk₂ _ _ (by simpa using hII2) hstI)
            have zI2 : g₃.get? I2 = some _ := hs₃.extBut _ _ (Ne.symm hCI2) hst₂
            have F₃ : Fr h₀ L g₃ m := (fr_but Fg hk₂ hI2L hI20).change hs₃ hCL hC₀
            have N₂' : News h₀ L g₂ ((D, lst ys) :: nw) := news_but Ng hk₂ fun p hp => by
              rcases List.mem_cons.mp hp with rfl | hp
              · exact hDI2
              · exact offI2g p hp
            have N₃ : News h₀ L g₃ ((I, _) :: (C, oC) :: (D, lst ys) :: (I2, _) :: nw) := fun p hp => by
              rcases List.mem_cons.mp hp with rfl | hp
              · exact ⟨zI, Ne.symm hIL, hI₀⟩
              · rcases List.mem_cons.mp hp with rfl | hp
                · exact ⟨heC, hCL, hC₀⟩
                · rcases List.mem_cons.mp hp with rfl | hp
                  · have z := N₂' _ List.mem_cons_self
                    exact ⟨hs₃.extBut _ _ hDC z.1, z.2⟩
                  · rcases List.mem_cons.mp hp with rfl | hp
                    · exact ⟨zI2, Ne.symm hI2L, hI20⟩
                    · have z := N₂' p (List.mem_cons_of_mem _ hp)
                      exact ⟨hs₃.extBut _ _ (off3g p hp).2.1 z.1, z.2⟩
            refine wpAny_mono (turn i j tv tw I _ C oC D I2 _ _ ys nw g₃ _ _ hlt hltj hJg hoC (by simp [hx, hx1v]) (by simp) F₃ N₃) (fun y s₄ h₄ => ?_) fun _ _ e => e
            refine ElEnd.elim (P := fun s₄ => wpAny (model prog w) A (call (.builtin "list.append") [.ref D, y]) _ _ s₄) h₄ fun g₄ tkg₄ new F₄ N₄ offn hJ₄ => ?_
            have zI4 := (N₄ _ (List.mem_append_right _ List.mem_cons_self)).1
            have zC4 := (N₄ _ (List.mem_append_right _ (List.mem_cons_of_mem _ List.mem_cons_self))).1
            have zD4 := (N₄ _ (List.mem_append_right _ (List.mem_cons_of_mem _ (List.mem_cons_of_mem _ List.mem_cons_self)))).1
            have zI24 := (N₄ _ (List.mem_append_right _ (List.mem_cons_of_mem _ (List.mem_cons_of_mem _ (List.mem_cons_of_mem _ List.mem_cons_self))))).1
            have off4 : ∀ p ∈ new ++ nw, p.1 ≠ I ∧ p.1 ≠ C ∧ p.1 ≠ D := fun p hp => (List.mem_append.mp hp).elim (fun hp => ⟨(offn p hp).1, (offn p hp).2.1, (offn p hp).2.2.1⟩) (off3g p)
            have off5 : ∀ p ∈ new ++ nw, p.1 ≠ I2 := fun p hp => (List.mem_append.mp hp).elim (fun hp => (offn p hp).2.2.2) (offI2g p)
            have N₄' : News h₀ L g₄ (new ++ nw) := fun p hp => N₄ p ((List.mem_append.mp hp).elim (fun h => List.mem_append_left _ h) (fun h => List.mem_append_right _ (List.mem_cons_of_mem _ (List.mem_cons_of_mem _ (List.mem_cons_of_mem _ (List.mem_cons_of_mem _ h))))))
            have hyl := hlen _ _ _ _ hJg
            refine append_at (hsz := by show ys.toArray.size ≤ sizeLine; rw [List.size_toArray, sizeLine_eq]; omega) zD4 fun g₅ hs₅ hD₅ => ?_
            refine ⟨i + 1 - (j + 1), by omega, g₅, tkg₄, j + 1, ys ++ [y], _, new ++ nw, rfl, hltj, rfl, hs₅.extBut _ _ (Ne.symm hDI2) zI24, F₄.change hs₅ hDL hD₀, (hoC.ns zC4).sameBut hs₅ (Ne.symm hDC), by simp [hx, hx1v], hs₅.extBut _ _ hDI zI4, fun p hp => ?_, LCg.Off3.of off4, off5, hJ₄⟩
            rcases List.mem_cons.mp hp with rfl | hp
            · exact ⟨hD₅.trans (congrArg some (lst_snoc ys y)), hDL, hD₀⟩
            · exact ⟨hs₅.extBut _ _ (off4 p hp).2.2 (N₄' p hp).1, (N₄' p hp).2⟩
          · obtain rfl : j = i := Nat.le_antisymm hj (Nat.not_lt.mp hltj)
            refine W2.done _ _ _ hst fun g₂ tkg₂ hk₂ => ?_
            refine ⟨n + 1 - (j + 1), by omega, g₂, tkg₂, j + 1, ys, _, nw, rfl, hlt, rfl, hk₂ _ _ (by simpa using hII2) hstI, fr_but Fg hk₂ hI2L hI20, hn.at' fun o e => hk₂ _ o (by simpa using hCI2) e, news_but Ng hk₂ fun p hp => ?_, offg, up _ _ _ hlt hJg⟩
            rcases List.mem_cons.mp hp with rfl | hp
            · exact hDI2
            · exact offI2g p hp
        exact comp2_start (inner _) (W2.self 0 _ _ _ hI2 (inner _))
      · obtain rfl : i = n := Nat.le_antisymm hi (Nat.not_lt.mp hlt)
        refine W1.done _ _ _ hst' fun h₂ tk₂ hk₂ => ?_
        refine ⟨m', hn'.at' fun o e => hk₂ _ o (by simpa using Ne.symm hCI) e, fun h'' hs'' => fin ys nw D h'' tk₂ hJ ((fr_but F' hk₂ hIL hI₀).change hs'' hCL hC₀) (fun p hp => ?_) fun p hp => (off3 p hp).2.2⟩
        have z := (news_but N' hk₂ fun p hp => by
          rcases List.mem_cons.mp hp with rfl | hp
          · exact Ne.symm hDI
          · exact (off3 p hp).1) p hp
        refine ⟨hs''.extBut _ _ ?_ z.1, z.2⟩
        rcases List.mem_cons.mp hp with rfl | hp
        · exact hDC
        · exact (off3 p hp).2.1
    · have z := old _ _ hI₂
      rw [hrn] at z
      simpa using z
    · rcases List.mem_cons.mp hp with rfl | hp
      · exact ⟨hacc, hDL, hD₀⟩
      · exact ⟨old _ _ (N₂ p hp).1, (N₂ p hp).2⟩
  exact codeAny_compStart_list (loop _) (W1.self 0 _ _ _ (by
    have z := old _ _ hI₂
    rw [hrn] at z
    simpa using z) (loop _))
end
end
end

section
open PySem PySem.W PyProof.Rows
section
noncomputable def PairP (nw : List (Addr × Obj)) (v : Value) : Prop := ∃ (a : Addr) (x y : Str) (t u : Tok) (n : Nat), v = .ref a ∧ (a, { cls := .type "tuple", data := .seq #[.str x t, .str y u] n }) ∈ nw ∧ StrP x y
theorem PairP.mono {nw nw' : List (Addr × Obj)} {v : Value} (h : PairP nw v) (k : ∀ q ∈ nw, q ∈ nw') : PairP nw' v := by
  obtain ⟨a, x, y, t, u, n, e, m, r⟩ := h
  exact ⟨a, x, y, t, u, n, e, k _ m, r⟩
theorem name_3 {h₀ h : Heap} {L l t1 t2 : Addr} {v1 v2 : Value} {k : Nat} {o1 o2 : Obj} {rest : List (Addr × Obj)} {G : Prop} (N : News h₀ L h ((l, W.listOf #[v1, v2] k) :: (t2, o2) :: (t1, o1) :: rest))
    (g : ∀ l' t1' t2', l' = l → t1' = t1 → t2' = t2 → News h₀ L h ((l', W.listOf [v1, v2].toArray k) :: (t2', o2) :: (t1', o1) :: rest) → G) : G := g _ _ _ rfl rfl rfl N
theorem law_f (nextH : ∀ (w : World) (p : Program) (loose : List Str) (mean : ExcName → Option Value) (mg mb : Str → Option Value) (fa : Addr) (cd : Value) (h₀ : Heap) (L : Addr) (u : Str → Option Value) (s : Shared) (h : Heap) (tk : Nat) (a : LArgs) (nw : List (Addr × Obj)) (lp : Addr) (pv : List Value) (kp : Nat),
    Below callerA h₀ [] h₀ → Fr h₀ L h (kstB u [("numbers", .ref a.lnum), ("pairs", .ref lp)]) → (Mine.hd.heap_39 w.params).In h₀ → Top p loose mean mg mb h₀ →
    News h₀ L h nw → LawF w L a nw → (lp, W.listOf pv.toArray kp) ∈ nw → (∀ v ∈ pv, PairP nw v) → pv.length ≤ 1000 →
    LawRest 14 w fa cd h₀ L s h tk)
    (w : World) (p : Program) (loose : List Str) (mean : ExcName → Option Value) (mg mb : Str → Option Value) (fa : Addr) (cd : Value) (h₀ : Heap) (L : Addr) (u : Str → Option Value) (s : Shared) (h : Heap) (tk : Nat) (a : LArgs) (t3 : Tok) (nw : List (Addr × Obj)) (l hh : Nat)
    (hB : Below callerA h₀ [] h₀) (hF : Fr h₀ L h (kstB u [("numbers", .ref a.lnum), ("records", .ref a.lrec), ("less", .str (lessF a.ag a.dl a.rows l hh) t3)])) (hX : (Mine.hd.heap_39 w.params).In h₀) (hT : Top p loose mean mg mb h₀)
    (hN : News h₀ L h nw) (hL : LawF w L a nw) (hlh : l ≤ hh) (hhl : hh ≤ a.ag.length) : LawRest 13 w fa cd h₀ L s h tk := by
  unfold LawRest at nextH ⊢
  dsimp only [lawOf, List.drop] at nextH ⊢
  dsimp only [kstB] at hF
  have G := hL.hG
  have htl := hL.ht.len_eq
  rw [List.length_map, accF_len] at htl
  have mT := hL.mT
  have dT := hL.dT
  have htx := hL.htx
  (try k_fold)
  refine execs_cons' ?_
  (repeat' (first | (k_unfold; first | walk_at "Seq" | (try dsimp only)) | ((fail_if_success ((first | with_reducible show wpAny _ _ (eval (PySem.Expr.ListComp _ _ _ _) _) _ _ _ | with_reducible show wpAny _ _ (call (Value.ref _) _) _ _ _ | with_reducible show wpAny _ _ (call (Value.type "str") _) _ _ _ | with_reducible show wpAny _ _ (call (Value.builtin "len") _) _ _ _ | with_reducible show wpAny _ _ (call (Value.builtin "sum") _) _ _ _ | with_reducible show wpAny _ _ (compareOp CmpOp.NotEq _ _) _ _ _ | with_reducible show wpAny _ _ (binaryOp Operator.Add (Value.ref _) (Value.ref _)) _ _ _ | with_reducible show wpAny _ _ (subscriptTail _ (PySem.Expr.UnaryOp _ _ _) (Value.ref _) _) _ _ _ | with_reducible show wpAny _ _ (subscriptTail _ (PySem.Expr.Name _ _) (Value.ref _) _) _ _ _ | with_reducible show wpAny _ _ (subscriptTail _ (PySem.Expr.Slice _ _ _ _) _ _) _ _ _ | with_reducible show wpAny _ _ (execs (PySem.Stmt.If _ _ _ _ :: _) _) _ _ _ | with_reducible show wpAny _ _ (exec (PySem.Stmt.While _ _ _ _) _) _ _ _ | with_reducible show wpAny _ _ (exec (PySem.Stmt.For _ _ _ _ _) _) _ _ _ | with_reducible show wpAny _ _ (pyIter _) _ _ _ | with_reducible show wpAny _ _ (call (Value.type "list") _) _ _ _ | with_reducible show wpAny _ _ (call (Value.builtin "str.join") _) _ _ _ | with_reducible show wpAny _ _ (eval (PySem.Expr.ListComp _ [PySem.Comprehension.mk (PySem.Expr.Tuple _ _ _) _ _ _] _ _) _) _ _ _ | with_reducible show LCg.CompSrc _ _ _ _ _ _ _ _ _ _ _ _ _ _ | with_reducible show wpAny _ _ (execs (PySem.Stmt.If (PySem.Expr.Compare _ [CmpOp.Lt] _ _) [PySem.Stmt.Assign [PySem.Expr.Tuple _ _ _] _ _] _ _ :: _) _) _ _ _))); first | (k_end; wrow_close) | walk1 | (dsimp only; walk1) | (leave1; walk_say "STEP leave1"; try dsimp only) | fail "no step")))
  refine listComp_2 (n := a.tv.length) (F₀ := by k_asm) rfl (by with_unfolding_all rfl) (by decide) (by rfl) (by decide) (by rfl) (by rfl) (by decide) (by have := G.rows3; omega)
    (fun i k ys n1 => (∀ q ∈ nw, q ∈ n1) ∧ (∀ v ∈ ys, PairP n1 v) ∧ ys.length ≤ 10 * i + k ∧ i ≤ 3 ∧ k ≤ i) nw ?j0 ?first ?iter ?turn ?up ?len ?fin
  case j0 =>
    show (∀ q ∈ nw, q ∈ nw) ∧ (∀ v ∈ ([] : List Value), PairP nw v) ∧ ([] : List Value).length ≤ 10 * 0 + 0 ∧ 0 ≤ 3 ∧ 0 ≤ 0
    exact ⟨fun q hq => hq, fun v hv => by simp at hv, Nat.zero_le _, by decide, Nat.le_refl _⟩
  case first =>
    (repeat' (first | (k_unfold; first | walk_at "Seq" | (try dsimp only)) | ((fail_if_success ((first | with_reducible show wpAny _ _ (eval (PySem.Expr.ListComp _ _ _ _) _) _ _ _ | with_reducible show wpAny _ _ (call (Value.ref _) _) _ _ _ | with_reducible show wpAny _ _ (call (Value.type "str") _) _ _ _ | with_reducible show wpAny _ _ (call (Value.builtin "len") _) _ _ _ | with_reducible show wpAny _ _ (call (Value.builtin "sum") _) _ _ _ | with_reducible show wpAny _ _ (compareOp CmpOp.NotEq _ _) _ _ _ | with_reducible show wpAny _ _ (binaryOp Operator.Add (Value.ref _) (Value.ref _)) _ _ _ | with_reducible show wpAny _ _ (subscriptTail _ (PySem.Expr.UnaryOp _ _ _) (Value.ref _) _) _ _ _ | with_reducible show wpAny _ _ (subscriptTail _ (PySem.Expr.Name _ _) (Value.ref _) _) _ _ _ | with_reducible show wpAny _ _ (subscriptTail _ (PySem.Expr.Slice _ _ _ _) _ _) _ _ _ | with_reducible show wpAny _ _ (execs (PySem.Stmt.If _ _ _ _ :: _) _) _ _ _ | with_reducible show wpAny _ _ (exec (PySem.Stmt.While _ _ _ _) _) _ _ _ | with_reducible show wpAny _ _ (exec (PySem.Stmt.For _ _ _ _ _) _) _ _ _ | with_reducible show wpAny _ _ (pyIter _) _ _ _ | with_reducible show wpAny _ _ (call (Value.type "list") _) _ _ _ | with_reducible show wpAny _ _ (call (Value.builtin "str.join") _) _ _ _ | with_reducible show wpAny _ _ (eval (PySem.Expr.ListComp _ [PySem.Comprehension.mk (PySem.Expr.Tuple _ _ _) _ _ _] _ _) _) _ _ _ | with_reducible show LCg.CompSrc _ _ _ _ _ _ _ _ _ _ _ _ _ _ | with_reducible show wpAny _ _ (execs (PySem.Stmt.If (PySem.Expr.Compare _ [CmpOp.Lt] _ _) [PySem.Stmt.Assign [PySem.Expr.Tuple _ _ _] _ _] _ _ :: _) _) _ _ _))); first | (k_end; wrow_close) | walk1 | (dsimp only; walk1) | (leave1; walk_say "STEP leave1"; try dsimp only) | fail "no step")))
    refine len_led hN htx rfl (by have := G.rows3; omega) ?_
    (repeat' (first | (k_unfold; first | walk_at "Seq" | (try dsimp only)) | ((fail_if_success ((first | with_reducible show wpAny _ _ (eval (PySem.Expr.ListComp _ _ _ _) _) _ _ _ | with_reducible show wpAny _ _ (call (Value.ref _) _) _ _ _ | with_reducible show wpAny _ _ (call (Value.type "str") _) _ _ _ | with_reducible show wpAny _ _ (call (Value.builtin "len") _) _ _ _ | with_reducible show wpAny _ _ (call (Value.builtin "sum") _) _ _ _ | with_reducible show wpAny _ _ (compareOp CmpOp.NotEq _ _) _ _ _ | with_reducible show wpAny _ _ (binaryOp Operator.Add (Value.ref _) (Value.ref _)) _ _ _ | with_reducible show wpAny _ _ (subscriptTail _ (PySem.Expr.UnaryOp _ _ _) (Value.ref _) _) _ _ _ | with_reducible show wpAny _ _ (subscriptTail _ (PySem.Expr.Name _ _) (Value.ref _) _) _ _ _ | with_reducible show wpAny _ _ (subscriptTail _ (PySem.Expr.Slice _ _ _ _) _ _) _ _ _ | with_reducible show wpAny _ _ (execs (PySem.Stmt.If _ _ _ _ :: _) _) _ _ _ | with_reducible show wpAny _ _ (exec (PySem.Stmt.While _ _ _ _) _) _ _ _ | with_reducible show wpAny _ _ (exec (PySem.Stmt.For _ _ _ _ _) _) _ _ _ | with_reducible show wpAny _ _ (pyIter _) _ _ _ | with_reducible show wpAny _ _ (call (Value.type "list") _) _ _ _ | with_reducible show wpAny _ _ (call (Value.builtin "str.join") _) _ _ _ | with_reducible show wpAny _ _ (eval (PySem.Expr.ListComp _ [PySem.Comprehension.mk (PySem.Expr.Tuple _ _ _) _ _ _] _ _) _) _ _ _ | with_reducible show LCg.CompSrc _ _ _ _ _ _ _ _ _ _ _ _ _ _ | with_reducible show wpAny _ _ (execs (PySem.Stmt.If (PySem.Expr.Compare _ [CmpOp.Lt] _ _) [PySem.Stmt.Assign [PySem.Expr.Tuple _ _ _] _ _] _ _ :: _) _) _ _ _))); first | (k_end; wrow_close) | walk1 | (dsimp only; walk1) | (leave1; walk_say "STEP leave1"; try dsimp only) | fail "no step")))
    (try dsimp only)
    exact RgEnd.intro (by k_asm) (by k_asm) (by assumption)
  case iter =>
    rintro i t I oI C oC D m₂ ys n1 h3 tk3 E' hi hJ hC hx1 F3 N3
    (repeat' (first | (k_unfold; first | walk_at "Seq" | (try dsimp only)) | ((fail_if_success ((first | with_reducible show wpAny _ _ (eval (PySem.Expr.ListComp _ _ _ _) _) _ _ _ | with_reducible show wpAny _ _ (call (Value.ref _) _) _ _ _ | with_reducible show wpAny _ _ (call (Value.type "str") _) _ _ _ | with_reducible show wpAny _ _ (call (Value.builtin "len") _) _ _ _ | with_reducible show wpAny _ _ (call (Value.builtin "sum") _) _ _ _ | with_reducible show wpAny _ _ (compareOp CmpOp.NotEq _ _) _ _ _ | with_reducible show wpAny _ _ (binaryOp Operator.Add (Value.ref _) (Value.ref _)) _ _ _ | with_reducible show wpAny _ _ (subscriptTail _ (PySem.Expr.UnaryOp _ _ _) (Value.ref _) _) _ _ _ | with_reducible show wpAny _ _ (subscriptTail _ (PySem.Expr.Name _ _) (Value.ref _) _) _ _ _ | with_reducible show wpAny _ _ (subscriptTail _ (PySem.Expr.Slice _ _ _ _) _ _) _ _ _ | with_reducible show wpAny _ _ (execs (PySem.Stmt.If _ _ _ _ :: _) _) _ _ _ | with_reducible show wpAny _ _ (exec (PySem.Stmt.While _ _ _ _) _) _ _ _ | with_reducible show wpAny _ _ (exec (PySem.Stmt.For _ _ _ _ _) _) _ _ _ | with_reducible show wpAny _ _ (pyIter _) _ _ _ | with_reducible show wpAny _ _ (call (Value.type "list") _) _ _ _ | with_reducible show wpAny _ _ (call (Value.builtin "str.join") _) _ _ _ | with_reducible show wpAny _ _ (eval (PySem.Expr.ListComp _ [PySem.Comprehension.mk (PySem.Expr.Tuple _ _ _) _ _ _] _ _) _) _ _ _ | with_reducible show LCg.CompSrc _ _ _ _ _ _ _ _ _ _ _ _ _ _ | with_reducible show wpAny _ _ (execs (PySem.Stmt.If (PySem.Expr.Compare _ [CmpOp.Lt] _ _) [PySem.Stmt.Assign [PySem.Expr.Tuple _ _ _] _ _] _ _ :: _) _) _ _ _))); first | (k_end; wrow_close) | walk1 | (dsimp only; walk1) | (leave1; walk_say "STEP leave1"; try dsimp only) | fail "no step")))
    (try dsimp only)
    exact RgEnd.intro (by k_asm) (by k_asm) (by assumption)
  case turn =>
    rintro i k t1 t2 I oI C oC D I2 oI2 m₂ ys n1 h3 tk3 E' hi hk ⟨hsub, hP, hyl, hi3, hki⟩ hC hx1 hx2 F3 N3
    have mT3 := hsub _ mT
    have item : ∀ j : Nat, j < a.tv.length → ∃ t, a.tv[j]? = some (.str (textOf a.ag a.dl ((a.rows.take (j + 1)).flatten)) t) := fun j hj => by
      obtain ⟨y, t, e1, e2⟩ := hL.ht.item j _ (List.getElem?_eq_getElem hj)
      rw [List.getElem?_map, accF_get (by omega)] at e2
      simp only [Option.map_some, Option.some.injEq] at e2
      rw [List.getElem?_eq_getElem hj, e1, e2]
      exact ⟨t, rfl⟩
    obtain ⟨ta, ea⟩ := item k (by omega)
    obtain ⟨tb, eb⟩ := item i hi
    have hs4 : ∀ q ∈ nw, q ∈ (I, oI) :: (C, oC) :: (D, LCg.lst ys) :: (I2, oI2) :: n1 := fun q hq => List.mem_cons_of_mem _ (List.mem_cons_of_mem _ (List.mem_cons_of_mem _ (List.mem_cons_of_mem _ (hsub q hq))))
    (repeat' (first | (k_unfold; first | walk_at "Seq" | (try dsimp only)) | ((fail_if_success ((first | with_reducible show wpAny _ _ (eval (PySem.Expr.ListComp _ _ _ _) _) _ _ _ | with_reducible show wpAny _ _ (call (Value.ref _) _) _ _ _ | with_reducible show wpAny _ _ (call (Value.type "str") _) _ _ _ | with_reducible show wpAny _ _ (call (Value.builtin "len") _) _ _ _ | with_reducible show wpAny _ _ (call (Value.builtin "sum") _) _ _ _ | with_reducible show wpAny _ _ (compareOp CmpOp.NotEq _ _) _ _ _ | with_reducible show wpAny _ _ (binaryOp Operator.Add (Value.ref _) (Value.ref _)) _ _ _ | with_reducible show wpAny _ _ (subscriptTail _ (PySem.Expr.UnaryOp _ _ _) (Value.ref _) _) _ _ _ | with_reducible show wpAny _ _ (subscriptTail _ (PySem.Expr.Name _ _) (Value.ref _) _) _ _ _ | with_reducible show wpAny _ _ (subscriptTail _ (PySem.Expr.Slice _ _ _ _) _ _) _ _ _ | with_reducible show wpAny _ _ (execs (PySem.Stmt.If _ _ _ _ :: _) _) _ _ _ | with_reducible show wpAny _ _ (exec (PySem.Stmt.While _ _ _ _) _) _ _ _ | with_reducible show wpAny _ _ (exec (PySem.Stmt.For _ _ _ _ _) _) _ _ _ | with_reducible show wpAny _ _ (pyIter _) _ _ _ | with_reducible show wpAny _ _ (call (Value.type "list") _) _ _ _ | with_reducible show wpAny _ _ (call (Value.builtin "str.join") _) _ _ _ | with_reducible show wpAny _ _ (eval (PySem.Expr.ListComp _ [PySem.Comprehension.mk (PySem.Expr.Tuple _ _ _) _ _ _] _ _) _) _ _ _ | with_reducible show LCg.CompSrc _ _ _ _ _ _ _ _ _ _ _ _ _ _ | with_reducible show wpAny _ _ (execs (PySem.Stmt.If (PySem.Expr.Compare _ [CmpOp.Lt] _ _) [PySem.Stmt.Assign [PySem.Expr.Tuple _ _ _] _ _] _ _ :: _) _) _ _ _))); first | (k_end; wrow_close) | walk1 | (dsimp only; walk1) | (leave1; walk_say "STEP leave1"; try dsimp only) | fail "no step")))
    refine item_led (show News _ _ _ ((I, oI) :: (C, oC) :: (D, LCg.lst ys) :: (I2, oI2) :: n1) by k_asm) (hs4 _ htx) (by omega) (by omega) (show a.tv.toArray[((k : Nat) : Int).toNat]? = some _ by rw [Int.toNat_natCast, List.getElem?_toArray]; exact ea) ?_
    (repeat' (first | (k_unfold; first | walk_at "Seq" | (try dsimp only)) | ((fail_if_success ((first | with_reducible show wpAny _ _ (eval (PySem.Expr.ListComp _ _ _ _) _) _ _ _ | with_reducible show wpAny _ _ (call (Value.ref _) _) _ _ _ | with_reducible show wpAny _ _ (call (Value.type "str") _) _ _ _ | with_reducible show wpAny _ _ (call (Value.builtin "len") _) _ _ _ | with_reducible show wpAny _ _ (call (Value.builtin "sum") _) _ _ _ | with_reducible show wpAny _ _ (compareOp CmpOp.NotEq _ _) _ _ _ | with_reducible show wpAny _ _ (binaryOp Operator.Add (Value.ref _) (Value.ref _)) _ _ _ | with_reducible show wpAny _ _ (subscriptTail _ (PySem.Expr.UnaryOp _ _ _) (Value.ref _) _) _ _ _ | with_reducible show wpAny _ _ (subscriptTail _ (PySem.Expr.Name _ _) (Value.ref _) _) _ _ _ | with_reducible show wpAny _ _ (subscriptTail _ (PySem.Expr.Slice _ _ _ _) _ _) _ _ _ | with_reducible show wpAny _ _ (execs (PySem.Stmt.If _ _ _ _ :: _) _) _ _ _ | with_reducible show wpAny _ _ (exec (PySem.Stmt.While _ _ _ _) _) _ _ _ | with_reducible show wpAny _ _ (exec (PySem.Stmt.For _ _ _ _ _) _) _ _ _ | with_reducible show wpAny _ _ (pyIter _) _ _ _ | with_reducible show wpAny _ _ (call (Value.type "list") _) _ _ _ | with_reducible show wpAny _ _ (call (Value.builtin "str.join") _) _ _ _ | with_reducible show wpAny _ _ (eval (PySem.Expr.ListComp _ [PySem.Comprehension.mk (PySem.Expr.Tuple _ _ _) _ _ _] _ _) _) _ _ _ | with_reducible show LCg.CompSrc _ _ _ _ _ _ _ _ _ _ _ _ _ _ | with_reducible show wpAny _ _ (execs (PySem.Stmt.If (PySem.Expr.Compare _ [CmpOp.Lt] _ _) [PySem.Stmt.Assign [PySem.Expr.Tuple _ _ _] _ _] _ _ :: _) _) _ _ _))); first | (k_end; wrow_close) | walk1 | (dsimp only; walk1) | (leave1; walk_say "STEP leave1"; try dsimp only) | fail "no step")))
    refine item_led (show News _ _ _ ((I, oI) :: (C, oC) :: (D, LCg.lst ys) :: (I2, oI2) :: n1) by k_asm) (hs4 _ htx) (by omega) (by omega) (show a.tv.toArray[((i : Nat) : Int).toNat]? = some _ by rw [Int.toNat_natCast, List.getElem?_toArray]; exact eb) ?_
    (repeat' (first | (k_unfold; first | walk_at "Seq" | (try dsimp only)) | ((fail_if_success ((first | with_reducible show wpAny _ _ (eval (PySem.Expr.ListComp _ _ _ _) _) _ _ _ | with_reducible show wpAny _ _ (call (Value.ref _) _) _ _ _ | with_reducible show wpAny _ _ (call (Value.type "str") _) _ _ _ | with_reducible show wpAny _ _ (call (Value.builtin "len") _) _ _ _ | with_reducible show wpAny _ _ (call (Value.builtin "sum") _) _ _ _ | with_reducible show wpAny _ _ (compareOp CmpOp.NotEq _ _) _ _ _ | with_reducible show wpAny _ _ (binaryOp Operator.Add (Value.ref _) (Value.ref _)) _ _ _ | with_reducible show wpAny _ _ (subscriptTail _ (PySem.Expr.UnaryOp _ _ _) (Value.ref _) _) _ _ _ | with_reducible show wpAny _ _ (subscriptTail _ (PySem.Expr.Name _ _) (Value.ref _) _) _ _ _ | with_reducible show wpAny _ _ (subscriptTail _ (PySem.Expr.Slice _ _ _ _) _ _) _ _ _ | with_reducible show wpAny _ _ (execs (PySem.Stmt.If _ _ _ _ :: _) _) _ _ _ | with_reducible show wpAny _ _ (exec (PySem.Stmt.While _ _ _ _) _) _ _ _ | with_reducible show wpAny _ _ (exec (PySem.Stmt.For _ _ _ _ _) _) _ _ _ | with_reducible show wpAny _ _ (pyIter _) _ _ _ | with_reducible show wpAny _ _ (call (Value.type "list") _) _ _ _ | with_reducible show wpAny _ _ (call (Value.builtin "str.join") _) _ _ _ | with_reducible show wpAny _ _ (eval (PySem.Expr.ListComp _ [PySem.Comprehension.mk (PySem.Expr.Tuple _ _ _) _ _ _] _ _) _) _ _ _ | with_reducible show LCg.CompSrc _ _ _ _ _ _ _ _ _ _ _ _ _ _ | with_reducible show wpAny _ _ (execs (PySem.Stmt.If (PySem.Expr.Compare _ [CmpOp.Lt] _ _) [PySem.Stmt.Assign [PySem.Expr.Tuple _ _ _] _ _] _ _ :: _) _) _ _ _))); first | (k_end; wrow_close) | walk1 | (dsimp only; walk1) | (leave1; walk_say "STEP leave1"; try dsimp only) | fail "no step")))
    (try dsimp only)
    rename (_ < _ ∧ _ < _ ∧ _ < _ ∧ _ < _ ∧ AllLt _ n1) => q1
    obtain ⟨p1, p2, p3, p4, p5⟩ := q1
    refine ElEnd.intro [(_, _)] (by k_asm) (show News _ _ _ ([(_, { cls := .type "tuple", data := .seq #[.str _ ta, .str _ tb] 0 })] ++ ((I, oI) :: (C, oC) :: (D, LCg.lst ys) :: (I2, oI2) :: n1)) by k_asm) (fun q hq => ?_) ⟨fun q hq => List.mem_append_right _ (hsub q hq), fun v hv => ?_, ?_, hi3, by omega⟩
    · rw [List.mem_singleton.mp hq]
      exact ⟨Nat.ne_of_gt p1, Nat.ne_of_gt p2, Nat.ne_of_gt p3, Nat.ne_of_gt p4⟩
    · rcases List.mem_append.mp hv with hv | hv
      · exact (hP v hv).mono fun q hq => List.mem_append_right _ hq
      · rw [List.mem_singleton.mp hv]
        exact ⟨_, _, _, ta, tb, 0, rfl, List.mem_append_left _ List.mem_cons_self, pair_texts G hk (by omega)⟩
    · rw [List.length_append, List.length_singleton]
      omega
  case up => rintro i ys n1 hi ⟨a, b, c, d, e⟩; have := G.rows3; exact ⟨a, b, by omega, by omega, by omega⟩
  case len => rintro i k ys n1 ⟨a, b, c, d, e⟩; omega
  case fin =>
    rintro ys n1 D h5 tk5 ⟨hsub, hP, hyl, hi3, _⟩ F5 N5 o5
    obtain ⟨pre, hpre⟩ := accF_last G.rows1
    have ht := hL.ht
    rw [hpre, List.map_append, List.map_cons, List.map_nil] at ht
    obtain ⟨ts, tt, etv, hts⟩ := StrsAre.snoc_inv ht
    obtain ⟨rpre, dx, r, prev, hrecs, hflat, hrm, hdx⟩ := recs_last (dl := a.dl) G.rows1
    have hA := hL.hA
    rw [hrecs] at hA
    obtain ⟨rs, rx, erv, hrs, hrx⟩ := All2.snoc_inv hA
    dsimp only at hrx
    have htx1 := hL.htx
    have hrec1 := hL.hrec
    rw [etv] at htx1
    rw [erv] at hrec1
    have hpl := pair_less G hlh hhl
    have hpr := pair_rec G hflat hrm hdx
    have hxd := rec_del hdx G.dl100
    have rf := row_facts G hrm
    obtain ⟨T, eT⟩ : ∃ T, T = textOf a.ag a.dl a.rows.flatten := ⟨_, rfl⟩
    rw [← eT] at htx1 hpl hpr
    obtain ⟨n2, en2⟩ : ∃ z, z = (D, LCg.lst ys) :: n1 := ⟨_, rfl⟩
    have hs2 : ∀ q ∈ nw, q ∈ n2 := fun q hq => by rw [en2]; exact List.mem_cons_of_mem _ (hsub q hq)
    have hD2 : (D, W.listOf ys.toArray ys.length) ∈ n2 := by rw [en2]; exact List.mem_cons_self
    have hP2 : ∀ v ∈ ys, PairP n2 v := fun v hv => (hP v hv).mono fun q hq => by rw [en2]; exact List.mem_cons_of_mem _ hq
    rw [← en2] at N5
    clear en2 hP hsub o5
    have mT2 := hs2 _ mT
    have htx2 := hs2 _ htx1
    have hrec2 := hs2 _ hrec1
    have hrx2 := hrx.mono hs2
    obtain ⟨_, d1, l11, l12, u11, u12, u13, u14, w1, w2, k11, k12, dv1, e9, m11, m12, m13, m14, _⟩ := id hrx2
    cases e9
    k_sweep
    (repeat' (first | (k_unfold; first | walk_at "Seq" | (try dsimp only)) | ((fail_if_success ((first | with_reducible show wpAny _ _ (eval (PySem.Expr.ListComp _ _ _ _) _) _ _ _ | with_reducible show wpAny _ _ (call (Value.ref _) _) _ _ _ | with_reducible show wpAny _ _ (call (Value.type "str") _) _ _ _ | with_reducible show wpAny _ _ (call (Value.builtin "len") _) _ _ _ | with_reducible show wpAny _ _ (call (Value.builtin "sum") _) _ _ _ | with_reducible show wpAny _ _ (compareOp CmpOp.NotEq _ _) _ _ _ | with_reducible show wpAny _ _ (binaryOp Operator.Add (Value.ref _) (Value.ref _)) _ _ _ | with_reducible show wpAny _ _ (subscriptTail _ (PySem.Expr.UnaryOp _ _ _) (Value.ref _) _) _ _ _ | with_reducible show wpAny _ _ (subscriptTail _ (PySem.Expr.Name _ _) (Value.ref _) _) _ _ _ | with_reducible show wpAny _ _ (subscriptTail _ (PySem.Expr.Slice _ _ _ _) _ _) _ _ _ | with_reducible show wpAny _ _ (execs (PySem.Stmt.If _ _ _ _ :: _) _) _ _ _ | with_reducible show wpAny _ _ (exec (PySem.Stmt.While _ _ _ _) _) _ _ _ | with_reducible show wpAny _ _ (exec (PySem.Stmt.For _ _ _ _ _) _) _ _ _ | with_reducible show wpAny _ _ (pyIter _) _ _ _ | with_reducible show wpAny _ _ (call (Value.type "list") _) _ _ _ | with_reducible show wpAny _ _ (call (Value.builtin "str.join") _) _ _ _ | with_reducible show wpAny _ _ (eval (PySem.Expr.ListComp _ [PySem.Comprehension.mk (PySem.Expr.Tuple _ _ _) _ _ _] _ _) _) _ _ _ | with_reducible show LCg.CompSrc _ _ _ _ _ _ _ _ _ _ _ _ _ _ | with_reducible show wpAny _ _ (execs (PySem.Stmt.If (PySem.Expr.Compare _ [CmpOp.Lt] _ _) [PySem.Stmt.Assign [PySem.Expr.Tuple _ _ _] _ _] _ _ :: _) _) _ _ _))); first | (k_end; wrow_close) | walk1 | (dsimp only; walk1) | (leave1; walk_say "STEP leave1"; try dsimp only) | fail "no step")))
    refine item_last rfl N5 htx2 ?_
    (repeat' (first | (k_unfold; first | walk_at "Seq" | (try dsimp only)) | ((fail_if_success ((first | with_reducible show wpAny _ _ (eval (PySem.Expr.ListComp _ _ _ _) _) _ _ _ | with_reducible show wpAny _ _ (call (Value.ref _) _) _ _ _ | with_reducible show wpAny _ _ (call (Value.type "str") _) _ _ _ | with_reducible show wpAny _ _ (call (Value.builtin "len") _) _ _ _ | with_reducible show wpAny _ _ (call (Value.builtin "sum") _) _ _ _ | with_reducible show wpAny _ _ (compareOp CmpOp.NotEq _ _) _ _ _ | with_reducible show wpAny _ _ (binaryOp Operator.Add (Value.ref _) (Value.ref _)) _ _ _ | with_reducible show wpAny _ _ (subscriptTail _ (PySem.Expr.UnaryOp _ _ _) (Value.ref _) _) _ _ _ | with_reducible show wpAny _ _ (subscriptTail _ (PySem.Expr.Name _ _) (Value.ref _) _) _ _ _ | with_reducible show wpAny _ _ (subscriptTail _ (PySem.Expr.Slice _ _ _ _) _ _) _ _ _ | with_reducible show wpAny _ _ (execs (PySem.Stmt.If _ _ _ _ :: _) _) _ _ _ | with_reducible show wpAny _ _ (exec (PySem.Stmt.While _ _ _ _) _) _ _ _ | with_reducible show wpAny _ _ (exec (PySem.Stmt.For _ _ _ _ _) _) _ _ _ | with_reducible show wpAny _ _ (pyIter _) _ _ _ | with_reducible show wpAny _ _ (call (Value.type "list") _) _ _ _ | with_reducible show wpAny _ _ (call (Value.builtin "str.join") _) _ _ _ | with_reducible show wpAny _ _ (eval (PySem.Expr.ListComp _ [PySem.Comprehension.mk (PySem.Expr.Tuple _ _ _) _ _ _] _ _) _) _ _ _ | with_reducible show LCg.CompSrc _ _ _ _ _ _ _ _ _ _ _ _ _ _ | with_reducible show wpAny _ _ (execs (PySem.Stmt.If (PySem.Expr.Compare _ [CmpOp.Lt] _ _) [PySem.Stmt.Assign [PySem.Expr.Tuple _ _ _] _ _] _ _ :: _) _) _ _ _))); first | (k_end; wrow_close) | walk1 | (dsimp only; walk1) | (leave1; walk_say "STEP leave1"; try dsimp only) | fail "no step")))
    refine item_last rfl (show News _ _ _ (_ :: n2) by k_asm) (List.mem_cons_of_mem _ hrec2) ?_
    (repeat' (first | (k_unfold; first | walk_at "Seq" | (try dsimp only)) | ((fail_if_success ((first | with_reducible show wpAny _ _ (eval (PySem.Expr.ListComp _ _ _ _) _) _ _ _ | with_reducible show wpAny _ _ (call (Value.ref _) _) _ _ _ | with_reducible show wpAny _ _ (call (Value.type "str") _) _ _ _ | with_reducible show wpAny _ _ (call (Value.builtin "len") _) _ _ _ | with_reducible show wpAny _ _ (call (Value.builtin "sum") _) _ _ _ | with_reducible show wpAny _ _ (compareOp CmpOp.NotEq _ _) _ _ _ | with_reducible show wpAny _ _ (binaryOp Operator.Add (Value.ref _) (Value.ref _)) _ _ _ | with_reducible show wpAny _ _ (subscriptTail _ (PySem.Expr.UnaryOp _ _ _) (Value.ref _) _) _ _ _ | with_reducible show wpAny _ _ (subscriptTail _ (PySem.Expr.Name _ _) (Value.ref _) _) _ _ _ | with_reducible show wpAny _ _ (subscriptTail _ (PySem.Expr.Slice _ _ _ _) _ _) _ _ _ | with_reducible show wpAny _ _ (execs (PySem.Stmt.If _ _ _ _ :: _) _) _ _ _ | with_reducible show wpAny _ _ (exec (PySem.Stmt.While _ _ _ _) _) _ _ _ | with_reducible show wpAny _ _ (exec (PySem.Stmt.For _ _ _ _ _) _) _ _ _ | with_reducible show wpAny _ _ (pyIter _) _ _ _ | with_reducible show wpAny _ _ (call (Value.type "list") _) _ _ _ | with_reducible show wpAny _ _ (call (Value.builtin "str.join") _) _ _ _ | with_reducible show wpAny _ _ (eval (PySem.Expr.ListComp _ [PySem.Comprehension.mk (PySem.Expr.Tuple _ _ _) _ _ _] _ _) _) _ _ _ | with_reducible show LCg.CompSrc _ _ _ _ _ _ _ _ _ _ _ _ _ _ | with_reducible show wpAny _ _ (execs (PySem.Stmt.If (PySem.Expr.Compare _ [CmpOp.Lt] _ _) [PySem.Stmt.Assign [PySem.Expr.Tuple _ _ _] _ _] _ _ :: _) _) _ _ _))); first | (k_end; wrow_close) | walk1 | (dsimp only; walk1) | (leave1; walk_say "STEP leave1"; try dsimp only) | fail "no step")))
    (k_dflt (refine' kso_call ?k1 ?k2 ?k3 ?k4 ?k5 ?_; (case k1 => k_units); (case k2 => k_in); (case k3 => k_inst); (case k4 => k_is); (case k5 => k_is); k_whole))
    refine' Claim.use ?k1 ?k2 ?k3 (show News _ _ _ (_ :: n2) by k_asm) ?k5 ?kK (str_c (hrx2.mono fun q hq => List.mem_cons_of_mem _ hq) (by have := G.ag3; omega) (by omega) (fun x hx => Nat.le_trans (G.agl x hx) (by decide)) (fun x hx => Nat.le_trans (rf.2.2 x hx).1 (by decide)) hxd) ?kd ?ku ?_
    case k1 => k_asm
    case k2 => k_asm
    case k3 => k_asm
    case k5 => k_asm
    case kK => rfl
    case kd => exact Nat.le_of_ble_eq_true rfl
    case ku => exact Nat.le_of_ble_eq_true rfl
    intro t6 h6 tk6 F6 N6
    refine strback ?_
    (try dsimp only)
    k_sweep
    (repeat' (first | (k_unfold; first | walk_at "Seq" | (try dsimp only)) | ((fail_if_success ((first | with_reducible show wpAny _ _ (eval (PySem.Expr.ListComp _ _ _ _) _) _ _ _ | with_reducible show wpAny _ _ (call (Value.ref _) _) _ _ _ | with_reducible show wpAny _ _ (call (Value.type "str") _) _ _ _ | with_reducible show wpAny _ _ (call (Value.builtin "len") _) _ _ _ | with_reducible show wpAny _ _ (call (Value.builtin "sum") _) _ _ _ | with_reducible show wpAny _ _ (compareOp CmpOp.NotEq _ _) _ _ _ | with_reducible show wpAny _ _ (binaryOp Operator.Add (Value.ref _) (Value.ref _)) _ _ _ | with_reducible show wpAny _ _ (subscriptTail _ (PySem.Expr.UnaryOp _ _ _) (Value.ref _) _) _ _ _ | with_reducible show wpAny _ _ (subscriptTail _ (PySem.Expr.Name _ _) (Value.ref _) _) _ _ _ | with_reducible show wpAny _ _ (subscriptTail _ (PySem.Expr.Slice _ _ _ _) _ _) _ _ _ | with_reducible show wpAny _ _ (execs (PySem.Stmt.If _ _ _ _ :: _) _) _ _ _ | with_reducible show wpAny _ _ (exec (PySem.Stmt.While _ _ _ _) _) _ _ _ | with_reducible show wpAny _ _ (exec (PySem.Stmt.For _ _ _ _ _) _) _ _ _ | with_reducible show wpAny _ _ (pyIter _) _ _ _ | with_reducible show wpAny _ _ (call (Value.type "list") _) _ _ _ | with_reducible show wpAny _ _ (call (Value.builtin "str.join") _) _ _ _ | with_reducible show wpAny _ _ (eval (PySem.Expr.ListComp _ [PySem.Comprehension.mk (PySem.Expr.Tuple _ _ _) _ _ _] _ _) _) _ _ _ | with_reducible show LCg.CompSrc _ _ _ _ _ _ _ _ _ _ _ _ _ _ | with_reducible show wpAny _ _ (execs (PySem.Stmt.If (PySem.Expr.Compare _ [CmpOp.Lt] _ _) [PySem.Stmt.Assign [PySem.Expr.Tuple _ _ _] _ _] _ _ :: _) _) _ _ _))); first | (k_end; wrow_close) | walk1 | (dsimp only; walk1) | (leave1; walk_say "STEP leave1"; try dsimp only) | fail "no step")))
    refine item_last rfl (show News _ _ _ (_ :: n2) by k_asm) (List.mem_cons_of_mem _ htx2) ?_
    (repeat' (first | (k_unfold; first | walk_at "Seq" | (try dsimp only)) | ((fail_if_success ((first | with_reducible show wpAny _ _ (eval (PySem.Expr.ListComp _ _ _ _) _) _ _ _ | with_reducible show wpAny _ _ (call (Value.ref _) _) _ _ _ | with_reducible show wpAny _ _ (call (Value.type "str") _) _ _ _ | with_reducible show wpAny _ _ (call (Value.builtin "len") _) _ _ _ | with_reducible show wpAny _ _ (call (Value.builtin "sum") _) _ _ _ | with_reducible show wpAny _ _ (compareOp CmpOp.NotEq _ _) _ _ _ | with_reducible show wpAny _ _ (binaryOp Operator.Add (Value.ref _) (Value.ref _)) _ _ _ | with_reducible show wpAny _ _ (subscriptTail _ (PySem.Expr.UnaryOp _ _ _) (Value.ref _) _) _ _ _ | with_reducible show wpAny _ _ (subscriptTail _ (PySem.Expr.Name _ _) (Value.ref _) _) _ _ _ | with_reducible show wpAny _ _ (subscriptTail _ (PySem.Expr.Slice _ _ _ _) _ _) _ _ _ | with_reducible show wpAny _ _ (execs (PySem.Stmt.If _ _ _ _ :: _) _) _ _ _ | with_reducible show wpAny _ _ (exec (PySem.Stmt.While _ _ _ _) _) _ _ _ | with_reducible show wpAny _ _ (exec (PySem.Stmt.For _ _ _ _ _) _) _ _ _ | with_reducible show wpAny _ _ (pyIter _) _ _ _ | with_reducible show wpAny _ _ (call (Value.type "list") _) _ _ _ | with_reducible show wpAny _ _ (call (Value.builtin "str.join") _) _ _ _ | with_reducible show wpAny _ _ (eval (PySem.Expr.ListComp _ [PySem.Comprehension.mk (PySem.Expr.Tuple _ _ _) _ _ _] _ _) _) _ _ _ | with_reducible show LCg.CompSrc _ _ _ _ _ _ _ _ _ _ _ _ _ _ | with_reducible show wpAny _ _ (execs (PySem.Stmt.If (PySem.Expr.Compare _ [CmpOp.Lt] _ _) [PySem.Stmt.Assign [PySem.Expr.Tuple _ _ _] _ _] _ _ :: _) _) _ _ _))); first | (k_end; wrow_close) | walk1 | (dsimp only; walk1) | (leave1; walk_say "STEP leave1"; try dsimp only) | fail "no step")))
    refine name_3 (show News _ _ _ ((_, W.listOf #[_, _] 0) :: (_, { cls := .type "tuple", data := .seq #[.str (strF a.ag dx r) t6, .str T tt] 0 }) :: (_, { cls := .type "tuple", data := .seq #[.str (lessF a.ag a.dl a.rows l hh) t3, .str T tt] 0 }) :: n2) by k_asm) ?_
    intro l7 T1 T2 e1 e2 e3 N7
    subst e1 e2 e3
    refine kmk_add_lit (its := ys.toArray) (its2 := [Value.ref T1, Value.ref T2].toArray) (zs := ys ++ [.ref T1, .ref T2]) (by k_asm) N7 (isl N7 (List.mem_cons_of_mem _ (List.mem_cons_of_mem _ (List.mem_cons_of_mem _ hD2)))) (isl N7 List.mem_cons_self) rfl ?_ (by
      rw [sizeLine_eq]
      show ys.length + 2 ≤ _
      have := G.rows3
      omega)
    intro D8 h8 F8 N8 _
    k_sweep
    (repeat' (first | (k_unfold; first | walk_at "Seq" | (try dsimp only)) | ((fail_if_success ((first | with_reducible show wpAny _ _ (eval (PySem.Expr.ListComp _ _ _ _) _) _ _ _ | with_reducible show wpAny _ _ (call (Value.ref _) _) _ _ _ | with_reducible show wpAny _ _ (call (Value.type "str") _) _ _ _ | with_reducible show wpAny _ _ (call (Value.builtin "len") _) _ _ _ | with_reducible show wpAny _ _ (call (Value.builtin "sum") _) _ _ _ | with_reducible show wpAny _ _ (compareOp CmpOp.NotEq _ _) _ _ _ | with_reducible show wpAny _ _ (binaryOp Operator.Add (Value.ref _) (Value.ref _)) _ _ _ | with_reducible show wpAny _ _ (subscriptTail _ (PySem.Expr.UnaryOp _ _ _) (Value.ref _) _) _ _ _ | with_reducible show wpAny _ _ (subscriptTail _ (PySem.Expr.Name _ _) (Value.ref _) _) _ _ _ | with_reducible show wpAny _ _ (subscriptTail _ (PySem.Expr.Slice _ _ _ _) _ _) _ _ _ | with_reducible show wpAny _ _ (execs (PySem.Stmt.If _ _ _ _ :: _) _) _ _ _ | with_reducible show wpAny _ _ (exec (PySem.Stmt.While _ _ _ _) _) _ _ _ | with_reducible show wpAny _ _ (exec (PySem.Stmt.For _ _ _ _ _) _) _ _ _ | with_reducible show wpAny _ _ (pyIter _) _ _ _ | with_reducible show wpAny _ _ (call (Value.type "list") _) _ _ _ | with_reducible show wpAny _ _ (call (Value.builtin "str.join") _) _ _ _ | with_reducible show wpAny _ _ (eval (PySem.Expr.ListComp _ [PySem.Comprehension.mk (PySem.Expr.Tuple _ _ _) _ _ _] _ _) _) _ _ _ | with_reducible show LCg.CompSrc _ _ _ _ _ _ _ _ _ _ _ _ _ _ | with_reducible show wpAny _ _ (execs (PySem.Stmt.If (PySem.Expr.Compare _ [CmpOp.Lt] _ _) [PySem.Stmt.Assign [PySem.Expr.Tuple _ _ _] _ _] _ _ :: _) _) _ _ _))); first | (k_end; wrow_close) | walk1 | (dsimp only; walk1) | (leave1; walk_say "STEP leave1"; try dsimp only) | fail "no step")))
    (try dsimp only)
    have hs8 : ∀ q ∈ n2, q ∈ (D8, W.listOf (ys ++ [Value.ref T1, Value.ref T2]).toArray 0) :: (l7, W.listOf [Value.ref T1, Value.ref T2].toArray 0) :: (T2, { cls := .type "tuple", data := .seq #[.str (strF a.ag dx r) t6, .str T tt] 0 }) :: (T1, { cls := .type "tuple", data := .seq #[.str (lessF a.ag a.dl a.rows l hh) t3, .str T tt] 0 }) :: n2 := fun q hq => List.mem_cons_of_mem _ (List.mem_cons_of_mem _ (List.mem_cons_of_mem _ (List.mem_cons_of_mem _ hq)))
    exact nextH w p loose mean mg mb fa cd h₀ L _ s _ _ a _ D8 (ys ++ [.ref T1, .ref T2]) 0 hB (fr_ps (by k_asm) (ps_cons rfl (ps_cons rfl ps_nil))) (by k_asm) hT (by k_asm) (hL.mono fun q hq => hs8 q (hs2 q hq)) List.mem_cons_self (fun v hv => by
      rcases List.mem_append.mp hv with hv | hv
      · exact (hP2 v hv).mono hs8
      · simp only [List.mem_cons, List.not_mem_nil, or_false] at hv
        rcases hv with rfl | rfl
        · exact ⟨T1, _, _, t3, tt, 0, rfl, List.mem_cons_of_mem _ (List.mem_cons_of_mem _ (List.mem_cons_of_mem _ List.mem_cons_self)), hpl⟩
        · exact ⟨T2, _, _, t6, tt, 0, rfl, List.mem_cons_of_mem _ (List.mem_cons_of_mem _ List.mem_cons_self), hpr⟩) (by rw [List.length_append]; simp only [List.length_cons, List.length_nil]; have := G.rows3; omega)
end
end

section
open PySem PySem.W PyProof.Rows
section
theorem str_eta (x : Str) : (⟨x.cps.toList.toArray⟩ : Str) = x := by cases x; simp
theorem newC_mem (x : Int) (n c : Nat) : newC x n c ∈ [36, swapC c] := by unfold newC; split <;> simp
theorem text_ne {ag ru : List Str} {dl : Option Int} (h1 : 1 ≤ ag.length) : (textOf ag dl ru).cps.toList ≠ [] := by
  unfold textOf
  rw [txt_join, show Str.ofString "\n" = nl from rfl, join_toList]
  cases ag with
  | nil => simp at h1
  | cons a as =>
    have : (agentLine a).cps.toList ≠ [] := by
      unfold agentLine
      rw [Str.cps_append, Array.toList_append]
      intro e
      have e2 := (List.append_eq_nil_iff.mp e).1
      exact absurd e2 (by decide +kernel)
    exact jl_ne this _
theorem law_g (w : World) (p : Program) (loose : List Str) (mean : ExcName → Option Value) (mg mb : Str → Option Value) (fa : Addr) (cd : Value) (h₀ : Heap) (L : Addr) (u : Str → Option Value) (s : Shared) (h : Heap) (tk : Nat) (a : LArgs) (nw : List (Addr × Obj)) (lp : Addr) (pv : List Value) (kp : Nat)
    (hB : Below callerA h₀ [] h₀) (hF : Fr h₀ L h (kstB u [("numbers", .ref a.lnum), ("pairs", .ref lp)])) (hX : (Mine.hd.heap_39 w.params).In h₀) (hT : Top p loose mean mg mb h₀)
    (hN : News h₀ L h nw) (hL : LawF w L a nw) (hp : (lp, W.listOf pv.toArray kp) ∈ nw) (hP : ∀ v ∈ pv, PairP nw v) (hpl : pv.length ≤ 1000) : LawRest 14 w fa cd h₀ L s h tk := by
  unfold LawRest
  dsimp only [lawOf, List.drop]
  dsimp only [kstB] at hF
  have G := hL.hG
  have mB := hL.mB
  have dB := hL.dB
  have mT := hL.mT
  have dT := hL.dT
  (try k_fold)
  refine execs_cons' ?_
  (repeat' (first | (k_unfold; first | walk_at "Seq" | (try dsimp only)) | ((fail_if_success ((first | with_reducible show wpAny _ _ (eval (PySem.Expr.ListComp _ _ _ _) _) _ _ _ | with_reducible show wpAny _ _ (call (Value.ref _) _) _ _ _ | with_reducible show wpAny _ _ (call (Value.type "str") _) _ _ _ | with_reducible show wpAny _ _ (call (Value.builtin "len") _) _ _ _ | with_reducible show wpAny _ _ (call (Value.builtin "sum") _) _ _ _ | with_reducible show wpAny _ _ (compareOp CmpOp.NotEq _ _) _ _ _ | with_reducible show wpAny _ _ (binaryOp Operator.Add (Value.ref _) (Value.ref _)) _ _ _ | with_reducible show wpAny _ _ (subscriptTail _ (PySem.Expr.UnaryOp _ _ _) (Value.ref _) _) _ _ _ | with_reducible show wpAny _ _ (subscriptTail _ (PySem.Expr.Name _ _) (Value.ref _) _) _ _ _ | with_reducible show wpAny _ _ (subscriptTail _ (PySem.Expr.Slice _ _ _ _) _ _) _ _ _ | with_reducible show wpAny _ _ (execs (PySem.Stmt.If _ _ _ _ :: _) _) _ _ _ | with_reducible show wpAny _ _ (exec (PySem.Stmt.While _ _ _ _) _) _ _ _ | with_reducible show wpAny _ _ (exec (PySem.Stmt.For _ _ _ _ _) _) _ _ _ | with_reducible show wpAny _ _ (pyIter _) _ _ _ | with_reducible show wpAny _ _ (call (Value.type "list") _) _ _ _ | with_reducible show wpAny _ _ (call (Value.builtin "str.join") _) _ _ _ | with_reducible show wpAny _ _ (eval (PySem.Expr.ListComp _ [PySem.Comprehension.mk (PySem.Expr.Tuple _ _ _) _ _ _] _ _) _) _ _ _ | with_reducible show LCg.CompSrc _ _ _ _ _ _ _ _ _ _ _ _ _ _ | with_reducible show wpAny _ _ (execs (PySem.Stmt.If (PySem.Expr.Compare _ [CmpOp.Lt] _ _) [PySem.Stmt.Assign [PySem.Expr.Tuple _ _ _] _ _] _ _ :: _) _) _ _ _))); first | (k_end; wrow_close) | walk1 | (dsimp only; walk1) | (leave1; walk_say "STEP leave1"; try dsimp only) | fail "no step")))
  refine LCt.ListComp_T (F₀ := by k_asm) (by with_unfolding_all rfl) (by decide) (by rfl) (by decide) (by rfl) ?_
  (repeat' (first | (k_unfold; first | walk_at "Seq" | (try dsimp only)) | ((fail_if_success ((first | with_reducible show wpAny _ _ (eval (PySem.Expr.ListComp _ _ _ _) _) _ _ _ | with_reducible show wpAny _ _ (call (Value.ref _) _) _ _ _ | with_reducible show wpAny _ _ (call (Value.type "str") _) _ _ _ | with_reducible show wpAny _ _ (call (Value.builtin "len") _) _ _ _ | with_reducible show wpAny _ _ (call (Value.builtin "sum") _) _ _ _ | with_reducible show wpAny _ _ (compareOp CmpOp.NotEq _ _) _ _ _ | with_reducible show wpAny _ _ (binaryOp Operator.Add (Value.ref _) (Value.ref _)) _ _ _ | with_reducible show wpAny _ _ (subscriptTail _ (PySem.Expr.UnaryOp _ _ _) (Value.ref _) _) _ _ _ | with_reducible show wpAny _ _ (subscriptTail _ (PySem.Expr.Name _ _) (Value.ref _) _) _ _ _ | with_reducible show wpAny _ _ (subscriptTail _ (PySem.Expr.Slice _ _ _ _) _ _) _ _ _ | with_reducible show wpAny _ _ (execs (PySem.Stmt.If _ _ _ _ :: _) _) _ _ _ | with_reducible show wpAny _ _ (exec (PySem.Stmt.While _ _ _ _) _) _ _ _ | with_reducible show wpAny _ _ (exec (PySem.Stmt.For _ _ _ _ _) _) _ _ _ | with_reducible show wpAny _ _ (pyIter _) _ _ _ | with_reducible show wpAny _ _ (call (Value.type "list") _) _ _ _ | with_reducible show wpAny _ _ (call (Value.builtin "str.join") _) _ _ _ | with_reducible show wpAny _ _ (eval (PySem.Expr.ListComp _ [PySem.Comprehension.mk (PySem.Expr.Tuple _ _ _) _ _ _] _ _) _) _ _ _ | with_reducible show LCg.CompSrc _ _ _ _ _ _ _ _ _ _ _ _ _ _ | with_reducible show wpAny _ _ (execs (PySem.Stmt.If (PySem.Expr.Compare _ [CmpOp.Lt] _ _) [PySem.Stmt.Assign [PySem.Expr.Tuple _ _ _] _ _] _ _ :: _) _) _ _ _))); first | (k_end; wrow_close) | walk1 | (dsimp only; walk1) | (leave1; walk_say "STEP leave1"; try dsimp only) | fail "no step")))
  (try dsimp only)
  refine LCt.CompSrcT.ledger (its := pv.toArray) (by rfl) (by k_asm) hN hp (by rw [sizeLine_eq, List.size_toArray]; omega) ?_
  intro g'
  refine comp_restT (fun i zs nw' => nw' = nw ∧ zs = []) ⟨rfl, rfl⟩ ?turn ?fin
  case turn =>
    rintro i v I oI C oC D m₂ zs nw' h5 tk5 E' hi hv ⟨rfl, rfl⟩ hC hx F5 N5 off ne
    obtain ⟨ta, x, y, t, t9, n9, rfl, hta, hx1, hy1, hins⟩ := hP v (List.mem_of_getElem? (show pv[i]? = some v by simpa using hv))
    (repeat' (first | (k_unfold; first | walk_at "Seq" | (try dsimp only)) | ((fail_if_success ((first | with_reducible show wpAny _ _ (eval (PySem.Expr.ListComp _ _ _ _) _) _ _ _ | with_reducible show wpAny _ _ (call (Value.ref _) _) _ _ _ | with_reducible show wpAny _ _ (call (Value.type "str") _) _ _ _ | with_reducible show wpAny _ _ (call (Value.builtin "len") _) _ _ _ | with_reducible show wpAny _ _ (call (Value.builtin "sum") _) _ _ _ | with_reducible show wpAny _ _ (compareOp CmpOp.NotEq _ _) _ _ _ | with_reducible show wpAny _ _ (binaryOp Operator.Add (Value.ref _) (Value.ref _)) _ _ _ | with_reducible show wpAny _ _ (subscriptTail _ (PySem.Expr.UnaryOp _ _ _) (Value.ref _) _) _ _ _ | with_reducible show wpAny _ _ (subscriptTail _ (PySem.Expr.Name _ _) (Value.ref _) _) _ _ _ | with_reducible show wpAny _ _ (subscriptTail _ (PySem.Expr.Slice _ _ _ _) _ _) _ _ _ | with_reducible show wpAny _ _ (execs (PySem.Stmt.If _ _ _ _ :: _) _) _ _ _ | with_reducible show wpAny _ _ (exec (PySem.Stmt.While _ _ _ _) _) _ _ _ | with_reducible show wpAny _ _ (exec (PySem.Stmt.For _ _ _ _ _) _) _ _ _ | with_reducible show wpAny _ _ (pyIter _) _ _ _ | with_reducible show wpAny _ _ (call (Value.type "list") _) _ _ _ | with_reducible show wpAny _ _ (call (Value.builtin "str.join") _) _ _ _ | with_reducible show wpAny _ _ (eval (PySem.Expr.ListComp _ [PySem.Comprehension.mk (PySem.Expr.Tuple _ _ _) _ _ _] _ _) _) _ _ _ | with_reducible show LCg.CompSrc _ _ _ _ _ _ _ _ _ _ _ _ _ _ | with_reducible show wpAny _ _ (execs (PySem.Stmt.If (PySem.Expr.Compare _ [CmpOp.Lt] _ _) [PySem.Stmt.Assign [PySem.Expr.Tuple _ _ _] _ _] _ _ :: _) _) _ _ _))); first | (k_end; wrow_close) | walk1 | (dsimp only; walk1) | (leave1; walk_say "STEP leave1"; try dsimp only) | fail "no step")))
    have hst := ins_straight hins a.bd
    refine' Claim.useE ?k1 ?k2 ?k3 (show News _ _ _ ((I, oI) :: (C, oC) :: (D, LCg.lst []) :: nw') by k_asm) ?k5 ?kK (straight_c (la := x.cps.toList) (lb := y.cps.toList) (bd := a.bd) (ta := t) (tb := t9) (tm := a.tb) (by show x.cps.size ≤ 4096; exact Nat.le_trans hx1 (by decide)) (by show y.cps.size ≤ 4096; exact Nat.le_trans hy1 (by decide)) hst.1 hst.2) (by rw [str_eta, str_eta]) ?kd ?ku ?_
    case k1 => k_asm
    case k2 => k_asm
    case k3 => k_asm
    case k5 => k_asm
    case kK => rfl
    case kd => exact Nat.le_of_ble_eq_true rfl
    case ku => exact Nat.le_of_ble_eq_true rfl
    intro t6 h6 tk6 F6 N6
    (repeat' (first | (k_unfold; first | walk_at "Seq" | (try dsimp only)) | ((fail_if_success ((first | with_reducible show wpAny _ _ (eval (PySem.Expr.ListComp _ _ _ _) _) _ _ _ | with_reducible show wpAny _ _ (call (Value.ref _) _) _ _ _ | with_reducible show wpAny _ _ (call (Value.type "str") _) _ _ _ | with_reducible show wpAny _ _ (call (Value.builtin "len") _) _ _ _ | with_reducible show wpAny _ _ (call (Value.builtin "sum") _) _ _ _ | with_reducible show wpAny _ _ (compareOp CmpOp.NotEq _ _) _ _ _ | with_reducible show wpAny _ _ (binaryOp Operator.Add (Value.ref _) (Value.ref _)) _ _ _ | with_reducible show wpAny _ _ (subscriptTail _ (PySem.Expr.UnaryOp _ _ _) (Value.ref _) _) _ _ _ | with_reducible show wpAny _ _ (subscriptTail _ (PySem.Expr.Name _ _) (Value.ref _) _) _ _ _ | with_reducible show wpAny _ _ (subscriptTail _ (PySem.Expr.Slice _ _ _ _) _ _) _ _ _ | with_reducible show wpAny _ _ (execs (PySem.Stmt.If _ _ _ _ :: _) _) _ _ _ | with_reducible show wpAny _ _ (exec (PySem.Stmt.While _ _ _ _) _) _ _ _ | with_reducible show wpAny _ _ (exec (PySem.Stmt.For _ _ _ _ _) _) _ _ _ | with_reducible show wpAny _ _ (pyIter _) _ _ _ | with_reducible show wpAny _ _ (call (Value.type "list") _) _ _ _ | with_reducible show wpAny _ _ (call (Value.builtin "str.join") _) _ _ _ | with_reducible show wpAny _ _ (eval (PySem.Expr.ListComp _ [PySem.Comprehension.mk (PySem.Expr.Tuple _ _ _) _ _ _] _ _) _) _ _ _ | with_reducible show LCg.CompSrc _ _ _ _ _ _ _ _ _ _ _ _ _ _ | with_reducible show wpAny _ _ (execs (PySem.Stmt.If (PySem.Expr.Compare _ [CmpOp.Lt] _ _) [PySem.Stmt.Assign [PySem.Expr.Tuple _ _ _] _ _] _ _ :: _) _) _ _ _))); first | (k_end; wrow_close) | walk1 | (dsimp only; walk1) | (leave1; walk_say "STEP leave1"; try dsimp only) | fail "no step")))
    (try dsimp only)
    exact LCg.CompEnd.intro (by k_asm) (show News _ _ _ ((I, oI) :: (C, oC) :: (D, LCg.lst []) :: nw') by k_asm) nw' (fun p hp => hp) off (.inr ⟨_, hp, rfl, _, rfl⟩) ⟨rfl, rfl⟩
  case fin =>
    rintro zs nw' ⟨rfl, rfl⟩ D h5 tk5 F5 N5 o5
    (try dsimp only)
    k_sweep
    (repeat' (first | (k_unfold; first | walk_at "Seq" | (try dsimp only)) | ((fail_if_success ((first | with_reducible show wpAny _ _ (eval (PySem.Expr.ListComp _ _ _ _) _) _ _ _ | with_reducible show wpAny _ _ (call (Value.ref _) _) _ _ _ | with_reducible show wpAny _ _ (call (Value.type "str") _) _ _ _ | with_reducible show wpAny _ _ (call (Value.builtin "len") _) _ _ _ | with_reducible show wpAny _ _ (call (Value.builtin "sum") _) _ _ _ | with_reducible show wpAny _ _ (compareOp CmpOp.NotEq _ _) _ _ _ | with_reducible show wpAny _ _ (binaryOp Operator.Add (Value.ref _) (Value.ref _)) _ _ _ | with_reducible show wpAny _ _ (subscriptTail _ (PySem.Expr.UnaryOp _ _ _) (Value.ref _) _) _ _ _ | with_reducible show wpAny _ _ (subscriptTail _ (PySem.Expr.Name _ _) (Value.ref _) _) _ _ _ | with_reducible show wpAny _ _ (subscriptTail _ (PySem.Expr.Slice _ _ _ _) _ _) _ _ _ | with_reducible show wpAny _ _ (execs (PySem.Stmt.If _ _ _ _ :: _) _) _ _ _ | with_reducible show wpAny _ _ (exec (PySem.Stmt.While _ _ _ _) _) _ _ _ | with_reducible show wpAny _ _ (exec (PySem.Stmt.For _ _ _ _ _) _) _ _ _ | with_reducible show wpAny _ _ (pyIter _) _ _ _ | with_reducible show wpAny _ _ (call (Value.type "list") _) _ _ _ | with_reducible show wpAny _ _ (call (Value.builtin "str.join") _) _ _ _ | with_reducible show wpAny _ _ (eval (PySem.Expr.ListComp _ [PySem.Comprehension.mk (PySem.Expr.Tuple _ _ _) _ _ _] _ _) _) _ _ _ | with_reducible show LCg.CompSrc _ _ _ _ _ _ _ _ _ _ _ _ _ _ | with_reducible show wpAny _ _ (execs (PySem.Stmt.If (PySem.Expr.Compare _ [CmpOp.Lt] _ _) [PySem.Stmt.Assign [PySem.Expr.Tuple _ _ _] _ _] _ _ :: _) _) _ _ _))); first | (k_end; wrow_close) | walk1 | (dsimp only; walk1) | (leave1; walk_say "STEP leave1"; try dsimp only) | fail "no step")))
    refine ne_strs (vs := []) (us := []) (isl (show News _ _ _ ((_, W.listOf #[] 0) :: (D, W.listOf #[] 0) :: nw') by k_asm) (List.mem_cons_of_mem _ List.mem_cons_self)) .nil (isl (show News _ _ _ ((_, W.listOf #[] 0) :: (D, W.listOf #[] 0) :: nw') by k_asm) List.mem_cons_self) .nil rfl rfl (Nat.le_of_ble_eq_true rfl) ?_
    simp only [decide_true, Bool.not_true]
    (repeat' (first | (k_unfold; first | walk_at "Seq" | (try dsimp only)) | ((fail_if_success ((first | with_reducible show wpAny _ _ (eval (PySem.Expr.ListComp _ _ _ _) _) _ _ _ | with_reducible show wpAny _ _ (call (Value.ref _) _) _ _ _ | with_reducible show wpAny _ _ (call (Value.type "str") _) _ _ _ | with_reducible show wpAny _ _ (call (Value.builtin "len") _) _ _ _ | with_reducible show wpAny _ _ (call (Value.builtin "sum") _) _ _ _ | with_reducible show wpAny _ _ (compareOp CmpOp.NotEq _ _) _ _ _ | with_reducible show wpAny _ _ (binaryOp Operator.Add (Value.ref _) (Value.ref _)) _ _ _ | with_reducible show wpAny _ _ (subscriptTail _ (PySem.Expr.UnaryOp _ _ _) (Value.ref _) _) _ _ _ | with_reducible show wpAny _ _ (subscriptTail _ (PySem.Expr.Name _ _) (Value.ref _) _) _ _ _ | with_reducible show wpAny _ _ (subscriptTail _ (PySem.Expr.Slice _ _ _ _) _ _) _ _ _ | with_reducible show wpAny _ _ (execs (PySem.Stmt.If _ _ _ _ :: _) _) _ _ _ | with_reducible show wpAny _ _ (exec (PySem.Stmt.While _ _ _ _) _) _ _ _ | with_reducible show wpAny _ _ (exec (PySem.Stmt.For _ _ _ _ _) _) _ _ _ | with_reducible show wpAny _ _ (pyIter _) _ _ _ | with_reducible show wpAny _ _ (call (Value.type "list") _) _ _ _ | with_reducible show wpAny _ _ (call (Value.builtin "str.join") _) _ _ _ | with_reducible show wpAny _ _ (eval (PySem.Expr.ListComp _ [PySem.Comprehension.mk (PySem.Expr.Tuple _ _ _) _ _ _] _ _) _) _ _ _ | with_reducible show LCg.CompSrc _ _ _ _ _ _ _ _ _ _ _ _ _ _ | with_reducible show wpAny _ _ (execs (PySem.Stmt.If (PySem.Expr.Compare _ [CmpOp.Lt] _ _) [PySem.Stmt.Assign [PySem.Expr.Tuple _ _ _] _ _] _ _ :: _) _) _ _ _))); first | (k_end; wrow_close) | walk1 | (dsimp only; walk1) | (leave1; walk_say "STEP leave1"; try dsimp only) | fail "no step")))
    obtain ⟨pre, hpre⟩ := accF_last G.rows1
    have ht := hL.ht
    rw [hpre, List.map_append, List.map_cons, List.map_nil] at ht
    obtain ⟨ts, tt, etv, hts⟩ := StrsAre.snoc_inv ht
    have htx := hL.htx
    rw [etv] at htx
    have f := full_facts G
    have hTl := text_len2 G G.ag3 (fun _ h => h) G.flat4 (fun x hx => (f.2 x hx).1) G.dl100
    have hTc := text_chars G.agc G.dl100 (fun x hx => (f.2 x hx).2)
    have hTn := text_ne (ag := a.ag) (ru := a.rows.flatten) (dl := a.dl) G.ag1
    obtain ⟨T, eT⟩ : ∃ T, T = textOf a.ag a.dl a.rows.flatten := ⟨_, rfl⟩
    rw [← eT] at htx hTl hTc hTn
    refine item_last rfl (show News _ _ _ ((_, W.listOf #[] 0) :: (D, W.listOf #[] 0) :: nw') by k_asm) (List.mem_cons_of_mem _ (List.mem_cons_of_mem _ htx)) ?_
    (repeat' (first | (k_unfold; first | walk_at "Seq" | (try dsimp only)) | ((fail_if_success ((first | with_reducible show wpAny _ _ (eval (PySem.Expr.ListComp _ _ _ _) _) _ _ _ | with_reducible show wpAny _ _ (call (Value.ref _) _) _ _ _ | with_reducible show wpAny _ _ (call (Value.type "str") _) _ _ _ | with_reducible show wpAny _ _ (call (Value.builtin "len") _) _ _ _ | with_reducible show wpAny _ _ (call (Value.builtin "sum") _) _ _ _ | with_reducible show wpAny _ _ (compareOp CmpOp.NotEq _ _) _ _ _ | with_reducible show wpAny _ _ (binaryOp Operator.Add (Value.ref _) (Value.ref _)) _ _ _ | with_reducible show wpAny _ _ (subscriptTail _ (PySem.Expr.UnaryOp _ _ _) (Value.ref _) _) _ _ _ | with_reducible show wpAny _ _ (subscriptTail _ (PySem.Expr.Name _ _) (Value.ref _) _) _ _ _ | with_reducible show wpAny _ _ (subscriptTail _ (PySem.Expr.Slice _ _ _ _) _ _) _ _ _ | with_reducible show wpAny _ _ (execs (PySem.Stmt.If _ _ _ _ :: _) _) _ _ _ | with_reducible show wpAny _ _ (exec (PySem.Stmt.While _ _ _ _) _) _ _ _ | with_reducible show wpAny _ _ (exec (PySem.Stmt.For _ _ _ _ _) _) _ _ _ | with_reducible show wpAny _ _ (pyIter _) _ _ _ | with_reducible show wpAny _ _ (call (Value.type "list") _) _ _ _ | with_reducible show wpAny _ _ (call (Value.builtin "str.join") _) _ _ _ | with_reducible show wpAny _ _ (eval (PySem.Expr.ListComp _ [PySem.Comprehension.mk (PySem.Expr.Tuple _ _ _) _ _ _] _ _) _) _ _ _ | with_reducible show LCg.CompSrc _ _ _ _ _ _ _ _ _ _ _ _ _ _ | with_reducible show wpAny _ _ (execs (PySem.Stmt.If (PySem.Expr.Compare _ [CmpOp.Lt] _ _) [PySem.Stmt.Assign [PySem.Expr.Tuple _ _ _] _ _] _ _ :: _) _) _ _ _))); first | (k_end; wrow_close) | walk1 | (dsimp only; walk1) | (leave1; walk_say "STEP leave1"; try dsimp only) | fail "no step")))
    refine sumK rfl (by k_asm) (show News _ _ _ ((_, W.listOf #[] 0) :: (D, W.listOf #[] 0) :: nw') by k_asm) (isl (show News _ _ _ ((_, W.listOf #[] 0) :: (D, W.listOf #[] 0) :: nw') by k_asm) (List.mem_cons_of_mem _ (List.mem_cons_of_mem _ hL.hnum))) hL.hI ?_
    intro h9 tk9 t9 F9 N9
    generalize a.xs.sum = X
    k_sweep
    (repeat' (first | (k_unfold; first | walk_at "Seq" | (try dsimp only)) | ((fail_if_success ((first | with_reducible show wpAny _ _ (eval (PySem.Expr.ListComp _ _ _ _) _) _ _ _ | with_reducible show wpAny _ _ (call (Value.ref _) _) _ _ _ | with_reducible show wpAny _ _ (call (Value.type "str") _) _ _ _ | with_reducible show wpAny _ _ (call (Value.builtin "len") _) _ _ _ | with_reducible show wpAny _ _ (call (Value.builtin "sum") _) _ _ _ | with_reducible show wpAny _ _ (compareOp CmpOp.NotEq _ _) _ _ _ | with_reducible show wpAny _ _ (binaryOp Operator.Add (Value.ref _) (Value.ref _)) _ _ _ | with_reducible show wpAny _ _ (subscriptTail _ (PySem.Expr.UnaryOp _ _ _) (Value.ref _) _) _ _ _ | with_reducible show wpAny _ _ (subscriptTail _ (PySem.Expr.Name _ _) (Value.ref _) _) _ _ _ | with_reducible show wpAny _ _ (subscriptTail _ (PySem.Expr.Slice _ _ _ _) _ _) _ _ _ | with_reducible show wpAny _ _ (execs (PySem.Stmt.If _ _ _ _ :: _) _) _ _ _ | with_reducible show wpAny _ _ (exec (PySem.Stmt.While _ _ _ _) _) _ _ _ | with_reducible show wpAny _ _ (exec (PySem.Stmt.For _ _ _ _ _) _) _ _ _ | with_reducible show wpAny _ _ (pyIter _) _ _ _ | with_reducible show wpAny _ _ (call (Value.type "list") _) _ _ _ | with_reducible show wpAny _ _ (call (Value.builtin "str.join") _) _ _ _ | with_reducible show wpAny _ _ (eval (PySem.Expr.ListComp _ [PySem.Comprehension.mk (PySem.Expr.Tuple _ _ _) _ _ _] _ _) _) _ _ _ | with_reducible show LCg.CompSrc _ _ _ _ _ _ _ _ _ _ _ _ _ _ | with_reducible show wpAny _ _ (execs (PySem.Stmt.If (PySem.Expr.Compare _ [CmpOp.Lt] _ _) [PySem.Stmt.Assign [PySem.Expr.Tuple _ _ _] _ _] _ _ :: _) _) _ _ _))); first | (k_end; wrow_close) | walk1 | (dsimp only; walk1) | (leave1; walk_say "STEP leave1"; try dsimp only) | fail "no step")))
    have hlpos : 0 < T.cps.toList.length := List.length_pos_iff.mpr hTn
    obtain ⟨P, hPe⟩ := Int.eq_ofNat_of_zero_le (Int.fmod_nonneg_of_pos X (show (0 : Int) < T.cps.toList.length by omega))
    have hPl : P < T.cps.toList.length := by
      have := Int.fmod_lt_of_pos X (show (0 : Int) < T.cps.toList.length by omega)
      omega
    have hc8 := hTc _ (List.getElem_mem hPl)
    have hov := over_lev (mc := (a.bd + 1).fmod 5 - 1) hPl rfl hc8 (newC_mem X T.cps.toList.length _)
    refine' Claim.useE ?k1 ?k2 ?k3 N9 ?k5 ?kK (over_c (la := T.cps.toList) (x := X) (bd := (a.bd + 1).fmod 5 - 1) (P := P) (by show T.cps.size ≤ 4096; exact Nat.le_trans hTl (by decide)) hPe hPl rfl rfl (sub_facts _ hc8).1 hov.1 hov.2) (by rw [str_eta]) ?kd ?ku ?_
    case k1 => k_asm
    case k2 => k_asm
    case k3 => k_asm
    case k5 => k_asm
    case kK => rfl
    case kd => exact Nat.le_of_ble_eq_true rfl
    case ku => exact Nat.le_of_ble_eq_true rfl
    intro t11 h11 tk11 F11 N11
    k_sweep
    (repeat' (first | (k_unfold; first | walk_at "Seq" | (try dsimp only)) | ((fail_if_success ((first | with_reducible show wpAny _ _ (eval (PySem.Expr.ListComp _ _ _ _) _) _ _ _ | with_reducible show wpAny _ _ (call (Value.ref _) _) _ _ _ | with_reducible show wpAny _ _ (call (Value.type "str") _) _ _ _ | with_reducible show wpAny _ _ (call (Value.builtin "len") _) _ _ _ | with_reducible show wpAny _ _ (call (Value.builtin "sum") _) _ _ _ | with_reducible show wpAny _ _ (compareOp CmpOp.NotEq _ _) _ _ _ | with_reducible show wpAny _ _ (binaryOp Operator.Add (Value.ref _) (Value.ref _)) _ _ _ | with_reducible show wpAny _ _ (subscriptTail _ (PySem.Expr.UnaryOp _ _ _) (Value.ref _) _) _ _ _ | with_reducible show wpAny _ _ (subscriptTail _ (PySem.Expr.Name _ _) (Value.ref _) _) _ _ _ | with_reducible show wpAny _ _ (subscriptTail _ (PySem.Expr.Slice _ _ _ _) _ _) _ _ _ | with_reducible show wpAny _ _ (execs (PySem.Stmt.If _ _ _ _ :: _) _) _ _ _ | with_reducible show wpAny _ _ (exec (PySem.Stmt.While _ _ _ _) _) _ _ _ | with_reducible show wpAny _ _ (exec (PySem.Stmt.For _ _ _ _ _) _) _ _ _ | with_reducible show wpAny _ _ (pyIter _) _ _ _ | with_reducible show wpAny _ _ (call (Value.type "list") _) _ _ _ | with_reducible show wpAny _ _ (call (Value.builtin "str.join") _) _ _ _ | with_reducible show wpAny _ _ (eval (PySem.Expr.ListComp _ [PySem.Comprehension.mk (PySem.Expr.Tuple _ _ _) _ _ _] _ _) _) _ _ _ | with_reducible show LCg.CompSrc _ _ _ _ _ _ _ _ _ _ _ _ _ _ | with_reducible show wpAny _ _ (execs (PySem.Stmt.If (PySem.Expr.Compare _ [CmpOp.Lt] _ _) [PySem.Stmt.Assign [PySem.Expr.Tuple _ _ _] _ _] _ _ :: _) _) _ _ _))); first | (k_end; wrow_close) | walk1 | (dsimp only; walk1) | (leave1; walk_say "STEP leave1"; try dsimp only) | fail "no step")))
    exact ⟨_, _, _, _, rfl, rfl, F11, N11⟩
end
end

end
end
end

section
open PySem PySem.W PyProof.Rows
section
theorem ag_facts : ∀ t : Fin 4, ∀ c : Fin 4, ((ringL.drop t.val).take c.val).length = c.val ∧ (∀ a ∈ (ringL.drop t.val).take c.val, a.length ≤ 2 ∧ a ∈ ring4) ∧ ((ringL.drop t.val).take c.val).Nodup := by decide +kernel
theorem ag_len (x : Int) : (agF x).length = cntF x ∧ (∀ a ∈ agF x, a.length ≤ 2 ∧ a ∈ ring4) ∧ (agF x).Nodup := by
  have h1 := cnt_eq x
  have h2 := turn_eq x
  exact ag_facts ⟨turnF x, by omega⟩ ⟨cntF x, by omega⟩
theorem signC_mem (k : Int) : signC k ∈ [47, 97, 65, 36] := by unfold signC; split <;> (try split) <;> (try split) <;> decide
theorem rule_facts (x : Int) : (ruleF x).length ≤ 3 ∧ ∀ c ∈ (ruleF x).cps.toList, c ∈ [47, 97, 65, 36] := by
  refine ⟨ruleF_len x, fun c hc => ?_⟩
  simp only [ruleF, ruleL, List.mem_map] at hc
  obtain ⟨k, _, rfl⟩ := hc
  exact signC_mem _
noncomputable def RInv (c : List (List Str) × List Str) (n : Nat) : Prop :=
  c.1.length ≤ 2 ∧ c.1.flatten.length + c.2.length = n ∧ (∀ r ∈ c.1, r ≠ []) ∧ (1 ≤ n → c.2 ≠ []) ∧ (∀ r ∈ c.1, ∀ x ∈ r, x.length ≤ 3 ∧ ∀ d ∈ x.cps.toList, d ∈ [47, 97, 65, 36]) ∧ (∀ x ∈ c.2, x.length ≤ 3 ∧ ∀ d ∈ x.cps.toList, d ∈ [47, 97, 65, 36])
theorem RInv.step {c : List (List Str) × List Str} {n : Nat} (x : Int) (h : RInv c n) : RInv (rowStep c x) (n + 1) := by
  obtain ⟨h1, h2, h3, h4, h5, h6⟩ := h
  unfold rowStep
  split
  · rename_i hc
    refine ⟨?_, ?_, ?_, fun _ => by simp, ?_, ?_⟩
    · simp only [List.length_append, List.length_cons, List.length_nil]; omega
    · simp only [List.flatten_append, List.flatten_cons, List.flatten_nil, List.length_append, List.length_cons, List.length_nil, List.append_nil]; omega
    · intro r hr
      rcases List.mem_append.mp hr with hr | hr
      · exact h3 r hr
      · rw [List.mem_singleton.mp hr]; exact hc.2.1
    · intro r hr
      rcases List.mem_append.mp hr with hr | hr
      · exact h5 r hr
      · rw [List.mem_singleton.mp hr]; exact h6
    · intro y hy
      rw [List.mem_singleton.mp hy]
      exact rule_facts x
  · refine ⟨h1, ?_, h3, fun _ => by simp, h5, ?_⟩
    · simp only [List.length_append, List.length_cons, List.length_nil]; omega
    · intro y hy
      rcases List.mem_append.mp hy with hy | hy
      · exact h6 y hy
      · rw [List.mem_singleton.mp hy]; exact rule_facts x
theorem rinv (x1 x2 x3 x4 : Int) : RInv (rowsP [x1, x2, x3, x4]) 4 := by
  have h0 : RInv ([], []) 0 := by unfold RInv; simp
  exact ((((h0.step x1).step x2).step x3).step x4)
theorem good_law (x0 x1 x2 x3 x4 : Int) : Good (agF x0) (dlF x0) (rowsF [x1, x2, x3, x4]) := by
  obtain ⟨a1, a2, a3⟩ := ag_len x0
  obtain ⟨_, c1, c3⟩ := cnt_eq x0
  obtain ⟨h1, h2, h3, h4, h5, h6⟩ := rinv x1 x2 x3 x4
  have hm : ∀ r ∈ rowsF [x1, x2, x3, x4], r ≠ [] ∧ ∀ x ∈ r, x.length ≤ 3 ∧ ∀ d ∈ x.cps.toList, d ∈ [47, 97, 65, 36] := by
    intro r hr
    rcases List.mem_append.mp hr with hr | hr
    · exact ⟨h3 r hr, h5 r hr⟩
    · rw [List.mem_singleton.mp hr]; exact ⟨h4 (by decide), h6⟩
  refine ⟨by omega, by omega, fun a ha => (a2 a ha).1, ?_, ?_, ?_, ?_, fun r hr => (hm r hr).1, fun r hr x hx => ((hm r hr).2 x hx).1, fun a ha => (a2 a ha).2, a3, fun r hr x hx => ((hm r hr).2 x hx).2⟩
  · intro n hn
    unfold dlF at hn
    split at hn
    · simp only [Option.some.injEq] at hn
      subst hn
      exact ⟨Int.fmod_nonneg_of_pos _ (by decide), Int.fmod_lt_of_pos _ (by decide)⟩
    · exact nomatch hn
  · unfold rowsF; simp
  · unfold rowsF; rw [List.length_append, List.length_singleton]; omega
  · unfold rowsF
    rw [List.flatten_append, List.length_append]
    simp only [List.flatten_cons, List.flatten_nil, List.append_nil]
    omega
theorem lohi_law (x : Int) {lo hi : Int} (e1 : lo = (lowF x : Int)) (e2 : hi = (highF x : Int)) : LoHi (agF x) lo hi :=
  ⟨lowF x, highF x, e1, e2, (high_eq x).2.1, by rw [(ag_len x).1]; exact (high_eq x).2.2⟩
theorem law_walk : LawWalk lawOf.1.1 lawOf.1.2.1 lawOf.1.2.2 := by
  refine law_a ?_
  intro w p loose mean mg mb fa cd h₀ L l u s h tk oT oB oR oD oA vT rest lnum la lr dv x0 x1 x2 x3 x4 bd lo hi nv kn t1 t2 tb hB hF hX hT hN off1 dT dB dR dD dA hnum hI hag hdv elo ehi hR
  refine law_b (law_b2 ?_) w p loose mean mg mb fa cd h₀ L u s h tk oT oB oR oD oA vT rest lnum la lr dv [x0, x1, x2, x3, x4] bd lo hi nv kn t1 t2 tb (agF x0) (dlF x0) (rowsF [x1, x2, x3, x4]) hB hF hX hT hN off1 dT dB dR dD dA hnum hI hag hdv hR (good_law x0 x1 x2 x3 x4) (lohi_law x0 elo ehi)
  intro w p loose mean mg mb fa cd h₀ L u s h tk oT oB oR oD oA nw lnum la lr lrec lbk lt dv bd lo hi nv rv bv tv xs kn kr kb kt t1 t2 tb ag dl rows hB hF hX hT hN mT mB mR mD mA dT dB dR dD dA hnum hI hag hdv hR hG hlh hrec hA hbk hb htx ht
  exact law_c (law_d1 (law_d2 (law_e (law_f law_g)))) w p loose mean mg mb fa cd h₀ L u s h tk ⟨lnum, la, lr, lrec, lbk, lt, dv, bd, lo, hi, nv, rv, bv, tv, xs, kn, kr, kb, kt, tb, ag, dl, rows, oT, oB, oR, oD, oA⟩ t1 t2 nw hB hF hX hT hN
    ⟨mT, mB, mR, mD, mA, dT, dB, dR, dD, dA, hnum, hI, hag, hdv, hR, hG, hlh, hrec, hA, hbk, hb, htx, ht⟩
end
end
end Mine
theorem PySem.Challenge.cw_nb0157_02_holds : PySem.Challenge.rw_nb0157_02.Holds := by
  exact Mine.lawOf.2 Mine.law_walk
