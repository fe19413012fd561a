import PyProof.Rows.All
import Wide.All
import OpenK.AllK
import Wide.FinOn
import KE.KFromBytes
import PySem.Challenge.RW_nb0157_01
set_option Elab.async false
set_option maxRecDepth 100000
set_option maxHeartbeats 8000000
set_option linter.unusedVariables false
open PySem PySem.W PyProof.Rows
namespace Mine
section
open PySem PySem.W PyProof.Rows
section
theorem PySem.W.holds_open {r : OpenRow} {q : Program} {loose : List Str} {Xt : Shared → Bool} {XP : (Str → Option Value) → Heap → Prop} {α : Type} {Yf : Shared → α} {Ya : World → α} {YP : World → Heap → Prop} {d : DefRec} {kwd : List (Str × Expr)} {N : Nat}
    (left : ∀ w, (openEnds treeTable r.prog w N).map (fun s => (openSeen q loose (importedModules r.prog.main.body) Xt true s, Yf s)) = some (openGood q loose, Ya w)) (hY : ∀ w s, Yf s = Ya w → YP w s.heap) (hYk : ∀ w h h', YP w h → (∀ b o, h.get? b = some o → h'.get? b = some o) → YP w h')
    (hX : ∀ s, Xt s = true → XP (s.heap.nsMap mainGlobals) s.heap) (hXk : ∀ mg h h', XP mg h → (∀ b o, h.get? b = some o → h'.get? b = some o) → XP mg h')
    (hdef : defOf q r.name = some (d, kwd)) (hp : r.prog.theDef r.name = some (d.params, d.body, d.scope)) (hk : kwWritten? d.params.kwonlyargs d.params.kw_defaults = some kwd) (hRf : ∀ s, Xt s = true → RecFacts r.records s.heap) (hwr : (!r.writes || r.records.isEmpty) = true)
    (k1 : r.wellSaid = true) (ok : (chainsOk q && opensWell r.prog && (frees r.toRowW && r.within.isEmpty)) = true) (hb : r.prog.bare) (hw : r.toRowW.promised)
    (call : WalkO q loose XP YP r.toRowW d kwd fun f vs => PySem.call f vs) : r.Holds :=
  _root_.PySem.W.holds_open left hY hYk hX hXk hdef hp hk hRf hwr k1 ok hb hw call
open_top hd for PySem.Challenge.rw_nb0157_01
end
end

theorem off_Top01 : True := by
  w_top off
  trivial

section
open PySem PySem.W PyProof.Rows
section

/-- the frame's map holds these values at these names -/
noncomputable def PsIn (m : Str → Option Value) (ps : List (Str × Value)) : Prop := ∀ p ∈ ps, m p.1 = some p.2

theorem kst_self {m : Str → Option Value} {ps : List (Str × Value)} (h : PsIn m ps) : kstB m ps = m := by
  funext y
  exact kstB_eq h fun _ => rfl

theorem fr_ps {h₀ h : Heap} {L : Addr} {m : Str → Option Value} {ps : List (Str × Value)} (F : Fr h₀ L h m) (hk : PsIn m ps) : Fr h₀ L h (kstB m ps) := by
  rw [kst_self hk]; exact F

theorem ps_nil {m : Str → Option Value} : PsIn m [] := fun _ h => nomatch h
theorem ps_cons {m : Str → Option Value} {x : Str} {v : Value} {ps : List (Str × Value)} (h : m x = some v) (r : PsIn m ps) : PsIn m ((x, v) :: ps) := fun p hp => by
  rcases List.mem_cons.mp hp with rfl | hp
  · exact h
  · exact r p hp

theorem ps_str {m : Str → Option Value} {x y z : Str} {t : Tok} {ps : List (Str × Value)} (e : y = z) (h : m x = some (.str y t)) (r : PsIn m ps) : PsIn m ((x, .str z t) :: ps) := ps_cons (e ▸ h) r

theorem ps_int {m : Str → Option Value} {x : Str} {y z : Int} {t : Tok} {ps : List (Str × Value)} (e : y = z) (h : m x = some (.int y t)) (r : PsIn m ps) : PsIn m ((x, .int z t) :: ps) := ps_cons (e ▸ h) r

/-- what a turn's end must show: the word holds of a new state, and the measure fell -/
noncomputable def WEnd {σ : Type} (h₀ : Heap) (L : Addr) (s : Shared) (ps : σ → List (Str × Value)) (Led : σ → List (Addr × Obj)) (P : σ → Prop) (μ : σ → Nat) (n : Nat) (s₂ : Shared) : Prop :=
  ∃ (c' : σ) (h' : Heap) (tk : Nat) (m' : Str → Option Value) (news' : List (Addr × Obj)), s₂ = { s with heap := h', toks := tk } ∧ Fr h₀ L h' m' ∧ News h₀ L h' news' ∧ (∀ p ∈ Led c', p ∈ news') ∧ PsIn m' (ps c') ∧ P c' ∧ μ c' < n
noncomputable def WPost {σ : Type} (h₀ : Heap) (L : Addr) (s : Shared) (ps : σ → List (Str × Value)) (Led : σ → List (Addr × Obj)) (P : σ → Prop) (μ : σ → Nat) (Q : Flow → Shared → Prop) (n : Nat) (f : Flow) (s₂ : Shared) : Prop :=
  match f with
  | .ret v => Q (.ret v) s₂
  | .brk => Q .next s₂
  | _ => WEnd h₀ L s ps Led P μ n s₂

section
variable {prog : Program} {w : World} {A : Around} {E : Value → Shared → Prop} {Q : Flow → Shared → Prop} {s : Shared} {env : Env} {h₀ : Heap} {L : Addr}

theorem WEnd.intro {σ : Type} {ps : σ → List (Str × Value)} {Led : σ → List (Addr × Obj)} {P : σ → Prop} {μ : σ → Nat} {n : Nat} {h' : Heap} {tk : Nat} {m' : Str → Option Value} {news' : List (Addr × Obj)} (c' : σ)
    (F : Fr h₀ L h' m') (N : News h₀ L h' news') (hn : ∀ p ∈ Led c', p ∈ news') (hk : PsIn m' (ps c')) (hp : P c') (hm : μ c' < n) :
    WEnd h₀ L s ps Led P μ n { s with heap := h', toks := tk } := ⟨c', h', tk, m', news', rfl, F, N, hn, hk, hp, hm⟩

/-- a while by a word over its state: P between the turns, R where it ends -/
theorem while_ps {σ : Type} {test : Expr} {body : List Stmt} {pos : Pos} {m : Str → Option Value} {news : List (Addr × Obj)}
    (ps : σ → List (Str × Value)) (Led : σ → List (Addr × Obj)) (P R : σ → Prop) (μ : σ → Nat) (c₀ : σ)
    (F : Fr h₀ L s.heap m) (N : News h₀ L s.heap news) (hn : ∀ p ∈ Led c₀, p ∈ news) (hk : PsIn m (ps c₀)) (hp : P c₀)
    (turn : ∀ (c : σ) (u : Str → Option Value) (h : Heap) (tk : Nat), P c → Fr h₀ L h (kstB u (ps c)) → News h₀ L h (Led c) →
      wpAny (model prog w) A (isTrue test env (eval test env)) (fun b s₂ =>
        if b = true then wpAny (model prog w) A (execs body env) (WPost h₀ L s ps Led P μ Q (μ c)) E s₂ else WEnd h₀ L s ps Led R (fun _ => 0) 1 s₂) E { s with heap := h, toks := tk })
    (fin : ∀ (c : σ) (u : Str → Option Value) (h : Heap) (tk : Nat), R c → Fr h₀ L h (kstB u (ps c)) → News h₀ L h (Led c) → Q .next { s with heap := h, toks := tk })
    (hE : PassesOwn (model prog w) A env E := by passes_own) :
    wpAny (model prog w) A (exec (.While test body [] pos) env) Q E s := by
  refine While_inv2 (fun n m nx => ∃ c : σ, μ c = n ∧ (∀ p ∈ Led c, p ∈ nx) ∧ PsIn m (ps c) ∧ P c) F N ⟨c₀, rfl, hn, hk, hp⟩ ?_ hE
  rintro n m₁ nx h tk F₁ N₁ ⟨c, hsz, hl, h1, hp'⟩
  subst hsz
  refine wpAny_mono (turn c m₁ h tk hp' (fr_ps F₁ h1) (fun p hp => N₁ p (hl p hp))) (fun b s₂ p => ?_) fun _ _ x => x
  cases b with
  | false =>
    simp only [Bool.false_eq_true, if_false] at p ⊢
    obtain ⟨c', h', tk', m', news', rfl, F', N', hn', hk', hp9, _⟩ := p
    exact fin c' m' h' tk' hp9 (fr_ps F' hk') (fun p hp => N' p (hn' p hp))
  | true =>
    simp only [if_true] at p ⊢
    refine wpAny_mono p (fun f s₃ q => ?_) fun _ _ x => x
    cases f with
    | ret v => exact q
    | brk => exact q
    | next =>
      obtain ⟨c', h', tk', m', news', rfl, F', N', hn', hk', hp9, hm9⟩ := q
      exact ⟨h', tk', m', news', μ c', rfl, F', N', hm9, c', rfl, hn', hk', hp9⟩
    | cont =>
      obtain ⟨c', h', tk', m', news', rfl, F', N', hn', hk', hp9, hm9⟩ := q
      exact ⟨h', tk', m', news', μ c', rfl, F', N', hm9, c', rfl, hn', hk', hp9⟩

/-- what follows a statement -/
noncomputable def Seq (prog : Program) (w : World) (A : Around) (rest : List Stmt) (env : Env) (Q : Flow → Shared → Prop) (E : Value → Shared → Prop) (f : Flow) (s' : Shared) : Prop :=
  match f with
  | .next => wpAny (model prog w) A (execs rest env) Q E s'
  | f => Q f s'
theorem execs_cons' {st : Stmt} {rest : List Stmt} (h : wpAny (model prog w) A (exec st env) (Seq prog w A rest env Q E) E s) : wpAny (model prog w) A (execs (st :: rest) env) Q E s :=
  wpAny_execs_cons (wpAny_mono h (fun f _ q => by cases f <;> exact q) fun _ _ x => x)
theorem Seq.next {rest : List Stmt} (h : wpAny (model prog w) A (execs rest env) Q E s) : Seq prog w A rest env Q E .next s := h
theorem Seq.ret {rest : List Stmt} {v : Value} (h : Q (.ret v) s) : Seq prog w A rest env Q E (.ret v) s := h
theorem Seq.brk {rest : List Stmt} (h : Q .brk s) : Seq prog w A rest env Q E .brk s := h
theorem Seq.cont {rest : List Stmt} (h : Q .cont s) : Seq prog w A rest env Q E .cont s := h

noncomputable def SPost {σ : Type} (h₀ : Heap) (L : Addr) (s : Shared) (ps : σ → List (Str × Value)) (Led : σ → List (Addr × Obj)) (R : σ → Prop) (f : Flow) (s₂ : Shared) : Prop :=
  match f with
  | .next => WEnd h₀ L s ps Led R (fun _ => 0) 1 s₂
  | _ => False

/-- one statement, its ways joined by a word over what it leaves -/
theorem stmt_ps {σ : Type} {st : Stmt} {rest : List Stmt} {m : Str → Option Value} (_F : Fr h₀ L s.heap m)
    (ps : σ → List (Str × Value)) (Led : σ → List (Addr × Obj)) (R : σ → Prop)
    (h1 : wpAny (model prog w) A (exec st env) (SPost h₀ L s ps Led R) E s)
    (fin : ∀ (c : σ) (u : Str → Option Value) (h : Heap) (tk : Nat), R c → Fr h₀ L h (kstB u (ps c)) → News h₀ L h (Led c) → wpAny (model prog w) A (execs rest env) Q E { s with heap := h, toks := tk }) :
    wpAny (model prog w) A (execs (st :: rest) env) Q E s := by
  refine wpAny_execs_cons (wpAny_mono h1 (fun f s₂ h => ?_) fun _ _ x => x)
  cases f with
  | next =>
    obtain ⟨c', h', tk', m', news', rfl, F', N', hn', hk', hp9, _⟩ := h
    exact fin c' m' h' tk' hp9 (fr_ps F' hk') (fun p hp => N' p (hn' p hp))
  | brk => exact h.elim
  | cont => exact h.elim
  | ret v => exact h.elim

noncomputable def FPost {σ : Type} (h₀ : Heap) (L : Addr) (s : Shared) (ps : σ → List (Str × Value)) (Led : σ → List (Addr × Obj)) (tl : List (Addr × Obj)) (J : σ → Prop) (Q : Flow → Shared → Prop) (f : Flow) (s₂ : Shared) : Prop :=
  match f with
  | .ret v => Q (.ret v) s₂
  | .brk => Q .next s₂
  | _ => WEnd h₀ L s ps (fun c => Led c ++ tl) J (fun _ => 0) 1 s₂

theorem FPost.ret {σ : Type} {ps : σ → List (Str × Value)} {Led : σ → List (Addr × Obj)} {tl : List (Addr × Obj)} {J : σ → Prop} {s₂ : Shared} {v : Value} (h : Q (.ret v) s₂) : FPost h₀ L s ps Led tl J Q (.ret v) s₂ := h
theorem FPost.brk {σ : Type} {ps : σ → List (Str × Value)} {Led : σ → List (Addr × Obj)} {tl : List (Addr × Obj)} {J : σ → Prop} {s₂ : Shared} (h : Q .next s₂) : FPost h₀ L s ps Led tl J Q .brk s₂ := h
theorem WPost.ret {σ : Type} {ps : σ → List (Str × Value)} {Led : σ → List (Addr × Obj)} {P : σ → Prop} {μ : σ → Nat} {n : Nat} {s₂ : Shared} {v : Value} (h : Q (.ret v) s₂) : WPost h₀ L s ps Led P μ Q n (.ret v) s₂ := h
/-- a for by a word over its state, whatever it walks -/
theorem loop_ps {σ : Type} {x : Str} {body : List Stmt} {I : Addr} {fp wr : List Addr} {n : Nat} {P : Nat → Value → Prop} {St : Nat → Heap → Prop} {m : Str → Option Value} {news : List (Addr × Obj)}
    (W : Walks prog w A I fp wr n P St) (ps : σ → List (Str × Value)) (Led : σ → List (Addr × Obj)) (J : Nat → σ → Prop) (c₀ : σ)
    (hLf : env.locals ∉ fp) (hwr : ∀ b ∈ wr, h₀.get? b = none) (hfpL : ∀ b ∈ fp, b ∉ (Led c₀).map (·.1)) (hadr : ∀ c, (Led c).map (·.1) = (Led c₀).map (·.1))
    (hnw : ∀ p ∈ news, p.1 ∉ wr) (happ : ∀ p ∈ news, p.1 ∉ (Led c₀).map (·.1))
    (hst : St 0 s.heap) (F : Fr h₀ env.locals s.heap m) (N : News h₀ env.locals s.heap (Led c₀ ++ news)) (hk : PsIn m (ps c₀)) (h0 : J 0 c₀)
    (turn : ∀ (i : Nat) (v : Value) (c : σ) (u : Str → Option Value) (h : Heap) (tk : Nat) (tl : List (Addr × Obj)), i < n → P i v → J i c → (∀ p ∈ news, p ∈ tl) → (∀ p ∈ tl, p.1 ∉ (Led c₀).map (·.1)) →
      Fr h₀ env.locals h (fun y => if y = x then some v else kstB u (ps c) y) → News h₀ env.locals h (Led c ++ tl) →
      wpAny (model prog w) A (execs body env) (FPost h₀ env.locals s ps Led tl (J (i + 1)) Q) E { s with heap := h, toks := tk })
    (fin : ∀ (c : σ) (u : Str → Option Value) (h : Heap) (tk : Nat), J n c → Fr h₀ env.locals h (kstB u (ps c)) → News h₀ env.locals h (Led c ++ news) → Q .next { s with heap := h, toks := tk }) :
    LoopAtV prog w A h₀ env x body Q E (.ref I) s := by
  have off : ∀ c, ∀ p ∈ Led c ++ news, p.1 ∉ wr := fun c p hp => by
    rcases List.mem_append.mp hp with h | h
    · intro hb
      refine hfpL p.1 (W.sub _ hb) ?_
      rw [← hadr c]
      exact List.mem_map.mpr ⟨p, h, rfl⟩
    · exact hnw p h
  refine ⟨I, fp, wr, n, P, St, m, Led c₀ ++ news, (fun i m₁ nx => ∃ c, nx = Led c ++ news ∧ PsIn m₁ (ps c) ∧ J i c), rfl, W, hLf, hwr, off c₀, hst, F, N, ⟨c₀, rfl, hk, h0⟩, ?_, ?_⟩
  · rintro i v m₁ nx s₁ own ⟨h, tk, rfl⟩ hin hP ⟨c, rfl, hk', hJ⟩ hoff hown _ _ _ F₁ N₁
    have Ntl : News h₀ env.locals h (Led c ++ (own ++ news)) := fun p hp => N₁ p (by
      rcases List.mem_append.mp hp with h | h
      · exact List.mem_append_right _ (List.mem_append_left _ h)
      · rcases List.mem_append.mp h with h | h
        · exact List.mem_append_left _ h
        · exact List.mem_append_right _ (List.mem_append_right _ h))
    have Fk : Fr h₀ env.locals h (fun y => if y = x then some v else kstB m₁ (ps c) y) := by rw [kst_self hk']; exact F₁
    refine wpAny_mono (turn i v c m₁ h tk (own ++ news) hin hP hJ (fun p hp => List.mem_append_right _ hp) (fun p hp => ?_) Fk Ntl) (fun f s₂ q => ?_) fun _ _ e => e
    · rcases List.mem_append.mp hp with h | h
      · exact hfpL _ (hown p h)
      · exact happ p h
    · have conv : WEnd h₀ env.locals s ps (fun c => Led c ++ (own ++ news)) (J (i + 1)) (fun _ => 0) 1 s₂ →
          LoopStepU h₀ env.locals wr own (fun m₁ nx => ∃ c, nx = Led c ++ news ∧ PsIn m₁ (ps c) ∧ J (i + 1) c) { s with heap := h, toks := tk } .next s₂ := by
        rintro ⟨c', h', tk', m', news', rfl, F', N', hn', hk9, hJ9, _⟩
        refine ⟨rfl, h', tk', m', Led c' ++ news, rfl, F', fun p hp => N' p (hn' p ?_), off c', c', rfl, hk9, hJ9⟩
        rcases List.mem_append.mp hp with h | h
        · exact List.mem_append_right _ (List.mem_append_left _ h)
        · rcases List.mem_append.mp h with h | h
          · exact List.mem_append_left _ h
          · exact List.mem_append_right _ (List.mem_append_right _ h)
      cases f with
      | ret v => exact .ret q
      | brk => exact .brk q
      | next => exact .next (conv q)
      | cont => exact .cont (conv q)
  · rintro h' tk m' nx F' N' _ ⟨c, rfl, hk', hJ⟩
    exact fin c m' h' tk hJ (fr_ps F' hk') N'

theorem iter_range_ps0 {σ : Type} {x : Str} {body : List Stmt} {r : Addr} {a b : Int} {t₀ u₀ v₀ : Tok} {n : Nat} {m : Str → Option Value} {news : List (Addr × Obj)}
    (hh : A.handled = none) (hr : IsRange s.heap r a b 1 t₀ u₀ v₀) (hsmall : Builtin.Range.small a b 1 = true) (hn : Builtin.Range.rangeSize a b 1 = (n : Int))
    (ps : σ → List (Str × Value)) (Led : σ → List (Addr × Obj)) (J : Nat → σ → Prop) (c₀ : σ) (hadr : ∀ c, (Led c).map (·.1) = (Led c₀).map (·.1))
    (F : Fr h₀ env.locals s.heap m) (N : News h₀ env.locals s.heap (Led c₀ ++ news)) (happ : ∀ p ∈ news, p.1 ∉ (Led c₀).map (·.1)) (hk : PsIn m (ps c₀)) (h0 : J 0 c₀)
    (turn : ∀ (i : Nat) (t : Tok) (c : σ) (u : Str → Option Value) (h : Heap) (tk : Nat) (tl : List (Addr × Obj)), i < n → J i c → (∀ p ∈ news, p ∈ tl) → (∀ p ∈ tl, p.1 ∉ (Led c₀).map (·.1)) →
      Fr h₀ env.locals h (fun y => if y = x then some (.int (a + i) t) else kstB u (ps c) y) → News h₀ env.locals h (Led c ++ tl) →
      wpAny (model prog w) A (execs body env) (FPost h₀ env.locals s ps Led tl (J (i + 1)) Q) E { s with heap := h, toks := tk })
    (fin : ∀ (c : σ) (u : Str → Option Value) (h : Heap) (tk : Nat), J n c → Fr h₀ env.locals h (kstB u (ps c)) → News h₀ env.locals h (Led c ++ news) → Q .next { s with heap := h, toks := tk }) :
    wpAny (model prog w) A (pyIter (.ref r)) (fun it s₂ => LoopAtV prog w A h₀ env x body Q E it s₂) E s := by
  refine wpAny_pyIter_range hr hsmall ?_
  have old : ∀ p ∈ Led c₀ ++ news, p.1 < s.heap.objs.size := fun p hp => Heap.lt_size (N p hp).1
  refine loop_ps (s := { s with heap := _ }) (Walks.range hh s.heap.objs.size a 1 n) ps Led J c₀ ?_ ?_ ?_ hadr ?_ happ (by show IsRangeIter _ _ _ _ _; rw [hn]; simpa using Heap.get?_push_size _ rfl) (F.push _) (fun p hp => ⟨Heap.get?_push_of_some _ (N p hp).1, (N p hp).2⟩) hk h0 ?_ ?_
  · intro hm
    exact absurd F.ns.lt ((List.mem_singleton.mp hm) ▸ Nat.lt_irrefl _)
  · intro b hb
    rw [List.mem_singleton.mp hb]
    exact next_is_new F
  · intro b hb hI
    obtain ⟨p, hp, e⟩ := List.mem_map.mp hI
    have := old p (List.mem_append_left _ hp)
    rw [List.mem_singleton.mp hb] at e
    exact absurd this (e ▸ Nat.lt_irrefl _)
  · intro p hp hI
    have := old p (List.mem_append_right _ hp)
    rw [List.mem_singleton.mp hI] at this
    exact absurd this (Nat.lt_irrefl _)
  · rintro i v c u h tk tl hin ⟨t, rfl⟩ hJ hsub hap F₁ N₁
    have e : a + (i : Int) * 1 = a + i := by omega
    rw [e] at F₁
    exact turn i t c u h tk tl hin hJ hsub hap F₁ N₁
  · exact fin

theorem iter_range_ps {σ : Type} {L : Addr} {x : Str} {body : List Stmt} {r : Addr} {a b : Int} {t₀ u₀ v₀ : Tok} {n : Nat} {m : Str → Option Value} {news : List (Addr × Obj)}
    (hh : A.handled = none) (hr : IsRange s.heap r a b 1 t₀ u₀ v₀) (hsmall : Builtin.Range.small a b 1 = true) (hn : Builtin.Range.rangeSize a b 1 = (n : Int))
    (ps : σ → List (Str × Value)) (Led : σ → List (Addr × Obj)) (J : Nat → σ → Prop) (c₀ : σ) (hadr : ∀ c, (Led c).map (·.1) = (Led c₀).map (·.1))
    (F : Fr h₀ L s.heap m) (N : News h₀ L s.heap (Led c₀ ++ news)) (happ : ∀ p ∈ news, p.1 ∉ (Led c₀).map (·.1)) (hk : PsIn m (ps c₀)) (h0 : J 0 c₀)
    (turn : ∀ (i : Nat) (t : Tok) (c : σ) (u : Str → Option Value) (h : Heap) (tk : Nat) (tl : List (Addr × Obj)), i < n → J i c → (∀ p ∈ news, p ∈ tl) → (∀ p ∈ tl, p.1 ∉ (Led c₀).map (·.1)) →
      Fr h₀ L h (fun y => if y = x then some (.int (a + i) t) else kstB u (ps c) y) → News h₀ L h (Led c ++ tl) →
      wpAny (model prog w) A (execs body env) (FPost h₀ L s ps Led tl (J (i + 1)) Q) E { s with heap := h, toks := tk })
    (fin : ∀ (c : σ) (u : Str → Option Value) (h : Heap) (tk : Nat), J n c → Fr h₀ L h (kstB u (ps c)) → News h₀ L h (Led c ++ news) → Q .next { s with heap := h, toks := tk })
    (hL : env.locals = L := by rfl) :
    wpAny (model prog w) A (pyIter (.ref r)) (fun it s₂ => LoopAtV prog w A h₀ env x body Q E it s₂) E s := by
  subst hL
  exact iter_range_ps0 hh hr hsmall hn ps Led J c₀ hadr F N happ hk h0 turn fin

theorem iter_list_ps0 {σ : Type} {x : Str} {body : List Stmt} {l : Addr} {vs : List Value} {m : Str → Option Value} {news : List (Addr × Obj)}
    (hh : A.handled = none) (hl : s.heap.IsList l vs.toArray) (hlL : l ≠ env.locals)
    (ps : σ → List (Str × Value)) (Led : σ → List (Addr × Obj)) (J : Nat → σ → Prop) (c₀ : σ) (hadr : ∀ c, (Led c).map (·.1) = (Led c₀).map (·.1)) (hlA : l ∉ (Led c₀).map (·.1))
    (F : Fr h₀ env.locals s.heap m) (N : News h₀ env.locals s.heap (Led c₀ ++ news)) (happ : ∀ p ∈ news, p.1 ∉ (Led c₀).map (·.1)) (hk : PsIn m (ps c₀)) (h0 : J 0 c₀)
    (turn : ∀ (i : Nat) (v : Value) (c : σ) (u : Str → Option Value) (h : Heap) (tk : Nat) (tl : List (Addr × Obj)), i < vs.length → vs[i]? = some v → J i c → (∀ p ∈ news, p ∈ tl) → (∀ p ∈ tl, p.1 ∉ (Led c₀).map (·.1)) →
      Fr h₀ env.locals h (fun y => if y = x then some v else kstB u (ps c) y) → News h₀ env.locals h (Led c ++ tl) →
      wpAny (model prog w) A (execs body env) (FPost h₀ env.locals s ps Led tl (J (i + 1)) Q) E { s with heap := h, toks := tk })
    (fin : ∀ (c : σ) (u : Str → Option Value) (h : Heap) (tk : Nat), J vs.length c → Fr h₀ env.locals h (kstB u (ps c)) → News h₀ env.locals h (Led c ++ news) → Q .next { s with heap := h, toks := tk }) :
    wpAny (model prog w) A (pyIter (.ref l)) (fun it s₂ => LoopAtV prog w A h₀ env x body Q E it s₂) E s := by
  obtain ⟨ol, hol, _⟩ := id hl
  have hlt : l < s.heap.objs.size := Heap.lt_size hol
  have hne : l ≠ s.heap.objs.size := Nat.ne_of_lt hlt
  refine wpAny_pyIter_list hl ?_
  have W := Walks.list (prog := prog) (w := w) hh s.heap.objs.size l hne vs.toArray
  have old : ∀ p ∈ Led c₀ ++ news, p.1 < s.heap.objs.size := fun p hp => Heap.lt_size (N p hp).1
  have hsz : vs.toArray.size = vs.length := by simp
  refine loop_ps (s := { s with heap := _ }) W ps Led J c₀ ?_ ?_ ?_ hadr ?_ happ ⟨⟨_, Heap.get?_push_size _ rfl, rfl, rfl⟩, hl.at fun o e => Heap.get?_push_of_some _ e⟩ (F.push _) (fun p hp => ⟨Heap.get?_push_of_some _ (N p hp).1, (N p hp).2⟩) hk h0 ?_ ?_
  · intro hm
    rcases List.mem_cons.mp hm with e | hm
    · exact absurd F.ns.lt (e ▸ Nat.lt_irrefl _)
    · exact hlL (List.mem_singleton.mp hm).symm
  · intro b hb
    rw [List.mem_singleton.mp hb]
    exact next_is_new F
  · intro b hb hI
    rcases List.mem_cons.mp hb with e | hb
    · obtain ⟨p, hp, e'⟩ := List.mem_map.mp hI
      have := old p (List.mem_append_left _ hp)
      rw [e] at e'
      exact absurd this (e' ▸ Nat.lt_irrefl _)
    · rw [List.mem_singleton.mp hb] at hI
      exact hlA hI
  · intro p hp hI
    have := old p (List.mem_append_right _ hp)
    rw [List.mem_singleton.mp hI] at this
    exact absurd this (Nat.lt_irrefl _)
  · rintro i v c u h tk tl hin hv hJ hsub hap F₁ N₁
    exact turn i v c u h tk tl (hsz ▸ hin) (by simpa using hv) hJ hsub hap F₁ N₁
  · rw [hsz]; exact fin

theorem iter_list_ps {σ : Type} {L : Addr} {x : Str} {body : List Stmt} {l : Addr} {vs : List Value} {m : Str → Option Value} {news : List (Addr × Obj)}
    (hh : A.handled = none) (hl : s.heap.IsList l vs.toArray) (hlL : l ≠ L)
    (ps : σ → List (Str × Value)) (Led : σ → List (Addr × Obj)) (J : Nat → σ → Prop) (c₀ : σ) (hadr : ∀ c, (Led c).map (·.1) = (Led c₀).map (·.1)) (hlA : l ∉ (Led c₀).map (·.1))
    (F : Fr h₀ L s.heap m) (N : News h₀ L s.heap (Led c₀ ++ news)) (happ : ∀ p ∈ news, p.1 ∉ (Led c₀).map (·.1)) (hk : PsIn m (ps c₀)) (h0 : J 0 c₀)
    (turn : ∀ (i : Nat) (v : Value) (c : σ) (u : Str → Option Value) (h : Heap) (tk : Nat) (tl : List (Addr × Obj)), i < vs.length → vs[i]? = some v → J i c → (∀ p ∈ news, p ∈ tl) → (∀ p ∈ tl, p.1 ∉ (Led c₀).map (·.1)) →
      Fr h₀ L h (fun y => if y = x then some v else kstB u (ps c) y) → News h₀ L h (Led c ++ tl) →
      wpAny (model prog w) A (execs body env) (FPost h₀ L s ps Led tl (J (i + 1)) Q) E { s with heap := h, toks := tk })
    (fin : ∀ (c : σ) (u : Str → Option Value) (h : Heap) (tk : Nat), J vs.length c → Fr h₀ L h (kstB u (ps c)) → News h₀ L h (Led c ++ news) → Q .next { s with heap := h, toks := tk })
    (hL : env.locals = L := by rfl) :
    wpAny (model prog w) A (pyIter (.ref l)) (fun it s₂ => LoopAtV prog w A h₀ env x body Q E it s₂) E s := by
  subst hL
  exact iter_list_ps0 hh hl hlL ps Led J c₀ hadr hlA F N happ hk h0 turn fin

theorem for_at {x : Str} {px pos : Pos} {iter : Expr} {body : List Stmt} {m : Str → Option Value} (_F : Fr h₀ env.locals s.heap m) (hx : env.kindOf x = some .local)
    (hp : (env.scope.kind == .class || (env.scope.kind == .module && env.locals != env.globals)) = false)
    (h : wpAny (model prog w) A (eval iter env) (fun xv s₁ => wpAny (model prog w) A (pyIter xv) (fun it s₂ => LoopAtV prog w A h₀ env x body Q E it s₂) E s₁) E s)
    (hs : ∀ x, foldedSetIterable iter env x = pure x := by intro _; rfl)
    (hE : PassesOwn (model prog w) A env E := by passes_own) :
    wpAny (model prog w) A (exec (.For (.Name x px) iter body [] pos) env) Q E s := For_invV h₀ hx hp h hs hE
theorem own_off {tl : List (Addr × Obj)} {adr : List Addr} (h : ∀ p ∈ tl, p.1 ∉ adr) : OwnOff tl adr := fun p hp _ hb e => h p hp (e ▸ hb)
end

/-- what a call of f upon vs comes to, whatever frame calls and whatever the ledger holds -/
noncomputable def Claim (prog : Program) (w : World) (K : Frag) (p : Program) (loose : List Str) (mean : ExcName → Option Value) (mg mb : Str → Option Value) (f : Addr) (D U : Nat) (news : List (Addr × Obj)) (vs : List Value) (R : Tok → Value) : Prop :=
  ∀ (dp un : Nat) (gd : Option (List Code)) (cn : Str) (cs : Scope) (a : Addr) (ccd : Value) (cl : List (Str × Addr)) (outer : List Env) (A₀ : Around) (base h₀ : Heap) (L : Addr) (m : Str → Option Value) (s : Shared) (Q E : Value → Shared → Prop),
    Below A₀ base outer h₀ → Fr h₀ L s.heap m → K.In h₀ → News h₀ L s.heap news → Top p loose mean mg mb h₀ → cs.kind = .function →
    dp + D < recursionLimit → un + U < cLine → (∀ (t : Tok) (h' : Heap) (tk' : Nat), Fr h₀ L h' m → News h₀ L h' news → Q (R t) { s with heap := h', toks := tk' }) →
      wpAny (model prog w) (ktrTop dp un gd cn cs L a ccd cl outer) (call (.ref f) vs) Q E s
theorem Claim.use {prog : Program} {w : World} {K : Frag} {p : Program} {loose : List Str} {mean : ExcName → Option Value} {mg mb : Str → Option Value} {f : Addr} {D U : Nat} {news : List (Addr × Obj)} {vs : List Value} {R : Tok → Value}
    {dp un : Nat} {gd : Option (List Code)} {cn : Str} {cs : Scope} {a : Addr} {ccd : Value} {cl : List (Str × Addr)} {outer : List Env} {A₀ : Around} {base h₀ : Heap} {L : Addr} {m : Str → Option Value} {s : Shared} {Q E : Value → Shared → Prop}
    (hB : Below A₀ base outer h₀) (hF : Fr h₀ L s.heap m) (hX : K.In h₀) (hN : News h₀ L s.heap news) (hT : Top p loose mean mg mb h₀) (hc : cs.kind = .function)
    (C : Claim prog w K p loose mean mg mb f D U news vs R) (hd : dp + D < recursionLimit) (hu : un + U < cLine)
    (ret : ∀ (t : Tok) (h' : Heap) (tk' : Nat), Fr h₀ L h' m → News h₀ L h' news → Q (R t) { s with heap := h', toks := tk' }) :
    wpAny (model prog w) (ktrTop dp un gd cn cs L a ccd cl outer) (call (.ref f) vs) Q E s := C _ _ _ _ _ _ _ _ _ _ _ _ _ _ _ _ _ hB hF hX hN hT hc hd hu ret
theorem Claim.useE {prog : Program} {w : World} {K : Frag} {p : Program} {loose : List Str} {mean : ExcName → Option Value} {mg mb : Str → Option Value} {f : Addr} {D U : Nat} {news : List (Addr × Obj)} {vs vs' : List Value} {R : Tok → Value}
    {dp un : Nat} {gd : Option (List Code)} {cn : Str} {cs : Scope} {a : Addr} {ccd : Value} {cl : List (Str × Addr)} {outer : List Env} {A₀ : Around} {base h₀ : Heap} {L : Addr} {m : Str → Option Value} {s : Shared} {Q E : Value → Shared → Prop}
    (hB : Below A₀ base outer h₀) (hF : Fr h₀ L s.heap m) (hX : K.In h₀) (hN : News h₀ L s.heap news) (hT : Top p loose mean mg mb h₀) (hc : cs.kind = .function)
    (C : Claim prog w K p loose mean mg mb f D U news vs' R) (e : vs' = vs) (hd : dp + D < recursionLimit) (hu : un + U < cLine)
    (ret : ∀ (t : Tok) (h' : Heap) (tk' : Nat), Fr h₀ L h' m → News h₀ L h' news → Q (R t) { s with heap := h', toks := tk' }) :
    wpAny (model prog w) (ktrTop dp un gd cn cs L a ccd cl outer) (call (.ref f) vs) Q E s := e ▸ Claim.use hB hF hX hN hT hc C hd hu ret
theorem name_head {h₀ h : Heap} {L a : Addr} {o : Obj} {news : List (Addr × Obj)} {G : Prop} (_N : News h₀ L h ((a, o) :: news)) (k : ∀ a', a' = a → G) : G := k a rfl
theorem led_push {l : Addr} {us : List Value} {x : Value} {n : Nat} {tl : List (Addr × Obj)} {p : Addr × Obj} (hp : p ∈ (l, W.listOf (us ++ [x]).toArray n) :: tl) : p ∈ (l, W.listOf (us.toArray.push x) n) :: tl := by
  rwa [List.push_toArray]

section
variable {prog : Program} {w : World} {A : Around} {h₀ : Heap} {L : Addr} {m : Str → Option Value} {env : Env} {elt : Expr} {x : Str} {scope : Scope} {cl : List (Str × Addr)} {s : Shared} {S : List (Addr × Obj) → Prop} {P : Nat → Value → Prop} {Fin : List Value → List (Addr × Obj) → Prop}
/-- a comprehension by a word over what it has made so far -/
theorem comp_rest {n : Nat} {news : List (Addr × Obj)} (J : Nat → List Value → List (Addr × Obj) → Prop) (h0 : J 0 [] news)
    (turn : ∀ (i : Nat) (v : Value) (I : Addr) (oI : Obj) (C : Addr) (oC : Obj) (D : Addr) (m₂ : Str → Option Value) (ys : List Value) (nw : List (Addr × Obj)) (h : Heap) (tk : Nat) (E' : Value → Shared → Prop), i < n → P i v → ys.length = i → J i ys nw → LCg.NsObj oC m₂ → m₂ x = some v → Fr h₀ L h m →
      News h₀ L h ((I, oI) :: (C, oC) :: (D, LCg.lst ys) :: nw) → LCg.Off3 I C D nw → ((@Ne Nat I C) ∧ (@Ne Nat I D) ∧ (@Ne Nat C D)) →
      wpAny (model prog w) A (eval elt (compEnvC scope cl C env)) (LCg.CompEnd h₀ L m { s with heap := h, toks := tk } I oI C oC D (LCg.lst ys) S (fun y nw' => J (i + 1) (ys ++ [y]) nw')) E' { s with heap := h, toks := tk })
    (fin : ∀ ys nw, ys.length = n → J n ys nw → Fin ys nw) : LCg.CompRest prog w A h₀ L m env elt x scope cl s S P Fin n 0 [] news := by
  have key : ∀ (j i : Nat) (ys : List Value) (nw : List (Addr × Obj)), i + j = n → ys.length = i → J i ys nw → LCg.CompRest prog w A h₀ L m env elt x scope cl s S P Fin j i ys nw := by
    intro j
    induction j with
    | zero =>
      intro i ys nw hi hl hJ
      have e : i = n := by omega
      subst e
      exact LCg.CompRest.zero (fin ys nw hl hJ)
    | succ j ih =>
      intro i ys nw hi hl hJ
      refine LCg.CompRest.succ ?_
      intro v I oI C oC D m₂ h tk E' hv hC hx F N off ne
      refine wpAny_mono (turn i v I oI C oC D m₂ ys nw h tk E' (by omega) hv hl hJ hC hx F N off ne) (fun y s₂ hq => ?_) fun _ _ e => e
      obtain ⟨h', tk', nw', e, F', N', off', hS, hJ'⟩ := hq
      exact ⟨h', tk', nw', e, F', N', off', hS, ih (i + 1) _ _ (by omega) (by simp [hl]) hJ'⟩
  exact key n 0 [] news (by omega) rfl h0
/-- the same where the elements leave the ledger as it stands -/
theorem comp_same {n : Nat} {news : List (Addr × Obj)} (J : Nat → List Value → Prop) (h0 : J 0 [])
    (turn : ∀ (i : Nat) (v : Value) (I : Addr) (oI : Obj) (C : Addr) (oC : Obj) (D : Addr) (m₂ : Str → Option Value) (ys : List Value) (h : Heap) (tk : Nat) (E' : Value → Shared → Prop), i < n → P i v → ys.length = i → J i ys → LCg.NsObj oC m₂ → m₂ x = some v → Fr h₀ L h m →
      News h₀ L h ((I, oI) :: (C, oC) :: (D, LCg.lst ys) :: news) → LCg.Off3 I C D news → ((@Ne Nat I C) ∧ (@Ne Nat I D) ∧ (@Ne Nat C D)) →
      wpAny (model prog w) A (eval elt (compEnvC scope cl C env)) (LCg.CompEnd h₀ L m { s with heap := h, toks := tk } I oI C oC D (LCg.lst ys) S (fun y nw' => nw' = news ∧ J (i + 1) (ys ++ [y]))) E' { s with heap := h, toks := tk })
    (fin : ∀ ys, ys.length = n → J n ys → Fin ys news) : LCg.CompRest prog w A h₀ L m env elt x scope cl s S P Fin n 0 [] news := by
  refine comp_rest (fun i ys nw => nw = news ∧ J i ys) ⟨rfl, h0⟩ ?_ ?_
  · rintro i v I oI C oC D m₂ ys nw h tk E' hi hv hl ⟨rfl, hJ⟩ hC hx F N off ne
    exact turn i v I oI C oC D m₂ ys h tk E' hi hv hl hJ hC hx F N off ne
  · rintro ys nw hl ⟨rfl, hJ⟩
    exact fin ys hl hJ
end

/-- the same where a call hands back something that it has made -/
noncomputable def ClaimN (prog : Program) (w : World) (K : Frag) (p : Program) (loose : List Str) (mean : ExcName → Option Value) (mg mb : Str → Option Value) (f : Addr) (D U : Nat) (news : List (Addr × Obj)) (vs : List Value) (R : Value → List (Addr × Obj) → Prop) : Prop :=
  ∀ (dp un : Nat) (gd : Option (List Code)) (cn : Str) (cs : Scope) (a : Addr) (ccd : Value) (cl : List (Str × Addr)) (outer : List Env) (A₀ : Around) (base h₀ : Heap) (L : Addr) (m : Str → Option Value) (s : Shared) (Q E : Value → Shared → Prop),
    Below A₀ base outer h₀ → Fr h₀ L s.heap m → K.In h₀ → News h₀ L s.heap news → Top p loose mean mg mb h₀ → cs.kind = .function →
    dp + D < recursionLimit → un + U < cLine → (∀ (v : Value) (tl : List (Addr × Obj)) (h' : Heap) (tk' : Nat), R v tl → Fr h₀ L h' m → News h₀ L h' (tl ++ news) → (∀ p ∈ news, ∀ q ∈ tl, p.1 < q.1) → Q v { s with heap := h', toks := tk' }) →
      wpAny (model prog w) (ktrTop dp un gd cn cs L a ccd cl outer) (call (.ref f) vs) Q E s
theorem ClaimN.use {prog : Program} {w : World} {K : Frag} {p : Program} {loose : List Str} {mean : ExcName → Option Value} {mg mb : Str → Option Value} {f : Addr} {D U : Nat} {news : List (Addr × Obj)} {vs : List Value} {R : Value → List (Addr × Obj) → Prop}
    {dp un : Nat} {gd : Option (List Code)} {cn : Str} {cs : Scope} {a : Addr} {ccd : Value} {cl : List (Str × Addr)} {outer : List Env} {A₀ : Around} {base h₀ : Heap} {L : Addr} {m : Str → Option Value} {s : Shared} {Q E : Value → Shared → Prop}
    (hB : Below A₀ base outer h₀) (hF : Fr h₀ L s.heap m) (hX : K.In h₀) (hN : News h₀ L s.heap news) (hT : Top p loose mean mg mb h₀) (hc : cs.kind = .function)
    (C : ClaimN prog w K p loose mean mg mb f D U news vs R) (hd : dp + D < recursionLimit) (hu : un + U < cLine)
    (ret : ∀ (v : Value) (tl : List (Addr × Obj)) (h' : Heap) (tk' : Nat), R v tl → Fr h₀ L h' m → News h₀ L h' (tl ++ news) → (∀ p ∈ news, ∀ q ∈ tl, p.1 < q.1) → Q v { s with heap := h', toks := tk' }) :
    wpAny (model prog w) (ktrTop dp un gd cn cs L a ccd cl outer) (call (.ref f) vs) Q E s := C _ _ _ _ _ _ _ _ _ _ _ _ _ _ _ _ _ hB hF hX hN hT hc hd hu ret

/-- the same where the ledger holds the table of a def's inner code at the address T, which the call may grow -/
noncomputable def ClaimT (prog : Program) (w : World) (K : Frag) (p : Program) (loose : List Str) (mean : ExcName → Option Value) (mg mb : Str → Option Value) (f T : Addr) (D U : Nat) (ps : Array Value) (news : List (Addr × Obj)) (vs : List Value) (R : Value → Array Value → List (Addr × Obj) → Prop) : Prop :=
  ∀ (dp un : Nat) (gd : Option (List Code)) (cn : Str) (cs : Scope) (a : Addr) (ccd : Value) (cl : List (Str × Addr)) (outer : List Env) (A₀ : Around) (base h₀ : Heap) (L : Addr) (m : Str → Option Value) (s : Shared) (Q E : Value → Shared → Prop),
    Below A₀ base outer h₀ → Fr h₀ L s.heap m → K.In h₀ → News h₀ L s.heap ((T, tabObj ps) :: news) → Top p loose mean mg mb h₀ → cs.kind = .function →
    dp + D < recursionLimit → un + U < cLine → (∀ (v : Value) (ps' : Array Value) (tl : List (Addr × Obj)) (h' : Heap) (tk' : Nat), R v ps' tl → Fr h₀ L h' m → News h₀ L h' ((T, tabObj ps') :: (tl ++ news)) → (∀ p ∈ news, ∀ q ∈ tl, @LT.lt Nat _ p.1 q.1) → (∀ q ∈ tl, @LT.lt Nat _ T q.1) → Q v { s with heap := h', toks := tk' }) →
      wpAny (model prog w) (ktrTop dp un gd cn cs L a ccd cl outer) (call (.ref f) vs) Q E s
theorem ClaimT.use {prog : Program} {w : World} {K : Frag} {p : Program} {loose : List Str} {mean : ExcName → Option Value} {mg mb : Str → Option Value} {f T : Addr} {D U : Nat} {ps : Array Value} {news : List (Addr × Obj)} {vs : List Value} {R : Value → Array Value → List (Addr × Obj) → Prop}
    {dp un : Nat} {gd : Option (List Code)} {cn : Str} {cs : Scope} {a : Addr} {ccd : Value} {cl : List (Str × Addr)} {outer : List Env} {A₀ : Around} {base h₀ : Heap} {L : Addr} {m : Str → Option Value} {s : Shared} {Q E : Value → Shared → Prop}
    (hB : Below A₀ base outer h₀) (hF : Fr h₀ L s.heap m) (hX : K.In h₀) (hN : News h₀ L s.heap ((T, tabObj ps) :: news)) (hT : Top p loose mean mg mb h₀) (hc : cs.kind = .function)
    (C : ClaimT prog w K p loose mean mg mb f T D U ps news vs R) (hd : dp + D < recursionLimit) (hu : un + U < cLine)
    (ret : ∀ (v : Value) (ps' : Array Value) (tl : List (Addr × Obj)) (h' : Heap) (tk' : Nat), R v ps' tl → Fr h₀ L h' m → News h₀ L h' ((T, tabObj ps') :: (tl ++ news)) → (∀ p ∈ news, ∀ q ∈ tl, @LT.lt Nat _ p.1 q.1) → (∀ q ∈ tl, @LT.lt Nat _ T q.1) → Q v { s with heap := h', toks := tk' }) :
    wpAny (model prog w) (ktrTop dp un gd cn cs L a ccd cl outer) (call (.ref f) vs) Q E s := C _ _ _ _ _ _ _ _ _ _ _ _ _ _ _ _ _ hB hF hX hN hT hc hd hu ret
theorem news_tab {h₀ h : Heap} {L T : Addr} {o : Obj} {tl news : List (Addr × Obj)} (N : News h₀ L h (tl ++ ((T, o) :: news))) : News h₀ L h ((T, o) :: (tl ++ news)) := fun p hp => N p (by
  rcases List.mem_cons.mp hp with rfl | hp
  · exact List.mem_append_right _ List.mem_cons_self
  · rcases List.mem_append.mp hp with hp | hp
    · exact List.mem_append_left _ hp
    · exact List.mem_append_right _ (List.mem_cons_of_mem _ hp))
theorem ord_of {k : Nat} {news tl : List (Addr × Obj)} (h : AllLt k news) (h2 : ∀ q ∈ tl, @LT.lt Nat _ k q.1) : ∀ p ∈ news, ∀ q ∈ tl, @LT.lt Nat _ p.1 q.1 := fun p hp q hq => Nat.lt_trans (ktn_ltOf h p hp) (h2 q hq)
theorem ord_cons {k : Nat} {a : Addr} {o : Obj} {tl : List (Addr × Obj)} (h : @LT.lt Nat _ k a) (h2 : ∀ q ∈ tl, @LT.lt Nat _ k q.1) : ∀ q ∈ (a, o) :: tl, @LT.lt Nat _ k q.1 := fun q hq => by
  rcases List.mem_cons.mp hq with rfl | hq
  · exact h
  · exact h2 q hq
theorem ord_nil {k : Nat} : ∀ q ∈ ([] : List (Addr × Obj)), @LT.lt Nat _ k q.1 := fun _ h => nomatch h
theorem name_four {h₀ h : Heap} {L a1 a2 a3 a4 T : Addr} {o1 o2 o3 o4 oT : Obj} {news : List (Addr × Obj)} {G : Prop} (_N : News h₀ L h ((a1, o1) :: (a2, o2) :: (a3, o3) :: (a4, o4) :: (T, oT) :: news))
    (k : ∀ b1 b2 b3 b4, b1 = a1 → b2 = a2 → b3 = a3 → b4 = a4 → G) : G := k _ _ _ _ rfl rfl rfl rfl
theorem cut_rest {h₀ h : Heap} {L T : Addr} {o : Obj} {news : List (Addr × Obj)} {G : Prop} (pre : List (Addr × Obj)) (N : News h₀ L h (pre ++ ((T, o) :: news))) (k : ∀ rest, rest = pre ++ news → News h₀ L h ((T, o) :: rest) → G) : G := k _ rfl (news_tab N)
end
end

section
open PySem PySem.W PyProof.Rows
section
noncomputable def LawEnd (h₀ : Heap) (L : Addr) (s : Shared) (f : Flow) (s' : Shared) : Prop := ∃ h' tk nw ps m', f = .ret (.bool true) ∧ s' = { s with heap := h', toks := tk } ∧ Fr h₀ L h' m' ∧ News h₀ L h' nw ∧ (91, tabObj ps) ∈ nw
noncomputable def LawWalk (nm : Str) (sc : Scope) (body : List Stmt) : Prop := ∀ (w : World) (p : Program) (loose : List Str) (mean : ExcName → Option Value) (mg mb : Str → Option Value) (fa : Addr) (cd : Value) (h₀ : Heap) (L l : Addr) (vs : List Value) (ns : List Int) (s : Shared),
  Below callerA h₀ [] h₀ → Fr h₀ L s.heap (fun x => List.lookup x [(Str.ofString "script", Value.ref l)].reverse) → (Mine.hd.heap_39 w.params).In h₀ → News h₀ L s.heap [(91, tabObj #[])] → Top p loose mean mg mb h₀ →
  h₀.IsList l vs.toArray → IntsAre vs ns → ns.length ≤ 63 → @LT.lt Nat _ 91 L →
  wpAny (model Challenge.rw_nb0157_01.row.prog w) (callerA.deeper (envOf nm sc L fa cd)) (execs body (envOf nm sc L fa cd)) (LawEnd h₀ L s) (fun _ _ => False) s
noncomputable def lawOf : { x : Str × Scope × List Stmt // LawWalk x.1 x.2.1 x.2.2 → PySem.Challenge.rw_nb0157_01.Holds } := ⟨(_, _, _), fun key => by
    refine Mine.hd ?_
    w_strict (k_go0; dsimp only at *; refine wpAny_mono (key _ _ _ _ _ _ _ _ _ _ _ _ _ _ (by k_asm) (by k_asm) (by k_asm) (by k_asm) (by k_asm) (by k_asm) (by k_asm) (by omega) (by assumption)) ?_ (fun _ _ h => False.elim h); rintro f s' ⟨h', tk, nw, ps, m', rfl, rfl, F9, N9, hm9⟩; refine And.intro ?g1 ?g2; (case g2 => exact And.intro (GrownAt.of N9 hm9) True.intro); (case g1 => (k_end; wrow_close)))⟩
end
end

theorem off_LTop1 : True := by
  w_top off
  trivial

section
open PySem PySem.W PyProof.Rows
section
/-- the length of what two lists begin with alike -/
noncomputable def preN : List Nat → List Nat → Nat
  | x :: xs, y :: ys => if x = y then preN xs ys + 1 else 0
  | _, _ => 0

theorem preN_le_left : ∀ a b : List Nat, preN a b ≤ a.length
  | [], _ => by simp [preN]
  | _ :: _, [] => by simp [preN]
  | x :: xs, y :: ys => by
    simp only [preN]; split
    · simp only [List.length_cons]; have := preN_le_left xs ys; omega
    · exact Nat.zero_le _
theorem preN_le_right : ∀ a b : List Nat, preN a b ≤ b.length
  | [], _ => by simp [preN]
  | _ :: _, [] => by simp [preN]
  | x :: xs, y :: ys => by
    simp only [preN]; split
    · simp only [List.length_cons]; have := preN_le_right xs ys; omega
    · exact Nat.zero_le _
theorem preN_more : ∀ {a b : List Nat} {k : Nat}, k ≤ preN a b → ∀ x, a[k]? = some x → b[k]? = some x → k + 1 ≤ preN a b
  | [], _, _, _, _, h, _ => by simp at h
  | _ :: _, [], _, _, _, _, h => by simp at h
  | x :: xs, y :: ys, 0, _, z, h1, h2 => by
    simp at h1 h2; subst h1; subst h2; simp [preN]
  | x :: xs, y :: ys, k + 1, hk, z, h1, h2 => by
    simp only [preN] at hk ⊢
    split at hk
    · rename_i e; rw [if_pos e]
      have := preN_more (a := xs) (b := ys) (k := k) (by omega) z (by simpa using h1) (by simpa using h2)
      omega
    · omega
theorem preN_stop : ∀ {a b : List Nat} {k : Nat}, k ≤ preN a b → (∀ x, a[k]? = some x → b[k]? = some x → False) → k = preN a b
  | [], _, _, hk, _ => by simp [preN] at hk ⊢; exact hk
  | _ :: _, [], _, hk, _ => by simp [preN] at hk ⊢; exact hk
  | x :: xs, y :: ys, 0, _, h => by
    simp only [preN]
    split
    · rename_i e; subst e; exact (h x rfl rfl).elim
    · rfl
  | x :: xs, y :: ys, k + 1, hk, h => by
    simp only [preN] at hk ⊢
    split at hk
    · rename_i e; rw [if_pos e]
      have := preN_stop (a := xs) (b := ys) (k := k) (by omega) (fun z h1 h2 => h z (by simpa using h1) (by simpa using h2))
      omega
    · omega

theorem item_nat {l : List Nat} {k : Nat} (h : k < l.length) : Txt.item ⟨l.toArray⟩ (k : Int) = ⟨#[l[k]]⟩ :=
  PyProof.Rows.item_meets (x := ⟨l.toArray⟩) (by omega) (by simp [h])
theorem item_neg {l : List Nat} {k : Nat} (h0 : 0 < k) (h : k ≤ l.length) : Txt.item ⟨l.toArray⟩ (-(k : Int)) = ⟨#[l[l.length - k]]⟩ := by
  have := beq_iff_eq.mp (item_closes_neg (x := ⟨l.toArray⟩) (i := -(k : Int)) (j := -(k : Int) + l.length) (by omega) (by simp [Str.length]; omega) (by simp [Str.length]))
  rw [this]
  have e : (-(k : Int) + (l.length : Int)).toNat = l.length - k := by omega
  rw [e]
  have h2 : l.length - k < l.length := by omega
  simp [Array.getD, h2]
theorem slice_drop {l : List Nat} {k : Nat} (h : k ≤ l.length) : Txt.slice ⟨l.toArray⟩ (some (k : Int)) none = ⟨(l.drop k).toArray⟩ := by
  rw [slice_from_eq (x := ⟨l.toArray⟩) (i := k) (b := l.length) (by omega) (by simp [Str.length]; omega) (by simp [Str.length])]
  congr 2
  simp only [Int.toNat_natCast]
  rw [List.take_of_length_le]
  rw [List.length_drop]; omega
theorem slice_neg {l : List Nat} {k : Nat} (h0 : 0 < k) (h : k ≤ l.length) : Txt.slice ⟨l.toArray⟩ none (some (-(k : Int))) = ⟨(l.take (l.length - k)).toArray⟩ := by
  have := beq_iff_eq.mp (slice_closes_to_neg (x := ⟨l.toArray⟩) (j := -(k : Int)) (k := -(k : Int) + l.length) (by omega) (by simp [Str.length]; omega) (by simp [Str.length]))
  rw [this]
  congr 2
  have e : (-(k : Int) + (l.length : Int) - 0).toNat = l.length - k := by omega
  rw [e]; simp
end
section
theorem lev1_more {a b : Str} {la lb : List Nat} {k : Nat} (ea : a = ⟨la.toArray⟩) (eb : b = ⟨lb.toArray⟩) (hk : k ≤ preN la lb) (h1 : k < la.length) (h2 : k < lb.length)
    (h : (Txt.item a (k : Int) == Txt.item b (k : Int)) = true) : k + 1 ≤ preN la lb := by
  subst ea; subst eb
  rw [item_nat h1, item_nat h2] at h
  have e : la[k] = lb[k] := by simpa using beq_iff_eq.mp h
  exact preN_more hk la[k] (by simp [h1]) (by rw [e]; simp [h2])
theorem lev1_stop {a b : Str} {la lb : List Nat} {k : Nat} (ea : a = ⟨la.toArray⟩) (eb : b = ⟨lb.toArray⟩) (hk : k ≤ preN la lb) (h1 : k < la.length) (h2 : k < lb.length)
    (h : (Txt.item a (k : Int) == Txt.item b (k : Int)) = false) : k = preN la lb := by
  subst ea; subst eb
  rw [item_nat h1, item_nat h2] at h
  refine preN_stop hk fun x hx hy => ?_
  have e1 : la[k] = x := by simpa [h1] using hx
  have e2 : lb[k] = x := by simpa [h2] using hy
  rw [e1, e2] at h
  simp at h
end
section
open PySem.Builtin PySem.Builtin.Str in
theorem slice_all (x : Str) : Txt.slice x none none = x := by
  have h : (strSliceIndices none none 1 x.length).length = x.length := by
    unfold strSliceIndices sliceRange
    simp only [show (1 : Int) > 0 by decide, if_true, List.length_map, List.length_range]
    split <;> (try simp only [Int.ediv_one]) <;> omega
  unfold Txt.slice
  rw [h]
  simp
section
variable {prog : Program} {w : World} {A : Around} {E : Value → Shared → Prop} {s : Shared} {h₀ : Heap} {L : Addr} {m : Str → Option Value} {news : List (Addr × Obj)} {Q : Value → Shared → Prop} {x : Str} {t : Tok} {value slice : PySem.Expr}
theorem slice_none (hF : Fr h₀ L s.heap m) (hN : News h₀ L s.heap news) (h : ∀ h' t' k, Fr h₀ L h' m → News h₀ L h' news → Q (.str x t') { s with heap := h', toks := k })
    (hs : subscripted slice false (.str x t) (.ref s.heap.objs.size) = operate [.ref s.heap.objs.size, .str x t] (getItem (.str x t) (.ref s.heap.objs.size)) := by with_unfolding_all rfl)
    (ht : ∀ r, letTemporaryGo value (.str x t) r = pure () := by intro _; with_unfolding_all rfl) (hsz : x.length ≤ sizeLine := by size_fits) :
    wpAny (model prog w) A (subscriptTail value slice (.str x t) (.ref s.heap.objs.size)) Q E { s with heap := s.heap.push { cls := .type "slice", data := .fields #[.none, .none, .none] } } :=
  slice_strN_nn hF hN (fun h' t' k a b => by rw [slice_all]; exact h h' t' k a b) hs ht hsz
end
theorem lev2_more {a b : Str} {la lb : List Nat} {j : Nat} (ea : a = ⟨la.toArray⟩) (eb : b = ⟨lb.toArray⟩) (hk : j ≤ preN la.reverse lb.reverse) (h1 : j < la.length) (h2 : j < lb.length) {i : Int} (hi : i = -(j : Int) - 1)
    (h : (Txt.item a i == Txt.item b i) = true) : j + 1 ≤ preN la.reverse lb.reverse := by
  subst ea; subst eb
  have e0 : i = -((j + 1 : Nat) : Int) := by omega
  rw [e0, item_neg (by omega) (by omega), item_neg (by omega) (by omega)] at h
  have e : la[la.length - (j + 1)] = lb[lb.length - (j + 1)] := by simpa using beq_iff_eq.mp h
  refine preN_more hk (la[la.length - (j + 1)]) ?_ ?_
  · rw [List.getElem?_reverse h1, List.getElem?_eq_getElem (by omega)]; congr 2; omega
  · rw [List.getElem?_reverse h2, List.getElem?_eq_getElem (by omega), e]; congr 2; omega
theorem lev2_stop {a b : Str} {la lb : List Nat} {j : Nat} (ea : a = ⟨la.toArray⟩) (eb : b = ⟨lb.toArray⟩) (hk : j ≤ preN la.reverse lb.reverse) (h1 : j < la.length) (h2 : j < lb.length) {i : Int} (hi : i = -(j : Int) - 1)
    (h : (Txt.item a i == Txt.item b i) = false) : j = preN la.reverse lb.reverse := by
  subst ea; subst eb
  have e0 : i = -((j + 1 : Nat) : Int) := by omega
  rw [e0, item_neg (by omega) (by omega), item_neg (by omega) (by omega)] at h
  refine preN_stop hk fun x hx hy => ?_
  rw [List.getElem?_reverse h1, List.getElem?_eq_getElem (by omega)] at hx
  rw [List.getElem?_reverse h2, List.getElem?_eq_getElem (by omega)] at hy
  have e1 : la[la.length - (j + 1)] = x := by rw [← Option.some.inj hx]; congr 1; omega
  have e2 : lb[lb.length - (j + 1)] = x := by rw [← Option.some.inj hy]; congr 1; omega
  rw [e1, e2] at h
  simp at h
end
end

section
open PySem PySem.W PyProof.Rows
section
/-- the price of a sign for another -/
noncomputable def subN (c x : Nat) : Int := if c = x then 0 else if Txt.lower ⟨#[c]⟩ = Txt.lower ⟨#[x]⟩ then 1 else 2
/-- the inner loop: the row's new items, the last result, the least -/
noncomputable def inn (c : Nat) : List Nat → List Int → Int → Int → Int → List Int × Int × Int
  | x :: xs, r :: rs, d, res, mn =>
    let res' := min (min res r + 2) (d + subN c x)
    let q := inn c xs rs r res' (if res' < mn then res' else mn)
    (res' :: q.1, q.2)
  | _, _, _, res, mn => ([], res, mn)
/-- the outer loop -/
noncomputable def out (a : List Nat) (mc : Int) : List Nat → Nat → List Int → Int → Int
  | [], _, _, res => res
  | c :: cs, i, row, _ =>
    let q := inn c a row ((i : Int) * 2) ((i : Int) * 2) 9223372036854775807
    if q.2.2 > mc then mc + 1 else out a mc cs (i + 1) q.1 q.2.1
noncomputable def levA (a b : List Nat) : List Nat := if b.length < a.length then b else a
noncomputable def levB (a b : List Nat) : List Nat := if b.length < a.length then a else b
noncomputable def levT (a b : List Nat) (mc : Int) : Int :=
  if a.length = 0 ∨ b.length = 0 then 2 * ((a.length : Int) + b.length)
  else if 40 < a.length ∨ 40 < b.length then mc + 1
  else if mc < ((levB a b).length - (levA a b).length : Int) * 2 then mc + 1
  else out (levA a b) mc (levB a b) 0 (rangeInts 2 2 (levA a b).length) 0
noncomputable def levP (a b : List Nat) : List Nat × List Nat := (a.drop (preN a b), b.drop (preN a b))
noncomputable def levS (a b : List Nat) : List Nat × List Nat := (a.take (a.length - preN a.reverse b.reverse), b.take (b.length - preN a.reverse b.reverse))
noncomputable def levF (a b : List Nat) (mc : Int) : Int :=
  if a = b then 0 else levT (levS (levP a b).1 (levP a b).2).1 (levS (levP a b).1 (levP a b).2).2 mc

theorem levT_empty {a b : List Nat} {mc : Int} (h : a.length = 0 ∨ b.length = 0) : levT a b mc = 2 * ((a.length : Int) + b.length) := by
  unfold levT; rw [if_pos h]
theorem levT_long {a b : List Nat} {mc : Int} (h1 : a.length ≠ 0) (h2 : b.length ≠ 0) (h : 40 < a.length ∨ 40 < b.length) : levT a b mc = mc + 1 := by
  unfold levT; rw [if_neg (by omega), if_pos h]
theorem levT_far {a b : List Nat} {mc : Int} (h1 : a.length ≠ 0) (h2 : b.length ≠ 0) (h3 : ¬ 40 < a.length) (h4 : ¬ 40 < b.length) (h : mc < ((levB a b).length - (levA a b).length : Int) * 2) : levT a b mc = mc + 1 := by
  unfold levT; rw [if_neg (by omega), if_neg (by omega), if_pos h]
theorem levT_dp {a b : List Nat} {mc : Int} (h1 : a.length ≠ 0) (h2 : b.length ≠ 0) (h3 : ¬ 40 < a.length) (h4 : ¬ 40 < b.length) (h : ¬ mc < ((levB a b).length - (levA a b).length : Int) * 2) :
    levT a b mc = out (levA a b) mc (levB a b) 0 (rangeInts 2 2 (levA a b).length) 0 := by
  unfold levT; rw [if_neg (by omega), if_neg (by omega), if_neg h]
theorem levF_ne {a b : List Nat} {mc : Int} {k j : Nat} {a1 b1 a2 b2 : List Nat} (h : a ≠ b) (hk : k = preN a b) (e1 : a1 = a.drop k) (e2 : b1 = b.drop k) (hj : j = preN a1.reverse b1.reverse) (e3 : a1.take (a1.length - j) = a2) (e4 : b1.take (b1.length - j) = b2) :
    levF a b mc = levT a2 b2 mc := by
  subst hk; subst e1; subst e2; subst hj; subst e3; subst e4
  unfold levF; rw [if_neg h]; rfl
theorem inn_len (c : Nat) : ∀ (a : List Nat) (row : List Int) (d res mn : Int), row.length = a.length → (inn c a row d res mn).1.length = a.length
  | [], [], _, _, _, _ => rfl
  | [], _ :: _, _, _, _, h => by simp at h
  | _ :: _, [], _, _, _, h => by simp at h
  | x :: xs, r :: rs, d, res, mn, h => by
    simp only [inn, List.length_cons]
    rw [inn_len c xs rs r _ _ (by simpa using h)]
end
section
section
variable {prog : Program} {w : World} {A : Around} {E : Value → Shared → Prop} {s : Shared} {h₀ : Heap} {L : Addr} {m : Str → Option Value} {news : List (Addr × Obj)}
theorem ints_of_items {a c : Int} : ∀ {us : List Value} {n : Nat}, us.length = n → (∀ (j : Nat) (v : Value), us[j]? = some v → ∃ t, v = Value.int (a + j * c) t) → IntsAre us (rangeInts a c n) := by
  intro us n hn h
  subst hn
  have key : ∀ (us : List Value) (k : Nat), (∀ (j : Nat) (v : Value), us[j]? = some v → ∃ t, v = Value.int (a + ((k + j : Nat) : Int) * c) t) → IntsAre us ((List.range' k us.length).map fun i => a + (i : Nat) * c) := by
    intro us
    induction us with
    | nil => intro k _; exact .nil
    | cons v r ih =>
      intro k h
      obtain ⟨t, rfl⟩ := h 0 v rfl
      have := ih (k + 1) (fun j v hv => by have := h (j + 1) v (by simpa using hv); rwa [show k + (j + 1) = k + 1 + j by omega] at this)
      simpa [List.range'_succ] using IntsAre.cons (a + ((k : Nat) : Int) * c) t this
  have := key us 0 (fun j v hv => by simpa using h j v hv)
  unfold rangeInts
  rw [List.range_eq_range']
  exact this
theorem list_range_led {r : Addr} {a b c : Int} {t u v : Tok} {n : Nat} {Q : Value → Shared → Prop} (hh : A.handled = none) (F : Fr h₀ L s.heap m) (N : News h₀ L s.heap news) (hr : IsRange s.heap r a b c t u v) (hsmall : Builtin.Range.small a b c = true) (hn : Builtin.Range.rangeSize a b c = (n : Int)) (hz : n ≤ 2 ^ 24)
    (h : ∀ D us c' h' tk, Fr h₀ L h' m → News h₀ L h' ((D, listOf (List.toArray us) c') :: news) → (∀ p ∈ news, p.1 < D) → IntsAre us (rangeInts a c n) → Q (.ref D) { s with heap := h', toks := tk }) :
    wpAny (model prog w) A (call (.type "list") [.ref r]) Q E s := by
  refine call_list_range hh hr hsmall hn hz fun h' tk acc c hk hD hI => ?_
  have hD' : h'.get? s.heap.objs.size = some (listOf (List.toArray acc.toList) c) := by
    rw [Array.toArray_toList]
    exact hD
  exact h _ acc.toList c h' tk (F.keeps hk) (news_pushed F N hk hD' rfl) (fun p hp => Heap.lt_size (N p hp).1) (ints_of_items (by rw [Array.length_toList]; exact hI.1) fun j v hj => hI.2 j v (by rw [← hj, Array.getElem?_toList]))
theorem size_two (n : Nat) : Builtin.Range.rangeSize 2 (2 * ((n : Int) + 1)) 2 = n := by
  unfold Builtin.Range.rangeSize
  rw [if_pos (by decide)]
  split
  · have : (2 * ((n : Int) + 1) - 2 - 1) = 2 * n - 1 := by omega
    rw [this]; omega
  · omega
theorem fits62 {i : Int} (h1 : -4611686018427387904 ≤ i) (h2 : i < 4611686018427387904) : Builtin.Range.rangeFitsLong i = true := by
  unfold Builtin.Range.rangeFitsLong
  rw [Bool.and_eq_true]
  exact ⟨decide_eq_true (by omega), decide_eq_true (by omega)⟩
theorem small_two {n : Nat} (hn : n ≤ 4096) : Builtin.Range.small 2 (2 * ((n : Int) + 1)) 2 = true := by
  unfold Builtin.Range.small
  rw [size_two, fits62 (by omega) (by omega), fits62 (i := 2 * ((n : Int) + 1)) (by omega) (by omega), fits62 (i := (n : Int)) (by omega) (by omega)]
  rw [if_pos (by decide), fits62 (by omega) (by omega)]
  simp
end
end
section
/-- between two turns of the inner loop -/
noncomputable def InnAt (c : Nat) (a : List Nat) (row0 : List Int) (d0 mn0 : Int) (i : Nat) (row : List Int) (dist res mn : Int) : Prop :=
  row.length = a.length ∧ inn c a row0 d0 d0 mn0 = (row.take i ++ (inn c (a.drop i) (row.drop i) dist res mn).1, (inn c (a.drop i) (row.drop i) dist res mn).2)
theorem InnAt.start {c : Nat} {a : List Nat} {row0 : List Int} {d0 mn0 : Int} (h : row0.length = a.length) : InnAt c a row0 d0 mn0 0 row0 d0 d0 mn0 := ⟨h, by simp⟩
theorem InnAt.step {c : Nat} {a : List Nat} {row0 : List Int} {d0 mn0 : Int} {i : Nat} {row : List Int} {dist res mn : Int} (h : InnAt c a row0 d0 mn0 i row dist res mn) (hi : i < a.length)
    {r x res' mn' : _} (hr : r = row.getD i 0) (hx : x = a.getD i 0) (hres : res' = min (min res r + 2) (dist + subN c x)) (hmn : mn' = if res' < mn then res' else mn) :
    InnAt c a row0 d0 mn0 (i + 1) (row.set i res') r res' mn' := by
  obtain ⟨hl, he⟩ := h
  have hi' : i < row.length := by omega
  refine ⟨by simpa using hl, ?_⟩
  rw [he]
  have e1 : a.drop i = x :: a.drop (i + 1) := by
    rw [List.drop_eq_getElem_cons hi, hx]; simp [hi]
  have e2 : row.drop i = r :: row.drop (i + 1) := by
    rw [List.drop_eq_getElem_cons hi', hr]; simp [hi']
  rw [e1, e2]
  simp only [inn]
  rw [← hres, ← hmn]
  have e3 : (row.set i res').drop (i + 1) = row.drop (i + 1) := by
    rw [List.drop_set_of_lt (by omega)]
  have e4 : (row.set i res').take (i + 1) = row.take i ++ [res'] := by
    rw [List.take_add_one, List.take_set_of_le (by omega)]
    simp [hi']
  rw [e3, e4]
  simp
theorem InnAt.done {c : Nat} {a : List Nat} {row0 : List Int} {d0 mn0 : Int} {row : List Int} {dist res mn : Int} (h : InnAt c a row0 d0 mn0 a.length row dist res mn) : inn c a row0 d0 d0 mn0 = (row, res, mn) := by
  obtain ⟨hl, he⟩ := h
  rw [he]
  simp [inn, ← hl]
theorem out_stop {a : List Nat} {mc : Int} {b : List Nat} {i : Nat} {row row' : List Int} {res res' mn : Int} {x : Nat} (hi : i < b.length) (hx : x = b.getD i 0) (h : inn x a row ((i : Int) * 2) ((i : Int) * 2) 9223372036854775807 = (row', res', mn)) (hm : mn > mc) :
    out a mc (b.drop i) i row res = mc + 1 := by
  have e1 : b.drop i = x :: b.drop (i + 1) := by
    rw [List.drop_eq_getElem_cons hi, hx]; simp [hi]
  rw [e1]
  simp only [out]
  rw [h, if_pos hm]
theorem out_go {a : List Nat} {mc : Int} {b : List Nat} {i : Nat} {row row' : List Int} {res res' mn : Int} {x : Nat} (hi : i < b.length) (hx : x = b.getD i 0) (h : inn x a row ((i : Int) * 2) ((i : Int) * 2) 9223372036854775807 = (row', res', mn)) (hm : ¬ mn > mc) :
    out a mc (b.drop i) i row res = out a mc (b.drop (i + 1)) (i + 1) row' res' := by
  have e1 : b.drop i = x :: b.drop (i + 1) := by
    rw [List.drop_eq_getElem_cons hi, hx]; simp [hi]
  rw [e1]
  simp only [out]
  rw [h, if_neg hm]
theorem ints_set {us : List Value} {row : List Int} (h : IntsAre us row) (i : Nat) (v : Int) (t : Tok) : IntsAre (us.set i (.int v t)) (row.set i v) := by
  induction h generalizing i with
  | nil => exact .nil
  | cons n t' h ih =>
    cases i with
    | zero => exact .cons _ _ h
    | succ i => exact .cons _ _ (ih i)
end
end

section
open PySem PySem.W PyProof.Rows
section
noncomputable def subF (a b : Str) : Int := if a = b then 0 else if Txt.lower a = Txt.lower b then 1 else 2

theorem sub_c {w : World} {p : Program} {loose : List Str} {mean : ExcName → Option Value} {mg mb : Str → Option Value} {news : List (Addr × Obj)} {a b : Str} {ta tb : Tok} (ha : a.length ≤ 4096) (hb : b.length ≤ 4096) :
   Claim Challenge.rw_nb0157_01.row.prog w (Mine.hd.heap_39 w.params) p loose mean mg mb 70 1 8 news [.str a ta, .str b tb] (fun t => .int (subF a b) t) := by
  intro dp un gd cn cs ad ccd cl outer A₀ base h₀ L m s Q E hB hF hX hN hT hcs hdp hun hret
  refine wpAny_call ?_
  k_dflt cell_enter
  k_steps
  · exact cb_retI (Q := Q) (s := s) hret (by rename (a == b) = true => e; rw [subF, if_pos (beq_iff_eq.mp e)]) (by k_asm) (by k_asm)
  · exact cb_retI (Q := Q) (s := s) hret (by rename (a == b) = false => e1; rename (Txt.lower a == Txt.lower b) = true => e2; rw [subF, if_neg (by simpa using e1), if_pos (beq_iff_eq.mp e2)]) (by k_asm) (by k_asm)
  · exact cb_retI (Q := Q) (s := s) hret (by rename (a == b) = false => e1; rename (Txt.lower a == Txt.lower b) = false => e2; rw [subF, if_neg (by simpa using e1), if_neg (by simpa using e2)]) (by k_asm) (by k_asm)
theorem subF_N (c x : Nat) : subF ⟨#[c]⟩ ⟨#[x]⟩ = subN c x := by
  unfold subF subN
  by_cases h : c = x
  · subst h; simp
  · rw [if_neg h, if_neg (by intro e; apply h; simpa using e)]
theorem InnAt.turn {c : Nat} {a : List Nat} {row0 : List Int} {d0 mn0 : Int} {i : Nat} {row : List Int} {dist res mn V mn' : Int} {a3 : Str} (h : InnAt c a row0 d0 mn0 i row dist res mn) (hi : i < a.length) (ea : a3 = ⟨a.toArray⟩)
    (hV : V = if dist + subF ⟨#[c]⟩ (Txt.item a3 (i : Int)) < (if row.getD i 0 < res then row.getD i 0 else res) + 2 then dist + subF ⟨#[c]⟩ (Txt.item a3 (i : Int)) else (if row.getD i 0 < res then row.getD i 0 else res) + 2)
    (hmn : mn' = if V < mn then V else mn) : InnAt c a row0 d0 mn0 (i + 1) (row.set i V) (row.getD i 0) V mn' := by
  refine h.step hi rfl rfl ?_ hmn
  rw [ea, item_nat hi, subF_N] at hV
  have e : a.getD i 0 = a[i] := by simp [hi]
  rw [e, hV]
  generalize row.getD i 0 = r
  generalize subN c a[i] = q
  split <;> split <;> omega
end
end

local macro_rules | `(tactic| walk_at "execs cons") => `(tactic| (k_here; (with_reducible refine execs_cons' ?_); (try (conv => arg 6; dsimp only)); (try k_gentoks); k_fold))
local macro_rules | `(tactic| walk_at "Seq") => `(tactic| first | (with_reducible refine Seq.next ?_) | (with_reducible refine Seq.ret ?_) | (with_reducible refine Seq.brk ?_) | (with_reducible refine Seq.cont ?_))
local macro_rules | `(tactic| walk_at "FPost") => `(tactic| (with_reducible refine FPost.ret ?_))
local macro_rules | `(tactic| k_room) => `(tactic| ktr_room)

section
open PySem PySem.W PyProof.Rows
section


local macro_rules | `(tactic| walk_at "subscriptTail Name Slice str ref") => `(tactic| ((with_reducible show wpAny _ _ (subscriptTail _ (PySem.Expr.Slice none (some (PySem.Expr.BoolOp _ _ _)) none _) _ _) _ _ _); (with_reducible rename Fr _ _ _ _ => F'); (with_reducible rename News _ _ _ _ => N'); refine slice_none (s := ⟨_, _, _, _, _⟩) F' N' ?_; intro _ _ _ _ _))

local macro_rules | `(tactic| walk_at "call ref") => `(tactic| (k_here; (with_reducible show wpAny _ _ (call (Value.ref 70) [Value.str _ _, Value.str _ _]) _ _ _); k_dflt (refine' Claim.use ?k1 ?k2 ?k3 ?k4 ?k5 ?kK (sub_c ?ha ?hb) ?kd ?ku ?_; (case k1 => k_asm); (case k2 => k_asm); (case k3 => k_asm); (case k4 => k_asm); (case k5 => k_asm); (case kK => first | exact rfl | assumption); (case ha => first | omega | exact (show 1 ≤ 4096 by decide)); (case hb => first | omega | exact (show 1 ≤ 4096 by decide)); (case kd => ktr_room); (case ku => ktr_units); k_whole); intro t9 h9 tk9 F9 N9; (try dsimp only); (try k_sweep)))

structure InSt where
  us : List Value
  row : List Int
  d : Int
  res : Int
  mn : Int
  t1 : Tok
  t2 : Tok
  t3 : Tok
  t4 : Tok

theorem lev_c {w : World} {p : Program} {loose : List Str} {mean : ExcName → Option Value} {mg mb : Str → Option Value} {news : List (Addr × Obj)} {la lb : List Nat} {mc : Int} {ta tb tm : Tok} (hle1 : la.length ≤ 4096) (hle2 : lb.length ≤ 4096) :
   Claim Challenge.rw_nb0157_01.row.prog w (Mine.hd.heap_39 w.params) p loose mean mg mb 77 3 24 news [.str ⟨la.toArray⟩ ta, .str ⟨lb.toArray⟩ tb, .int mc tm] (fun t => .int (levF la lb mc) t) := by
  obtain ⟨a, ea⟩ : ∃ a : Str, a = ⟨la.toArray⟩ := ⟨_, rfl⟩
  obtain ⟨b, eb⟩ : ∃ b : Str, b = ⟨lb.toArray⟩ := ⟨_, rfl⟩
  rw [← ea, ← eb]
  have hla : a.length = la.length := by rw [ea]; simp [Str.length]
  have hlb : b.length = lb.length := by rw [eb]; simp [Str.length]
  intro dp un gd cn cs ad ccd cl outer A₀ base h₀ L m s Q E hB hF hX hN hT hcs hdp hun hret
  rw [← hla] at hle1
  rw [← hlb] at hle2
  refine wpAny_call ?_
  k_dflt cell_enter
  (repeat' (first | (k_unfold; first | walk_at "Seq" | (try dsimp only)) | ((fail_if_success ((first | with_reducible show wpAny _ _ (exec (PySem.Stmt.While _ _ _ _) _) _ _ _ | with_reducible show wpAny _ _ (exec (PySem.Stmt.For _ _ _ _ _) _) _ _ _ | with_reducible show wpAny _ _ (pyIter _) _ _ _ | with_reducible show wpAny _ _ (call (Value.type "list") _) _ _ _ | with_reducible show wpAny _ _ (call (Value.builtin "str.join") _) _ _ _ | with_reducible show wpAny _ _ (eval (PySem.Expr.ListComp _ [PySem.Comprehension.mk (PySem.Expr.Tuple _ _ _) _ _ _] _ _) _) _ _ _ | with_reducible show LCg.CompSrc _ _ _ _ _ _ _ _ _ _ _ _ _ _ | with_reducible show wpAny _ _ (execs (PySem.Stmt.If (PySem.Expr.Compare _ [CmpOp.Lt] _ _) [PySem.Stmt.Assign [PySem.Expr.Tuple _ _ _] _ _] _ _ :: _) _) _ _ _))); first | (k_end; wrow_close) | walk1 | (dsimp only; walk1) | (leave1; walk_say "STEP leave1"; try dsimp only) | fail "no step")))
  · exact cb_retI (Q := Q) (s := s) hret (by
      rename (a == b) = true => e
      have e' := beq_iff_eq.mp e
      rw [ea, eb] at e'
      rw [levF, if_pos (by simpa using e')]) (by k_asm) (by k_asm)
  try k_fold
  refine while_ps (fun c : Nat × Tok => [("pre", .int c.1 c.2), ("a", .str a ta), ("b", .str b tb), ("max_cost", .int mc tm)]) (fun _ => news)
    (fun c => c.1 ≤ preN la lb) (fun c => c.1 = preN la lb) (fun c => preN la lb - c.1) (0, _) (by k_asm) (by k_asm) (fun p hp => hp) (by (((repeat (first | refine ps_cons rfl ?_ | refine ps_str (by assumption) rfl ?_ | refine ps_int (by omega) rfl ?_)); exact ps_nil))) (Nat.zero_le _) ?turn ?fin
  case turn =>
    rintro ⟨k, t⟩ u h tk hk F N
    dsimp only [kstB] at hk F ⊢
    have hk1 := preN_le_left la lb
    have hk2 := preN_le_right la lb
    k_sweep
    (repeat' (first | (k_unfold; first | walk_at "Seq" | (try dsimp only)) | ((fail_if_success ((first | with_reducible show wpAny _ _ (exec (PySem.Stmt.While _ _ _ _) _) _ _ _ | with_reducible show wpAny _ _ (exec (PySem.Stmt.For _ _ _ _ _) _) _ _ _ | with_reducible show wpAny _ _ (pyIter _) _ _ _ | with_reducible show wpAny _ _ (call (Value.type "list") _) _ _ _ | with_reducible show wpAny _ _ (call (Value.builtin "str.join") _) _ _ _ | with_reducible show wpAny _ _ (eval (PySem.Expr.ListComp _ [PySem.Comprehension.mk (PySem.Expr.Tuple _ _ _) _ _ _] _ _) _) _ _ _ | with_reducible show LCg.CompSrc _ _ _ _ _ _ _ _ _ _ _ _ _ _ | with_reducible show wpAny _ _ (execs (PySem.Stmt.If (PySem.Expr.Compare _ [CmpOp.Lt] _ _) [PySem.Stmt.Assign [PySem.Expr.Tuple _ _ _] _ _] _ _ :: _) _) _ _ _))); first | (k_end; wrow_close) | walk1 | (dsimp only; walk1) | (leave1; walk_say "STEP leave1"; try dsimp only) | fail "no step")))
    · exact WEnd.intro (k + 1, _) (by k_asm) (by k_asm) (fun p hp => hp) (by (((repeat (first | refine ps_cons rfl ?_ | refine ps_str (by assumption) rfl ?_ | refine ps_int (by omega) rfl ?_)); exact ps_nil))) (lev1_more ea eb hk (by omega) (by omega) (by assumption)) (by have := lev1_more ea eb hk (by omega) (by omega) (by assumption); dsimp only; omega)
    · exact WEnd.intro (k, t) (by k_asm) (by k_asm) (fun p hp => hp) (by (((repeat (first | refine ps_cons rfl ?_ | refine ps_str (by assumption) rfl ?_ | refine ps_int (by omega) rfl ?_)); exact ps_nil))) (lev1_stop ea eb hk (by omega) (by omega) (by assumption)) (by decide)
    · exact WEnd.intro (k, t) (by k_asm) (by k_asm) (fun p hp => hp) (by (((repeat (first | refine ps_cons rfl ?_ | refine ps_str (by assumption) rfl ?_ | refine ps_int (by omega) rfl ?_)); exact ps_nil))) (by dsimp only; omega) (by decide)
    · exact WEnd.intro (k, t) (by k_asm) (by k_asm) (fun p hp => hp) (by (((repeat (first | refine ps_cons rfl ?_ | refine ps_str (by assumption) rfl ?_ | refine ps_int (by omega) rfl ?_)); exact ps_nil))) (by dsimp only; omega) (by decide)
  case fin =>
    rintro ⟨k, t⟩ u h tk hk F N
    dsimp only [kstB] at hk F ⊢
    k_sweep
    (repeat' (first | (k_unfold; first | walk_at "Seq" | (try dsimp only)) | ((fail_if_success ((first | with_reducible show wpAny _ _ (exec (PySem.Stmt.While _ _ _ _) _) _ _ _ | with_reducible show wpAny _ _ (exec (PySem.Stmt.For _ _ _ _ _) _) _ _ _ | with_reducible show wpAny _ _ (pyIter _) _ _ _ | with_reducible show wpAny _ _ (call (Value.type "list") _) _ _ _ | with_reducible show wpAny _ _ (call (Value.builtin "str.join") _) _ _ _ | with_reducible show wpAny _ _ (eval (PySem.Expr.ListComp _ [PySem.Comprehension.mk (PySem.Expr.Tuple _ _ _) _ _ _] _ _) _) _ _ _ | with_reducible show LCg.CompSrc _ _ _ _ _ _ _ _ _ _ _ _ _ _ | with_reducible show wpAny _ _ (execs (PySem.Stmt.If (PySem.Expr.Compare _ [CmpOp.Lt] _ _) [PySem.Stmt.Assign [PySem.Expr.Tuple _ _ _] _ _] _ _ :: _) _) _ _ _))); first | (k_end; wrow_close) | walk1 | (dsimp only; walk1) | (leave1; walk_say "STEP leave1"; try dsimp only) | fail "no step")))
    have hk1 := preN_le_left la lb
    have hk2 := preN_le_right la lb
    obtain ⟨la1, ela1⟩ : ∃ l, l = la.drop k := ⟨_, rfl⟩
    obtain ⟨lb1, elb1⟩ : ∃ l, l = lb.drop k := ⟨_, rfl⟩
    obtain ⟨a1, ea1⟩ : ∃ x : Str, x = ⟨la1.toArray⟩ := ⟨_, rfl⟩
    obtain ⟨b1, eb1⟩ : ∃ x : Str, x = ⟨lb1.toArray⟩ := ⟨_, rfl⟩
    have es1 : Txt.slice a (some ↑k) none = a1 := by rw [ea, ea1, ela1]; exact slice_drop (by omega)
    have es2 : Txt.slice b (some ↑k) none = b1 := by rw [eb, eb1, elb1]; exact slice_drop (by omega)
    have hla1 : a1.length = la1.length := by rw [ea1]; simp [Str.length]
    have hle3 : a1.length ≤ 4096 := by rw [hla1, ela1, List.length_drop]; omega
    have hlb1 : b1.length = lb1.length := by rw [eb1]; simp [Str.length]
    have hle4 : b1.length ≤ 4096 := by rw [hlb1, elb1, List.length_drop]; omega
    have hj1 := preN_le_left la1.reverse lb1.reverse
    have hj2 := preN_le_right la1.reverse lb1.reverse
    rw [List.length_reverse] at hj1 hj2
    with_reducible show wpAny _ _ _ _ _ _
    try k_fold
    refine while_ps (fun c : Nat × Tok × Tok × Tok => [("post", .int (-(c.1 : Int)) c.2.1), ("a", .str a1 c.2.2.1), ("b", .str b1 c.2.2.2), ("max_cost", .int mc tm)]) (fun _ => news)
      (fun c => c.1 ≤ preN la1.reverse lb1.reverse) (fun c => c.1 = preN la1.reverse lb1.reverse) (fun c => preN la1.reverse lb1.reverse - c.1) (0, _, _, _) (by k_asm) (by k_asm) (fun p hp => hp) (by (((repeat (first | refine ps_cons rfl ?_ | refine ps_str (by assumption) rfl ?_ | refine ps_int (by omega) rfl ?_)); exact ps_nil))) (Nat.zero_le _) ?turn ?fin
    case turn =>
      rintro ⟨j, t2, t3, t4⟩ u h tk hj F N
      dsimp only [kstB] at hj F ⊢
      k_sweep
      rcases Nat.eq_zero_or_pos j with hj0 | hj0
      · subst hj0
        simp only [Int.natCast_zero, Int.neg_zero] at F ⊢
        (repeat' (first | (k_unfold; first | walk_at "Seq" | (try dsimp only)) | ((fail_if_success ((first | with_reducible show wpAny _ _ (exec (PySem.Stmt.While _ _ _ _) _) _ _ _ | with_reducible show wpAny _ _ (exec (PySem.Stmt.For _ _ _ _ _) _) _ _ _ | with_reducible show wpAny _ _ (pyIter _) _ _ _ | with_reducible show wpAny _ _ (call (Value.type "list") _) _ _ _ | with_reducible show wpAny _ _ (call (Value.builtin "str.join") _) _ _ _ | with_reducible show wpAny _ _ (eval (PySem.Expr.ListComp _ [PySem.Comprehension.mk (PySem.Expr.Tuple _ _ _) _ _ _] _ _) _) _ _ _ | with_reducible show LCg.CompSrc _ _ _ _ _ _ _ _ _ _ _ _ _ _ | with_reducible show wpAny _ _ (execs (PySem.Stmt.If (PySem.Expr.Compare _ [CmpOp.Lt] _ _) [PySem.Stmt.Assign [PySem.Expr.Tuple _ _ _] _ _] _ _ :: _) _) _ _ _))); first | (k_end; wrow_close) | walk1 | (dsimp only; walk1) | (leave1; walk_say "STEP leave1"; try dsimp only) | fail "no step")))
        · exact WEnd.intro (1, _, t3, t4) (by k_asm) (by k_asm) (fun p hp => hp) (by (((repeat (first | refine ps_cons rfl ?_ | refine ps_str (by assumption) rfl ?_ | refine ps_int (by omega) rfl ?_)); exact ps_nil))) (lev2_more ea1 eb1 hj (by omega) (by omega) rfl (by assumption)) (by have := lev2_more ea1 eb1 hj (by omega) (by omega) rfl (by assumption); dsimp only; omega)
        · exact WEnd.intro (0, t2, t3, t4) (by k_asm) (by k_asm) (fun p hp => hp) (by (((repeat (first | refine ps_cons rfl ?_ | refine ps_str (by assumption) rfl ?_ | refine ps_int (by omega) rfl ?_)); exact ps_nil))) (lev2_stop ea1 eb1 hj (by omega) (by omega) rfl (by assumption)) (by decide)
        · exact WEnd.intro (0, t2, t3, t4) (by k_asm) (by k_asm) (fun p hp => hp) (by (((repeat (first | refine ps_cons rfl ?_ | refine ps_str (by assumption) rfl ?_ | refine ps_int (by omega) rfl ?_)); exact ps_nil))) (by dsimp only; omega) (by decide)
        · exact WEnd.intro (0, t2, t3, t4) (by k_asm) (by k_asm) (fun p hp => hp) (by (((repeat (first | refine ps_cons rfl ?_ | refine ps_str (by assumption) rfl ?_ | refine ps_int (by omega) rfl ?_)); exact ps_nil))) (by dsimp only; omega) (by decide)
      · have sl1 : (Txt.slice a1 none (some (-(j : Int)))).length = la1.length - j := by rw [ea1, slice_neg hj0 (by omega)]; simp [Str.length]
        have sl2 : (Txt.slice b1 none (some (-(j : Int)))).length = lb1.length - j := by rw [eb1, slice_neg hj0 (by omega)]; simp [Str.length]
        have hne : -(j : Int) ≠ 0 := by omega
        have hbe : (-(j : Int) != (0 : Int)) = true := by simpa using hne
        have hm1 : -(j : Int) - 1 = -((j + 1 : Nat) : Int) := by omega
        (repeat' (first | (k_unfold; first | walk_at "Seq" | (try dsimp only)) | ((fail_if_success ((first | with_reducible show wpAny _ _ (exec (PySem.Stmt.While _ _ _ _) _) _ _ _ | with_reducible show wpAny _ _ (exec (PySem.Stmt.For _ _ _ _ _) _) _ _ _ | with_reducible show wpAny _ _ (pyIter _) _ _ _ | with_reducible show wpAny _ _ (call (Value.type "list") _) _ _ _ | with_reducible show wpAny _ _ (call (Value.builtin "str.join") _) _ _ _ | with_reducible show wpAny _ _ (eval (PySem.Expr.ListComp _ [PySem.Comprehension.mk (PySem.Expr.Tuple _ _ _) _ _ _] _ _) _) _ _ _ | with_reducible show LCg.CompSrc _ _ _ _ _ _ _ _ _ _ _ _ _ _ | with_reducible show wpAny _ _ (execs (PySem.Stmt.If (PySem.Expr.Compare _ [CmpOp.Lt] _ _) [PySem.Stmt.Assign [PySem.Expr.Tuple _ _ _] _ _] _ _ :: _) _) _ _ _))); first | (k_end; wrow_close) | walk1 | (dsimp only; walk1) | (leave1; walk_say "STEP leave1"; try dsimp only) | fail "no step")))
        all_goals first
          | (exfalso; omega)
          | exact WEnd.intro (j, t2, t3, t4) (by k_asm) (by k_asm) (fun p hp => hp) (by (((repeat (first | refine ps_cons rfl ?_ | refine ps_str (by assumption) rfl ?_ | refine ps_int (by omega) rfl ?_)); exact ps_nil))) (lev2_stop ea1 eb1 hj (by omega) (by omega) rfl (by assumption)) (by decide)
          | exact WEnd.intro (j, t2, t3, t4) (by k_asm) (by k_asm) (fun p hp => hp) (by (((repeat (first | refine ps_cons rfl ?_ | refine ps_str (by assumption) rfl ?_ | refine ps_int (by omega) rfl ?_)); exact ps_nil))) (by dsimp only; omega) (by decide)
          | exact WEnd.intro (j + 1, _, t3, t4) (by k_asm) (by k_asm) (fun p hp => hp) (by refine ps_int hm1 rfl ?_; (((repeat (first | refine ps_cons rfl ?_ | refine ps_str (by assumption) rfl ?_ | refine ps_int (by omega) rfl ?_)); exact ps_nil))) (lev2_more ea1 eb1 hj (by omega) (by omega) rfl (by assumption)) (by have := lev2_more ea1 eb1 hj (by omega) (by omega) rfl (by assumption); dsimp only; omega)
    case fin =>
      rintro ⟨j, t2, t3, t4⟩ u h tk hj F N
      dsimp only [kstB] at hj F ⊢
      k_sweep
      have ea2 : (if j = 0 then a1 else Txt.slice a1 none (some (-(j : Int)))) = ⟨(la1.take (la1.length - j)).toArray⟩ := by
        split
        · rename_i e; rw [e, ea1]; simp
        · rw [ea1, slice_neg (by omega) (by omega)]
      have eb2 : (if j = 0 then b1 else Txt.slice b1 none (some (-(j : Int)))) = ⟨(lb1.take (lb1.length - j)).toArray⟩ := by
        split
        · rename_i e; rw [e, eb1]; simp
        · rw [eb1, slice_neg (by omega) (by omega)]
      generalize ela2 : la1.take (la1.length - j) = la2 at *
      generalize elb2 : lb1.take (lb1.length - j) = lb2 at *
      obtain ⟨a2, hea2⟩ : ∃ x : Str, x = ⟨la2.toArray⟩ := ⟨_, rfl⟩
      obtain ⟨b2, heb2⟩ : ∃ x : Str, x = ⟨lb2.toArray⟩ := ⟨_, rfl⟩
      rw [← hea2] at ea2
      rw [← heb2] at eb2
      have hne : j ≠ 0 → (-(j : Int) != (0 : Int)) = true := by intro h; simp; omega
      refine stmt_ps (by k_asm) (fun c : Tok × Tok × Tok => [("post", .int (-(j : Int)) c.1), ("a", .str a2 c.2.1), ("b", .str b1 c.2.2), ("max_cost", .int mc tm)]) (fun _ => news) (fun _ => True) ?h1 ?finA
      case h1 =>
        by_cases hj0 : j = 0
        · rw [if_pos hj0] at ea2
          subst hj0
          simp only [Int.natCast_zero, Int.neg_zero] at F ⊢
          (repeat' (first | (k_unfold; first | walk_at "Seq" | (try dsimp only)) | ((fail_if_success ((first | with_reducible show wpAny _ _ (exec (PySem.Stmt.While _ _ _ _) _) _ _ _ | with_reducible show wpAny _ _ (exec (PySem.Stmt.For _ _ _ _ _) _) _ _ _ | with_reducible show wpAny _ _ (pyIter _) _ _ _ | with_reducible show wpAny _ _ (call (Value.type "list") _) _ _ _ | with_reducible show wpAny _ _ (call (Value.builtin "str.join") _) _ _ _ | with_reducible show wpAny _ _ (eval (PySem.Expr.ListComp _ [PySem.Comprehension.mk (PySem.Expr.Tuple _ _ _) _ _ _] _ _) _) _ _ _ | with_reducible show LCg.CompSrc _ _ _ _ _ _ _ _ _ _ _ _ _ _ | with_reducible show wpAny _ _ (execs (PySem.Stmt.If (PySem.Expr.Compare _ [CmpOp.Lt] _ _) [PySem.Stmt.Assign [PySem.Expr.Tuple _ _ _] _ _] _ _ :: _) _) _ _ _))); first | (k_end; wrow_close) | walk1 | (dsimp only; walk1) | (leave1; walk_say "STEP leave1"; try dsimp only) | fail "no step")))
          exact WEnd.intro (_, _, _) (by k_asm) (by k_asm) (fun p hp => hp) (by (((repeat (first | refine ps_cons rfl ?_ | refine ps_str (by assumption) rfl ?_ | refine ps_int (by omega) rfl ?_)); exact ps_nil))) trivial (by decide)
        · rw [if_neg hj0] at ea2
          have := hne hj0
          (repeat' (first | (k_unfold; first | walk_at "Seq" | (try dsimp only)) | ((fail_if_success ((first | with_reducible show wpAny _ _ (exec (PySem.Stmt.While _ _ _ _) _) _ _ _ | with_reducible show wpAny _ _ (exec (PySem.Stmt.For _ _ _ _ _) _) _ _ _ | with_reducible show wpAny _ _ (pyIter _) _ _ _ | with_reducible show wpAny _ _ (call (Value.type "list") _) _ _ _ | with_reducible show wpAny _ _ (call (Value.builtin "str.join") _) _ _ _ | with_reducible show wpAny _ _ (eval (PySem.Expr.ListComp _ [PySem.Comprehension.mk (PySem.Expr.Tuple _ _ _) _ _ _] _ _) _) _ _ _ | with_reducible show LCg.CompSrc _ _ _ _ _ _ _ _ _ _ _ _ _ _ | with_reducible show wpAny _ _ (execs (PySem.Stmt.If (PySem.Expr.Compare _ [CmpOp.Lt] _ _) [PySem.Stmt.Assign [PySem.Expr.Tuple _ _ _] _ _] _ _ :: _) _) _ _ _))); first | (k_end; wrow_close) | walk1 | (dsimp only; walk1) | (leave1; walk_say "STEP leave1"; try dsimp only) | fail "no step")))
          exact WEnd.intro (_, _, _) (by k_asm) (by k_asm) (fun p hp => hp) (by (((repeat (first | refine ps_cons rfl ?_ | refine ps_str (by assumption) rfl ?_ | refine ps_int (by omega) rfl ?_)); exact ps_nil))) trivial (by decide)
      clear F N
      rintro ⟨t5, t6, t7⟩ u h tk - F N
      dsimp only [kstB] at F ⊢
      k_sweep
      refine stmt_ps (by k_asm) (fun c : Tok × Tok => [("a", .str a2 c.1), ("b", .str b2 c.2), ("max_cost", .int mc tm)]) (fun _ => news) (fun _ => True) ?h2 ?finB
      case h2 =>
        by_cases hj0 : j = 0
        · rw [if_pos hj0] at eb2
          subst hj0
          simp only [Int.natCast_zero, Int.neg_zero] at F ⊢
          (repeat' (first | (k_unfold; first | walk_at "Seq" | (try dsimp only)) | ((fail_if_success ((first | with_reducible show wpAny _ _ (exec (PySem.Stmt.While _ _ _ _) _) _ _ _ | with_reducible show wpAny _ _ (exec (PySem.Stmt.For _ _ _ _ _) _) _ _ _ | with_reducible show wpAny _ _ (pyIter _) _ _ _ | with_reducible show wpAny _ _ (call (Value.type "list") _) _ _ _ | with_reducible show wpAny _ _ (call (Value.builtin "str.join") _) _ _ _ | with_reducible show wpAny _ _ (eval (PySem.Expr.ListComp _ [PySem.Comprehension.mk (PySem.Expr.Tuple _ _ _) _ _ _] _ _) _) _ _ _ | with_reducible show LCg.CompSrc _ _ _ _ _ _ _ _ _ _ _ _ _ _ | with_reducible show wpAny _ _ (execs (PySem.Stmt.If (PySem.Expr.Compare _ [CmpOp.Lt] _ _) [PySem.Stmt.Assign [PySem.Expr.Tuple _ _ _] _ _] _ _ :: _) _) _ _ _))); first | (k_end; wrow_close) | walk1 | (dsimp only; walk1) | (leave1; walk_say "STEP leave1"; try dsimp only) | fail "no step")))
          exact WEnd.intro (_, _) (by k_asm) (by k_asm) (fun p hp => hp) (by (((repeat (first | refine ps_cons rfl ?_ | refine ps_str (by assumption) rfl ?_ | refine ps_int (by omega) rfl ?_)); exact ps_nil))) trivial (by decide)
        · rw [if_neg hj0] at eb2
          have := hne hj0
          (repeat' (first | (k_unfold; first | walk_at "Seq" | (try dsimp only)) | ((fail_if_success ((first | with_reducible show wpAny _ _ (exec (PySem.Stmt.While _ _ _ _) _) _ _ _ | with_reducible show wpAny _ _ (exec (PySem.Stmt.For _ _ _ _ _) _) _ _ _ | with_reducible show wpAny _ _ (pyIter _) _ _ _ | with_reducible show wpAny _ _ (call (Value.type "list") _) _ _ _ | with_reducible show wpAny _ _ (call (Value.builtin "str.join") _) _ _ _ | with_reducible show wpAny _ _ (eval (PySem.Expr.ListComp _ [PySem.Comprehension.mk (PySem.Expr.Tuple _ _ _) _ _ _] _ _) _) _ _ _ | with_reducible show LCg.CompSrc _ _ _ _ _ _ _ _ _ _ _ _ _ _ | with_reducible show wpAny _ _ (execs (PySem.Stmt.If (PySem.Expr.Compare _ [CmpOp.Lt] _ _) [PySem.Stmt.Assign [PySem.Expr.Tuple _ _ _] _ _] _ _ :: _) _) _ _ _))); first | (k_end; wrow_close) | walk1 | (dsimp only; walk1) | (leave1; walk_say "STEP leave1"; try dsimp only) | fail "no step")))
          exact WEnd.intro (_, _) (by k_asm) (by k_asm) (fun p hp => hp) (by (((repeat (first | refine ps_cons rfl ?_ | refine ps_str (by assumption) rfl ?_ | refine ps_int (by omega) rfl ?_)); exact ps_nil))) trivial (by decide)
      clear F N
      rintro ⟨t8, t9⟩ u h tk - F N
      dsimp only [kstB] at F ⊢
      k_sweep
      have hla2 : a2.length = la2.length := by rw [hea2]; simp [Str.length]
      have hlb2 : b2.length = lb2.length := by rw [heb2]; simp [Str.length]
      have hl2 : a2.length ≤ 4096 := by rw [hla2, ← ela2, List.length_take]; omega
      have hl3 : b2.length ≤ 4096 := by rw [hlb2, ← elb2, List.length_take]; omega
      have hne' : la ≠ lb := by
        intro e
        have hab : (a == b) = true := by rw [ea, eb, e]; exact beq_self_eq_true _
        have hab' : (a == b) = false := by assumption
        rw [hab] at hab'; cases hab'
      have hlev := levF_ne (mc := mc) hne' hk ela1 elb1 hj ela2 elb2
      rw [hlev] at hret
      clear es1 es2 ea2 eb2
      clear hne ela2 elb2 hlev hj hk
      (repeat' (first | (k_unfold; first | walk_at "Seq" | (try dsimp only)) | ((fail_if_success ((first | with_reducible show wpAny _ _ (exec (PySem.Stmt.While _ _ _ _) _) _ _ _ | with_reducible show wpAny _ _ (exec (PySem.Stmt.For _ _ _ _ _) _) _ _ _ | with_reducible show wpAny _ _ (pyIter _) _ _ _ | with_reducible show wpAny _ _ (call (Value.type "list") _) _ _ _ | with_reducible show wpAny _ _ (call (Value.builtin "str.join") _) _ _ _ | with_reducible show wpAny _ _ (eval (PySem.Expr.ListComp _ [PySem.Comprehension.mk (PySem.Expr.Tuple _ _ _) _ _ _] _ _) _) _ _ _ | with_reducible show LCg.CompSrc _ _ _ _ _ _ _ _ _ _ _ _ _ _ | with_reducible show wpAny _ _ (execs (PySem.Stmt.If (PySem.Expr.Compare _ [CmpOp.Lt] _ _) [PySem.Stmt.Assign [PySem.Expr.Tuple _ _ _] _ _] _ _ :: _) _) _ _ _))); first | (k_end; wrow_close) | walk1 | (dsimp only; walk1) | (leave1; walk_say "STEP leave1"; try dsimp only) | fail "no step")))
      all_goals first
        | exact cb_retI (Q := Q) (s := s) hret (by rw [levT_empty (by omega), hla2, hlb2]) (by k_asm) (by k_asm)
        | exact cb_retI (Q := Q) (s := s) hret (levT_long (by omega) (by omega) (by omega)).symm (by k_asm) (by k_asm)
        | skip
      obtain ⟨la3, ela3⟩ : ∃ l, l = levA la2 lb2 := ⟨_, rfl⟩
      obtain ⟨lb3, elb3⟩ : ∃ l, l = levB la2 lb2 := ⟨_, rfl⟩
      obtain ⟨a3, ea3⟩ : ∃ x : Str, x = ⟨la3.toArray⟩ := ⟨_, rfl⟩
      obtain ⟨b3, eb3⟩ : ∃ x : Str, x = ⟨lb3.toArray⟩ := ⟨_, rfl⟩
      refine stmt_ps (by k_asm) (fun c : Tok × Tok => [("a", .str a3 c.1), ("b", .str b3 c.2), ("max_cost", .int mc tm)]) (fun _ => news) (fun _ => True) ?h3 ?finC
      case h3 =>
        (repeat' (first | (k_unfold; first | walk_at "Seq" | (try dsimp only)) | ((fail_if_success ((first | with_reducible show wpAny _ _ (exec (PySem.Stmt.While _ _ _ _) _) _ _ _ | with_reducible show wpAny _ _ (exec (PySem.Stmt.For _ _ _ _ _) _) _ _ _ | with_reducible show wpAny _ _ (pyIter _) _ _ _ | with_reducible show wpAny _ _ (call (Value.type "list") _) _ _ _ | with_reducible show wpAny _ _ (call (Value.builtin "str.join") _) _ _ _ | with_reducible show wpAny _ _ (eval (PySem.Expr.ListComp _ [PySem.Comprehension.mk (PySem.Expr.Tuple _ _ _) _ _ _] _ _) _) _ _ _ | with_reducible show LCg.CompSrc _ _ _ _ _ _ _ _ _ _ _ _ _ _ | with_reducible show wpAny _ _ (execs (PySem.Stmt.If (PySem.Expr.Compare _ [CmpOp.Lt] _ _) [PySem.Stmt.Assign [PySem.Expr.Tuple _ _ _] _ _] _ _ :: _) _) _ _ _))); first | (k_end; wrow_close) | walk1 | (dsimp only; walk1) | (leave1; walk_say "STEP leave1"; try dsimp only) | fail "no step")))
        · have x1 : b2 = a3 := by rw [heb2, ea3, ela3, levA, if_pos (by omega)]
          have x2 : a2 = b3 := by rw [hea2, eb3, elb3, levB, if_pos (by omega)]
          exact WEnd.intro (_, _) (by k_asm) (by k_asm) (by ((intro p hp; first | exact hp | exact List.mem_cons_of_mem _ hp | exact List.mem_cons_of_mem _ (List.mem_cons_of_mem _ hp)))) (by (((repeat (first | refine ps_cons rfl ?_ | refine ps_str (by assumption) rfl ?_ | refine ps_int (by omega) rfl ?_)); exact ps_nil))) trivial (by decide)
        · have x1 : a2 = a3 := by rw [hea2, ea3, ela3, levA, if_neg (by omega)]
          have x2 : b2 = b3 := by rw [heb2, eb3, elb3, levB, if_neg (by omega)]
          exact WEnd.intro (_, _) (by k_asm) (by k_asm) (by ((intro p hp; first | exact hp | exact List.mem_cons_of_mem _ hp | exact List.mem_cons_of_mem _ (List.mem_cons_of_mem _ hp)))) (by (((repeat (first | refine ps_cons rfl ?_ | refine ps_str (by assumption) rfl ?_ | refine ps_int (by omega) rfl ?_)); exact ps_nil))) trivial (by decide)
      clear F N
      rintro ⟨t8, t9⟩ u h tk - F N
      dsimp only [kstB] at F ⊢
      k_sweep
      have hla3 : a3.length = la3.length := by rw [ea3]; simp [Str.length]
      have hlb3 : b3.length = lb3.length := by rw [eb3]; simp [Str.length]
      have hl4 : la3.length ≤ 40 ∧ la3.length ≠ 0 := by rw [ela3]; unfold levA; split <;> omega
      have hl5 : lb3.length ≤ 40 ∧ lb3.length ≠ 0 := by rw [elb3]; unfold levB; split <;> omega
      (repeat' (first | (k_unfold; first | walk_at "Seq" | (try dsimp only)) | ((fail_if_success ((first | with_reducible show wpAny _ _ (exec (PySem.Stmt.While _ _ _ _) _) _ _ _ | with_reducible show wpAny _ _ (exec (PySem.Stmt.For _ _ _ _ _) _) _ _ _ | with_reducible show wpAny _ _ (pyIter _) _ _ _ | with_reducible show wpAny _ _ (call (Value.type "list") _) _ _ _ | with_reducible show wpAny _ _ (call (Value.builtin "str.join") _) _ _ _ | with_reducible show wpAny _ _ (eval (PySem.Expr.ListComp _ [PySem.Comprehension.mk (PySem.Expr.Tuple _ _ _) _ _ _] _ _) _) _ _ _ | with_reducible show LCg.CompSrc _ _ _ _ _ _ _ _ _ _ _ _ _ _ | with_reducible show wpAny _ _ (execs (PySem.Stmt.If (PySem.Expr.Compare _ [CmpOp.Lt] _ _) [PySem.Stmt.Assign [PySem.Expr.Tuple _ _ _] _ _] _ _ :: _) _) _ _ _))); first | (k_end; wrow_close) | walk1 | (dsimp only; walk1) | (leave1; walk_say "STEP leave1"; try dsimp only) | fail "no step")))
      · exact cb_retI (Q := Q) (s := s) hret (levT_far (by omega) (by omega) (by omega) (by omega) (by rw [← ela3, ← elb3]; omega)).symm (by k_asm) (by k_asm)
      have hT : levT la2 lb2 mc = out la3 mc lb3 0 (rangeInts 2 2 la3.length) 0 := by
        rw [ela3, elb3]; exact levT_dp (by omega) (by omega) (by omega) (by omega) (by rw [← ela3, ← elb3]; omega)
      rw [hT] at hret
      clear hT
      refine' list_range_led (a := 2) (b := 2 * ((a3.length : Int) + 1)) (c := 2) (n := la3.length) rfl ?F ?N ?hr (by rw [hla3]; exact small_two (by omega)) (by rw [hla3]; exact size_two _) (by omega) ?_
      case F => k_asm
      case N => k_asm
      case hr => assumption
      intro D us c' h' tk' F' N' l1 hI
      clear hle1 hle2 hk1 hk2 hla hlb ela1 elb1 ea1 eb1 hla1 hle3 hlb1 hle4 hj1 hj2 hea2 heb2 hla2 hlb2 hl2 hl3 hne' ela3 elb3 ea eb
      k_sweep
      (repeat' (first | (k_unfold; first | walk_at "Seq" | (try dsimp only)) | ((fail_if_success ((first | with_reducible show wpAny _ _ (exec (PySem.Stmt.While _ _ _ _) _) _ _ _ | with_reducible show wpAny _ _ (exec (PySem.Stmt.For _ _ _ _ _) _) _ _ _ | with_reducible show wpAny _ _ (pyIter _) _ _ _ | with_reducible show wpAny _ _ (call (Value.type "list") _) _ _ _ | with_reducible show wpAny _ _ (call (Value.builtin "str.join") _) _ _ _ | with_reducible show wpAny _ _ (eval (PySem.Expr.ListComp _ [PySem.Comprehension.mk (PySem.Expr.Tuple _ _ _) _ _ _] _ _) _) _ _ _ | with_reducible show LCg.CompSrc _ _ _ _ _ _ _ _ _ _ _ _ _ _ | with_reducible show wpAny _ _ (execs (PySem.Stmt.If (PySem.Expr.Compare _ [CmpOp.Lt] _ _) [PySem.Stmt.Assign [PySem.Expr.Tuple _ _ _] _ _] _ _ :: _) _) _ _ _))); first | (k_end; wrow_close) | walk1 | (dsimp only; walk1) | (leave1; walk_say "STEP leave1"; try dsimp only) | fail "no step")))
      refine for_at (by k_asm) (by rfl) (by rfl) ?_
      (repeat' (first | (k_unfold; first | walk_at "Seq" | (try dsimp only)) | ((fail_if_success ((first | with_reducible show wpAny _ _ (exec (PySem.Stmt.While _ _ _ _) _) _ _ _ | with_reducible show wpAny _ _ (exec (PySem.Stmt.For _ _ _ _ _) _) _ _ _ | with_reducible show wpAny _ _ (pyIter _) _ _ _ | with_reducible show wpAny _ _ (call (Value.type "list") _) _ _ _ | with_reducible show wpAny _ _ (call (Value.builtin "str.join") _) _ _ _ | with_reducible show wpAny _ _ (eval (PySem.Expr.ListComp _ [PySem.Comprehension.mk (PySem.Expr.Tuple _ _ _) _ _ _] _ _) _) _ _ _ | with_reducible show LCg.CompSrc _ _ _ _ _ _ _ _ _ _ _ _ _ _ | with_reducible show wpAny _ _ (execs (PySem.Stmt.If (PySem.Expr.Compare _ [CmpOp.Lt] _ _) [PySem.Stmt.Assign [PySem.Expr.Tuple _ _ _] _ _] _ _ :: _) _) _ _ _))); first | (k_end; wrow_close) | walk1 | (dsimp only; walk1) | (leave1; walk_say "STEP leave1"; try dsimp only) | fail "no step")))
      refine iter_range_ps (a := 0) (b := (b3.length : Int)) (n := lb3.length) rfl (by assumption) (small_one (by omega) (by omega) (by omega) (by omega)) (by rw [rangeSize_nat]; omega)
        (fun c : List Value × List Int × Int × Tok => [("a", .str a3 t8), ("b", .str b3 t9), ("max_cost", .int mc tm), ("row", .ref D), ("result", .int c.2.2.1 c.2.2.2)])
        (fun c => [(D, W.listOf c.1.toArray c')])
        (fun i c => IntsAre c.1 c.2.1 ∧ c.2.1.length = la3.length ∧ out la3 mc (lb3.drop i) i c.2.1 c.2.2.1 = out la3 mc lb3 0 (rangeInts 2 2 la3.length) 0)
        (us, rangeInts 2 2 la3.length, 0, _) (fun c => rfl) (by k_asm) (show News _ _ _ ((D, W.listOf us.toArray c') :: news) by k_asm) ?ap (by (((repeat (first | refine ps_cons rfl ?_ | refine ps_str (by assumption) rfl ?_ | refine ps_int (by omega) rfl ?_)); exact ps_nil))) ⟨hI, rangeInts_length _ _ _, rfl⟩ ?turn ?fin
      case ap => intro p hp hm; exact absurd (List.mem_singleton.mp hm) (Nat.ne_of_lt (l1 p hp))
      case fin =>
        rintro ⟨us', row', res', t10⟩ u' h2 tk2 ⟨hI2, hlen2, hout⟩ F2 N2
        dsimp only [kstB] at F2 hI2 hlen2 hout ⊢
        have N3 : News _ _ h2 news := fun p hp => N2 p (List.mem_append_right _ hp)
        clear N2
        (repeat' (first | (k_unfold; first | walk_at "Seq" | (try dsimp only)) | ((fail_if_success ((first | with_reducible show wpAny _ _ (exec (PySem.Stmt.While _ _ _ _) _) _ _ _ | with_reducible show wpAny _ _ (exec (PySem.Stmt.For _ _ _ _ _) _) _ _ _ | with_reducible show wpAny _ _ (pyIter _) _ _ _ | with_reducible show wpAny _ _ (call (Value.type "list") _) _ _ _ | with_reducible show wpAny _ _ (call (Value.builtin "str.join") _) _ _ _ | with_reducible show wpAny _ _ (eval (PySem.Expr.ListComp _ [PySem.Comprehension.mk (PySem.Expr.Tuple _ _ _) _ _ _] _ _) _) _ _ _ | with_reducible show LCg.CompSrc _ _ _ _ _ _ _ _ _ _ _ _ _ _ | with_reducible show wpAny _ _ (execs (PySem.Stmt.If (PySem.Expr.Compare _ [CmpOp.Lt] _ _) [PySem.Stmt.Assign [PySem.Expr.Tuple _ _ _] _ _] _ _ :: _) _) _ _ _))); first | (k_end; wrow_close) | walk1 | (dsimp only; walk1) | (leave1; walk_say "STEP leave1"; try dsimp only) | fail "no step")))
        exact cb_retI (Q := Q) (s := s) hret (by rw [← hout]; simp [out]) (by k_asm) (by k_asm)
      case turn =>
        rintro i t11 ⟨us', row', res', t10⟩ u' h2 tk2 tl hi ⟨hI2, hlen2, hout⟩ hsub hap F2 N2
        dsimp only [kstB] at F2 hI2 hlen2 hout ⊢
        have hoff : OwnOff tl [D] := own_off hap
        have N3 : News _ _ h2 ((D, W.listOf us'.toArray c') :: tl) := N2
        clear N2 hap
        rw [Int.zero_add] at F2
        (repeat' (first | (k_unfold; first | walk_at "Seq" | (try dsimp only)) | ((fail_if_success ((first | with_reducible show wpAny _ _ (exec (PySem.Stmt.While _ _ _ _) _) _ _ _ | with_reducible show wpAny _ _ (exec (PySem.Stmt.For _ _ _ _ _) _) _ _ _ | with_reducible show wpAny _ _ (pyIter _) _ _ _ | with_reducible show wpAny _ _ (call (Value.type "list") _) _ _ _ | with_reducible show wpAny _ _ (call (Value.builtin "str.join") _) _ _ _ | with_reducible show wpAny _ _ (eval (PySem.Expr.ListComp _ [PySem.Comprehension.mk (PySem.Expr.Tuple _ _ _) _ _ _] _ _) _) _ _ _ | with_reducible show LCg.CompSrc _ _ _ _ _ _ _ _ _ _ _ _ _ _ | with_reducible show wpAny _ _ (execs (PySem.Stmt.If (PySem.Expr.Compare _ [CmpOp.Lt] _ _) [PySem.Stmt.Assign [PySem.Expr.Tuple _ _ _] _ _] _ _ :: _) _) _ _ _))); first | (k_end; wrow_close) | walk1 | (dsimp only; walk1) | (leave1; walk_say "STEP leave1"; try dsimp only) | fail "no step")))
        refine for_at (by k_asm) (by rfl) (by rfl) ?_
        (repeat' (first | (k_unfold; first | walk_at "Seq" | (try dsimp only)) | ((fail_if_success ((first | with_reducible show wpAny _ _ (exec (PySem.Stmt.While _ _ _ _) _) _ _ _ | with_reducible show wpAny _ _ (exec (PySem.Stmt.For _ _ _ _ _) _) _ _ _ | with_reducible show wpAny _ _ (pyIter _) _ _ _ | with_reducible show wpAny _ _ (call (Value.type "list") _) _ _ _ | with_reducible show wpAny _ _ (call (Value.builtin "str.join") _) _ _ _ | with_reducible show wpAny _ _ (eval (PySem.Expr.ListComp _ [PySem.Comprehension.mk (PySem.Expr.Tuple _ _ _) _ _ _] _ _) _) _ _ _ | with_reducible show LCg.CompSrc _ _ _ _ _ _ _ _ _ _ _ _ _ _ | with_reducible show wpAny _ _ (execs (PySem.Stmt.If (PySem.Expr.Compare _ [CmpOp.Lt] _ _) [PySem.Stmt.Assign [PySem.Expr.Tuple _ _ _] _ _] _ _ :: _) _) _ _ _))); first | (k_end; wrow_close) | walk1 | (dsimp only; walk1) | (leave1; walk_say "STEP leave1"; try dsimp only) | fail "no step")))
        obtain ⟨bc, ebc⟩ : ∃ x, x = lb3.getD i 0 := ⟨_, rfl⟩
        have ebi : Txt.item b3 (i : Int) = ⟨#[bc]⟩ := by rw [eb3, item_nat hi, ebc]; simp [hi]
        refine iter_range_ps (a := 0) (b := (a3.length : Int)) (n := la3.length) rfl (by assumption) (small_one (by omega) (by omega) (by omega) (by omega)) (by rw [rangeSize_nat]; omega)
          (fun c : InSt => [("a", .str a3 t8), ("b", .str b3 t9), ("max_cost", .int mc tm), ("row", .ref D), ("bchar", .str ⟨#[bc]⟩ c.t4), ("distance", .int c.d c.t1), ("result", .int c.res c.t2), ("minimum", .int c.mn c.t3)])
          (fun c => [(D, W.listOf c.us.toArray c')])
          (fun j c => IntsAre c.us c.row ∧ InnAt bc la3 row' ((i : Int) * 2) 9223372036854775807 j c.row c.d c.res c.mn)
          ⟨us', row', (i : Int) * 2, (i : Int) * 2, 9223372036854775807, _, _, _, _⟩ (fun c => rfl) (by k_asm) (show News _ _ _ ((D, W.listOf us'.toArray c') :: tl) by k_asm) ?ap (by (((repeat (first | refine ps_cons rfl ?_ | refine ps_str (by assumption) rfl ?_ | refine ps_int (by omega) rfl ?_)); exact ps_nil))) ⟨hI2, InnAt.start hlen2⟩ ?turn ?fin
        case ap => intro p hp hm; exact hoff p hp _ (List.mem_singleton.mpr rfl) (List.mem_singleton.mp hm)
        case fin =>
          rintro ⟨us2, row2, d2, res2, mn2, t1, t2, t3, t4⟩ u3 h3 tk3 ⟨hI3, hin⟩ F4 N4
          dsimp only [kstB] at F4 hI3 hin ⊢
          have N5 : News _ _ h3 ((D, W.listOf us2.toArray c') :: tl) := N4
          clear N4
          have hinn := hin.done
          k_sweep
          (repeat' (first | (k_unfold; first | walk_at "Seq" | (try dsimp only)) | ((fail_if_success ((first | with_reducible show wpAny _ _ (exec (PySem.Stmt.While _ _ _ _) _) _ _ _ | with_reducible show wpAny _ _ (exec (PySem.Stmt.For _ _ _ _ _) _) _ _ _ | with_reducible show wpAny _ _ (pyIter _) _ _ _ | with_reducible show wpAny _ _ (call (Value.type "list") _) _ _ _ | with_reducible show wpAny _ _ (call (Value.builtin "str.join") _) _ _ _ | with_reducible show wpAny _ _ (eval (PySem.Expr.ListComp _ [PySem.Comprehension.mk (PySem.Expr.Tuple _ _ _) _ _ _] _ _) _) _ _ _ | with_reducible show LCg.CompSrc _ _ _ _ _ _ _ _ _ _ _ _ _ _ | with_reducible show wpAny _ _ (execs (PySem.Stmt.If (PySem.Expr.Compare _ [CmpOp.Lt] _ _) [PySem.Stmt.Assign [PySem.Expr.Tuple _ _ _] _ _] _ _ :: _) _) _ _ _))); first | (k_end; wrow_close) | walk1 | (dsimp only; walk1) | (leave1; walk_say "STEP leave1"; try dsimp only) | fail "no step")))
          · exact cb_retI (Q := Q) (s := s) hret (by rw [← hout]; exact (out_stop hi ebc hinn (by omega)).symm) (by k_asm) (by first | k_asm | (intro p hp; exact (by k_asm : News _ _ _ (_ :: tl)) p (List.mem_cons_of_mem _ (hsub p hp))))
          · exact WEnd.intro (us2, row2, res2, t2) (by k_asm) (by k_asm) (fun p hp => hp) (by (((repeat (first | refine ps_cons rfl ?_ | refine ps_str (by assumption) rfl ?_ | refine ps_int (by omega) rfl ?_)); exact ps_nil))) ⟨hI3, hin.1, (out_go hi ebc hinn (by omega)).symm.trans hout⟩ (by decide)
        case turn =>
          rintro j t20 ⟨us2, row2, d2, res2, mn2, t1, t2, t3, t4⟩ u3 h3 tk3 tl2 hj ⟨hI3, hin⟩ hsub2 hap2 F4 N4
          dsimp only [kstB] at F4 hI3 hin ⊢
          have hoff2 : OwnOff tl2 [D] := own_off hap2
          have N5 : News _ _ h3 ((D, W.listOf us2.toArray c') :: tl2) := N4
          clear N4 hap2
          rw [Int.zero_add] at F4
          have hlen3 : row2.length = la3.length := hin.1
          k_sweep
          (repeat' (first | (k_unfold; first | walk_at "Seq" | (try dsimp only)) | ((fail_if_success ((first | with_reducible show wpAny _ _ (exec (PySem.Stmt.While _ _ _ _) _) _ _ _ | with_reducible show wpAny _ _ (exec (PySem.Stmt.For _ _ _ _ _) _) _ _ _ | with_reducible show wpAny _ _ (pyIter _) _ _ _ | with_reducible show wpAny _ _ (call (Value.type "list") _) _ _ _ | with_reducible show wpAny _ _ (call (Value.builtin "str.join") _) _ _ _ | with_reducible show wpAny _ _ (eval (PySem.Expr.ListComp _ [PySem.Comprehension.mk (PySem.Expr.Tuple _ _ _) _ _ _] _ _) _) _ _ _ | with_reducible show LCg.CompSrc _ _ _ _ _ _ _ _ _ _ _ _ _ _ | with_reducible show wpAny _ _ (execs (PySem.Stmt.If (PySem.Expr.Compare _ [CmpOp.Lt] _ _) [PySem.Stmt.Assign [PySem.Expr.Tuple _ _ _] _ _] _ _ :: _) _) _ _ _))); first | (k_end; wrow_close) | walk1 | (dsimp only; walk1) | (leave1; walk_say "STEP leave1"; try dsimp only) | fail "no step")))
          · exact WEnd.intro ⟨us2.set j (.int _ _), row2.set j _, _, _, _, _, _, _, _⟩ (by k_asm) (by k_asm) (fun p hp => hp) (by (((repeat (first | refine ps_cons rfl ?_ | refine ps_str (by assumption) rfl ?_ | refine ps_int (by omega) rfl ?_)); exact ps_nil))) ⟨ints_set hI3 _ _ _, InnAt.turn hin hj ea3 rfl (if_pos (by assumption)).symm⟩ (by decide)
          · exact WEnd.intro ⟨us2.set j (.int _ _), row2.set j _, _, _, _, _, _, _, _⟩ (by k_asm) (by k_asm) (fun p hp => hp) (by (((repeat (first | refine ps_cons rfl ?_ | refine ps_str (by assumption) rfl ?_ | refine ps_int (by omega) rfl ?_)); exact ps_nil))) ⟨ints_set hI3 _ _ _, InnAt.turn hin hj ea3 rfl (if_neg (by assumption)).symm⟩ (by decide)
end
end

section
open PySem PySem.W PyProof.Rows
section
noncomputable def signF (a b : Str) : Int := if a = b then 0 else if Txt.swapcase a = b then 1 else 2

theorem sign_c {w : World} {p : Program} {loose : List Str} {mean : ExcName → Option Value} {mg mb : Str → Option Value} {news : List (Addr × Obj)} {a b : Str} {ta tb : Tok} (ha : a.length ≤ 4096) (hb : b.length ≤ 4096) :
   Claim Challenge.rw_nb0157_01.row.prog w (Mine.hd.heap_39 w.params) p loose mean mg mb 108 1 8 news [.str a ta, .str b tb] (fun t => .int (signF a b) t) := by
  intro dp un gd cn cs ad ccd cl outer A₀ base h₀ L m s Q E hB hF hX hN hT hcs hdp hun hret
  refine wpAny_call ?_
  k_dflt cell_enter
  (repeat' (first | (k_unfold; first | walk_at "Seq" | (try dsimp only)) | ((fail_if_success ((first | with_reducible show wpAny _ _ (call (Value.ref 115) _) _ _ _ | with_reducible show wpAny _ _ (exec (PySem.Stmt.While _ _ _ _) _) _ _ _ | with_reducible show wpAny _ _ (exec (PySem.Stmt.For _ _ _ _ _) _) _ _ _ | with_reducible show wpAny _ _ (pyIter _) _ _ _ | with_reducible show wpAny _ _ (call (Value.type "list") _) _ _ _ | with_reducible show wpAny _ _ (call (Value.builtin "str.join") _) _ _ _ | with_reducible show wpAny _ _ (eval (PySem.Expr.ListComp _ [PySem.Comprehension.mk (PySem.Expr.Tuple _ _ _) _ _ _] _ _) _) _ _ _ | with_reducible show LCg.CompSrc _ _ _ _ _ _ _ _ _ _ _ _ _ _ | with_reducible show wpAny _ _ (execs (PySem.Stmt.If (PySem.Expr.Compare _ [CmpOp.Lt] _ _) [PySem.Stmt.Assign [PySem.Expr.Tuple _ _ _] _ _] _ _ :: _) _) _ _ _))); first | (k_end; wrow_close) | walk1 | (dsimp only; walk1) | (leave1; walk_say "STEP leave1"; try dsimp only) | fail "no step")))
  · exact cb_retI (Q := Q) (s := s) hret (by rename (a == b) = true => e; rw [signF, if_pos (beq_iff_eq.mp e)]) (by k_asm) (by k_asm)
  · exact cb_retI (Q := Q) (s := s) hret (by rename (a == b) = false => e1; rename (Txt.swapcase a == b) = true => e2; rw [signF, if_neg (by simpa using e1), if_pos (beq_iff_eq.mp e2)]) (by k_asm) (by k_asm)
  · exact cb_retI (Q := Q) (s := s) hret (by rename (a == b) = false => e1; rename (Txt.swapcase a == b) = false => e2; rw [signF, if_neg (by simpa using e1), if_neg (by simpa using e2)]) (by k_asm) (by k_asm)

noncomputable def signN (c x : Nat) : Int := signF ⟨#[c]⟩ ⟨#[x]⟩
/-- the least of a list's ints -/
noncomputable def minL : Int → List Int → Int
  | m, [] => m
  | m, x :: xs => minL (if x < m then x else m) xs
theorem minL_le : ∀ (m : Int) (xs : List Int), minL m xs ≤ m ∧ ∀ x ∈ xs, minL m xs ≤ x
  | m, [] => ⟨Int.le_refl _, fun _ h => nomatch h⟩
  | m, x :: xs => by
    have ⟨h1, h2⟩ := minL_le (if x < m then x else m) xs
    simp only [minL]
    refine ⟨?_, fun y hy => ?_⟩
    · split at h1 <;> split <;> omega
    · rcases List.mem_cons.mp hy with rfl | hy
      · split at h1 <;> split <;> omega
      · exact h2 y hy
theorem minL_mem : ∀ (m : Int) (xs : List Int), minL m xs ∈ m :: xs
  | m, [] => List.mem_cons_self
  | m, x :: xs => by
    simp only [minL]
    have := minL_mem (if x < m then x else m) xs
    rcases List.mem_cons.mp this with h | h
    · rw [h]; split
      · exact List.mem_cons_of_mem _ List.mem_cons_self
      · exact List.mem_cons_self
    · exact List.mem_cons_of_mem _ (List.mem_cons_of_mem _ h)
theorem minL_spec {M m : Int} {xs : List Int} (h1 : M ∈ m :: xs) (h2 : ∀ a ∈ m :: xs, M ≤ a) : M = minL m xs := by
  have a1 := h2 _ (minL_mem m xs)
  have ⟨b1, b2⟩ := minL_le m xs
  rcases List.mem_cons.mp h1 with h | h
  · omega
  · have := b2 M h; omega
theorem ints_snoc {us : List Value} {ns : List Int} (h : IntsAre us ns) (v : Int) (t : Tok) : IntsAre (us ++ [.int v t]) (ns ++ [v]) := by
  induction h with
  | nil => exact .cons _ _ .nil
  | cons n t' h ih => exact .cons _ _ ih
noncomputable def priceF : List Nat → List Nat → Int
  | [], b => 2 * b.length
  | x :: xs, b => if b.length = 0 then 2 * ((xs.length : Int) + 1) else minL (2 + priceF xs b) ((List.range b.length).map fun (k : Nat) => 2 * (k : Int) + signN x (b.getD k 0) + priceF xs (b.drop (k + 1)))

local macro_rules | `(tactic| walk_at "call ref") => `(tactic| (k_here; (with_reducible show wpAny _ _ (call (Value.ref 108) [Value.str _ _, Value.str _ _]) _ _ _); k_dflt (refine' Claim.use ?k1 ?k2 ?k3 ?k4 ?k5 ?kK (sign_c ?ha ?hb) ?kd ?ku ?_; (case k1 => k_asm); (case k2 => k_asm); (case k3 => k_asm); (case k4 => k_asm); (case k5 => k_asm); (case kK => first | exact rfl | assumption); (case ha => first | omega | exact (show 1 ≤ 4096 by decide)); (case hb => first | omega | exact (show 1 ≤ 4096 by decide)); (case kd => ktr_room); (case ku => ktr_units); k_whole); intro t9 h9 tk9 F9 N9; (try dsimp only); (try k_sweep)))

theorem empty_of {a : Str} {l : List Nat} (e : a = ⟨l.toArray⟩) (h : (a == Str.ofString "") = true) : l.length = 0 := by
  have := beq_iff_eq.mp h
  rw [e] at this
  have e2 : Str.ofString "" = ⟨([] : List Nat).toArray⟩ := by decide
  rw [e2] at this
  have h3 : l = [] := by simpa using this
  rw [h3]; rfl
theorem nonempty_of {a : Str} {l : List Nat} (e : a = ⟨l.toArray⟩) (h : (a == Str.ofString "") = false) : l.length ≠ 0 := by
  intro hl
  have h3 : l = [] := List.length_eq_zero_iff.mp hl
  rw [e, h3] at h
  have e2 : Str.ofString "" = ⟨([] : List Nat).toArray⟩ := by decide
  rw [e2] at h
  simp at h
theorem price_c {w : World} {p : Program} {loose : List Str} {mean : ExcName → Option Value} {mg mb : Str → Option Value} : ∀ {la lb : List Nat} {news : List (Addr × Obj)} {ta tb : Tok}, la.length ≤ 64 → lb.length ≤ 4096 →
   Claim Challenge.rw_nb0157_01.row.prog w (Mine.hd.heap_39 w.params) p loose mean mg mb 115 (la.length + 3) (8 * la.length + 24) news [.str ⟨la.toArray⟩ ta, .str ⟨lb.toArray⟩ tb] (fun t => .int (priceF la lb) t) := by
  intro la
  induction la with
  | nil =>
    intro lb news ta tb h1 h2
    obtain ⟨a, ea⟩ : ∃ a : Str, a = ⟨([] : List Nat).toArray⟩ := ⟨_, rfl⟩
    obtain ⟨b, eb⟩ : ∃ b : Str, b = ⟨lb.toArray⟩ := ⟨_, rfl⟩
    rw [← ea, ← eb]
    have hla : a.length = 0 := by rw [ea]; simp [Str.length]
    have hlb : b.length = lb.length := by rw [eb]; simp [Str.length]
    intro dp un gd cn cs ad ccd cl outer A₀ base h₀ L m s Q E hB hF hX hN hT hcs hdp hun hret
    refine wpAny_call ?_
    k_dflt cell_enter
    have hae : (a == Str.ofString "") = true := by rw [ea]; decide
    (repeat' (first | (k_unfold; first | walk_at "Seq" | (try dsimp only)) | ((fail_if_success ((first | with_reducible show wpAny _ _ (call (Value.ref 115) _) _ _ _ | with_reducible show wpAny _ _ (exec (PySem.Stmt.While _ _ _ _) _) _ _ _ | with_reducible show wpAny _ _ (exec (PySem.Stmt.For _ _ _ _ _) _) _ _ _ | with_reducible show wpAny _ _ (pyIter _) _ _ _ | with_reducible show wpAny _ _ (call (Value.type "list") _) _ _ _ | with_reducible show wpAny _ _ (call (Value.builtin "str.join") _) _ _ _ | with_reducible show wpAny _ _ (eval (PySem.Expr.ListComp _ [PySem.Comprehension.mk (PySem.Expr.Tuple _ _ _) _ _ _] _ _) _) _ _ _ | with_reducible show LCg.CompSrc _ _ _ _ _ _ _ _ _ _ _ _ _ _ | with_reducible show wpAny _ _ (execs (PySem.Stmt.If (PySem.Expr.Compare _ [CmpOp.Lt] _ _) [PySem.Stmt.Assign [PySem.Expr.Tuple _ _ _] _ _] _ _ :: _) _) _ _ _))); first | (k_end; wrow_close) | walk1 | (dsimp only; walk1) | (leave1; walk_say "STEP leave1"; try dsimp only) | fail "no step")))
    exact cb_retI (Q := Q) (s := s) hret (by rw [priceF, hla, hlb]; omega) (by k_asm) (by k_asm)
  | cons x xs IH =>
    intro lb news ta tb h1 h2
    obtain ⟨a, ea⟩ : ∃ a : Str, a = ⟨(x :: xs).toArray⟩ := ⟨_, rfl⟩
    obtain ⟨b, eb⟩ : ∃ b : Str, b = ⟨lb.toArray⟩ := ⟨_, rfl⟩
    rw [← ea, ← eb]
    have hla : a.length = xs.length + 1 := by rw [ea]; simp [Str.length]
    have hlb : b.length = lb.length := by rw [eb]; simp [Str.length]
    have hle2 : b.length ≤ 4096 := by omega
    have hle1 : a.length ≤ 64 := by rw [hla]; simpa using h1
    rw [List.length_cons] at h1
    rw [List.length_cons]
    intro dp un gd cn cs ad ccd cl outer A₀ base h₀ L m s Q E hB hF hX hN hT hcs hdp hun hret
    refine wpAny_call ?_
    k_dflt cell_enter
    have hae : (a == Str.ofString "") = false := by rw [ea]; simp [show Str.ofString "" = ⟨#[]⟩ by decide]
    (repeat' (first | (k_unfold; first | walk_at "Seq" | (try dsimp only)) | ((fail_if_success ((first | with_reducible show wpAny _ _ (call (Value.ref 115) _) _ _ _ | with_reducible show wpAny _ _ (exec (PySem.Stmt.While _ _ _ _) _) _ _ _ | with_reducible show wpAny _ _ (exec (PySem.Stmt.For _ _ _ _ _) _) _ _ _ | with_reducible show wpAny _ _ (pyIter _) _ _ _ | with_reducible show wpAny _ _ (call (Value.type "list") _) _ _ _ | with_reducible show wpAny _ _ (call (Value.builtin "str.join") _) _ _ _ | with_reducible show wpAny _ _ (eval (PySem.Expr.ListComp _ [PySem.Comprehension.mk (PySem.Expr.Tuple _ _ _) _ _ _] _ _) _) _ _ _ | with_reducible show LCg.CompSrc _ _ _ _ _ _ _ _ _ _ _ _ _ _ | with_reducible show wpAny _ _ (execs (PySem.Stmt.If (PySem.Expr.Compare _ [CmpOp.Lt] _ _) [PySem.Stmt.Assign [PySem.Expr.Tuple _ _ _] _ _] _ _ :: _) _) _ _ _))); first | (k_end; wrow_close) | walk1 | (dsimp only; walk1) | (leave1; walk_say "STEP leave1"; try dsimp only) | fail "no step")))
    · exact cb_retI (Q := Q) (s := s) hret (by rw [priceF, if_pos (empty_of eb (by assumption)), hla, hlb, empty_of eb (by assumption)]; omega) (by k_asm) (by k_asm)
    have hne := nonempty_of eb (by assumption)
    have es1 : Txt.slice a (some (1 : Int)) none = ⟨xs.toArray⟩ := by rw [ea]; exact slice_drop (l := x :: xs) (k := 1) (by simp)
    refine' Claim.useE ?k1 ?k2 ?k3 ?k4 ?k5 ?kK (IH (lb := lb) (by omega) h2) (by rw [es1, eb]) ?kd ?ku ?_
    case k1 => k_asm
    case k2 => k_asm
    case k3 => k_asm
    case k4 => k_asm
    case k5 => k_asm
    case kK => rfl
    case kd => ktr_room
    case ku => ktr_units
    intro t9 h9 tk9 F9 N9
    dsimp only
    k_sweep
    (repeat' (first | (k_unfold; first | walk_at "Seq" | (try dsimp only)) | ((fail_if_success ((first | with_reducible show wpAny _ _ (call (Value.ref 115) _) _ _ _ | with_reducible show wpAny _ _ (exec (PySem.Stmt.While _ _ _ _) _) _ _ _ | with_reducible show wpAny _ _ (exec (PySem.Stmt.For _ _ _ _ _) _) _ _ _ | with_reducible show wpAny _ _ (pyIter _) _ _ _ | with_reducible show wpAny _ _ (call (Value.type "list") _) _ _ _ | with_reducible show wpAny _ _ (call (Value.builtin "str.join") _) _ _ _ | with_reducible show wpAny _ _ (eval (PySem.Expr.ListComp _ [PySem.Comprehension.mk (PySem.Expr.Tuple _ _ _) _ _ _] _ _) _) _ _ _ | with_reducible show LCg.CompSrc _ _ _ _ _ _ _ _ _ _ _ _ _ _ | with_reducible show wpAny _ _ (execs (PySem.Stmt.If (PySem.Expr.Compare _ [CmpOp.Lt] _ _) [PySem.Stmt.Assign [PySem.Expr.Tuple _ _ _] _ _] _ _ :: _) _) _ _ _))); first | (k_end; wrow_close) | walk1 | (dsimp only; walk1) | (leave1; walk_say "STEP leave1"; try dsimp only) | fail "no step")))
    refine for_at (by k_asm) (by rfl) (by rfl) ?_
    (repeat' (first | (k_unfold; first | walk_at "Seq" | (try dsimp only)) | ((fail_if_success ((first | with_reducible show wpAny _ _ (call (Value.ref 115) _) _ _ _ | with_reducible show wpAny _ _ (exec (PySem.Stmt.While _ _ _ _) _) _ _ _ | with_reducible show wpAny _ _ (exec (PySem.Stmt.For _ _ _ _ _) _) _ _ _ | with_reducible show wpAny _ _ (pyIter _) _ _ _ | with_reducible show wpAny _ _ (call (Value.type "list") _) _ _ _ | with_reducible show wpAny _ _ (call (Value.builtin "str.join") _) _ _ _ | with_reducible show wpAny _ _ (eval (PySem.Expr.ListComp _ [PySem.Comprehension.mk (PySem.Expr.Tuple _ _ _) _ _ _] _ _) _) _ _ _ | with_reducible show LCg.CompSrc _ _ _ _ _ _ _ _ _ _ _ _ _ _ | with_reducible show wpAny _ _ (execs (PySem.Stmt.If (PySem.Expr.Compare _ [CmpOp.Lt] _ _) [PySem.Stmt.Assign [PySem.Expr.Tuple _ _ _] _ _] _ _ :: _) _) _ _ _))); first | (k_end; wrow_close) | walk1 | (dsimp only; walk1) | (leave1; walk_say "STEP leave1"; try dsimp only) | fail "no step")))
    refine name_head (show News _ _ _ ((_, W.listOf _ _) :: news) by k_asm) ?_
    intro l hl
    subst hl
    refine iter_range_ps (a := 0) (b := (b.length : Int)) (n := lb.length) rfl (by assumption) (small_one (by omega) (by omega) (by omega) (by omega)) (by rw [rangeSize_nat]; omega)
      (fun c : List Value × List Int × Nat => [("one", .str a ta), ("two", .str b tb), ("ways", .ref l)])
      (fun c => [(l, W.listOf c.1.toArray c.2.2)])
      (fun i c => IntsAre c.1 c.2.1 ∧ c.2.1 = (2 + priceF xs lb) :: ((List.range i).map fun (k : Nat) => 2 * (k : Int) + signN x (lb.getD k 0) + priceF xs (lb.drop (k + 1))))
      ([.int (2 + priceF xs lb) _], [2 + priceF xs lb], 0) (fun c => rfl) (by k_asm) (show News _ _ _ ((l, W.listOf _ _) :: news) by k_asm) ?ap (by (((repeat (first | refine ps_cons rfl ?_ | refine ps_str (by assumption) rfl ?_ | refine ps_int (by omega) rfl ?_)); exact ps_nil))) ⟨.cons _ _ .nil, rfl⟩ ?turn ?fin
    case ap => intro p hp hm; exact absurd (List.mem_singleton.mp hm) (Nat.ne_of_lt ((by assumption : ∀ p ∈ news, p.1 < l) p hp))
    case turn =>
      rintro i t20 ⟨us, ways, ep⟩ u3 h3 tk3 tl hi ⟨hI, hw⟩ hsub hap F4 N4
      dsimp only [kstB] at F4 hI hw ⊢
      have hoff : OwnOff tl [l] := own_off hap
      have N5 : News _ _ h3 ((l, W.listOf us.toArray ep) :: tl) := N4
      clear N4 hap
      rw [Int.zero_add] at F4
      have hlen := hI.length
      have hlen2 : ways.length = i + 1 := by rw [hw]; simp
      have es2 : Txt.slice b (some ((i : Int) + 1)) none = ⟨(lb.drop (i + 1)).toArray⟩ := by rw [eb]; exact slice_drop (l := lb) (k := i + 1) (by omega)
      k_sweep
      (repeat' (first | (k_unfold; first | walk_at "Seq" | (try dsimp only)) | ((fail_if_success ((first | with_reducible show wpAny _ _ (call (Value.ref 115) _) _ _ _ | with_reducible show wpAny _ _ (exec (PySem.Stmt.While _ _ _ _) _) _ _ _ | with_reducible show wpAny _ _ (exec (PySem.Stmt.For _ _ _ _ _) _) _ _ _ | with_reducible show wpAny _ _ (pyIter _) _ _ _ | with_reducible show wpAny _ _ (call (Value.type "list") _) _ _ _ | with_reducible show wpAny _ _ (call (Value.builtin "str.join") _) _ _ _ | with_reducible show wpAny _ _ (eval (PySem.Expr.ListComp _ [PySem.Comprehension.mk (PySem.Expr.Tuple _ _ _) _ _ _] _ _) _) _ _ _ | with_reducible show LCg.CompSrc _ _ _ _ _ _ _ _ _ _ _ _ _ _ | with_reducible show wpAny _ _ (execs (PySem.Stmt.If (PySem.Expr.Compare _ [CmpOp.Lt] _ _) [PySem.Stmt.Assign [PySem.Expr.Tuple _ _ _] _ _] _ _ :: _) _) _ _ _))); first | (k_end; wrow_close) | walk1 | (dsimp only; walk1) | (leave1; walk_say "STEP leave1"; try dsimp only) | fail "no step")))
      refine' Claim.useE ?k1 ?k2 ?k3 ?k4 ?k5 ?kK (IH (lb := lb.drop (i + 1)) (by omega) (by rw [List.length_drop]; omega)) (by rw [es1, es2]) ?kd ?ku ?_
      case k1 => k_asm
      case k2 => k_asm
      case k3 => k_asm
      case k4 => k_asm
      case k5 => k_asm
      case kK => rfl
      case kd => ktr_room
      case ku => ktr_units
      intro t9 h9 tk9 F9 N9
      dsimp only
      k_sweep
      (repeat' (first | (k_unfold; first | walk_at "Seq" | (try dsimp only)) | ((fail_if_success ((first | with_reducible show wpAny _ _ (call (Value.ref 115) _) _ _ _ | with_reducible show wpAny _ _ (exec (PySem.Stmt.While _ _ _ _) _) _ _ _ | with_reducible show wpAny _ _ (exec (PySem.Stmt.For _ _ _ _ _) _) _ _ _ | with_reducible show wpAny _ _ (pyIter _) _ _ _ | with_reducible show wpAny _ _ (call (Value.type "list") _) _ _ _ | with_reducible show wpAny _ _ (call (Value.builtin "str.join") _) _ _ _ | with_reducible show wpAny _ _ (eval (PySem.Expr.ListComp _ [PySem.Comprehension.mk (PySem.Expr.Tuple _ _ _) _ _ _] _ _) _) _ _ _ | with_reducible show LCg.CompSrc _ _ _ _ _ _ _ _ _ _ _ _ _ _ | with_reducible show wpAny _ _ (execs (PySem.Stmt.If (PySem.Expr.Compare _ [CmpOp.Lt] _ _) [PySem.Stmt.Assign [PySem.Expr.Tuple _ _ _] _ _] _ _ :: _) _) _ _ _))); first | (k_end; wrow_close) | walk1 | (dsimp only; walk1) | (leave1; walk_say "STEP leave1"; try dsimp only) | fail "no step")))
      have esg : signF (Txt.item a 0) (Txt.item b (i : Int)) = signN x (lb.getD i 0) := by
        rw [ea, eb, item_nat hi]
        have e0 := item_nat (l := x :: xs) (k := 0) (by simp)
        rw [show ((0 : Nat) : Int) = 0 from rfl] at e0
        rw [e0, signN]; simp [hi]
      exact WEnd.intro (us ++ [.int (2 * (i : Int) + signF (Txt.item a 0) (Txt.item b (i : Int)) + priceF xs (lb.drop (i + 1))) tk9], ways ++ [2 * (i : Int) + signF (Txt.item a 0) (Txt.item b (i : Int)) + priceF xs (lb.drop (i + 1))], ep + 1)
        (by k_asm) (by k_asm) (fun p hp => led_push hp) (by (((repeat (first | refine ps_cons rfl ?_ | refine ps_str (by assumption) rfl ?_ | refine ps_int (by omega) rfl ?_)); exact ps_nil))) ⟨ints_snoc hI _ _, by rw [hw, List.range_succ, List.map_append, esg]; rfl⟩ (by decide)
    case fin =>
      rintro ⟨us, ways, ep⟩ u3 h3 tk3 ⟨hI, hw⟩ F4 N4
      dsimp only [kstB] at F4 hI hw ⊢
      have N5 : News _ _ h3 ((l, W.listOf us.toArray ep) :: news) := N4
      clear N4
      k_sweep
      (repeat' (first | (k_unfold; first | walk_at "Seq" | (try dsimp only)) | ((fail_if_success ((first | with_reducible show wpAny _ _ (call (Value.ref 115) _) _ _ _ | with_reducible show wpAny _ _ (exec (PySem.Stmt.While _ _ _ _) _) _ _ _ | with_reducible show wpAny _ _ (exec (PySem.Stmt.For _ _ _ _ _) _) _ _ _ | with_reducible show wpAny _ _ (pyIter _) _ _ _ | with_reducible show wpAny _ _ (call (Value.type "list") _) _ _ _ | with_reducible show wpAny _ _ (call (Value.builtin "str.join") _) _ _ _ | with_reducible show wpAny _ _ (eval (PySem.Expr.ListComp _ [PySem.Comprehension.mk (PySem.Expr.Tuple _ _ _) _ _ _] _ _) _) _ _ _ | with_reducible show LCg.CompSrc _ _ _ _ _ _ _ _ _ _ _ _ _ _ | with_reducible show wpAny _ _ (execs (PySem.Stmt.If (PySem.Expr.Compare _ [CmpOp.Lt] _ _) [PySem.Stmt.Assign [PySem.Expr.Tuple _ _ _] _ _] _ _ :: _) _) _ _ _))); first | (k_end; wrow_close) | walk1 | (dsimp only; walk1) | (leave1; walk_say "STEP leave1"; try dsimp only) | fail "no step")))
      refine kso_min (by k_asm) N5 ⟨_, (N5 _ (List.mem_cons_self)).1, rfl, _, rfl⟩ hI (by rw [hw]; simp) rfl ?_
      intro h4 M t4 tk4 F6 N6 hM hMle
      k_sweep
      (repeat' (first | (k_unfold; first | walk_at "Seq" | (try dsimp only)) | ((fail_if_success ((first | with_reducible show wpAny _ _ (call (Value.ref 115) _) _ _ _ | with_reducible show wpAny _ _ (exec (PySem.Stmt.While _ _ _ _) _) _ _ _ | with_reducible show wpAny _ _ (exec (PySem.Stmt.For _ _ _ _ _) _) _ _ _ | with_reducible show wpAny _ _ (pyIter _) _ _ _ | with_reducible show wpAny _ _ (call (Value.type "list") _) _ _ _ | with_reducible show wpAny _ _ (call (Value.builtin "str.join") _) _ _ _ | with_reducible show wpAny _ _ (eval (PySem.Expr.ListComp _ [PySem.Comprehension.mk (PySem.Expr.Tuple _ _ _) _ _ _] _ _) _) _ _ _ | with_reducible show LCg.CompSrc _ _ _ _ _ _ _ _ _ _ _ _ _ _ | with_reducible show wpAny _ _ (execs (PySem.Stmt.If (PySem.Expr.Compare _ [CmpOp.Lt] _ _) [PySem.Stmt.Assign [PySem.Expr.Tuple _ _ _] _ _] _ _ :: _) _) _ _ _))); first | (k_end; wrow_close) | walk1 | (dsimp only; walk1) | (leave1; walk_say "STEP leave1"; try dsimp only) | fail "no step")))
      exact cb_retI (Q := Q) (s := s) hret (by rw [priceF, if_neg hne]; exact minL_spec (hw ▸ hM) (fun a ha => hMle a (hw ▸ ha))) (by k_asm) (fun p hp => (by k_asm : News _ _ _ (_ :: news)) p (List.mem_cons_of_mem _ hp))
end
end

section
local macro_rules | `(tactic| walk_at "mine pad") => `(tactic| skip)
open PySem PySem.W PyProof.Rows
section
noncomputable def signAt (k : Int) : Nat := if k = 0 then 97 else if k = 1 then 98 else if k = 2 then 65 else 66
noncomputable def wordAt (x : Int) (k : Nat) : Nat := signAt ((x.fdiv (4 ^ k)).fmod 4)
noncomputable def wordF (x : Int) (n : Nat) : List Nat := (List.range n).map (wordAt x)
theorem pow4 {i : Nat} (h : i ≤ 3) : (4 : Int) ^ (i : Int).toNat ≠ 0 ∧ ((4 : Int) ^ (i : Int).toNat).natAbs < 1073741824 := by
  rw [Int.toNat_natCast]
  rcases i with _ | _ | _ | _ | i
  · decide
  · decide
  · decide
  · decide
  · omega
theorem item_abAB {k : Int} (h0 : 0 ≤ k) (h4 : k < 4) : Txt.item (Str.ofString "abAB") k = ⟨#[signAt k]⟩ := by
  have : k = 0 ∨ k = 1 ∨ k = 2 ∨ k = 3 := by omega
  rcases this with rfl | rfl | rfl | rfl <;> decide
theorem strs_snoc' {vs : List Value} {ys : List Str} {y z : Str} {t : Tok} (e : y = z) (h : StrsAre vs ys) : StrsAre (vs ++ [.str y t]) (ys ++ [z]) := e ▸ kct_snoc h
theorem wlen {x : Int} {n : Nat} (h : n ≤ 3) : ((((List.range n).map fun k => Str.mk #[wordAt x k])).map (·.length)).sum + ((List.range n).map fun k => Str.mk #[wordAt x k]).length * 64 ≤ 16777216 := by
  have : ((((List.range n).map fun k => Str.mk #[wordAt x k])).map (·.length)) = (List.range n).map fun _ => 1 := by
    rw [List.map_map]; rfl
  rw [this, List.length_map, List.length_range]
  rcases n with _ | _ | _ | _ | n
  · decide
  · decide
  · decide
  · decide
  · omega
theorem join_word {x : Int} {n : Nat} (h : n ≤ 3) : Txt.join (Str.ofString "") ((List.range n).map fun k => Str.mk #[wordAt x k]) = ⟨(wordF x n).toArray⟩ := by
  have e : Str.ofString "" = ⟨#[]⟩ := by decide
  rw [e]
  rcases n with _ | _ | _ | _ | n
  · rfl
  · rfl
  · rfl
  · rfl
  · omega
local macro_rules | `(tactic| walk_at "binaryOp FloorDiv int int") => `(tactic| ((with_reducible show wpAny _ _ (binaryOp _ _ (Value.int (4 ^ _) _)) _ _ _); refine floordiv_int (And.left (by assumption)) ?_ (Or.inl (PyProof.noPylong_small (And.right (by assumption))))))
theorem word_c {w : World} {p : Program} {loose : List Str} {mean : ExcName → Option Value} {mg mb : Str → Option Value} {news : List (Addr × Obj)} {x : Int} {n : Nat} {ta tb : Tok} (hb : n ≤ 3) :
   Claim Challenge.rw_nb0157_01.row.prog w (Mine.hd.heap_39 w.params) p loose mean mg mb 82 1 8 news [.int x ta, .int n tb] (fun t => .str ⟨(wordF x n).toArray⟩ t) := by
  intro dp un gd cn cs ad ccd cl outer A₀ base h₀ L m s Q E hB hF hX hN hT hcs hdp hun hret
  refine wpAny_call ?_
  k_dflt (((refine' code_defC ?k1 ?k2 ?k3 ?k4 ?k5 ?kA ?kF ?kK ?k6 ?k7 ?k8 ?k9 ?kB ?kD ?_ ?c2 ?c3 ?c4; (case kA => exact rfl); (case kF => exact rfl); (case kK => assumption); (case k1 => k_asm); (case k2 => k_asm); (case k3 => k_asm); (case k4 => k_asm); (case k5 => k_asm); (case k6 => k_is); (case k7 => k_is); (case k8 => ktr_room); (case k9 => exact BindsTo.of_eq rfl); (case kB => exact rfl); (case kD => decide +kernel); (case c2 => exact rfl); (case c3 => exact rfl); (case c4 => exact rfl); k_whole; intro g' L' h' tk' cells' FG' F' N' Y' B' X' T' l1; (try k_lt l1); k_cells Y'; (try simp only [List.cons_append, List.nil_append] at N'); (try dsimp only); (try k_lift B'); (try k_fold))))
  (repeat' (first | (k_unfold; first | walk_at "Seq" | (try dsimp only)) | ((fail_if_success ((first | with_reducible show wpAny _ _ (exec (PySem.Stmt.While _ _ _ _) _) _ _ _ | with_reducible show wpAny _ _ (exec (PySem.Stmt.For _ _ _ _ _) _) _ _ _ | with_reducible show wpAny _ _ (pyIter _) _ _ _ | with_reducible show wpAny _ _ (call (Value.type "list") _) _ _ _ | with_reducible show wpAny _ _ (call (Value.builtin "str.join") _) _ _ _ | with_reducible show wpAny _ _ (eval (PySem.Expr.ListComp _ [PySem.Comprehension.mk (PySem.Expr.Tuple _ _ _) _ _ _] _ _) _) _ _ _ | with_reducible show LCg.CompSrc _ _ _ _ _ _ _ _ _ _ _ _ _ _ | with_reducible show wpAny _ _ (execs (PySem.Stmt.If (PySem.Expr.Compare _ [CmpOp.Lt] _ _) [PySem.Stmt.Assign [PySem.Expr.Tuple _ _ _] _ _] _ _ :: _) _) _ _ _))); first | (k_end; wrow_close) | walk1 | (dsimp only; walk1) | (leave1; walk_say "STEP leave1"; try dsimp only) | fail "no step")))
  refine' LCg.CompSrc.range (a := 0) (b := (n : Int)) (n := n) rfl ?F ?N ?hr (small_one (by omega) (by omega) (by omega) (by omega)) (by rw [rangeSize_nat]; omega) (by rw [sizeLine_eq]; omega) ?_
  case F => k_asm
  case N => k_asm
  case hr => assumption
  intro g
  refine comp_same (fun i ys => StrsAre ys ((List.range i).map fun k => Str.mk #[wordAt x k])) .nil ?turn ?fin
  case turn =>
    intro i v I oI C oC D m₂ ys h tk E' hi hv hl hJ hC hx F N off ne
    obtain ⟨t, rfl⟩ := hv
    rw [Int.zero_add] at hx
    have hp := pow4 (i := i) (by omega)
    have hf1 : 0 ≤ (x.fdiv (4 ^ (i : Int).toNat)).fmod 4 := Int.fmod_nonneg_of_pos _ (by decide)
    have hf2 : (x.fdiv (4 ^ (i : Int).toNat)).fmod 4 < 4 := Int.fmod_lt_of_pos _ (by decide)
    (repeat' (first | (k_unfold; first | walk_at "Seq" | (try dsimp only)) | ((fail_if_success ((first | with_reducible show wpAny _ _ (exec (PySem.Stmt.While _ _ _ _) _) _ _ _ | with_reducible show wpAny _ _ (exec (PySem.Stmt.For _ _ _ _ _) _) _ _ _ | with_reducible show wpAny _ _ (pyIter _) _ _ _ | with_reducible show wpAny _ _ (call (Value.type "list") _) _ _ _ | with_reducible show wpAny _ _ (call (Value.builtin "str.join") _) _ _ _ | with_reducible show wpAny _ _ (eval (PySem.Expr.ListComp _ [PySem.Comprehension.mk (PySem.Expr.Tuple _ _ _) _ _ _] _ _) _) _ _ _ | with_reducible show LCg.CompSrc _ _ _ _ _ _ _ _ _ _ _ _ _ _ | with_reducible show wpAny _ _ (execs (PySem.Stmt.If (PySem.Expr.Compare _ [CmpOp.Lt] _ _) [PySem.Stmt.Assign [PySem.Expr.Tuple _ _ _] _ _] _ _ :: _) _) _ _ _))); first | (k_end; wrow_close) | walk1 | (dsimp only; walk1) | (leave1; walk_say "STEP leave1"; try dsimp only) | fail "no step")))
    refine LCg.CompEnd.intro (by k_asm) (by k_asm) _ (fun p hp => hp) off trivial ⟨rfl, ?_⟩
    rw [List.range_succ, List.map_append]
    exact strs_snoc' (item_abAB hf1 hf2) hJ
  case fin =>
    intro ys hl hJ
    intro D h tk F N o1
    (repeat' (first | (k_unfold; first | walk_at "Seq" | (try dsimp only)) | ((fail_if_success ((first | with_reducible show wpAny _ _ (exec (PySem.Stmt.While _ _ _ _) _) _ _ _ | with_reducible show wpAny _ _ (exec (PySem.Stmt.For _ _ _ _ _) _) _ _ _ | with_reducible show wpAny _ _ (pyIter _) _ _ _ | with_reducible show wpAny _ _ (call (Value.type "list") _) _ _ _ | with_reducible show wpAny _ _ (call (Value.builtin "str.join") _) _ _ _ | with_reducible show wpAny _ _ (eval (PySem.Expr.ListComp _ [PySem.Comprehension.mk (PySem.Expr.Tuple _ _ _) _ _ _] _ _) _) _ _ _ | with_reducible show LCg.CompSrc _ _ _ _ _ _ _ _ _ _ _ _ _ _ | with_reducible show wpAny _ _ (execs (PySem.Stmt.If (PySem.Expr.Compare _ [CmpOp.Lt] _ _) [PySem.Stmt.Assign [PySem.Expr.Tuple _ _ _] _ _] _ _ :: _) _) _ _ _))); first | (k_end; wrow_close) | walk1 | (dsimp only; walk1) | (leave1; walk_say "STEP leave1"; try dsimp only) | fail "no step")))
    refine join_listC (items := ys.toArray) ⟨_, (N _ List.mem_cons_self).1, rfl, _, rfl⟩ (by simpa using hJ) (by decide) (wlen hb) ?_
    intro t' k'
    (repeat' (first | (k_unfold; first | walk_at "Seq" | (try dsimp only)) | ((fail_if_success ((first | with_reducible show wpAny _ _ (exec (PySem.Stmt.While _ _ _ _) _) _ _ _ | with_reducible show wpAny _ _ (exec (PySem.Stmt.For _ _ _ _ _) _) _ _ _ | with_reducible show wpAny _ _ (pyIter _) _ _ _ | with_reducible show wpAny _ _ (call (Value.type "list") _) _ _ _ | with_reducible show wpAny _ _ (call (Value.builtin "str.join") _) _ _ _ | with_reducible show wpAny _ _ (eval (PySem.Expr.ListComp _ [PySem.Comprehension.mk (PySem.Expr.Tuple _ _ _) _ _ _] _ _) _) _ _ _ | with_reducible show LCg.CompSrc _ _ _ _ _ _ _ _ _ _ _ _ _ _ | with_reducible show wpAny _ _ (execs (PySem.Stmt.If (PySem.Expr.Compare _ [CmpOp.Lt] _ _) [PySem.Stmt.Assign [PySem.Expr.Tuple _ _ _] _ _] _ _ :: _) _) _ _ _))); first | (k_end; wrow_close) | walk1 | (dsimp only; walk1) | (leave1; walk_say "STEP leave1"; try dsimp only) | fail "no step")))
    exact cb_retS (Q := Q) (s := s) hret (join_word hb) (by k_asm) (by (first | k_asm | (refine' cb_drop ?n1 ?n2; (case n1 => assumption); (case n2 => kcj_all))))
end
end

section
open PySem PySem.W PyProof.Rows
section
theorem word_c' {w : World} {p : Program} {loose : List Str} {mean : ExcName → Option Value} {mg mb : Str → Option Value} {news : List (Addr × Obj)} {x : Int} {n : Int} {ta tb : Tok} (h0 : 0 ≤ n) (hb : n ≤ 3) :
   Claim Challenge.rw_nb0157_01.row.prog w (Mine.hd.heap_39 w.params) p loose mean mg mb 82 1 8 news [.int x ta, .int n tb] (fun t => .str ⟨(wordF x n.toNat).toArray⟩ t) := by
  obtain ⟨k, rfl⟩ := Int.eq_ofNat_of_zero_le h0
  exact word_c (by omega)
local macro_rules | `(tactic| walk_at "call ref") => `(tactic| (k_here; (with_reducible show wpAny _ _ (call (Value.ref 82) [Value.int _ _, Value.int _ _]) _ _ _); k_dflt (refine' Claim.use ?k1 ?k2 ?k3 ?k4 ?k5 ?kK (word_c' ?ha ?hb) ?kd ?ku ?_; (case k1 => k_asm); (case k2 => k_asm); (case k3 => k_asm); (case k4 => k_asm); (case k5 => k_asm); (case kK => first | exact rfl | assumption); (case ha => exact Int.fmod_nonneg_of_pos _ (by decide)); (case hb => exact Int.le_of_lt_add_one (Int.fmod_lt_of_pos _ (by decide))); (case kd => ktr_room); (case ku => ktr_units); k_whole); intro t9 h9 tk9 F9 N9; (try dsimp only); (try k_sweep)))
structure Row where
  word : List Nat
  span : Int
  al : Bool
noncomputable def rowF (x : Int) : Row := ⟨wordF (x.fdiv 64) ((x.fdiv 16).fmod 4).toNat, (x.fdiv 2).fmod 8, x.fmod 2 == 1⟩
noncomputable def RowIn (nw : List (Addr × Obj)) (v : Value) (r : Row) : Prop :=
  ∃ (a : Addr) (t1 t2 : Tok), v = .ref a ∧ (a, ({ cls := .type "tuple", data := .seq #[.str ⟨r.word.toArray⟩ t1, .int r.span t2, .bool r.al] } : Obj)) ∈ nw
theorem RowIn.mono {nw nw' : List (Addr × Obj)} {v : Value} {r : Row} (h : RowIn nw v r) (k : ∀ p ∈ nw, p ∈ nw') : RowIn nw' v r := let ⟨a, t1, t2, e, m⟩ := h; ⟨a, t1, t2, e, k _ m⟩
theorem row_c {w : World} {p : Program} {loose : List Str} {mean : ExcName → Option Value} {mg mb : Str → Option Value} {news : List (Addr × Obj)} {x : Int} {ta : Tok} :
   ClaimN Challenge.rw_nb0157_01.row.prog w (Mine.hd.heap_39 w.params) p loose mean mg mb 89 2 16 news [.int x ta] (fun v tl => RowIn tl v (rowF x)) := by
  intro dp un gd cn cs ad ccd cl outer A₀ base h₀ L m s Q E hB hF hX hN hT hcs hdp hun hret
  refine wpAny_call ?_
  k_dflt cell_enter
  (repeat' (first | (k_unfold; first | walk_at "Seq" | (try dsimp only)) | ((fail_if_success ((first | with_reducible show wpAny _ _ (exec (PySem.Stmt.While _ _ _ _) _) _ _ _ | with_reducible show wpAny _ _ (exec (PySem.Stmt.For _ _ _ _ _) _) _ _ _ | with_reducible show wpAny _ _ (pyIter _) _ _ _ | with_reducible show wpAny _ _ (call (Value.type "list") _) _ _ _ | with_reducible show wpAny _ _ (call (Value.builtin "str.join") _) _ _ _ | with_reducible show wpAny _ _ (eval (PySem.Expr.ListComp _ [PySem.Comprehension.mk (PySem.Expr.Tuple _ _ _) _ _ _] _ _) _) _ _ _ | with_reducible show LCg.CompSrc _ _ _ _ _ _ _ _ _ _ _ _ _ _ | with_reducible show wpAny _ _ (execs (PySem.Stmt.If (PySem.Expr.Compare _ [CmpOp.Lt] _ _) [PySem.Stmt.Assign [PySem.Expr.Tuple _ _ _] _ _] _ _ :: _) _) _ _ _))); first | (k_end; wrow_close) | walk1 | (dsimp only; walk1) | (leave1; walk_say "STEP leave1"; try dsimp only) | fail "no step")))
  exact hret (.ref _) [_] _ _ ⟨_, _, _, rfl, List.mem_singleton.mpr rfl⟩ (by k_asm) (by k_asm) (fun p hp q hq => by rw [List.mem_singleton.mp hq]; exact (by assumption : ∀ p ∈ news, p.1 < _) p hp)
end
end

section
local macro_rules | `(tactic| walk_at "mine pad") => `(tactic| skip)
open PySem PySem.W PyProof.Rows
section
local macro_rules | `(tactic| k_mem) => `(tactic| assumption)
local macro_rules | `(tactic| walk_at "call ref") => `(tactic| (k_here; (with_reducible show wpAny _ _ (call (Value.ref 77) [Value.str _ _, Value.str _ _, Value.int _ _]) _ _ _); k_dflt (refine' Claim.use ?k1 ?k2 ?k3 ?k4 ?k5 ?kK (lev_c ?ha ?hb) ?kd ?ku ?_; (case k1 => k_asm); (case k2 => k_asm); (case k3 => k_asm); (case k4 => k_asm); (case k5 => k_asm); (case kK => first | exact rfl | assumption); (case ha => omega); (case hb => omega); (case kd => ktr_room); (case ku => ktr_units); k_whole); intro t9 h9 tk9 F9 N9; (try dsimp only); (try k_sweep)))
noncomputable def reachN (r : Row) (nm : List Nat) : Int := if 0 < r.span + 1 - levF r.word nm r.span then r.span + 1 - levF r.word nm r.span else 0
noncomputable def LamOk (w : World) (p : Program) (loose : List Str) (mean : ExcName → Option Value) (mg mb : Str → Option Value) (f : Addr) (nw : List (Addr × Obj)) (r : Row) : Prop :=
  (∃ oc od fd sl, (f, (⟨oc, od, .func fd, sl⟩ : Obj)) ∈ nw) ∧ ∀ (nw' : List (Addr × Obj)) (nm : List Nat) (t : Tok), (∀ q ∈ nw, q ∈ nw') → nm.length ≤ 64 →
    Claim Challenge.rw_nb0157_01.row.prog w (Mine.hd.heap_39 w.params) p loose mean mg mb f 6 48 nw' [.str ⟨nm.toArray⟩ t] (fun t => .int (reachN r nm) t)
noncomputable def RuleIn (w : World) (p : Program) (loose : List Str) (mean : ExcName → Option Value) (mg mb : Str → Option Value) (nw : List (Addr × Obj)) (v : Value) (r : Row) : Prop :=
  ∃ (x d l1 l2 f : Addr) (t t1 t2 t3 t4 t5 t6 : Tok), v = .ref x ∧ (x, instObj 52 d) ∈ nw ∧
    (d, dictOf [⟨PyData.keyHash w.params "useragents", .str "useragents" t1, .ref l1⟩, ⟨PyData.keyHash w.params "rulelines", .str "rulelines" t2, .ref l2⟩, ⟨PyData.keyHash w.params "delay", .str "delay" t3, .none⟩, ⟨PyData.keyHash w.params "req_rate", .str "req_rate" t4, .none⟩, ⟨PyData.keyHash w.params "allowance", .str "allowance" t5, .bool r.al⟩, ⟨PyData.keyHash w.params "applies_to", .str "applies_to" t6, .ref f⟩] 6) ∈ nw ∧
    (l1, W.listOf #[.str ⟨r.word.toArray⟩ t] 1) ∈ nw ∧ LamOk w p loose mean mg mb f nw r
/-- the table of _law_rule's inner code: empty, or it holds the lambda's -/
noncomputable def TabOk (ps : Array Value) (nw : List (Addr × Obj)) : Prop :=
  ps = #[] ∨ ∃ (c : Addr) (oc : Obj) (vs : Array Value) (t : Tok), ps = #[rawInt 114, rawInt 22, .ref c] ∧ (c, oc) ∈ nw ∧ oc.data = .fields vs ∧ vs[1]? = some (.str (Str.ofString "_law_rule" ++ Str.ofString ".<locals>." ++ Str.ofString "<lambda>") t)

theorem TabOk.made {c : Addr} {oc : Obj} {vs ps : Array Value} {t : Tok} {nw : List (Addr × Obj)} (h1 : oc.data = .fields vs) (h2 : vs[1]? = some (.str (Str.ofString "_law_rule" ++ Str.ofString ".<locals>." ++ Str.ofString "<lambda>") t)) (h3 : (c, oc) ∈ nw) (h4 : ps = #[rawInt 114, rawInt 22, .ref c]) : TabOk ps nw := .inr ⟨c, oc, vs, t, h4, h3, h1, h2⟩
theorem RuleIn.made {w : World} {p : Program} {loose : List Str} {mean : ExcName → Option Value} {mg mb : Str → Option Value} {nw : List (Addr × Obj)} {r : Row} {x d l1 l2 f : Addr} {t t1 t2 t3 t4 t5 t6 : Tok} {oc : Value} {od : Option Addr} {fd : FuncData} {sl : Array (Option Value)} (h1 : (x, instObj 52 d) ∈ nw)
    (h2 : (d, dictOf [⟨PyData.keyHash w.params "useragents", .str "useragents" t1, .ref l1⟩, ⟨PyData.keyHash w.params "rulelines", .str "rulelines" t2, .ref l2⟩, ⟨PyData.keyHash w.params "delay", .str "delay" t3, .none⟩, ⟨PyData.keyHash w.params "req_rate", .str "req_rate" t4, .none⟩, ⟨PyData.keyHash w.params "allowance", .str "allowance" t5, .bool r.al⟩, ⟨PyData.keyHash w.params "applies_to", .str "applies_to" t6, .ref f⟩] 6) ∈ nw)
    (h3 : (l1, W.listOf #[.str ⟨r.word.toArray⟩ t] 1) ∈ nw) (h4 : (f, (⟨oc, od, .func fd, sl⟩ : Obj)) ∈ nw)
    (h5 : ∀ (nw' : List (Addr × Obj)) (nm : List Nat) (t : Tok), (∀ q ∈ nw, q ∈ nw') → nm.length ≤ 64 → Claim Challenge.rw_nb0157_01.row.prog w (Mine.hd.heap_39 w.params) p loose mean mg mb f 6 48 nw' [.str ⟨nm.toArray⟩ t] (fun t => .int (reachN r nm) t)) :
    RuleIn w p loose mean mg mb nw (.ref x) r := ⟨x, d, l1, l2, f, t, t1, t2, t3, t4, t5, t6, rfl, h1, h2, h3, ⟨oc, od, fd, sl, h4⟩, h5⟩
theorem name_eight {h₀ h : Heap} {L a1 a2 a3 a4 a5 a6 a7 a8 T : Addr} {o1 o2 o3 o4 o5 o6 o7 o8 oT : Obj} {news : List (Addr × Obj)} {G : Prop} (_N : News h₀ L h ((a1, o1) :: (a2, o2) :: (a3, o3) :: (a4, o4) :: (a5, o5) :: (a6, o6) :: (a7, o7) :: (a8, o8) :: (T, oT) :: news))
    (k : ∀ b1 b2 b3 b4 b5 b6, b1 = a1 → b2 = a2 → b3 = a3 → b4 = a4 → b5 = a5 → b6 = a6 → G) : G := k _ _ _ _ _ _ rfl rfl rfl rfl rfl rfl
theorem name_seven {h₀ h : Heap} {L a1 a3 a4 a5 a6 a7 a8 T : Addr} {o1 o3 o4 o5 o6 o7 o8 oT : Obj} {news : List (Addr × Obj)} {G : Prop} (_N : News h₀ L h ((a1, o1) :: (a3, o3) :: (a4, o4) :: (a5, o5) :: (a6, o6) :: (a7, o7) :: (a8, o8) :: (T, oT) :: news))
    (k : ∀ b1 b3 b4 b5 b6, b1 = a1 → b3 = a3 → b4 = a4 → b5 = a5 → b6 = a6 → G) : G := k _ _ _ _ _ rfl rfl rfl rfl rfl
theorem rule_c {w : World} {p : Program} {loose : List Str} {mean : ExcName → Option Value} {mg mb : Str → Option Value} {news sup : List (Addr × Obj)} {ps : Array Value} {r : Row} {ta tb : Tok} (hT9 : TabOk ps sup) (hle : r.word.length ≤ 64) (h91 : ∀ p ∈ news, p.1 ≠ 91) :
   ClaimT Challenge.rw_nb0157_01.row.prog w (Mine.hd.heap_39 w.params) p loose mean mg mb 96 91 2 16 ps news [.str ⟨r.word.toArray⟩ ta, .int r.span tb, .bool r.al] (fun v ps' tl => RuleIn w p loose mean mg mb (tl ++ sup) v r ∧ TabOk ps' (tl ++ sup)) := by
  intro dp un gd cn cs ad ccd cl outer A₀ base h₀ L m s Q E hB hF hX hN hT hcs hdp hun hret
  refine wpAny_call ?_
  k_dflt (((refine' code_defC ?k1 ?k2 ?k3 ?k4 ?k5 ?kA ?kF ?kK ?k6 ?k7 ?k8 ?k9 ?kB ?kD ?_ ?c2 ?c3 ?c4; (case kA => exact rfl); (case kF => exact rfl); (case kK => assumption); (case k1 => k_asm); (case k2 => k_asm); (case k3 => k_asm); (case k4 => k_asm); (case k5 => k_asm); (case k6 => k_is); (case k7 => k_is); (case k8 => ktr_room); (case k9 => exact BindsTo.of_eq rfl); (case kB => exact rfl); (case kD => decide +kernel); (case c2 => exact rfl); (case c3 => exact rfl); (case c4 => exact rfl); k_whole; intro g' L' h' tk' cells' FG' F' N' Y' B' X' T' l1; (try k_lt l1); k_cells Y'; (try simp only [List.cons_append, List.nil_append] at N'); (try dsimp only); (try k_lift B'); (try k_fold))))
  have hoff : OwnOff news [91] := fun p hp b hb e => h91 p hp (e.trans (List.mem_singleton.mp hb))
  have cH := codeHd_of_K (c := 95) (P := 91) (by k_asm) (by kernel_rfl)
  (repeat' (first | (k_unfold; first | walk_at "Seq" | (try dsimp only)) | ((fail_if_success ((first | with_reducible show wpAny _ _ (eval (PySem.Expr.Lambda _ _ _ _) _) _ _ _ | with_reducible show wpAny _ _ (exec (PySem.Stmt.While _ _ _ _) _) _ _ _ | with_reducible show wpAny _ _ (exec (PySem.Stmt.For _ _ _ _ _) _) _ _ _ | with_reducible show wpAny _ _ (pyIter _) _ _ _ | with_reducible show wpAny _ _ (call (Value.type "list") _) _ _ _ | with_reducible show wpAny _ _ (call (Value.builtin "str.join") _) _ _ _ | with_reducible show wpAny _ _ (eval (PySem.Expr.ListComp _ [PySem.Comprehension.mk (PySem.Expr.Tuple _ _ _) _ _ _] _ _) _) _ _ _ | with_reducible show LCg.CompSrc _ _ _ _ _ _ _ _ _ _ _ _ _ _ | with_reducible show wpAny _ _ (execs (PySem.Stmt.If (PySem.Expr.Compare _ [CmpOp.Lt] _ _) [PySem.Stmt.Assign [PySem.Expr.Tuple _ _ _] _ _] _ _ :: _) _) _ _ _))); first | (k_end; wrow_close) | walk1 | (dsimp only; walk1) | (leave1; walk_say "STEP leave1"; try dsimp only) | fail "no step")))
  rcases hT9 with rfl | ⟨c, oc, vs, t, rfl, hc1, hc2, hc3⟩
  · walk1
    (repeat' (first | (k_unfold; first | walk_at "Seq" | (try dsimp only)) | ((fail_if_success ((first | with_reducible show wpAny _ _ (eval (PySem.Expr.Lambda _ _ _ _) _) _ _ _ | with_reducible show wpAny _ _ (exec (PySem.Stmt.While _ _ _ _) _) _ _ _ | with_reducible show wpAny _ _ (exec (PySem.Stmt.For _ _ _ _ _) _) _ _ _ | with_reducible show wpAny _ _ (pyIter _) _ _ _ | with_reducible show wpAny _ _ (call (Value.type "list") _) _ _ _ | with_reducible show wpAny _ _ (call (Value.builtin "str.join") _) _ _ _ | with_reducible show wpAny _ _ (eval (PySem.Expr.ListComp _ [PySem.Comprehension.mk (PySem.Expr.Tuple _ _ _) _ _ _] _ _) _) _ _ _ | with_reducible show LCg.CompSrc _ _ _ _ _ _ _ _ _ _ _ _ _ _ | with_reducible show wpAny _ _ (execs (PySem.Stmt.If (PySem.Expr.Compare _ [CmpOp.Lt] _ _) [PySem.Stmt.Assign [PySem.Expr.Tuple _ _ _] _ _] _ _ :: _) _) _ _ _))); first | (k_end; wrow_close) | walk1 | (dsimp only; walk1) | (leave1; walk_say "STEP leave1"; try dsimp only) | fail "no step")))
    refine name_eight (show News h₀ L _ (_ :: _ :: _ :: _ :: _ :: _ :: _ :: _ :: (91, _) :: news) by k_asm) ?_
    intro f c l2 l1 x d e1 e2 e3 e4 e5 e6
    subst e1 e2 e3 e4 e5 e6
    refine hret (.ref x) _ [(f, _), (c, _), (l2, _), (l1, _), (x, _), (d, _), (_, _), (_, _)] _ _ ⟨RuleIn.made (x := x) (d := d) (l1 := l1) (l2 := l2) (f := f) (by k_mem) (by k_mem) (by k_mem) (by k_mem) ?lam, TabOk.made (c := c) (by assumption) (by assumption) (by k_mem) rfl⟩ (by k_asm) (news_tab (by k_asm)) ?ord ?ne
    case ord => exact ord_of (And.right (by assumption : _ ∧ AllLt _ news)) (by repeat (first | exact ord_nil | refine ord_cons (by omega) ?_))
    case ne => repeat (first | exact ord_nil | refine ord_cons (by omega) ?_)
    case lam =>
      intro nw' nm t hsub hnm
      have m1 := hsub _ (List.Mem.head _)
      have m2 := hsub _ (List.Mem.tail _ (List.Mem.head _))
      have m3 := hsub _ (List.Mem.tail _ (List.Mem.tail _ (List.Mem.tail _ (List.Mem.tail _ (List.Mem.tail _ (List.Mem.tail _ (List.Mem.head _)))))))
      have m4 := hsub _ (List.Mem.tail _ (List.Mem.tail _ (List.Mem.tail _ (List.Mem.tail _ (List.Mem.tail _ (List.Mem.tail _ (List.Mem.tail _ (List.Mem.head _))))))))
      clear hret hsub
      intro dp un gd cn cs ad ccd cl outer A₀ base h₀ L m s Q E hB hF hX hN hT hcs hdp hun hret
      refine wpAny_call ?_
      k_dflt (((refine' kla_code ?k1 ?k2 ?k3 ?k4 ?k5 ?kA ?kF ?kK ?k6 ?k7 ?k8 ?k9 ?kB ?_ ?c2 ?c3 ?c4 ?c5; (case kA => exact rfl); (case kF => exact rfl); (case kK => first | exact rfl | assumption); (case k1 => k_asm); (case k2 => k_asm); (case k3 => k_asm); (case k4 => k_asm); (case k5 => k_asm); (case k6 => k_mem); (case k7 => exact codeRec_news (by k_asm) (by k_mem) (by assumption) (by assumption)); (case k8 => k_room); (case k9 => exact rfl); (case c5 => decide); (case kB => exact locs rfl); (case c2 => exact rfl); (case c3 => exact rfl); (case c4 => exact rfl); k_whole; intro g' L' h' FG' F' N' B' X' T'; (try dsimp only); (try k_lift B'); (try k_fold))))
      (repeat' (first | (k_unfold; first | walk_at "Seq" | (try dsimp only)) | ((fail_if_success ((first | with_reducible show wpAny _ _ (eval (PySem.Expr.Lambda _ _ _ _) _) _ _ _ | with_reducible show wpAny _ _ (exec (PySem.Stmt.While _ _ _ _) _) _ _ _ | with_reducible show wpAny _ _ (exec (PySem.Stmt.For _ _ _ _ _) _) _ _ _ | with_reducible show wpAny _ _ (pyIter _) _ _ _ | with_reducible show wpAny _ _ (call (Value.type "list") _) _ _ _ | with_reducible show wpAny _ _ (call (Value.builtin "str.join") _) _ _ _ | with_reducible show wpAny _ _ (eval (PySem.Expr.ListComp _ [PySem.Comprehension.mk (PySem.Expr.Tuple _ _ _) _ _ _] _ _) _) _ _ _ | with_reducible show LCg.CompSrc _ _ _ _ _ _ _ _ _ _ _ _ _ _ | with_reducible show wpAny _ _ (execs (PySem.Stmt.If (PySem.Expr.Compare _ [CmpOp.Lt] _ _) [PySem.Stmt.Assign [PySem.Expr.Tuple _ _ _] _ _] _ _ :: _) _) _ _ _))); first | (k_end; wrow_close) | walk1 | (dsimp only; walk1) | (leave1; walk_say "STEP leave1"; try dsimp only) | fail "no step")))
      exact cb_retI (Q := Q) (s := s) hret rfl (by k_asm) (by k_asm)
  · walk1
    (repeat' (first | (k_unfold; first | walk_at "Seq" | (try dsimp only)) | ((fail_if_success ((first | with_reducible show wpAny _ _ (eval (PySem.Expr.Lambda _ _ _ _) _) _ _ _ | with_reducible show wpAny _ _ (exec (PySem.Stmt.While _ _ _ _) _) _ _ _ | with_reducible show wpAny _ _ (exec (PySem.Stmt.For _ _ _ _ _) _) _ _ _ | with_reducible show wpAny _ _ (pyIter _) _ _ _ | with_reducible show wpAny _ _ (call (Value.type "list") _) _ _ _ | with_reducible show wpAny _ _ (call (Value.builtin "str.join") _) _ _ _ | with_reducible show wpAny _ _ (eval (PySem.Expr.ListComp _ [PySem.Comprehension.mk (PySem.Expr.Tuple _ _ _) _ _ _] _ _) _) _ _ _ | with_reducible show LCg.CompSrc _ _ _ _ _ _ _ _ _ _ _ _ _ _ | with_reducible show wpAny _ _ (execs (PySem.Stmt.If (PySem.Expr.Compare _ [CmpOp.Lt] _ _) [PySem.Stmt.Assign [PySem.Expr.Tuple _ _ _] _ _] _ _ :: _) _) _ _ _))); first | (k_end; wrow_close) | walk1 | (dsimp only; walk1) | (leave1; walk_say "STEP leave1"; try dsimp only) | fail "no step")))
    refine name_seven (show News h₀ L _ (_ :: _ :: _ :: _ :: _ :: _ :: _ :: (91, _) :: news) by k_asm) ?_
    intro f l2 l1 x d e1 e3 e4 e5 e6
    subst e1 e3 e4 e5 e6
    refine hret (.ref x) _ [(f, _), (l2, _), (l1, _), (x, _), (d, _), (_, _), (_, _)] _ _ ⟨RuleIn.made (x := x) (d := d) (l1 := l1) (l2 := l2) (f := f) (by k_mem) (by k_mem) (by k_mem) (by k_mem) ?lam, TabOk.made (c := c) hc2 hc3 (List.mem_append_right _ hc1) rfl⟩ (by k_asm) (news_tab (by k_asm)) ?ord ?ne
    case ord => exact ord_of (And.right (by assumption : _ ∧ AllLt _ news)) (by repeat (first | exact ord_nil | refine ord_cons (by omega) ?_))
    case ne => repeat (first | exact ord_nil | refine ord_cons (by omega) ?_)
    case lam =>
      intro nw' nm t hsub hnm
      have m1 := hsub _ (List.Mem.head _)
      have m2 := hsub _ (List.mem_append_right _ hc1)
      have m3 := hsub _ (List.Mem.tail _ (List.Mem.tail _ (List.Mem.tail _ (List.Mem.tail _ (List.Mem.tail _ (List.Mem.head _))))))
      have m4 := hsub _ (List.Mem.tail _ (List.Mem.tail _ (List.Mem.tail _ (List.Mem.tail _ (List.Mem.tail _ (List.Mem.tail _ (List.Mem.head _)))))))
      clear hret hsub
      intro dp un gd cn cs ad ccd cl outer A₀ base h₀ L m s Q E hB hF hX hN hT hcs hdp hun hret
      refine wpAny_call ?_
      k_dflt (((refine' kla_code ?k1 ?k2 ?k3 ?k4 ?k5 ?kA ?kF ?kK ?k6 ?k7 ?k8 ?k9 ?kB ?_ ?c2 ?c3 ?c4 ?c5; (case kA => exact rfl); (case kF => exact rfl); (case kK => first | exact rfl | assumption); (case k1 => k_asm); (case k2 => k_asm); (case k3 => k_asm); (case k4 => k_asm); (case k5 => k_asm); (case k6 => k_mem); (case k7 => exact codeRec_news (by k_asm) (by k_mem) (by assumption) (by assumption)); (case k8 => k_room); (case k9 => exact rfl); (case c5 => decide); (case kB => exact locs rfl); (case c2 => exact rfl); (case c3 => exact rfl); (case c4 => exact rfl); k_whole; intro g' L' h' FG' F' N' B' X' T'; (try dsimp only); (try k_lift B'); (try k_fold))))
      (repeat' (first | (k_unfold; first | walk_at "Seq" | (try dsimp only)) | ((fail_if_success ((first | with_reducible show wpAny _ _ (eval (PySem.Expr.Lambda _ _ _ _) _) _ _ _ | with_reducible show wpAny _ _ (exec (PySem.Stmt.While _ _ _ _) _) _ _ _ | with_reducible show wpAny _ _ (exec (PySem.Stmt.For _ _ _ _ _) _) _ _ _ | with_reducible show wpAny _ _ (pyIter _) _ _ _ | with_reducible show wpAny _ _ (call (Value.type "list") _) _ _ _ | with_reducible show wpAny _ _ (call (Value.builtin "str.join") _) _ _ _ | with_reducible show wpAny _ _ (eval (PySem.Expr.ListComp _ [PySem.Comprehension.mk (PySem.Expr.Tuple _ _ _) _ _ _] _ _) _) _ _ _ | with_reducible show LCg.CompSrc _ _ _ _ _ _ _ _ _ _ _ _ _ _ | with_reducible show wpAny _ _ (execs (PySem.Stmt.If (PySem.Expr.Compare _ [CmpOp.Lt] _ _) [PySem.Stmt.Assign [PySem.Expr.Tuple _ _ _] _ _] _ _ :: _) _) _ _ _))); first | (k_end; wrow_close) | walk1 | (dsimp only; walk1) | (leave1; walk_say "STEP leave1"; try dsimp only) | fail "no step")))
      exact cb_retI (Q := Q) (s := s) hret rfl (by k_asm) (by k_asm)
end
end

section
open PySem PySem.Spec PySem.Calls PySem.W PyProof.Rows PyProof.Rows.LCg
section
section
variable {prog : Program} {w : World} {A : Around} {E : Value → Shared → Prop} {s : Shared} {h₀ : Heap} {L : Addr} {m : Str → Option Value} {env : Env}
/-- a comprehension over a list of triples in the ledger, its target three names, by a word over what it has made: the walk itself -/
theorem core3 {elt iter : Expr} {x1 x2 x3 : Str} {p1 p2 p3 tp : Pos} {kk : Nat} {scope : Scope} {cl : List (Str × Addr)} {pos : Pos} {ax : Addr} {its : List Value} {ep : Nat} {news : List (Addr × Obj)} {RR : Value → Addr → Result → Shared → Prop}
    (J : Nat → List Value → List (Addr × Obj) → Prop) (F : Fr h₀ L s.heap m) (N : News h₀ L s.heap news) (h0 : J 0 [] news)
    (hsrc : ∀ i ys nw, J i ys nw → (ax, W.listOf its.toArray ep) ∈ nw) (hsz : its.length ≤ sizeLine)
    (turn : ∀ (i : Nat) (v : Value) (ys : List Value) (nw : List (Addr × Obj)), i < its.length → its[i]? = some v → ys.length = i → J i ys nw →
      ∃ (t : Addr) (v1 v2 v3 : Value) (nt : Nat), v = .ref t ∧ (t, ({ cls := .type "tuple", data := .seq #[v1, v2, v3] nt } : Obj)) ∈ nw ∧
        ∀ (I : Addr) (oI : Obj) (C : Addr) (oC : Obj) (D : Addr) (m₂ : Str → Option Value) (h : Heap) (tk : Nat) (E' : Value → Shared → Prop), NsObj oC m₂ → m₂ x1 = some v1 → m₂ x2 = some v2 → m₂ x3 = some v3 → Fr h₀ L h m →
          News h₀ L h ((I, oI) :: (C, oC) :: (D, lst ys) :: nw) → Off3 I C D nw → ((@Ne Nat I C) ∧ (@Ne Nat I D) ∧ (@Ne Nat C D)) →
          wpAny (model prog w) A (eval elt (compEnvC scope cl C env)) (CompEnd h₀ L m { s with heap := h, toks := tk } I oI C oC D (lst ys) (fun _ => True) (fun y nw' => J (i + 1) (ys ++ [y]) nw')) E' { s with heap := h, toks := tk })
    (fin : ∀ (D C : Addr) (h : Heap) (tk : Nat) (m' : Str → Option Value) (ys : List Value) (nw : List (Addr × Obj)), ys.length = its.length → J its.length ys nw → Fr h₀ L h m → News h₀ L h ((D, lst ys) :: nw) → Off1 D nw → h.Ns C m' → h₀.get? C = none → C ≠ L → (@Ne Nat C D) → (∀ p ∈ nw, p.1 ≠ C) → RR (.ref D) C (.ok .next) { s with heap := h, toks := tk })
    (hh : A.handled = none) (hcell : ∀ y ∈ scope.names, y.2 ≠ .cell) (hkind : scope.kind = .function)
    (hx1 : scope.names.lookup x1 = some .local) (hx2 : scope.names.lookup x2 = some .local) (hx3 : scope.names.lookup x3 = some .local)
    (h12 : x1 ≠ x2) (h13 : x1 ≠ x3) (h23 : x2 ≠ x3) :
    wpAny (model prog w) A (pyIter (.ref ax)) (fun it s₂ => wpAny (model prog w) A (newList []) (fun acc s₃ => wpAny (model prog w) A (newFunctionEnv scope env.globals cl [] env.qual none .none (some env)) (fun cenv s₄ =>
      codeAny (model prog w) A (.compStart (.ListComp elt [⟨.Tuple [.Name x1 p1, .Name x2 p2, .Name x3 p3] kk tp, iter, [], 0⟩] scope pos) 0 it acc { cenv with scope := relabel scope env }) (RR acc cenv.locals) s₄) E s₃) E s₂) E s := by
  have hm0 := hsrc _ _ _ h0
  have hl : s.heap.IsList ax its.toArray := ⟨_, (N _ hm0).1, rfl, _, rfl⟩
  have hlt : ax < s.heap.objs.size := Heap.lt_size (N _ hm0).1
  refine wpAny_pyIter_list hl ?_
  generalize hI : s.heap.objs.size = I at *
  generalize hg : s.heap.push { cls := .type "list_iterator", data := .fields #[.ref ax, .int 0 0] } = g at *
  have gsz : g.objs.size = I + 1 := by rw [← hg, Heap.size_push, hI]
  have up : ∀ b o, s.heap.get? b = some o → g.get? b = some o := fun b o e => by rw [← hg]; exact Heap.get?_push_of_some _ e
  have W := Walks.list (prog := prog) (w := w) hh I ax (Nat.ne_of_lt hlt) its.toArray
  have itIt : g.IsListIter I ax 0 := by rw [← hg, ← hI]; exact ⟨_, Heap.get?_push_size _ rfl, rfl, rfl⟩
  have Fg : Fr h₀ L g m := F.keeps up
  have Ng : News h₀ L g news := N.grown up
  refine wpAny_newObj_type (wpAny_newFunctionEnv hcell (by intro y hy; simp at hy) (fun h₁ hns hsb₁ => ?_) hkind)
  dsimp only at hns hsb₁ ⊢
  generalize hH2 : g.push { cls := .type "list", dict := none, data := .seq ([] : List Value).toArray } = H2 at hns hsb₁ ⊢
  have hD : ∀ {P : Nat → Prop}, P g.objs.size → P g.objs.size := id
  generalize hDd : g.objs.size = D at *
  have hC : H2.objs.size = D + 1 := by rw [← hH2, Heap.size_push, hDd]
  generalize hCc : H2.objs.size = C at *
  have hLI : L < I := hI ▸ F.ns.lt
  have nI : @Ne Nat I C := by omega
  have nD : @Ne Nat I D := by omega
  have nCD : @Ne Nat C D := by omega
  have nLI : L ≠ I := Nat.ne_of_lt hLI
  have nCL : C ≠ L := fun e => by have : @Eq Nat C L := e; have : @LT.lt Nat _ L I := hLI; omega
  have nDL : D ≠ L := fun e => by have : @Eq Nat D L := e; have : @LT.lt Nat _ L I := hLI; omega
  have fresh : ∀ a, @LE.le Nat _ I a → h₀.get? a = none := fun a ha => by
    cases e : h₀.get? a with
    | none => rfl
    | some o' => exact absurd (Heap.lt_size (F.keep a o' e)) (by rw [hI]; exact Nat.not_lt.mpr ha)
  have hI₀ : h₀.get? I = none := fresh I (Nat.le_refl _)
  have hD₀ : h₀.get? D = none := fresh D (by omega)
  have hC₀ : h₀.get? C = none := fresh C (by omega)
  have small : ∀ b o, g.get? b = some o → @LT.lt Nat _ b D := fun b o e => hDd ▸ Heap.lt_size e
  have old : ∀ b o, g.get? b = some o → h₁.get? b = some o := fun b o e => hsb₁.extBut b o (fun q => by have := small b o e; have q' : @Eq Nat b C := q; omega) (Heap.get?_push_of_some _ (hH2 ▸ Heap.get?_push_of_some _ e))
  have hacc : h₁.get? D = some (lst []) := hsb₁.extBut _ _ (fun q => nCD (Eq.symm q)) (Heap.get?_push_of_some _ (by rw [← hH2, ← hDd]; exact Heap.get?_push_size _ rfl))
  have off₀ : Off3 I C D news := Off3.of fun p hp => by
    have z : @LT.lt Nat _ p.1 I := hI ▸ Heap.lt_size (N p hp).1
    exact ⟨fun q => by have : @Eq Nat p.1 I := q; omega, fun q => by have : @Eq Nat p.1 C := q; omega, fun q => by have : @Eq Nat p.1 D := q; omega⟩
  have loop : ∀ s₃ : Shared, s₃ = { s with heap := h₁, toks := s.toks + ([] : List (Str × Value)).length } →
      codeAny (model prog w) A (.compLoop (.ListComp elt [⟨.Tuple [.Name x1 p1, .Name x2 p2, .Name x3 p3] kk tp, iter, [], 0⟩] scope pos) 0 (.ref I) (.ref D) (compEnvC scope cl C env)) (RR (.ref D) C) s₃ := by
    rintro s₃ rfl
    refine LCp.codeAny_compLoop_pair
      (fun k s' => ∃ (h' : Heap) (tk i : Nat) (ys : List Value) (m' : Str → Option Value) (nw : List (Addr × Obj)), s' = { s with heap := h', toks := tk } ∧ i ≤ its.length ∧ k = its.length + 1 - i ∧ ys.length = i ∧ h'.IsListIter I ax i ∧ Fr h₀ L h' m ∧ h'.Ns C m' ∧ News h₀ L h' ((D, lst ys) :: nw) ∧
        Off3 I C D nw ∧ J i ys nw) ?_ (its.length + 1)
      ⟨h₁, _, 0, [], _, news, rfl, Nat.zero_le _, rfl, rfl, itIt.at fun o e => old _ o e, Fg.keeps old, hns, fun p hp => ?_, off₀, h0⟩
    · rintro k s' ⟨h', tk, i, ys, m', nw, rfl, hi, rfl, hyl, hit, F', hn', N', off', hJ⟩
      have off3 := off'.mem
      have hls : h'.IsList ax its.toArray := ⟨_, (N' _ (List.mem_cons_of_mem _ (hsrc _ _ _ hJ))).1, rfl, _, rfl⟩
      have offI : ∀ p ∈ (D, lst ys) :: nw, p.1 ≠ I := fun p hp => by
        rcases List.mem_cons.mp hp with rfl | hp
        · exact fun q => nD (Eq.symm q)
        · exact (off3 p hp).1
      by_cases hlti : i < its.length
      · refine W.item i _ _ _ (by simpa using hlti) ⟨hit, hls⟩ fun v h₂ tk₂ hPv hst₂ hk₂ => ?_
        obtain ⟨t, v1, v2, v3, nt, rfl, hmt, R⟩ := turn i v ys nw hlti (by simpa using hPv) hyl hJ
        have N₂ : News h₀ L h₂ ((D, lst ys) :: nw) := news_but N' hk₂ offI
        have ht : IsTup h₂ t #[v1, v2, v3] := ⟨_, (N₂ _ (List.mem_cons_of_mem _ hmt)).1, rfl, nt, rfl⟩
        refine wpAny_letOwnedTupleGo_listiter hst₂.1 ?_
        refine assign_Tuple_tuple hh ht rfl rfl fun h₅ he => ?_
        have he' : ∀ b o, h₂.get? b = some o → h₅.get? b = some o := fun b o e => he b o (Nat.ne_of_lt (Heap.lt_size e)) e
        have knd : ∀ {y : Str}, scope.names.lookup y = some .local → (compEnvC scope cl C env).kindOf y = some .local := fun hy => lookup_relabel_local hy
        have hpl : ((compEnvC scope cl C env).scope.kind == .class || ((compEnvC scope cl C env).scope.kind == .module && (compEnvC scope cl C env).locals != (compEnvC scope cl C env).globals)) = false := by simp [compEnvC, relabel, hkind]
        refine assignInOrder_cons (wpAny_assign_Name (wpAny_storeName_local (knd hx1) ((hn'.at' fun o e => hk₂ _ o (by simpa using fun q => nI (Eq.symm q)) e).at' fun o e => he' _ o e) (fun h₆ hn₆ hs₆ => ?_) hpl))
        refine assignInOrder_cons (wpAny_assign_Name (wpAny_storeName_local (knd hx2) hn₆ (fun h₇ hn₇ hs₇ => ?_) hpl))
        refine assignInOrder_cons (wpAny_assign_Name (wpAny_storeName_local (knd hx3) hn₇ (fun h₃ hn₃ hs₃ => ?_) hpl))
        refine assignInOrder_nil ?_
        have old3 : ∀ b o, b ≠ C → h₂.get? b = some o → h₃.get? b = some o := fun b o hb e => hs₃.extBut b o hb (hs₇.extBut b o hb (hs₆.extBut b o hb (he' b o e)))
        have hit₃ : h₃.IsListIter I ax (i + 1) := hst₂.1.at fun o e => old3 _ o nI e
        obtain ⟨oI, heI, hoI⟩ := id hit₃
        obtain ⟨oC, heC, hoC⟩ := ns_obj hn₃
        have F₃ : Fr h₀ L h₃ m := ((((fr_but F' hk₂ nLI hI₀).keeps he').change hs₆ nCL hC₀).change hs₇ nCL hC₀).change hs₃ nCL hC₀
        have N₃ : News h₀ L h₃ ((I, oI) :: (C, oC) :: (D, lst ys) :: nw) := fun p hp => by
          rcases List.mem_cons.mp hp with rfl | hp
          · exact ⟨heI, Ne.symm nLI, hI₀⟩
          · rcases List.mem_cons.mp hp with rfl | hp
            · exact ⟨heC, nCL, hC₀⟩
            · have z := N₂ p hp
              refine ⟨old3 _ _ ?_ z.1, z.2⟩
              rcases List.mem_cons.mp hp with rfl | hp
              · exact fun q => nCD (Eq.symm q)
              · exact (off3 p hp).2.1
        refine wpAny_mono (R I oI C oC D _ h₃ _ _ hoC (by simp [h12, h13]) (by simp [h23]) (by simp) F₃ N₃ off' ⟨nI, nD, nCD⟩) (fun y s₄ h₄ => ?_) fun _ _ e => e
        obtain ⟨h₄, tk₄, nw₄, rfl, F₄, N₄, off₄, _, J₄⟩ := h₄
        have zI := (N₄ (I, oI) List.mem_cons_self).1
        have zC := (N₄ (C, oC) (List.mem_cons_of_mem _ List.mem_cons_self)).1
        have zD := (N₄ (D, lst ys) (List.mem_cons_of_mem _ (List.mem_cons_of_mem _ List.mem_cons_self))).1
        have N₄' : News h₀ L h₄ nw₄ := fun p hp => N₄ p (List.mem_cons_of_mem _ (List.mem_cons_of_mem _ (List.mem_cons_of_mem _ hp)))
        refine append_at (hsz := by show ys.toArray.size ≤ sizeLine; rw [List.size_toArray, hyl]; exact Nat.le_trans hi hsz) zD fun h₅ hs₅ hD₅ => ?_
        have off4 := off₄.mem
        refine ⟨its.length + 1 - (i + 1), by omega, h₅, tk₄, i + 1, ys ++ [y], _, nw₄, rfl, hlti, rfl, by rw [List.length_append, List.length_singleton, hyl], ⟨oI, hs₅.extBut _ _ nD zI, hoI⟩, F₄.change hs₅ nDL hD₀,
          (hoC.ns zC).sameBut hs₅ nCD, fun p hp => ?_, off₄, J₄⟩
        rcases List.mem_cons.mp hp with rfl | hp
        · exact ⟨hD₅.trans (congrArg some (lst_snoc ys y)), nDL, hD₀⟩
        · exact ⟨hs₅.extBut _ _ (off4 p hp).2.2 (N₄' p hp).1, (N₄' p hp).2⟩
      · obtain rfl : i = its.length := Nat.le_antisymm hi (Nat.not_lt.mp hlti)
        refine W.done _ _ _ ⟨by simpa using hit, hls⟩ fun h₂ tk₂ hk₂ => ?_
        have N₂ : News h₀ L h₂ ((D, lst ys) :: nw) := news_but N' hk₂ offI
        have F₂ := fr_but F' hk₂ nLI hI₀
        exact fin D C h₂ tk₂ m' ys nw hyl hJ F₂ N₂ off'.one (hn'.at' fun o e => hk₂ _ o (by simpa using fun q => nI (Eq.symm q)) e) hC₀ nCL nCD fun p hp => (off3 p hp).2.1
    · rcases List.mem_cons.mp hp with rfl | hp
      · exact ⟨hacc, nDL, hD₀⟩
      · exact ⟨old _ _ (Ng p hp).1, (Ng p hp).2⟩
  have hst₁ : h₁.IsListIter I ax 0 ∧ h₁.IsList ax its.toArray := ⟨itIt.at fun o e => old _ o e, hl.at fun o e => old _ o (up _ o e)⟩
  exact codeAny_compStart_list (loop _ rfl) (W.self 0 _ _ _ hst₁ (loop _ rfl))
/-- a comprehension over a list of triples in the ledger, its target three names, by a word over what it has made -/
theorem comp3 {elt iter : Expr} {x1 x2 x3 : Str} {p1 p2 p3 tp : Pos} {kk : Nat} {scope : Scope} {cl : List (Str × Addr)} {pos : Pos} {Q : Value → Shared → Prop} {ax : Addr} {its : List Value} {ep : Nat} {news : List (Addr × Obj)}
    (J : Nat → List Value → List (Addr × Obj) → Prop) (F : Fr h₀ L s.heap m) (N : News h₀ L s.heap news) (h0 : J 0 [] news)
    (hev : wpAny (model prog w) A (eval iter env) (fun xv s₁ => xv = .ref ax ∧ s₁ = s) E s)
    (hsrc : ∀ i ys nw, J i ys nw → (ax, W.listOf its.toArray ep) ∈ nw) (hsz : its.length ≤ sizeLine)
    (turn : ∀ (i : Nat) (v : Value) (ys : List Value) (nw : List (Addr × Obj)), i < its.length → its[i]? = some v → ys.length = i → J i ys nw →
      ∃ (t : Addr) (v1 v2 v3 : Value) (nt : Nat), v = .ref t ∧ (t, ({ cls := .type "tuple", data := .seq #[v1, v2, v3] nt } : Obj)) ∈ nw ∧
        ∀ (I : Addr) (oI : Obj) (C : Addr) (oC : Obj) (D : Addr) (m₂ : Str → Option Value) (h : Heap) (tk : Nat) (E' : Value → Shared → Prop), NsObj oC m₂ → m₂ x1 = some v1 → m₂ x2 = some v2 → m₂ x3 = some v3 → Fr h₀ L h m →
          News h₀ L h ((I, oI) :: (C, oC) :: (D, lst ys) :: nw) → Off3 I C D nw → ((@Ne Nat I C) ∧ (@Ne Nat I D) ∧ (@Ne Nat C D)) →
          wpAny (model prog w) A (eval elt (compEnvC scope cl C env)) (CompEnd h₀ L m { s with heap := h, toks := tk } I oI C oC D (lst ys) (fun _ => True) (fun y nw' => J (i + 1) (ys ++ [y]) nw')) E' { s with heap := h, toks := tk })
    (fin : ∀ (D : Addr) (ys : List Value) (nw : List (Addr × Obj)) (h : Heap) (tk : Nat), ys.length = its.length → J its.length ys nw → Fr h₀ L h m → News h₀ L h ((D, lst ys) :: nw) → Off1 D nw → Q (.ref D) { s with heap := h, toks := tk })
    (hh : A.handled = none := by rfl) (hclos : closureFor scope env = pure cl := by with_unfolding_all rfl) (hcell : ∀ y ∈ scope.names, y.2 ≠ .cell := by decide) (hkind : scope.kind = .function := by rfl)
    (hnames : ∀ y ∈ scope.names, y.2 = .local → scope.names.lookup y.1 = some .local := by decide) (hx1 : scope.names.lookup x1 = some .local := by rfl) (hx2 : scope.names.lookup x2 = some .local := by rfl) (hx3 : scope.names.lookup x3 = some .local := by rfl)
    (h12 : x1 ≠ x2 := by decide) (h13 : x1 ≠ x3 := by decide) (h23 : x2 ≠ x3 := by decide)
    (hs : ∀ x, foldedSetIterable iter env x = pure x := by intro _; rfl) :
    wpAny (model prog w) A (eval (.ListComp elt [⟨.Tuple [.Name x1 p1, .Name x2 p2, .Name x3 p3] kk tp, iter, [], 0⟩] scope pos) env) Q E s := by
  rw [eval_ListComp]
  refine wpAny_comprehension_free (use := none) rfl hs hclos hkind hnames (wpAny_mono hev (fun xv s₁ h₁ => ?_) fun _ _ e => e)
  obtain ⟨rfl, rfl⟩ := h₁
  refine core3 J F N h0 hsrc hsz turn ?_ hh hcell hkind hx1 hx2 hx3 h12 h13 h23
  intro D C h tk m' ys nw hyl hJ F₂ N₂ o1 hn hC₀ nCL nCD offC
  refine ⟨m', hn, fun h'' hs'' => fin D ys nw h'' tk hyl hJ (F₂.change hs'' nCL hC₀) (fun p hp => ?_) o1⟩
  refine ⟨hs''.extBut _ _ ?_ (N₂ p hp).1, (N₂ p hp).2⟩
  rcases List.mem_cons.mp hp with rfl | hp
  · exact fun q => nCD (Eq.symm q)
  · exact offC p hp
/-- the same where the list goes straight into a local name -/
theorem assign3 {elt iter : Expr} {x1 x2 x3 yv : Str} {p1 p2 p3 tp py spos : Pos} {kk : Nat} {scope : Scope} {cl : List (Str × Addr)} {pos : Pos} {Q : Flow → Shared → Prop} {ax : Addr} {its : List Value} {ep : Nat} {news : List (Addr × Obj)}
    (J : Nat → List Value → List (Addr × Obj) → Prop) (hLe : env.locals = L) (F : Fr h₀ L s.heap m) (N : News h₀ L s.heap news) (h0 : J 0 [] news)
    (hev : wpAny (model prog w) A (eval iter env) (fun xv s₁ => xv = .ref ax ∧ s₁ = s) E s)
    (hsrc : ∀ i ys nw, J i ys nw → (ax, W.listOf its.toArray ep) ∈ nw) (hsz : its.length ≤ sizeLine)
    (turn : ∀ (i : Nat) (v : Value) (ys : List Value) (nw : List (Addr × Obj)), i < its.length → its[i]? = some v → ys.length = i → J i ys nw →
      ∃ (t : Addr) (v1 v2 v3 : Value) (nt : Nat), v = .ref t ∧ (t, ({ cls := .type "tuple", data := .seq #[v1, v2, v3] nt } : Obj)) ∈ nw ∧
        ∀ (I : Addr) (oI : Obj) (C : Addr) (oC : Obj) (D : Addr) (m₂ : Str → Option Value) (h : Heap) (tk : Nat) (E' : Value → Shared → Prop), NsObj oC m₂ → m₂ x1 = some v1 → m₂ x2 = some v2 → m₂ x3 = some v3 → Fr h₀ L h m →
          News h₀ L h ((I, oI) :: (C, oC) :: (D, lst ys) :: nw) → Off3 I C D nw → ((@Ne Nat I C) ∧ (@Ne Nat I D) ∧ (@Ne Nat C D)) →
          wpAny (model prog w) A (eval elt (compEnvC scope cl C env)) (CompEnd h₀ L m { s with heap := h, toks := tk } I oI C oC D (lst ys) (fun _ => True) (fun y nw' => J (i + 1) (ys ++ [y]) nw')) E' { s with heap := h, toks := tk })
    (fin : ∀ (D : Addr) (ys : List Value) (nw : List (Addr × Obj)) (h : Heap) (tk : Nat), ys.length = its.length → J its.length ys nw → Fr h₀ L h (fun z => if z = yv then some (.ref D) else m z) → News h₀ L h ((D, lst ys) :: nw) → Off1 D nw → Q .next { s with heap := h, toks := tk })
    (hsw : swapsWith (.ListComp elt [⟨.Tuple [.Name x1 p1, .Name x2 p2, .Name x3 p3] kk tp, iter, [], 0⟩] scope pos) (some (.Name yv py)) spos.line env = pure true := by with_unfolding_all rfl) (hyk : env.kindOf yv = some .local := by rfl) (hpk : (env.scope.kind == .class || (env.scope.kind == .module && env.locals != env.globals)) = false := by rfl)
    (hh : A.handled = none := by rfl) (hclos : closureFor scope env = pure cl := by with_unfolding_all rfl) (hcell : ∀ y ∈ scope.names, y.2 ≠ .cell := by decide) (hkind : scope.kind = .function := by rfl)
    (hnames : ∀ y ∈ scope.names, y.2 = .local → scope.names.lookup y.1 = some .local := by decide) (hx1 : scope.names.lookup x1 = some .local := by rfl) (hx2 : scope.names.lookup x2 = some .local := by rfl) (hx3 : scope.names.lookup x3 = some .local := by rfl)
    (h12 : x1 ≠ x2 := by decide) (h13 : x1 ≠ x3 := by decide) (h23 : x2 ≠ x3 := by decide)
    (hs : ∀ x, foldedSetIterable iter env x = pure x := by intro _; rfl) :
    wpAny (model prog w) A (exec (.Assign [.Name yv py] (.ListComp elt [⟨.Tuple [.Name x1 p1, .Name x2 p2, .Name x3 p3] kk tp, iter, [], 0⟩] scope pos) spos) env) Q E s := by
  subst hLe
  rw [exec_Assign_Name_used _ _ _ _ hsw]
  refine wpAny_bind (wpAny_standAt (wpAny_bind ?_))
  show wpAny _ A (do let _ ← comprehension (.ListComp elt [⟨.Tuple [.Name x1 p1, .Name x2 p2, .Name x3 p3] kk tp, iter, [], 0⟩] scope pos) scope env _ (newList []) false (eval iter env) (some (assign (.Name yv py) env))) _ _ s
  refine wpAny_bind (wpAny_mono (wpAny_comprehension_free (use := some (assign (.Name yv py) env)) (Q := fun _ s' => Q .next s') rfl hs hclos hkind hnames
    (wpAny_mono hev (fun xv s₁ h₁ => ?_) fun _ _ e => e)) (fun _ s' hq => wpAny_pure (wpAny_pure hq)) fun _ _ e => e)
  obtain ⟨rfl, rfl⟩ := h₁
  refine core3 J F N h0 hsrc hsz turn ?_ hh hcell hkind hx1 hx2 hx3 h12 h13 h23
  intro D C h tk m' ys nw hyl hJ F₂ N₂ o1 hn hC₀ nCL nCD offC
  show wpAny _ A (assign (.Name yv py) env (.ref D)) _ _ _
  refine wpAny_assign_Name (wpAny_storeName_local hyk F₂.ns (fun h₉ hn₉ hs₉ => ?_) hpk)
  have hL₀ : h₀.get? env.locals = none := Heap.get?_none_of_le F₂.above
  have F₉ : Fr h₀ env.locals h₉ (fun z => if z = yv then some (.ref D) else m z) := ⟨hn₉, fun b o e => hs₉.extBut b o (fun q => by rw [q, hL₀] at e; cases e) (F₂.keep b o e), F₂.above⟩
  refine ⟨m', hn.sameBut hs₉ nCL, fun h'' hs'' => fin D ys nw h'' _ hyl hJ (F₉.change hs'' nCL hC₀) (fun p hp => ?_) o1⟩
  have z : h₉.get? p.1 = some p.2 := hs₉.extBut _ _ (N₂ p hp).2.1 (N₂ p hp).1
  refine ⟨hs''.extBut _ _ ?_ z, (N₂ p hp).2⟩
  rcases List.mem_cons.mp hp with rfl | hp
  · exact fun q => nCD (Eq.symm q)
  · exact offC p hp
end
end
end

section
open PySem PySem.W PyProof.Rows
section
inductive All2 {α β : Type} (R : α → β → Prop) : List α → List β → Prop
  | nil : All2 R [] []
  | cons {a b as bs} : R a b → All2 R as bs → All2 R (a :: as) (b :: bs)
theorem All2.length {α β : Type} {R : α → β → Prop} {as : List α} {bs : List β} (h : All2 R as bs) : as.length = bs.length := by
  induction h with
  | nil => rfl
  | cons _ _ ih => simp [ih]
theorem All2.mono {α β : Type} {R R' : α → β → Prop} (k : ∀ a b, R a b → R' a b) {as : List α} {bs : List β} (h : All2 R as bs) : All2 R' as bs := by
  induction h with
  | nil => exact .nil
  | cons h _ ih => exact .cons (k _ _ h) ih
theorem All2.snoc {α β : Type} {R : α → β → Prop} {as : List α} {bs : List β} {a : α} {b : β} (h : All2 R as bs) (r : R a b) : All2 R (as ++ [a]) (bs ++ [b]) := by
  induction h with
  | nil => exact .cons r .nil
  | cons h _ ih => exact .cons h ih
theorem All2.append {α β : Type} {R : α → β → Prop} {as as' : List α} {bs bs' : List β} (h : All2 R as bs) (h' : All2 R as' bs') : All2 R (as ++ as') (bs ++ bs') := by
  induction h with
  | nil => exact h'
  | cons h _ ih => exact .cons h ih
theorem All2.get {α β : Type} {R : α → β → Prop} {as : List α} {bs : List β} (h : All2 R as bs) : ∀ {i : Nat} {a : α}, as[i]? = some a → ∃ b, bs[i]? = some b ∧ R a b := by
  induction h with
  | nil => intro i a h; simp at h
  | cons r _ ih =>
    intro i a h
    cases i with
    | zero => simp at h; subst h; exact ⟨_, rfl, r⟩
    | succ i => simpa using ih (by simpa using h)
theorem All2.take {α β : Type} {R : α → β → Prop} {as : List α} {bs : List β} (h : All2 R as bs) : ∀ (n : Nat), All2 R (as.take n) (bs.take n) := by
  induction h with
  | nil => intro n; simp; exact .nil
  | cons r _ ih =>
    intro n
    cases n with
    | zero => exact .nil
    | succ n => exact .cons r (ih n)
theorem All2.drop {α β : Type} {R : α → β → Prop} {as : List α} {bs : List β} (h : All2 R as bs) : ∀ (n : Nat), All2 R (as.drop n) (bs.drop n) := by
  induction h with
  | nil => intro n; simp; exact .nil
  | cons r h ih =>
    intro n
    cases n with
    | zero => exact .cons r h
    | succ n => exact ih n
noncomputable def BookIn (w : World) (p : Program) (loose : List Str) (mean : ExcName → Option Value) (mg mb : Str → Option Value) (nw : List (Addr × Obj)) (v : Value) (rs : List Row) : Prop :=
  ∃ (x d l1 l2 : Addr) (t1 t2 t3 t4 : Tok) (vs : List Value) (k1 k2 : Nat), v = .ref x ∧ (x, instObj 52 d) ∈ nw ∧
    (d, dictOf [⟨PyData.keyHash w.params "useragents", .str "useragents" t1, .ref l1⟩, ⟨PyData.keyHash w.params "rulelines", .str "rulelines" t2, .ref l2⟩, ⟨PyData.keyHash w.params "delay", .str "delay" t3, .none⟩, ⟨PyData.keyHash w.params "req_rate", .str "req_rate" t4, .none⟩] 4) ∈ nw ∧
    (l1, W.listOf #[] k1) ∈ nw ∧ (l2, W.listOf vs.toArray k2) ∈ nw ∧ All2 (RuleIn w p loose mean mg mb nw) vs rs
theorem LamOk.mono {w : World} {p : Program} {loose : List Str} {mean : ExcName → Option Value} {mg mb : Str → Option Value} {f : Addr} {nw nw' : List (Addr × Obj)} {r : Row} (h : LamOk w p loose mean mg mb f nw r) (k : ∀ q ∈ nw, q ∈ nw') : LamOk w p loose mean mg mb f nw' r :=
  let ⟨⟨oc, od, fd, sl, h1⟩, h2⟩ := h; ⟨⟨oc, od, fd, sl, k _ h1⟩, fun n2 nm t hs hn => h2 n2 nm t (fun q hq => hs q (k q hq)) hn⟩
theorem RuleIn.mono {w : World} {p : Program} {loose : List Str} {mean : ExcName → Option Value} {mg mb : Str → Option Value} {nw nw' : List (Addr × Obj)} {v : Value} {r : Row} (h : RuleIn w p loose mean mg mb nw v r) (k : ∀ q ∈ nw, q ∈ nw') : RuleIn w p loose mean mg mb nw' v r :=
  let ⟨x, d, l1, l2, f, t, t1, t2, t3, t4, t5, t6, e, m1, m2, m3, m4⟩ := h; ⟨x, d, l1, l2, f, t, t1, t2, t3, t4, t5, t6, e, k _ m1, k _ m2, k _ m3, m4.mono k⟩
theorem TabOk.mono {ps : Array Value} {nw nw' : List (Addr × Obj)} (h : TabOk ps nw) (k : ∀ q ∈ nw, q ∈ nw') : TabOk ps nw' := by
  rcases h with h | ⟨c, oc, vs, t, h1, h2, h3, h4⟩
  · exact .inl h
  · exact .inr ⟨c, oc, vs, t, h1, k _ h2, h3, h4⟩
theorem mem_mid {α : Type} {a : α} {l1 l2 l3 : List α} (h : a ∈ l1 ++ l3) : a ∈ l1 ++ (l2 ++ l3) := by
  rcases List.mem_append.mp h with h | h
  · exact List.mem_append_left _ h
  · exact List.mem_append_right _ (List.mem_append_right _ h)
theorem off1_mem {D : Addr} : ∀ {l : List (Addr × Obj)}, LCg.Off1 D l → ∀ p ∈ l, @Ne Nat p.1 D
  | [], _, _, h => nomatch h
  | _ :: _, x, p, h => by
    rcases List.mem_cons.mp h with rfl | h
    · exact x.1
    · exact off1_mem x.2 p h
theorem extend_nil {prog : Program} {w : World} {A : Around} {E : Value → Shared → Prop} {s : Shared} {h₀ : Heap} {L D b : Addr} {m : Str → Option Value} {news : List (Addr × Obj)} {ys : List Value} {n n2 : Nat} {g : Nat → List (Addr × Obj)} {Q : Value → Shared → Prop}
    (F : Fr h₀ L s.heap m) (N : News h₀ L s.heap news) (hb : (b, W.listOf ys.toArray n2) ∈ news) (U : ∀ k, Upd D (W.listOf #[] n) (W.listOf ys.toArray k) news (g k)) (hz : ys.length ≤ sizeLine)
    (h : ∀ k h', Fr h₀ L h' m → News h₀ L h' (g k) → Q .none { s with heap := h' }) : wpAny (model prog w) A (call (.builtin "list.extend") [.ref D, .ref b]) Q E s := by
  by_cases hy : ys = []
  · subst hy
    exact kxn_extend F N hb rfl (U n) (by simp) (by simp) (by simp) (h n)
  · exact kl_extend F N hb (l := ys) (by simp) (by simpa using hy) (U (n + 1)) (by simp) (by simp) (by simp; omega) (h (n + 1))
/-- between two turns of _law_book's comprehension -/
noncomputable def BookJ (w : World) (p : Program) (loose : List Str) (mean : ExcName → Option Value) (mg mb : Str → Option Value) (rest sup : List (Addr × Obj)) (rs : List Row) (i : Nat) (ys : List Value) (nw : List (Addr × Obj)) : Prop :=
  ∃ (ps : Array Value) (tl : List (Addr × Obj)), nw = (91, tabObj ps) :: (tl ++ rest) ∧ TabOk ps (tl ++ sup) ∧ All2 (RuleIn w p loose mean mg mb (tl ++ sup)) ys (rs.take i) ∧ (∀ p ∈ rest, ∀ q ∈ tl, @LT.lt Nat _ p.1 q.1) ∧ (∀ q ∈ tl, @LT.lt Nat _ 91 q.1)
local macro_rules | `(tactic| k_mem) => `(tactic| assumption)
theorem book_end {w : World} {p : Program} {loose : List Str} {mean : ExcName → Option Value} {mg mb : Str → Option Value} {news sup tl TL : List (Addr × Obj)} {rs : List Row} {ps' : Array Value} {h₀ h : Heap} {L : Addr} {m : Str → Option Value} {s : Shared} {Q : Value → Shared → Prop} {Da l2 l1 x d : Addr} {oD : Obj} {ys : List Value} {k1 k2 : Nat} {t1 t2 t3 t4 : Tok} {tk : Nat}
    (hret : ∀ (v : Value) (ps' : Array Value) (tl : List (Addr × Obj)) (h' : Heap) (tk' : Nat), (BookIn w p loose mean mg mb (tl ++ sup) v rs ∧ TabOk ps' (tl ++ sup)) → Fr h₀ L h' m → News h₀ L h' ((91, tabObj ps') :: (tl ++ news)) → (∀ p ∈ news, ∀ q ∈ tl, @LT.lt Nat _ p.1 q.1) → (∀ q ∈ tl, @LT.lt Nat _ 91 q.1) → Q v { s with heap := h', toks := tk' })
    (F : Fr h₀ L h m) (N : News h₀ L h ((Da, oD) :: (l2, W.listOf ys.toArray k2) :: (l1, W.listOf #[] k1) :: (x, instObj 52 d) :: (d, dictOf [⟨PyData.keyHash w.params "useragents", .str "useragents" t1, .ref l1⟩, ⟨PyData.keyHash w.params "rulelines", .str "rulelines" t2, .ref l2⟩, ⟨PyData.keyHash w.params "delay", .str "delay" t3, .none⟩, ⟨PyData.keyHash w.params "req_rate", .str "req_rate" t4, .none⟩] 4) :: TL))
    (eTL : TL = (91, tabObj ps') :: (tl ++ news)) (hTb : TabOk ps' (tl ++ sup)) (hA : All2 (RuleIn w p loose mean mg mb (tl ++ sup)) ys rs) (ho : ∀ p ∈ news, ∀ q ∈ tl, @LT.lt Nat _ p.1 q.1) (ho2 : ∀ q ∈ tl, @LT.lt Nat _ 91 q.1)
    (hd : AllLt d news) (h9 : @LT.lt Nat _ 91 d) (hdx : @LT.lt Nat _ d x) (hxl : @LT.lt Nat _ x l1) (hll : @LT.lt Nat _ l1 l2) : Q (.ref x) { s with heap := h, toks := tk } := by
  subst eTL
  have up : ∀ {a : Addr × Obj}, a ∈ tl ++ sup → a ∈ ((l2, W.listOf ys.toArray k2) :: (l1, W.listOf #[] k1) :: (x, instObj 52 d) :: (d, dictOf [⟨PyData.keyHash w.params "useragents", .str "useragents" t1, .ref l1⟩, ⟨PyData.keyHash w.params "rulelines", .str "rulelines" t2, .ref l2⟩, ⟨PyData.keyHash w.params "delay", .str "delay" t3, .none⟩, ⟨PyData.keyHash w.params "req_rate", .str "req_rate" t4, .none⟩] 4) :: tl) ++ sup := fun h => .tail _ (.tail _ (.tail _ (.tail _ h)))
  refine hret (.ref x) ps' ((l2, W.listOf ys.toArray k2) :: (l1, W.listOf #[] k1) :: (x, instObj 52 d) :: (d, dictOf [⟨PyData.keyHash w.params "useragents", .str "useragents" t1, .ref l1⟩, ⟨PyData.keyHash w.params "rulelines", .str "rulelines" t2, .ref l2⟩, ⟨PyData.keyHash w.params "delay", .str "delay" t3, .none⟩, ⟨PyData.keyHash w.params "req_rate", .str "req_rate" t4, .none⟩] 4) :: tl) h tk
    ⟨⟨x, d, l1, l2, t1, t2, t3, t4, ys, k1, k2, rfl, .tail _ (.tail _ (.head _)), .tail _ (.tail _ (.tail _ (.head _))), .tail _ (.head _), .head _, hA.mono fun a b r => r.mono fun q hq => up hq⟩, hTb.mono fun q hq => up hq⟩ F (fun q hq => N q (List.mem_cons_of_mem _ ?_)) ?_ ?_
  · rcases List.mem_cons.mp hq with rfl | hq
    · exact List.mem_cons_of_mem _ (List.mem_cons_of_mem _ (List.mem_cons_of_mem _ (List.mem_cons_of_mem _ List.mem_cons_self)))
    · simp only [List.cons_append, List.mem_cons, List.mem_append] at hq ⊢
      rcases hq with h | h | h | h | h
      · exact .inl h
      · exact .inr (.inl h)
      · exact .inr (.inr (.inl h))
      · exact .inr (.inr (.inr (.inl h)))
      · exact .inr (.inr (.inr (.inr (.inr h))))
  · intro q hq q' hq'
    have z := ktn_ltOf hd q hq
    rcases List.mem_cons.mp hq' with rfl | hq'
    · exact Nat.lt_trans z (Nat.lt_trans hdx (Nat.lt_trans hxl hll))
    · rcases List.mem_cons.mp hq' with rfl | hq'
      · exact Nat.lt_trans z (Nat.lt_trans hdx hxl)
      · rcases List.mem_cons.mp hq' with rfl | hq'
        · exact Nat.lt_trans z hdx
        · rcases List.mem_cons.mp hq' with rfl | hq'
          · exact z
          · exact ho q hq q' hq'
  · exact ord_cons (Nat.lt_trans h9 (Nat.lt_trans hdx (Nat.lt_trans hxl hll))) (ord_cons (Nat.lt_trans h9 (Nat.lt_trans hdx hxl)) (ord_cons (Nat.lt_trans h9 hdx) (ord_cons h9 ho2)))
theorem book_c {w : World} {p : Program} {loose : List Str} {mean : ExcName → Option Value} {mg mb : Str → Option Value} {news sup : List (Addr × Obj)} {ps : Array Value} {rs : List Row} {l : Addr} {vs : List Value} {ep : Nat} {rv : Value} (erv : rv = .ref l) (hl : (l, W.listOf vs.toArray ep) ∈ news) (hr : All2 (RowIn news) vs rs) (hn : rs.length ≤ 64) (hle : ∀ r ∈ rs, r.word.length ≤ 64)
    (hT9 : TabOk ps sup) (h91 : ∀ p ∈ news, p.1 ≠ 91) :
   ClaimT Challenge.rw_nb0157_01.row.prog w (Mine.hd.heap_39 w.params) p loose mean mg mb 101 91 4 32 ps news [rv] (fun v ps' tl => BookIn w p loose mean mg mb (tl ++ sup) v rs ∧ TabOk ps' (tl ++ sup)) := by
  subst erv
  intro dp un gd cn cs ad ccd cl outer A₀ base h₀ L m s Q E hB hF hX hN hT hcs hdp hun hret
  refine wpAny_call ?_
  k_dflt cell_enter
  have hoff : OwnOff news [91] := fun p hp b hb e => h91 p hp (e.trans (List.mem_singleton.mp hb))
  (repeat' (first | (k_unfold; first | walk_at "Seq" | (try dsimp only)) | ((fail_if_success ((first | with_reducible show wpAny _ _ (call (Value.ref 96) _) _ _ _ | with_reducible show wpAny _ _ (exec (PySem.Stmt.While _ _ _ _) _) _ _ _ | with_reducible show wpAny _ _ (exec (PySem.Stmt.For _ _ _ _ _) _) _ _ _ | with_reducible show wpAny _ _ (pyIter _) _ _ _ | with_reducible show wpAny _ _ (call (Value.type "list") _) _ _ _ | with_reducible show wpAny _ _ (call (Value.builtin "str.join") _) _ _ _ | with_reducible show wpAny _ _ (eval (PySem.Expr.ListComp _ [PySem.Comprehension.mk (PySem.Expr.Tuple _ _ _) _ _ _] _ _) _) _ _ _ | with_reducible show LCg.CompSrc _ _ _ _ _ _ _ _ _ _ _ _ _ _ | with_reducible show wpAny _ _ (execs (PySem.Stmt.If (PySem.Expr.Compare _ [CmpOp.Lt] _ _) [PySem.Stmt.Assign [PySem.Expr.Tuple _ _ _] _ _] _ _ :: _) _) _ _ _))); first | (k_end; wrow_close) | walk1 | (dsimp only; walk1) | (leave1; walk_say "STEP leave1"; try dsimp only) | fail "no step")))
  refine name_four (show News _ _ _ ((_, W.listOf _ _) :: (_, W.listOf _ _) :: (_, instObj _ _) :: (_, dictOf _ _) :: (91, _) :: news) by k_asm) ?_
  intro l2 l1 x d e1 e2 e3 e4
  subst e1 e2 e3 e4
  refine cut_rest [(l2, _), (l1, _), (x, _), (d, _)] (by k_asm) ?_
  intro rest erest Nr
  have hsubn : ∀ q ∈ news, q ∈ rest := fun q hq => by rw [erest]; exact List.mem_append_right _ hq
  have hr91 : ∀ q ∈ rest, q.1 ≠ 91 := fun q hq => by
    rw [erest] at hq
    rcases List.mem_append.mp hq with hq | hq
    · simp only [List.mem_cons, List.not_mem_nil, or_false] at hq
      rcases hq with rfl | rfl | rfl | rfl <;> (refine neN ?_; dsimp only; omega)
    · exact h91 q hq
  refine comp3 (BookJ w p loose mean mg mb rest sup rs) (by k_asm) Nr ⟨ps, [], rfl, hT9, .nil, (fun _ _ _ h => nomatch h), (fun _ h => nomatch h)⟩ (ax := l) (its := vs) (ep := ep) ?ev ?src (by rw [sizeLine_eq, hr.length]; omega) ?turn ?fin
  case ev =>
    walk1
    exact ⟨rfl, rfl⟩
  case src =>
    rintro i ys nw ⟨ps', tl, rfl, _⟩
    exact List.mem_cons_of_mem _ (List.mem_append_right _ (hsubn _ hl))
  case turn =>
    rintro i v ys nw hi hv hlen ⟨ps', tl, rfl, hTb, hA, ho1, ho2⟩
    obtain ⟨r, hri, t, t1, t2, rfl, hmt⟩ := hr.get hv
    have hrm : r ∈ rs := List.mem_of_getElem? hri
    refine ⟨t, _, _, _, _, rfl, List.mem_cons_of_mem _ (List.mem_append_right _ (hsubn _ hmt)), ?_⟩
    intro I oI C oC Da m₂ h2 tk2 E' hC hx1 hx2 hx3 F2 N2 off ne
    (repeat' (first | (k_unfold; first | walk_at "Seq" | (try dsimp only)) | ((fail_if_success ((first | with_reducible show wpAny _ _ (call (Value.ref 96) _) _ _ _ | with_reducible show wpAny _ _ (exec (PySem.Stmt.While _ _ _ _) _) _ _ _ | with_reducible show wpAny _ _ (exec (PySem.Stmt.For _ _ _ _ _) _) _ _ _ | with_reducible show wpAny _ _ (pyIter _) _ _ _ | with_reducible show wpAny _ _ (call (Value.type "list") _) _ _ _ | with_reducible show wpAny _ _ (call (Value.builtin "str.join") _) _ _ _ | with_reducible show wpAny _ _ (eval (PySem.Expr.ListComp _ [PySem.Comprehension.mk (PySem.Expr.Tuple _ _ _) _ _ _] _ _) _) _ _ _ | with_reducible show LCg.CompSrc _ _ _ _ _ _ _ _ _ _ _ _ _ _ | with_reducible show wpAny _ _ (execs (PySem.Stmt.If (PySem.Expr.Compare _ [CmpOp.Lt] _ _) [PySem.Stmt.Assign [PySem.Expr.Tuple _ _ _] _ _] _ _ :: _) _) _ _ _))); first | (k_end; wrow_close) | walk1 | (dsimp only; walk1) | (leave1; walk_say "STEP leave1"; try dsimp only) | fail "no step")))
    have off' := off.mem
    have o91 := off' _ List.mem_cons_self
    have hn91 : ∀ q ∈ [(I, oI), (C, oC), (Da, LCg.lst ys)] ++ (tl ++ rest), q.1 ≠ 91 := fun q hq => by
      rcases List.mem_append.mp hq with hq | hq
      · simp only [List.mem_cons, List.not_mem_nil, or_false] at hq
        rcases hq with rfl | rfl | rfl
        · exact fun e => o91.1 e.symm
        · exact fun e => o91.2.1 e.symm
        · exact fun e => o91.2.2 e.symm
      · rcases List.mem_append.mp hq with hq | hq
        · exact fun e => Nat.ne_of_lt (ho2 q hq) e.symm
        · exact hr91 q hq
    refine' ClaimT.use ?k1 ?k2 ?k3 (news_tab (tl := [(I, oI), (C, oC), (Da, LCg.lst ys)]) N2) ?k5 ?kK (rule_c hTb (hle r hrm) hn91) ?kd ?ku ?_
    case k1 => k_asm
    case k2 => k_asm
    case k3 => k_asm
    case k5 => k_asm
    case kK => rfl
    case kd => ktr_room
    case ku => ktr_units
    rintro v2 ps2 tl2 h3 tk3 ⟨hRule, hTab⟩ F3 N3 ord3 ord91
    rw [← List.append_assoc] at hRule hTab
    refine LCg.CompEnd.intro F3 N3 ((91, tabObj ps2) :: ((tl2 ++ tl) ++ rest)) ?sub ?off trivial ⟨ps2, tl2 ++ tl, rfl, hTab, ?all, ?o1, ?o2⟩
    case sub =>
      intro q hq
      simp only [List.mem_cons, List.mem_append, List.not_mem_nil, or_false] at hq ⊢
      rcases hq with h | h | h | h | (h | h) | h
      · exact .inr (.inr (.inl (.inl h)))
      · exact .inr (.inr (.inl (.inr (.inl h))))
      · exact .inr (.inr (.inl (.inr (.inr h))))
      · exact .inl h
      · exact .inr (.inl h)
      · exact .inr (.inr (.inr (.inl h)))
      · exact .inr (.inr (.inr (.inr h)))
    case off =>
      refine LCg.Off3.of fun q hq => ?_
      rcases List.mem_cons.mp hq with rfl | hq
      · exact o91
      · rcases List.mem_append.mp hq with hq | hq
        · rcases List.mem_append.mp hq with hq | hq
          · exact ⟨fun e => Nat.ne_of_lt (ord3 (I, oI) (List.Mem.head _) q hq) e.symm, fun e => Nat.ne_of_lt (ord3 (C, oC) (List.Mem.tail _ (List.Mem.head _)) q hq) e.symm, fun e => Nat.ne_of_lt (ord3 (Da, LCg.lst ys) (List.Mem.tail _ (List.Mem.tail _ (List.Mem.head _))) q hq) e.symm⟩
          · exact off' q (List.mem_cons_of_mem _ (List.mem_append_left _ hq))
        · exact off' q (List.mem_cons_of_mem _ (List.mem_append_right _ hq))
    case all =>
      rw [List.take_add_one, hri]
      exact (hA.mono fun a b h => h.mono fun q hq => by rw [List.append_assoc]; exact List.mem_append_right _ hq).snoc hRule
    case o1 =>
      intro q hq q' hq'
      rcases List.mem_append.mp hq' with hq' | hq'
      · exact ord3 q (List.mem_append_right _ (List.mem_append_right _ hq)) q' hq'
      · exact ho1 q hq q' hq'
    case o2 =>
      intro q hq
      rcases List.mem_append.mp hq with hq | hq
      · exact ord91 q hq
      · exact ho2 q hq
  case fin =>
    rintro Da ys nw h2 tk2 hyl ⟨ps', tl, rfl, hTb, hA, ho1, ho2⟩ F2 N2 o1
    obtain ⟨TL, eTL⟩ : ∃ z, z = (91, tabObj ps') :: (tl ++ news) := ⟨_, rfl⟩
    have N3 : News _ _ h2 ((Da, LCg.lst ys) :: (l2, W.listOf #[] 0) :: (l1, W.listOf #[] 0) :: (x, instObj 52 d) :: (d, _) :: TL) := fun q hq => N2 q (by
      rw [erest]
      rw [eTL] at hq
      simp only [List.mem_cons, List.mem_append, List.not_mem_nil, or_false] at hq ⊢
      rcases hq with h | h | h | h | h | h | h | h
      · exact .inl h
      · exact .inr (.inr (.inr (.inl (.inl h))))
      · exact .inr (.inr (.inr (.inl (.inr (.inl h)))))
      · exact .inr (.inr (.inr (.inl (.inr (.inr (.inl h))))))
      · exact .inr (.inr (.inr (.inl (.inr (.inr (.inr h))))))
      · exact .inr (.inl h)
      · exact .inr (.inr (.inl h))
      · exact .inr (.inr (.inr (.inr h))))
    have mrest : ∀ {q : Addr × Obj}, q ∈ rest → q ∈ (91, tabObj ps') :: (tl ++ rest) := fun hq => List.mem_cons_of_mem _ (List.mem_append_right _ hq)
    have off1 : ∀ q ∈ (91, tabObj ps') :: (tl ++ rest), @Ne Nat q.1 Da := fun q hq => off1_mem o1 q hq
    have hl2r : (l2, W.listOf #[] 0) ∈ rest := by rw [erest]; exact List.Mem.head _
    have hDl : @Ne Nat l2 Da := off1 _ (mrest hl2r)
    have hoffT : OwnOff TL [l2] := fun q hq b hb e => by
      rw [List.mem_singleton.mp hb] at e
      rw [eTL] at hq
      rcases List.mem_cons.mp hq with rfl | hq
      · exact absurd e (by refine neN ?_; dsimp only; omega)
      · rcases List.mem_append.mp hq with hq | hq
        · exact Nat.ne_of_lt (ho1 _ hl2r q hq) e.symm
        · have hA2 : AllLt l2 news := by
            rename_i hx
            first | exact hx.2.2.2.2 | simp_all
          exact Nat.ne_of_lt (ktn_ltOf hA2 q hq) e
    clear N2 Nr
    with_reducible show wpAny _ _ _ _ _ _
    k_sweep
    (repeat' (first | (k_unfold; first | walk_at "Seq" | (try dsimp only)) | ((fail_if_success ((first | with_reducible show wpAny _ _ (call (Value.ref 96) _) _ _ _ | with_reducible show wpAny _ _ (exec (PySem.Stmt.While _ _ _ _) _) _ _ _ | with_reducible show wpAny _ _ (exec (PySem.Stmt.For _ _ _ _ _) _) _ _ _ | with_reducible show wpAny _ _ (pyIter _) _ _ _ | with_reducible show wpAny _ _ (call (Value.type "list") _) _ _ _ | with_reducible show wpAny _ _ (call (Value.builtin "str.join") _) _ _ _ | with_reducible show wpAny _ _ (eval (PySem.Expr.ListComp _ [PySem.Comprehension.mk (PySem.Expr.Tuple _ _ _) _ _ _] _ _) _) _ _ _ | with_reducible show LCg.CompSrc _ _ _ _ _ _ _ _ _ _ _ _ _ _ | with_reducible show wpAny _ _ (execs (PySem.Stmt.If (PySem.Expr.Compare _ [CmpOp.Lt] _ _) [PySem.Stmt.Assign [PySem.Expr.Tuple _ _ _] _ _] _ _ :: _) _) _ _ _))); first | (k_end; wrow_close) | walk1 | (dsimp only; walk1) | (leave1; walk_say "STEP leave1"; try dsimp only) | fail "no step")))
    refine extend_nil F2 N3 (List.Mem.head _) (fun k => Upd.tail (fun e => hDl e.symm) (Upd.head (by k_all))) (by rw [sizeLine_eq, hyl, hr.length]; omega) ?_
    intro k2 h4 F4 N4
    k_sweep
    (repeat' (first | (k_unfold; first | walk_at "Seq" | (try dsimp only)) | ((fail_if_success ((first | with_reducible show wpAny _ _ (call (Value.ref 96) _) _ _ _ | with_reducible show wpAny _ _ (exec (PySem.Stmt.While _ _ _ _) _) _ _ _ | with_reducible show wpAny _ _ (exec (PySem.Stmt.For _ _ _ _ _) _) _ _ _ | with_reducible show wpAny _ _ (pyIter _) _ _ _ | with_reducible show wpAny _ _ (call (Value.type "list") _) _ _ _ | with_reducible show wpAny _ _ (call (Value.builtin "str.join") _) _ _ _ | with_reducible show wpAny _ _ (eval (PySem.Expr.ListComp _ [PySem.Comprehension.mk (PySem.Expr.Tuple _ _ _) _ _ _] _ _) _) _ _ _ | with_reducible show LCg.CompSrc _ _ _ _ _ _ _ _ _ _ _ _ _ _ | with_reducible show wpAny _ _ (execs (PySem.Stmt.If (PySem.Expr.Compare _ [CmpOp.Lt] _ _) [PySem.Stmt.Assign [PySem.Expr.Tuple _ _ _] _ _] _ _ :: _) _) _ _ _))); first | (k_end; wrow_close) | walk1 | (dsimp only; walk1) | (leave1; walk_say "STEP leave1"; try dsimp only) | fail "no step")))
    have hAd : AllLt d news := by
      rename_i hx
      first | exact hx.2.2.2.2 | simp_all
    exact book_end hret (by k_asm) (show News _ _ _ (_ :: _ :: _ :: _ :: _ :: TL) by k_asm) eTL hTb (by rw [hr.length, List.take_length] at hA; exact hA) (fun q hq q' hq' => ho1 q (hsubn q hq) q' hq') ho2 hAd (by omega) (by omega) (by omega) (by omega)
end
end

section
open PySem PySem.Spec PySem.Calls PySem.W PyProof.Rows
section
section
variable {prog : Program} {w : World} {A : Around} {E : Value → Shared → Prop} {s : Shared} {K : Frag} {C L x : Addr} {h₀ : Heap} {m : Str → Option Value} {ox : Obj} {od : Option Obj} {name : Str} {pl : Sem Bool} {Q : Value × List Value → Shared → Prop}
/-- a method's name that the instance's own dict bears: the attribute is read as any other -/
theorem method_shadow {f : Addr} {o : Obj} (X : K.In s.heap) (I : InstAt s.heap x ox C (some o)) (hga : findIn K (.ref C) "__getattribute__" = some (some (.builtin "object.__getattribute__"))) (hk : findIn K (.ref C) "__getattr__" = some none)
    (hf : findIn K (.ref C) name = some (some (.ref f))) (ht : typeIn K (.ref f) = some (.type "function")) (hs : shadowIn (some o) name = some true) (hdict : ∃ dx, ox.dict = some dx)
    (h : wpAny (model prog w) A (getAttr (.ref x) name) (fun v s' => Q (v, []) s') E s) :
    wpAny (model prog w) A (getMethod (.ref x) name pl) Q E s := by
  have hcan := PySem.F.canon_object_ga
  unfold getMethod specialOf
  refine wpAny_bind (wpAny_bind (I.type.here ((looks_findIn X hga).here ?_)))
  dsimp only
  rw [hcan, if_neg (by decide)]
  refine wpAny_bind (wpAny_bind (I.type.here ((looks_findIn X hk).here ?_)))
  refine wpAny_bind (wpAny_bind (I.type.here ((looks_findIn X hf).here (wpAny_bind ((looks_typeIn X ht).here ?_)))))
  rw [if_neg (by decide +kernel)]
  refine wpAny_bind (wpAny_loadPart I.at_ ?_)
  have hd := I.dict
  obtain ⟨dx, e⟩ := hdict
  rw [e] at hd ⊢
  obtain ⟨r, a, b⟩ := Option.map_eq_some_iff.mp hs
  refine wpAny_bind (wpAny_bind (wpAny_loadPart hd ?_))
  rw [nsLook_of a]
  refine wpAny_pure ?_
  rw [b]
  exact wpAny_bind (wpAny_mono h (fun v s' q => wpAny_pure q) fun _ _ e => e)
theorem method_own {f : Addr} {es : List DictEntry} {n : Nat} {v : Value} {dx : Addr} (F : Fr h₀ L s.heap m) (X₀ : K.In h₀) (I : InstAt s.heap x (instObj C dx) C (some (dictOf es n))) (hg : plainGet K C name = true)
    (hf : findIn K (.ref C) name = some (some (.ref f))) (ht : isFn K (.ref f) = true) (hl : getL name es = some (some v))
    (h : wpAny (model prog w) A (getAttr (.ref x) name) (fun v s' => Q (v, []) s') E s) : wpAny (model prog w) A (getMethod (.ref x) name pl) Q E s :=
  method_shadow (X₀.keeps F.keep) I (plainGet_of hg).1 (plainGet_of hg).2 hf (beq_iff_eq.mp ht) (by show (lookIn name (dictOf es n)).map _ = _; rw [lookIn_dict, hl]; rfl) ⟨dx, rfl⟩ h
theorem findObj_shadow {a g v : Value} {o : Obj} (hh : hasDictIn K C = true) (ha : findIn K (.ref C) name = some (some a)) (hg : specialIn K a "__get__" = some (some g)) (ht : takesIn K a = some false) (hl : lookIn name o = some (some v)) :
    findObj K C (some o) name = some (.value v) := by
  obtain ⟨cd, hc, hd⟩ := any_some hh
  unfold findObj
  have ho : W.ownOf cd (some o) name = some (some v) := by unfold W.ownOf; rw [if_pos hd]; exact hl
  rw [hc, Option.bind_some, ha, Option.bind_some]
  simp [hg, ht, ho]
theorem get_shadow {expr : Bool} {Q : Value → Shared → Prop} {a g v : Value} {es : List DictEntry} {n : Nat} (F : Fr h₀ L s.heap m) (X₀ : K.In h₀) (I : InstAt s.heap x ox C (some (dictOf es n))) (hg : plainGet K C name = true) (hh : hasDictIn K C = true)
    (ha : findIn K (.ref C) name = some (some a)) (hn : specialIn K a "__get__" = some (some g)) (ht : takesIn K a = some false) (hl : getL name es = some (some v)) (hv : handedIn v = true) (h : Q v { s with toks := s.toks + 1 }) :
    wpAny (model prog w) A (getAttr (.ref x) name expr) Q E s :=
  get_value (X₀.keeps F.keep) I (plainGet_of hg).1 (findObj_shadow hh ha hn ht (by rw [lookIn_dict]; exact hl)) hv h
end
end
end

section
open PySem PySem.W PyProof.Rows
section
local macro_rules | `(tactic| k_mem) => `(tactic| assumption)
local macro_rules | `(tactic| walk_at "getMethod ref") => `(tactic| (k_here; (with_reducible show wpAny _ _ (getMethod (Value.ref _) (Str.ofString "applies_to") _) _ _ _); k_dflt (refine' method_own ?k1 ?k2 ?k3 ?k4 ?k5 ?k6 ?k7 ?_; (case k1 => k_asm); (case k2 => k_asm); (case k3 => k_inst); (case k4 => k_is); (case k5 => k_is); (case k6 => k_is); (case k7 => k_get); k_whole)))
local macro_rules | `(tactic| walk_at "getAttr ref") => `(tactic| (k_here; (first | with_reducible show wpAny _ _ (getAttr (Value.ref _) (Str.ofString "applies_to") _) _ _ _ | with_reducible show wpAny _ _ (getAttr (Value.ref _) (Str.ofString "allowance") _) _ _ _); k_dflt (refine' get_shadow ?k1 ?k2 ?k3 ?k4 ?k5 ?k6 ?k7 ?k8 ?k9 ?k10 ?_; (case k1 => k_asm); (case k2 => k_asm); (case k3 => k_inst); (case k4 => k_is); (case k5 => k_is); (case k6 => k_is); (case k7 => k_is); (case k8 => k_is); (case k9 => k_get); (case k10 => k_handed); k_whole)))
local macro_rules | `(tactic| walk_at "callWith ref") => `(tactic| (k_here; k_dflt (refine' callWith_F ?k1 ?_; (case k1 => exact FnAt.of (by k_asm) (by assumption)); k_whole)))
noncomputable def allowStep (nm : List Nat) (st : Int × Bool) (r : Row) : Int × Bool :=
  if reachN r nm = 0 then st else if reachN r nm > st.1 then (reachN r nm, r.al) else if reachN r nm = st.1 ∧ st.2 = false then (st.1, r.al) else st
noncomputable def allowF (nm : List Nat) (rs : List Row) : Bool := (rs.foldl (allowStep nm) (-1, true)).2
theorem allow_next {nm : List Nat} {rs : List Row} {i : Nat} {r : Row} {bm rn : Int} {al : Bool} (hr : rs[i]? = some r) (hrn : reachN r nm = rn) (h : (bm, al) = (rs.take i).foldl (allowStep nm) (-1, true)) :
    (rs.take (i + 1)).foldl (allowStep nm) (-1, true) = if rn = 0 then (bm, al) else if rn > bm then (rn, r.al) else if rn = bm ∧ al = false then (bm, r.al) else (bm, al) := by
  rw [List.take_add_one, hr, List.foldl_append, ← h, ← hrn]; rfl
theorem allow_c {w : World} {p : Program} {loose : List Str} {mean : ExcName → Option Value} {mg mb : Str → Option Value} {news : List (Addr × Obj)} {rs : List Row} {v : Value} {nm : List Nat} {t : Tok} (hb : BookIn w p loose mean mg mb news v rs) (hn : nm.length ≤ 64) :
   Claim Challenge.rw_nb0157_01.row.prog w (Mine.hd.heap_39 w.params) p loose mean mg mb 49 8 64 news [v, .str ⟨nm.toArray⟩ t] (fun _ => .bool (allowF nm rs)) := by
  obtain ⟨x, d, l1, l2, t1, t2, t3, t4, vs, k1, k2, rfl, m1, m2, m3, m4, hA⟩ := hb
  intro dp un gd cn cs ad ccd cl outer A₀ base h₀ L m s Q E hB hF hX hN hT hcs hdp hun hret
  refine wpAny_call ?_
  k_dflt cell_enter
  (repeat' (first | (k_unfold; first | walk_at "Seq" | (try dsimp only)) | ((fail_if_success ((first | with_reducible show wpAny _ _ (call (Value.ref _) [Value.str _ _]) _ _ _ | with_reducible show wpAny _ _ (exec (PySem.Stmt.While _ _ _ _) _) _ _ _ | with_reducible show wpAny _ _ (exec (PySem.Stmt.For _ _ _ _ _) _) _ _ _ | with_reducible show wpAny _ _ (pyIter _) _ _ _ | with_reducible show wpAny _ _ (call (Value.type "list") _) _ _ _ | with_reducible show wpAny _ _ (call (Value.builtin "str.join") _) _ _ _ | with_reducible show wpAny _ _ (eval (PySem.Expr.ListComp _ [PySem.Comprehension.mk (PySem.Expr.Tuple _ _ _) _ _ _] _ _) _) _ _ _ | with_reducible show LCg.CompSrc _ _ _ _ _ _ _ _ _ _ _ _ _ _ | with_reducible show wpAny _ _ (execs (PySem.Stmt.If (PySem.Expr.Compare _ [CmpOp.Lt] _ _) [PySem.Stmt.Assign [PySem.Expr.Tuple _ _ _] _ _] _ _ :: _) _) _ _ _))); first | (k_end; wrow_close) | walk1 | (dsimp only; walk1) | (leave1; walk_say "STEP leave1"; try dsimp only) | fail "no step")))
  refine for_at (by k_asm) (by rfl) (by rfl) ?_
  (repeat' (first | (k_unfold; first | walk_at "Seq" | (try dsimp only)) | ((fail_if_success ((first | with_reducible show wpAny _ _ (call (Value.ref _) [Value.str _ _]) _ _ _ | with_reducible show wpAny _ _ (exec (PySem.Stmt.While _ _ _ _) _) _ _ _ | with_reducible show wpAny _ _ (exec (PySem.Stmt.For _ _ _ _ _) _) _ _ _ | with_reducible show wpAny _ _ (pyIter _) _ _ _ | with_reducible show wpAny _ _ (call (Value.type "list") _) _ _ _ | with_reducible show wpAny _ _ (call (Value.builtin "str.join") _) _ _ _ | with_reducible show wpAny _ _ (eval (PySem.Expr.ListComp _ [PySem.Comprehension.mk (PySem.Expr.Tuple _ _ _) _ _ _] _ _) _) _ _ _ | with_reducible show LCg.CompSrc _ _ _ _ _ _ _ _ _ _ _ _ _ _ | with_reducible show wpAny _ _ (execs (PySem.Stmt.If (PySem.Expr.Compare _ [CmpOp.Lt] _ _) [PySem.Stmt.Assign [PySem.Expr.Tuple _ _ _] _ _] _ _ :: _) _) _ _ _))); first | (k_end; wrow_close) | walk1 | (dsimp only; walk1) | (leave1; walk_say "STEP leave1"; try dsimp only) | fail "no step")))
  refine iter_list_ps (vs := vs) rfl ⟨_, ((by k_asm : News _ _ _ news) _ m4).1, rfl, _, rfl⟩ ((by k_asm : News _ _ _ news) _ m4).2.1
    (fun c : Int × Bool × Tok => [("self", .ref x), ("filename", .str ⟨nm.toArray⟩ t), ("best_match", .int c.1 c.2.2), ("allowance", .bool c.2.1)]) (fun _ => [])
    (fun i c => (c.1, c.2.1) = (rs.take i).foldl (allowStep nm) (-1, true)) (-1, true, _) (fun _ => rfl) (by simp) (by k_asm) (show News _ _ _ news by k_asm) (fun _ _ h => nomatch h) (by (((repeat (first | refine ps_cons rfl ?_ | refine ps_str (by assumption) rfl ?_ | refine ps_int (by omega) rfl ?_)); exact ps_nil))) rfl ?turn ?fin
  case fin =>
    rintro ⟨bm, al, t9⟩ u2 h2 tk2 hJ F2 N2
    dsimp only [kstB] at F2 hJ ⊢
    have N3 : News _ _ h2 news := N2
    clear N2
    k_sweep
    (repeat' (first | (k_unfold; first | walk_at "Seq" | (try dsimp only)) | ((fail_if_success ((first | with_reducible show wpAny _ _ (call (Value.ref _) [Value.str _ _]) _ _ _ | with_reducible show wpAny _ _ (exec (PySem.Stmt.While _ _ _ _) _) _ _ _ | with_reducible show wpAny _ _ (exec (PySem.Stmt.For _ _ _ _ _) _) _ _ _ | with_reducible show wpAny _ _ (pyIter _) _ _ _ | with_reducible show wpAny _ _ (call (Value.type "list") _) _ _ _ | with_reducible show wpAny _ _ (call (Value.builtin "str.join") _) _ _ _ | with_reducible show wpAny _ _ (eval (PySem.Expr.ListComp _ [PySem.Comprehension.mk (PySem.Expr.Tuple _ _ _) _ _ _] _ _) _) _ _ _ | with_reducible show LCg.CompSrc _ _ _ _ _ _ _ _ _ _ _ _ _ _ | with_reducible show wpAny _ _ (execs (PySem.Stmt.If (PySem.Expr.Compare _ [CmpOp.Lt] _ _) [PySem.Stmt.Assign [PySem.Expr.Tuple _ _ _] _ _] _ _ :: _) _) _ _ _))); first | (k_end; wrow_close) | walk1 | (dsimp only; walk1) | (leave1; walk_say "STEP leave1"; try dsimp only) | fail "no step")))
    have e : al = allowF nm rs := by
      rw [hA.length, List.take_length] at hJ
      exact congrArg Prod.snd hJ
    rw [e]
    exact hret 0 _ _ (by assumption) (by assumption)
  case turn =>
    rintro i v ⟨bm, al, t9⟩ u2 h2 tk2 tl hi hv hJ hsub hap F2 N2
    dsimp only [kstB] at F2 hJ ⊢
    have N3 : News _ _ h2 tl := N2
    clear N2 hap
    obtain ⟨r, hri, xr, dr, lr1, lr2, fr, tr, tr1, tr2, tr3, tr4, tr5, tr6, rfl, mr1, mr2, mr3, ⟨oc, od, fd, sl, mr4⟩, hlam⟩ := hA.get hv
    have mr1 := hsub _ mr1
    have mr2 := hsub _ mr2
    have mr4 := hsub _ mr4
    have hcl := fun t => hlam tl nm t hsub hn
    k_sweep
    (repeat' (first | (k_unfold; first | walk_at "Seq" | (try dsimp only)) | ((fail_if_success ((first | with_reducible show wpAny _ _ (call (Value.ref _) [Value.str _ _]) _ _ _ | with_reducible show wpAny _ _ (exec (PySem.Stmt.While _ _ _ _) _) _ _ _ | with_reducible show wpAny _ _ (exec (PySem.Stmt.For _ _ _ _ _) _) _ _ _ | with_reducible show wpAny _ _ (pyIter _) _ _ _ | with_reducible show wpAny _ _ (call (Value.type "list") _) _ _ _ | with_reducible show wpAny _ _ (call (Value.builtin "str.join") _) _ _ _ | with_reducible show wpAny _ _ (eval (PySem.Expr.ListComp _ [PySem.Comprehension.mk (PySem.Expr.Tuple _ _ _) _ _ _] _ _) _) _ _ _ | with_reducible show LCg.CompSrc _ _ _ _ _ _ _ _ _ _ _ _ _ _ | with_reducible show wpAny _ _ (execs (PySem.Stmt.If (PySem.Expr.Compare _ [CmpOp.Lt] _ _) [PySem.Stmt.Assign [PySem.Expr.Tuple _ _ _] _ _] _ _ :: _) _) _ _ _))); first | (k_end; wrow_close) | walk1 | (dsimp only; walk1) | (leave1; walk_say "STEP leave1"; try dsimp only) | fail "no step")))
    k_dflt (refine' Claim.use ?k1 ?k2 ?k3 ?k4 ?k5 ?kK (hcl t) ?kd ?ku ?_; (case k1 => k_asm); (case k2 => k_asm); (case k3 => k_asm); (case k4 => k_asm); (case k5 => k_asm); (case kK => first | exact rfl | assumption); (case kd => ktr_room); (case ku => ktr_units); k_whole)
    intro t9' h9 tk9 F9 N9
    (try dsimp only)
    (try k_sweep)
    generalize hrn : reachN r nm = rn at *
    (repeat' (first | (k_unfold; first | walk_at "Seq" | (try dsimp only)) | ((fail_if_success ((first | with_reducible show wpAny _ _ (call (Value.ref _) [Value.str _ _]) _ _ _ | with_reducible show wpAny _ _ (exec (PySem.Stmt.While _ _ _ _) _) _ _ _ | with_reducible show wpAny _ _ (exec (PySem.Stmt.For _ _ _ _ _) _) _ _ _ | with_reducible show wpAny _ _ (pyIter _) _ _ _ | with_reducible show wpAny _ _ (call (Value.type "list") _) _ _ _ | with_reducible show wpAny _ _ (call (Value.builtin "str.join") _) _ _ _ | with_reducible show wpAny _ _ (eval (PySem.Expr.ListComp _ [PySem.Comprehension.mk (PySem.Expr.Tuple _ _ _) _ _ _] _ _) _) _ _ _ | with_reducible show LCg.CompSrc _ _ _ _ _ _ _ _ _ _ _ _ _ _ | with_reducible show wpAny _ _ (execs (PySem.Stmt.If (PySem.Expr.Compare _ [CmpOp.Lt] _ _) [PySem.Stmt.Assign [PySem.Expr.Tuple _ _ _] _ _] _ _ :: _) _) _ _ _))); first | (k_end; wrow_close) | walk1 | (dsimp only; walk1) | (leave1; walk_say "STEP leave1"; try dsimp only) | fail "no step")))
    all_goals have hstep := allow_next hri hrn hJ
    all_goals clear hJ hA hlam hcl
    all_goals first
      | exact WEnd.intro (rn, r.al, t9') (by k_asm) (by k_asm) (fun p hp => hp) (by (((repeat (first | refine ps_cons rfl ?_ | refine ps_str (by assumption) rfl ?_ | refine ps_int (by omega) rfl ?_)); exact ps_nil))) (by rw [hstep]; dsimp only; (repeat' split) <;> simp_all <;> omega) (by decide)
      | exact WEnd.intro (bm, r.al, t9) (by k_asm) (by k_asm) (fun p hp => hp) (by (((repeat (first | refine ps_cons rfl ?_ | refine ps_str (by assumption) rfl ?_ | refine ps_int (by omega) rfl ?_)); exact ps_nil))) (by rw [hstep]; dsimp only; (repeat' split) <;> simp_all <;> omega) (by decide)
      | exact WEnd.intro (bm, al, t9) (by k_asm) (by k_asm) (fun p hp => hp) (by (((repeat (first | refine ps_cons rfl ?_ | refine ps_str (by assumption) rfl ?_ | refine ps_int (by omega) rfl ?_)); exact ps_nil))) (by rw [hstep]; dsimp only; (repeat' split) <;> simp_all <;> omega) (by decide)
end
end

section
open PySem PySem.Spec PySem.Calls PySem.W PyProof.Rows
section
theorem fl_entry_set_ga : entryFor table "set.__getattribute__" = some Builtin.«object.__getattribute__» :=
  entryFor_alias (id' := "object.__getattribute__") (by kernel_rfl) (by decide +kernel) (by decide +kernel) (by kernel_rfl)
theorem fl_slot_ga : Slot "set" "__getattribute__" "set.__getattribute__" :=
  .of (owner := "set") (n := "__getattribute__") (by rw [typeLookup_type, builtinLookup_eq_fast]; kernel_rfl) (by decide +kernel) (by decide +kernel) (by decide +kernel)
    (by first | exact .inl (by decide +kernel) | exact .inr (by decide +kernel)) (by rw [isSubtype_type]; kernel_rfl)
theorem fl_args_ga (a b : Value) : argsOk "set.__getattribute__" ⟨[a, b], []⟩ := by unfold argsOk; kernel_rfl
theorem fl_slot_get : Slot "method_descriptor" "__get__" "method_descriptor.__get__" :=
  .of (owner := "method_descriptor") (n := "__get__") (by rw [typeLookup_type, builtinLookup_eq_fast]; kernel_rfl) (by decide +kernel) (by decide +kernel) (by decide +kernel)
    (by first | exact .inl (by decide +kernel) | exact .inr (by decide +kernel)) (by rw [isSubtype_type]; kernel_rfl)
theorem fl_entry_get : entryFor table "method_descriptor.__get__" = some Builtin.«method_descriptor.__get__» := entryFor_of_tree (by kernel_rfl)
theorem fl_args_get (a b c : Value) : argsOk "method_descriptor.__get__" ⟨[a, b, c], []⟩ := by unfold argsOk; kernel_rfl
theorem fl_no_set : typeLookup (.type "method_descriptor") "__set__" = pure none := by rw [typeLookup_type, builtinLookup_eq_fast]; kernel_rfl
theorem fl_no_del : typeLookup (.type "method_descriptor") "__delete__" = pure none := by rw [typeLookup_type, builtinLookup_eq_fast]; kernel_rfl
theorem fl_told : Manifest.toldItsClass.contains "set.__contains__" = false := by decide +kernel
theorem fl_type : isType (.type "set") = pure true := by first | rfl | kernel_rfl | (unfold isType; rw [isSubtype_type]; kernel_rfl)
noncomputable def boundC (S : Addr) : Obj := { cls := .type "builtin_function_or_method", data := .fields #[.builtin "set.__contains__", .ref S] }
theorem fl_owner : (kfb_private% "ownerAndName") "set.__contains__" = ("set", "__contains__") := by first | decide +kernel | kernel_rfl
section
variable {prog : Program} {w : World} {A : Around} {E : Value → Shared → Prop} {s : Shared}
theorem fl_run_get {M : Model} {P : Fin → Shared → Prop} {S : Addr} (hT : s.TypeIs (.ref S) "set") (h : P (.done (.ret (.ref s.heap.objs.size))) { s with heap := s.heap.push (boundC S) }) :
    wpAny M A (Builtin.«method_descriptor.__get__» ⟨[.builtin "set.__contains__", .ref S, .type "set"], []⟩) P E s := by
  unfold Builtin.«method_descriptor.__get__»
  refine wpAny_bind (wpAny_of_eq (a := (.builtin "set.__contains__", some (.ref S), some (.type "set"))) (by first | rfl | kernel_rfl) ?_)
  dsimp only
  rw [fl_told]
  simp only [Bool.false_eq_true, if_false]
  show wpAny _ _ ((kfb_private% "checkInstance") (.builtin "set.__contains__") (.ref S) >>= fun _ => (newFields "builtin_function_or_method" [.builtin "set.__contains__", .ref S] >>= ret)) _ _ _
  refine wpAny_bind ?_
  refine wpAny_bind (wpAny_of_eq (a := (Str.ofString "__contains__", .type "set")) (by show (let (owner, name) := (kfb_private% "ownerAndName") "set.__contains__"; pure (Str.ofString name, Value.type owner) : Sem _) = _; rw [fl_owner]) ?_)
  refine wpAny_bind (wpAny_isInstance hT sub_set_self ?_)
  refine wpAny_pure ?_
  exact wpAny_bind (wpAny_newObj_type (wpAny_pure h))
theorem fl_lk : typeLookup (.type "set") "__contains__" = pure (some (.builtin "set.__contains__")) := by rw [typeLookup_type, builtinLookup_eq_fast]; kernel_rfl
theorem fl_ga {tk : Tok} {Q : Fin → Shared → Prop} {S : Addr} {es : Array (Int × Value)} {ep : Nat} {tb : SetTable} {sl : Array (Option Value)} (hx : s.heap.get? S = some { cls := .type "set", dict := none, data := .set es ep tb, slots := sl })
    (hq : Q (.done (.ret (.ref s.heap.objs.size))) { s with heap := s.heap.push (boundC S) }) :
    wpAny (model prog w) A (Builtin.«object.__getattribute__» ⟨[.ref S, .str "__contains__" tk], []⟩) Q E s := by
  obtain ⟨h, g, d, t, os⟩ := s
  have hT : (⟨h, g, d, t, os⟩ : Shared).TypeIs (.ref S) "set" := ⟨_, hx, rfl⟩
  have hT5 : (⟨h, g, d, t, os⟩ : Shared).TypeIs (.builtin "set.__contains__") "method_descriptor" := F.type_set_contains
  have f4 := fl_lk
  have f5 := F.type_set_contains
  have f6 := fl_slot_get.lookup
  have f7 := fl_no_set
  have f8 := fl_no_del
  unfold Builtin.«object.__getattribute__»
  repeat (any_goals (first | assumption | wp_step))
  refine codeAny_call_builtin fl_slot_get.plain fl_entry_get (fl_slot_get.check _ _ _ _ _ _ _ _ hT5 (fl_args_get _ _ _) (fl_run_get hT ?_))
  exact wpAny_pure hq
theorem fl_getattr {expr : Bool} {Q : Value → Shared → Prop} {S : Addr} {es : Array (Int × Value)} {ep : Nat} {tb : SetTable} {sl : Array (Option Value)} (hx : s.heap.get? S = some { cls := .type "set", dict := none, data := .set es ep tb, slots := sl })
    (hq : Q (.ref s.heap.objs.size) { s with heap := s.heap.push (boundC S), toks := s.toks + 1 }) :
    wpAny (model prog w) A (getAttr (.ref S) (Str.ofString "__contains__") expr) Q E s := by
  obtain ⟨h, g, d, t, os⟩ := s
  have hT : ∀ t', (⟨h, g, d, t', os⟩ : Shared).TypeIs (.ref S) "set" := fun _ => ⟨_, hx, rfl⟩
  have f2 := F.slot_set_getattribute.lookup
  have f3 := F.slot_set_getattribute.bind (.ref S)
  unfold getAttr getAttrBy
  repeat (any_goals (first | assumption | exact hT _ | wp_step))
  rw [if_neg (by cases expr <;> decide)]
  unfold boundAndCalled
  repeat (any_goals (first | assumption | exact hT _ | wp_step))
  refine codeAny_call_builtin F.slot_set_getattribute.plain F.entry_set_ga (F.slot_set_getattribute.check _ _ _ _ _ _ _ _ (hT _) (F.args_set_getattribute_2 _ _) (fl_ga hx ?_))
  repeat (any_goals (first | assumption | exact hT _ | wp_step))
  all_goals trace_state
end
end
end

section
open PySem PySem.Spec PySem.Calls PySem.W PyProof.Rows
section
theorem fl_full : (Manifest.signature? "set.__contains__").map (·.full) = some "set.__contains__" := by kernel_rfl
theorem fl_sig : ∃ sig, Manifest.signature? "set.__contains__" = some sig ∧ sig.full = "set.__contains__" := Option.map_eq_some_iff.mp fl_full
theorem fl_last : toString (Bind.lastOf "set") ++ toString "." ++ toString (Bind.lastOf "set.__contains__") = "set.__contains__" := by kernel_rfl
theorem fl_kind : builtinKind "set.__contains__" = some .method := by decide +kernel
theorem fl_nomod : isSubtype (.type "set") (.type "module") = pure false := by rw [isSubtype_type]; kernel_rfl
theorem fl_notype : isSubtype (.type "set") (.type "type") = pure false := by rw [isSubtype_type]; kernel_rfl
theorem fl_novar : Manifest.varargsMethods.contains "set.__contains__" = false := by decide +kernel
theorem fl_quiet {as : Args} : (Code.builtin "set.__contains__" as).quiet = true := Code.quiet_builtin _ (by decide +kernel)
theorem sig_self {sig : Manifest.Signature} {x : String} (h : sig.full = x) : ({ sig with full := x } : Manifest.Signature) = sig := by subst h; rfl
section
variable {prog : Program} {w : World} {K : Type} [DecidableEq K] {knd : KeyKind prog w K} {A : Around} {E : Value → Shared → Prop} {s : Shared} {a b : Addr} {k : K} {key : Value}
theorem fl_check {M : Model} {Q : Unit → Shared → Prop} {o : Obj} {es : Array (Int × Value)} {ep : Nat} {tb : SetTable} (ho : s.heap.get? a = some o) (hc : o.cls = .type "set") (hd : o.data = .set es ep tb) (h : Q () s) : wpAny M A (checkBoundCall "set.__contains__" ⟨[.ref a, key], []⟩) Q E s := by
  obtain ⟨sig, e1, e2⟩ := fl_sig
  have hT : s.TypeIs (.ref a) "set" := ⟨o, ho, hc⟩
  have hargs := F.args_set_contains_2 (.ref a) key
  unfold argsOk at hargs
  unfold checkBoundCall
  rw [e1] at hargs ⊢
  dsimp only at hargs
  simp only [fl_kind]
  rw [show ((Manifest.AttrKind.method != Manifest.AttrKind.method) && (Manifest.AttrKind.method != Manifest.AttrKind.classMethod)) = false by decide]
  simp only [Bool.false_eq_true, if_false]
  refine wpAny_bind (wpAny_isInstance hT fl_nomod ?_)
  rw [fl_novar]
  simp only [Bool.or_self, Bool.false_eq_true, if_false]
  refine wpAny_bind (m := isType (.ref a)) ?_
  refine wpAny_bind (wpAny_loadPart ho ?_)
  rw [show (Obj.data (o)) = .set es ep tb from hd]
  refine wpAny_pure ?_
  simp only [Bool.false_eq_true, if_false]
  refine wpAny_bind (wpAny_typeOf hT ?_)
  show wpAny _ _ (Bind.checkArgs "set.__contains__" { sig with full := toString (Bind.lastOf "set") ++ toString "." ++ toString (Bind.lastOf "set.__contains__") } ⟨[.ref a, key], []⟩) _ _ _
  rw [fl_last, sig_self e2, hargs]
  exact wpAny_pure h
theorem fl_call {S : K → Bool} {n : Nat} {Q : Value → Shared → Prop} (hb : s.heap.get? b = some (boundC a)) (hkey : knd.is k key = true) (hsc : key.scannable = true) (hS : s.heap.SetOf knd a S n)
    (h : Q (.bool (S k)) { s with toks := s.toks + 1 }) : wpAny (model prog w) A (call (.ref b) [key]) Q E s := by
  obtain ⟨o, es, ep, tb, ho, hc, hd, hrest⟩ := id hS
  refine wpAny_call (codeAny_of_tree ?_)
  show wpAny _ A.in1 (callAny (.ref b) ⟨[key], []⟩) _ _ s
  simp only [callAny]
  refine wpAny_bind (wpAny_load hb ?_)
  simp only [boundC, show (Value.type "builtin_function_or_method" == Value.type "method" || Value.type "builtin_function_or_method" == Value.type "builtin_function_or_method" || Value.type "builtin_function_or_method" == Value.type "method-wrapper") = true by decide, if_true]
  refine KFB.if_so (by decide) ?_
  refine wpAny_bind (fl_check ho hc.1 hd ?_)
  refine wpAny_bind (wpAny_pure (wpAny_pure ?_))
  refine ⟨fl_quiet, codeAny_builtin entry_set_contains ?_⟩
  unfold Builtin.«frozenset.__contains__» Builtin.Frozenset.oneOther
  simp only [List.isEmpty_nil, bind_assoc]
  unfold Builtin.Frozenset.addrOf Builtin.Frozenset.withSetAsKey setContains
  refine wpAny_bind (wpAny_pure ?_)
  try dsimp only
  refine wpAny_bind (wpAny_pure ?_)
  try dsimp only
  refine wpAny_bind (wpAny_tryCatch ?_)
  refine wpAny_holding ?_
  refine wpAny_bind (knd.pyHash hkey ?_)
  refine wpAny_bind (wpAny_setFind_of (s := { s with toks := s.toks + 1 }) hkey hsc hS fun r hr => ?_)
  refine wpAny_pure ?_
  show wpAny _ _ (ret (Value.bool r.isSome)) _ _ _
  rw [hr]
  exact wpAny_pure h
end
end
end

section
open PySem PySem.Spec PySem.Calls PySem.W PyProof.Rows
section
theorem fl_mro : mroOf (.type "filter") = pure [.type "filter", .type "object"] := by rw [mroOf_type]; kernel_rfl
theorem fl_lnew : typeLookup (.type "filter") "__new__" = pure (some (.builtin "filter.__new__")) := by rw [typeLookup_type, builtinLookup_eq_fast]; kernel_rfl
theorem fl_slot_init : Slot "filter" "__init__" "object.__init__" :=
  .of (owner := "object") (n := "__init__") (by rw [typeLookup_type, builtinLookup_eq_fast]; kernel_rfl) (by decide +kernel) (by decide +kernel) (by decide +kernel)
    (by first | exact .inl (by decide +kernel) | exact .inr (by decide +kernel)) (by rw [isSubtype_type]; kernel_rfl)
theorem fl_called : TypeCalled "filter" "filter.__new__" "object.__init__" :=
  ⟨by decide +kernel, by decide +kernel, ⟨_, _, fl_mro⟩, madeBy_type fl_mro fl_lnew (by decide +kernel), by decide +kernel, by rw [isSubtype_type]; kernel_rfl, fl_slot_init⟩
theorem fl_tcall (a b : Value) : checkTypeCall "filter" ⟨[a, b], []⟩ = pure () := by kernel_rfl
theorem fl_ncall (a b : Value) : checkBuiltinCall "filter.__new__" ⟨[.type "filter", a, b], []⟩ = pure () := by kernel_rfl
theorem fl_entry_new : entryFor table "filter.__new__" = some Builtin.«filter.__new__» := entryFor_of_tree (by kernel_rfl)
theorem fl_entry_next : entryFor table "filter.__next__" = some Builtin.«filter.__next__» := entryFor_of_tree (by kernel_rfl)
theorem fl_plain_next : plainId "filter.__next__" = true := by decide +kernel
theorem fl_slot_next : Slot "filter" "__next__" "filter.__next__" :=
  .of (owner := "filter") (n := "__next__") (by rw [typeLookup_type, builtinLookup_eq_fast]; kernel_rfl) (by decide +kernel) (by decide +kernel) (by decide +kernel)
    (by first | exact .inl (by decide +kernel) | exact .inr (by decide +kernel)) (by rw [isSubtype_type]; kernel_rfl)
theorem fl_args_next (a : Value) : argsOk "filter.__next__" ⟨[a], []⟩ := by unfold argsOk; kernel_rfl
theorem fl_slot_iter : Slot "filter" "__iter__" "filter.__iter__" :=
  .of (owner := "filter") (n := "__iter__") (by rw [typeLookup_type, builtinLookup_eq_fast]; kernel_rfl) (by decide +kernel) (by decide +kernel) (by decide +kernel)
    (by first | exact .inl (by decide +kernel) | exact .inr (by decide +kernel)) (by rw [isSubtype_type]; kernel_rfl)
theorem fl_args_iter (a : Value) : argsOk "filter.__iter__" ⟨[a], []⟩ := by unfold argsOk; kernel_rfl
theorem fl_entry_iter : entryFor table "filter.__iter__" = some Builtin.«dict_keyiterator.__iter__» :=
  entryFor_alias (id' := "dict_keyiterator.__iter__") (by kernel_rfl) (by first | rfl | decide +kernel | (unfold String.splitOn; simp +decide [String.splitOnAux])) (by decide +kernel) (by kernel_rfl)
theorem fl_no_len : typeLookup (.type "filter") "__len__" = pure none := by rw [typeLookup_type, builtinLookup_eq_fast]; kernel_rfl
theorem fl_no_hint : typeLookup (.type "filter") "__length_hint__" = pure none := by rw [typeLookup_type, builtinLookup_eq_fast]; kernel_rfl
theorem fl_sub : isSubtype (.type "filter") (.type "filter") = pure true := by rw [isSubtype_type]; kernel_rfl
abbrev IsFilt (h : Heap) (e b it : Addr) : Prop := h.get? e = some { cls := .type "filter", dict := none, data := .fields #[.ref b, .ref it], slots := #[] }
theorem meets_filter_new (b l : Addr) (items : Array Value) :
    Meets (Builtin.«filter.__new__» ⟨[.type "filter", .ref b, .ref l], []⟩) (fun _ R s => s.heap.IsList l items ∧
      R (.ok (.ret (.ref (s.heap.push { cls := .type "list_iterator", data := .fields #[.ref l, .int 0 0] }).objs.size)))
        { s with heap := (s.heap.push { cls := .type "list_iterator", data := .fields #[.ref l, .int 0 0] }).push { cls := .type "filter", data := .fields #[.ref b, .ref s.heap.objs.size] } }) :=
  .of_wp fun prog w A R s h => by
    obtain ⟨hp, g, d, tk, os⟩ := s; obtain ⟨hL, h⟩ := h
    have hsub := fl_sub
    unfold Builtin.«filter.__new__»
    wp_walk using wpAny_pyIter_list hL
    exact ⟨_, rfl, h⟩
section
variable {prog : Program} {w : World} {A : Around} {E : Value → Shared → Prop} {s : Shared}
theorem call_filter {b l : Addr} {items : Array Value} {Q : Value → Shared → Prop} (hL : s.heap.IsList l items)
    (h : ∀ h', IsFilt h' (s.heap.objs.size + 1) b s.heap.objs.size → h'.IsListIter s.heap.objs.size l 0 → h'.objs.size = s.heap.objs.size + 2 →
      (∀ b o, s.heap.get? b = some o → h'.get? b = some o) → Q (.ref (s.heap.objs.size + 1)) { s with heap := h' }) :
    wpAny (model prog w) A (call (.type "filter") [.ref b, .ref l]) Q E s := by
  refine callType_new fl_called (by decide) (fl_tcall _ _) (fl_ncall _ _) (fun obj => by unfold argsOk; kernel_rfl) fl_entry_new (meets_filter_new b l items) ⟨hL, ?_⟩
  have hz : (s.heap.push { cls := .type "list_iterator", data := .fields #[.ref l, .int 0 0] }).objs.size = s.heap.objs.size + 1 := Heap.size_push ..
  show _ ∧ _
  rw [hz]
  have he : IsFilt ((s.heap.push { cls := .type "list_iterator", data := .fields #[.ref l, .int 0 0] }).push
      { cls := .type "filter", data := .fields #[.ref b, .ref s.heap.objs.size] }) (s.heap.objs.size + 1) b s.heap.objs.size := by
    have := Heap.get?_push_size (s.heap.push { cls := .type "list_iterator", data := .fields #[.ref l, .int 0 0] })
      (o := { cls := .type "filter", data := .fields #[.ref b, .ref s.heap.objs.size] }) rfl
    rw [hz] at this; exact this
  exact ⟨⟨_, he, rfl⟩, h _ he ⟨_, Heap.get?_push_of_some _ (Heap.get?_push_size _ rfl), rfl, rfl⟩ (by rw [Heap.size_push, hz]) fun b o x => Heap.get?_push_of_some _ (Heap.get?_push_of_some _ x)⟩
theorem iter_filter {e b it : Addr} {Q : Value → Shared → Prop} (he : IsFilt s.heap e b it) (h : Q (.ref e) s) : wpAny (model prog w) A (pyIter (.ref e)) Q E s := by
  have hT : s.TypeIs (.ref e) "filter" := ⟨_, he, rfl⟩
  refine wpAny_pyIter_slot hT fl_slot_iter (wpAny_call_entry fl_slot_iter hT fl_entry_iter ?_ (fl_args_iter _))
  show wpAny _ _ (ret (.ref e)) _ _ s
  exact wpAny_pure ⟨_, rfl, "filter", _, hT, fl_slot_next.lookup, h⟩
theorem fl_item {it l : Addr} {i : Nat} {items : Array Value} {x : Value} {Q : Option Value → Shared → Prop} (hit : s.heap.IsListIter it l i) (hl : s.heap.IsList l items) (hx : items[i]? = some x)
    (hQ : ∀ h', h'.IsListIter it l (i + 1) → Heap.SameBut it s.heap h' → Q (some x) { s with heap := h' }) :
    wpAny (model prog w) A (callSpecial? (.ref it) (Str.ofString "__next__")) Q E s := by
  obtain ⟨o, ho, hc, hd⟩ := id hit
  obtain ⟨ol, hol, _, nl, hdl⟩ := hl
  refine wpAny_callSpecial?_slot (name := Str.ofString "__next__") hit.typeIs slot_listiter_next
    (wpAny_call_entry slot_listiter_next hit.typeIs entry_listiter_next ?_ (args_listiter_next _))
  show wpAny _ _ (field (.ref it) 0 >>= _) _ _ s
  refine wpAny_bind (wpAny_field ho hd (x := .ref l) rfl ?_)
  show wpAny _ _ (if (Value.ref l == Value.none) = true then _ else _) _ _ s
  rw [if_neg (show ¬ ((Value.ref l == Value.none) = true) from Bool.false_ne_true)]
  show wpAny _ _ (field (.ref it) 1 >>= _) _ _ s
  refine wpAny_bind (wpAny_field ho hd (x := .int i 0) rfl ?_)
  show wpAny _ _ (seqItems? (.ref l) >>= _) _ _ s
  refine wpAny_bind (wpAny_seqItems hol hdl ?_)
  simp only [Int.toNat_natCast, hx]
  refine wpAny_bind (wpAny_setField ho hd (by simp) (wpAny_pure ⟨x, rfl, hQ _ ?_ (Heap.SameBut.update ..)⟩))
  exact ⟨_, Heap.get?_update_self _ ho (Obj.isFreed_of_fields (Obj.data_mapFields hd _)), (Obj.cls_mapFields ..).trans hc, by
    rw [Obj.data_mapFields hd]; simp [rawInt]⟩
theorem fl_end {it l : Addr} {i : Nat} {items : Array Value} {Q : Option Value → Shared → Prop} (hh : A.handled = none) (hit : s.heap.IsListIter it l i) (hl : s.heap.IsList l items) (hx : items[i]? = none)
    (hE : ∀ h' e, Heap.ExtBut it s.heap h' → (∃ o, h'.get? e = some o ∧ o.cls = .type "StopIteration") → E (.ref e) { s with heap := h' }) :
    wpAny (model prog w) A (callSpecial? (.ref it) (Str.ofString "__next__")) Q E s := by
  obtain ⟨o, ho, hc, hd⟩ := id hit
  obtain ⟨ol, hol, _, nl, hdl⟩ := hl
  refine wpAny_callSpecial?_slot (name := Str.ofString "__next__") hit.typeIs slot_listiter_next
    (wpAny_call_entry slot_listiter_next hit.typeIs entry_listiter_next ?_ (args_listiter_next _))
  show wpAny _ _ (field (.ref it) 0 >>= _) _ _ s
  refine wpAny_bind (wpAny_field ho hd (x := .ref l) rfl ?_)
  show wpAny _ _ (if (Value.ref l == Value.none) = true then _ else _) _ _ s
  rw [if_neg (show ¬ ((Value.ref l == Value.none) = true) from Bool.false_ne_true)]
  show wpAny _ _ (field (.ref it) 1 >>= _) _ _ s
  refine wpAny_bind (wpAny_field ho hd (x := .int i 0) rfl ?_)
  show wpAny _ _ (seqItems? (.ref l) >>= _) _ _ s
  refine wpAny_bind (wpAny_seqItems hol hdl ?_)
  simp only [Int.toNat_natCast, hx]
  refine wpAny_bind (wpAny_rule (wpAny_bind (wpAny_setField ho hd (by simp) ?_)))
  show wpAny _ _ (newExc (.type "StopIteration") [] >>= _) _ _ _
  refine wpAny_bind ?_
  simp only [newExc, newTuple]
  refine wpAny_bind (wpAny_newObj_type ?_ (by size_fits))
  refine wpAny_bind (m := firstArgMember _ _) (wpAny_of_eq (a := Value.none) (by first | rfl | (simp only [firstArgMember]; rfl)) ?_)
  refine wpAny_newObj_type ?_ (by size_fits)
  simp only [raiseNew]
  refine wpAny_bind (wpAny_handled ?_)
  first | rw [show A.in1.handled = none from hh] | rw [hh]
  refine wpAny_bind (wpAny_pure (wpAny_throw ?_))
  exact hE _ _ (((Heap.SameBut.update ..).extBut.push _).push _) ⟨_, Heap.get?_push_size _ rfl, rfl⟩
end
section
variable {prog : Program} {w : World} {A : Around} {R : Result → Shared → Prop}
/-- the text that a str value holds -/
noncomputable def txtOf : Value → Str | .str x _ => x | _ => Str.ofString ""
/-- all the items are strs -/
noncomputable def AllStr (items : List Value) : Prop := ∀ v ∈ items, ∃ x t, v = .str x t
noncomputable def keptN (S : Str → Bool) (items : List Value) (j : Nat) : Nat := ((items.take j).filter fun v => S (txtOf v)).length
/-- the filter's state: at place j of its list -/
noncomputable def FiltAt (prog : Program) (w : World) (S : Str → Bool) (n : Nat) (e b st it l : Addr) (items : Array Value) (j : Nat) (h : Heap) : Prop :=
  IsFilt h e b it ∧ h.get? b = some (boundC st) ∧ h.SetOf (strKind prog w) st S n ∧ h.IsListIter it l j ∧ h.IsList l items
theorem FiltAt.step {S : Str → Bool} {n : Nat} {e b st it l : Addr} {items : Array Value} {j j' : Nat} {h h' : Heap} (H : FiltAt prog w S n e b st it l items j h) (h1 : e ≠ it) (h2 : b ≠ it) (h3 : st ≠ it) (h4 : l ≠ it)
    (hit : h'.IsListIter it l j') (hk : ∀ b o, b ≠ it → h.get? b = some o → h'.get? b = some o) : FiltAt prog w S n e b st it l items j' h' :=
  ⟨hk _ _ h1 H.1, hk _ _ h2 H.2.1, by obtain ⟨o, es, ep, t, ho, r⟩ := H.2.2.1; exact ⟨o, es, ep, t, hk _ _ h3 ho, r⟩, hit, H.2.2.2.2.at fun o x => hk _ _ h4 x⟩
theorem fl_body {S : Str → Bool} {n : Nat} {e b st it l : Addr} {items : Array Value} (hh : A.handled = none) (hs : AllStr items.toList) (h1 : e ≠ it) (h2 : b ≠ it) (h3 : st ≠ it) (h4 : l ≠ it) :
    ∀ (k j : Nat) (s : Shared), items.size - j = k → FiltAt prog w S n e b st it l items j s.heap →
      (∀ j' v h' tk, items[j']? = some v → S (txtOf v) = true → keptN S items.toList j' = keptN S items.toList j → FiltAt prog w S n e b st it l items (j' + 1) h' → (∀ b o, b ≠ it → s.heap.get? b = some o → h'.get? b = some o) → R (.ok (.ret v)) { s with heap := h', toks := tk }) →
      (∀ h' x tk, keptN S items.toList items.size = keptN S items.toList j → Heap.ExtBut it s.heap h' → (∃ o, h'.get? x = some o ∧ o.cls = .type "StopIteration") → R (.error (.ref x)) { s with heap := h', toks := tk }) →
      codeAny (model prog w) A (.builtin "filter.__next__" ⟨[.ref e], []⟩) R s := by
  intro k
  induction k with
  | zero =>
    intro j s hk H hv he
    refine codeAny_builtin fl_entry_next ?_
    rw [Around.under_plainId fl_plain_next _]
    show wpAny _ _ (field (.ref e) 0 >>= _) _ _ s
    refine wpAny_bind (wpAny_field H.1 rfl (x := .ref b) rfl ?_)
    show wpAny _ _ (field (.ref e) 1 >>= _) _ _ s
    refine wpAny_bind (wpAny_field H.1 rfl (x := .ref it) rfl ?_)
    refine wpAny_bind (fl_end (by simpa using hh) H.2.2.2.1 H.2.2.2.2 (by simp; omega) fun h' x hx hc => ?_)
    exact he h' x _ (by unfold keptN; rw [List.take_of_length_le (by simp), List.take_of_length_le (by simp; omega)]) hx hc
  | succ k ih =>
    intro j s hk H hv he
    have hj : j < items.size := by omega
    obtain ⟨tx, t, hx⟩ := hs items[j] (Array.mem_toList_iff.mpr (Array.getElem_mem hj))
    have hg : items[j]? = some (.str tx t) := by rw [Array.getElem?_eq_getElem hj, hx]
    have hg' : items.toList[j]? = some (.str tx t) := by rw [Array.getElem?_toList]; exact hg
    have hkn : keptN S items.toList (j + 1) = keptN S items.toList j + if S tx = true then 1 else 0 := by
      unfold keptN; rw [List.take_add_one, hg', List.filter_append, List.length_append]; simp only [Option.toList_some, List.filter_cons, List.filter_nil, txtOf]; split <;> simp
    refine codeAny_builtin fl_entry_next ?_
    rw [Around.under_plainId fl_plain_next _]
    show wpAny _ _ (field (.ref e) 0 >>= _) _ _ s
    refine wpAny_bind (wpAny_field H.1 rfl (x := .ref b) rfl ?_)
    show wpAny _ _ (field (.ref e) 1 >>= _) _ _ s
    refine wpAny_bind (wpAny_field H.1 rfl (x := .ref it) rfl ?_)
    refine wpAny_bind (fl_item H.2.2.2.1 H.2.2.2.2 hg fun h₁ hit₁ hs₁ => ?_)
    have H₁ : FiltAt prog w S n e b st it l items (j + 1) h₁ := H.step h1 h2 h3 h4 hit₁ fun b o hb x => hs₁.extBut b o hb x
    show wpAny _ _ (holding [Value.str tx t] (if (Value.ref b == Value.none || Value.ref b == Value.type "bool") = true then _ else _) >>= _) _ _ _
    refine wpAny_bind (wpAny_holding ?_)
    rw [if_neg (show ¬ ((Value.ref b == Value.none || Value.ref b == Value.type "bool") = true) from Bool.false_ne_true)]
    refine wpAny_bind (fl_call (knd := strKind prog w) (k := tx) H₁.2.1 (by show Value.isStrOf tx (.str tx t) = true; simp [Value.isStrOf]) rfl H₁.2.2.1 ?_)
    refine wpAny_holding (wpAny_truthy_bool ?_)
    cases hS : S tx with
    | true =>
      exact wpAny_pure (hv j _ h₁ _ hg hS rfl H₁ fun b o hb x => hs₁.extBut b o hb x)
    | false =>
      refine wpAny_pure ⟨plainId_quiet fl_plain_next _, ih (j + 1) _ (by omega) H₁ (fun j' v h' tk a b c d f => ?_) fun h' x tk a b c => ?_⟩
      · exact hv j' v h' tk a b (by rw [c, hkn, hS]; simp) d fun b o hb x => f b o hb (hs₁.extBut b o hb x)
      · exact he h' x tk (by rw [a, hkn, hS]; simp) (fun y o hy z => b y o hy (hs₁.extBut y o hy z)) c
end
end
end

section
open PySem PySem.Spec PySem.Calls PySem.W PyProof.Rows
section
section
variable {prog : Program} {w : World} {A : Around}
theorem filter_get {p : Value → Bool} : ∀ {l : List Value} {j : Nat} {v : Value}, l[j]? = some v → p v = true → (l.filter p)[((l.take j).filter p).length]? = some v
  | [], _, _, h, _ => by simp at h
  | a :: l, 0, v, h, hp => by simp at h; subst h; simp [hp]
  | a :: l, j + 1, v, h, hp => by
    simp only [List.getElem?_cons_succ] at h
    have ih := filter_get h hp
    simp only [List.take_succ_cons, List.filter_cons]
    split <;> simp [ih]
theorem filter_more {p : Value → Bool} : ∀ {l : List Value} {j : Nat} {v : Value}, l[j]? = some v → p v = true → ((l.take j).filter p).length < (l.filter p).length
  | l, j, v, h, hp => by
    have := filter_get h hp
    exact (List.getElem?_eq_some_iff.mp this).1
noncomputable def FiltSt (prog : Program) (w : World) (S : Str → Bool) (n : Nat) (e b st it l : Addr) (items : Array Value) (i : Nat) (h : Heap) : Prop :=
  ∃ j, keptN S items.toList j = i ∧ FiltAt prog w S n e b st it l items j h
theorem walks_filter {S : Str → Bool} {n : Nat} {e b st it l : Addr} {items : Array Value} (hh : A.handled = none) (hs : AllStr items.toList) (h1 : e ≠ it) (h2 : b ≠ it) (h3 : st ≠ it) (h4 : l ≠ it) :
    Walks prog w A e [e, b, st, it, l] [it] (items.toList.filter fun v => S (txtOf v)).length (fun i v => (items.toList.filter fun v => S (txtOf v))[i]? = some v) (FiltSt prog w S n e b st it l items) where
  sub := fun b hb => by simp at hb; simp [hb]
  frame := fun i h h' ⟨j, hj, H⟩ hk => ⟨j, hj, hk e (by simp) _ H.1, hk b (by simp) _ H.2.1, by obtain ⟨o, es, ep, t, ho, r⟩ := H.2.2.1; exact ⟨o, es, ep, t, hk st (by simp) _ ho, r⟩,
    H.2.2.2.1.at fun o x => hk it (by simp) o x, H.2.2.2.2.at fun o x => hk l (by simp) o x⟩
  item := fun i s Q E hi ⟨j, hj, H⟩ hQ => by
    have hT : s.TypeIs (.ref e) "filter" := ⟨_, H.1, rfl⟩
    unfold pyNext
    refine wpAny_bind (wpAny_attempt (wpAny_callSpecial?_slot (name := Str.ofString "__next__") hT fl_slot_next
      (wpAny_call (codeAny_call_builtin_code (plainId_quiet fl_plain_next _) (fl_slot_next.check _ _ _ _ _ _ _ _ hT (fl_args_next _) (fl_body hh hs h1 h2 h3 h4 _ j s rfl H (fun j' v h' tk a b c d f => ?_) fun h' x tk a b c => ?_))))))
    · refine wpAny_pure (hQ v h' tk ?_ ⟨j' + 1, ?_, d⟩ fun b o hb x => f b o (fun z => hb (by simp [z])) x)
      · have := filter_get (p := fun v => S (txtOf v)) (l := items.toList) (j := j') (by rw [Array.getElem?_toList]; exact a) b
        show (items.toList.filter fun v => S (txtOf v))[i]? = some v
        rw [← hj, ← c]; exact this
      · have hg' : items.toList[j']? = some v := by rw [Array.getElem?_toList]; exact a
        rw [← hj, ← c]; unfold keptN; rw [List.take_add_one, hg', List.filter_append, List.length_append]; simp [b]
    · exfalso
      unfold keptN at a hj
      rw [hj, List.take_of_length_le (by simp)] at a
      omega
  done := fun s Q E ⟨j, hj, H⟩ hQ => by
    have hT : s.TypeIs (.ref e) "filter" := ⟨_, H.1, rfl⟩
    unfold pyNext
    refine wpAny_bind (wpAny_attempt (wpAny_callSpecial?_slot (name := Str.ofString "__next__") hT fl_slot_next
      (wpAny_call (codeAny_call_builtin_code (plainId_quiet fl_plain_next _) (fl_slot_next.check _ _ _ _ _ _ _ _ hT (fl_args_next _) (fl_body hh hs h1 h2 h3 h4 _ j s rfl H (fun j' v h' tk a b c d f => ?_) fun h' x tk a b c => ?_))))))
    · exfalso
      have := filter_more (p := fun v => S (txtOf v)) (l := items.toList) (j := j') (by rw [Array.getElem?_toList]; exact a) b
      unfold keptN at c hj
      omega
    · obtain ⟨o, ho, hc⟩ := c
      refine wpAny_bind (wpAny_isInstance (T := "StopIteration") (b := true) ⟨o, ho, hc⟩ isSubtype_stop ?_)
      exact wpAny_pure (hQ _ _ fun y o hy z => b y o (fun z => hy (by simp [z])) z)
  self := fun _ _ _ _ ⟨_, _, H⟩ hQ => iter_filter H.1 hQ
end
section
variable {prog : Program} {w : World} {A : Around} {s : Shared} {R : Result → Shared → Prop}
variable {I : Addr} {fp wr : List Addr} {G : Array GenState → Array GenState → Prop} {n : Nat} {P : Nat → Value → Prop} {St : Nat → Shared → Prop}
theorem extend_filt (W : WalksS prog w A.in1 I fp wr G n P St) (hT : ∀ i s, St i s → s.TypeIs (.ref I) "filter") (S : Addr) (res : Value) (c₀ : Nat) (hst : St 0 s) (hSf : S ∉ fp) (hI : I ∈ fp)
    (hS : s.heap.get? S = some { cls := .type "list", data := .seq #[] c₀ })
    (hR : ∀ s' acc' c', Moved (S :: wr) G s s' → s'.heap.get? S = some { cls := .type "list", dict := none, data := .seq acc' c', slots := #[] } → ItemsOf P acc' n → R (.ok (.ret res)) s') (hn : n ≤ sizeLine := by size_fits) :
    wpAny (model prog w) A.in1 (Builtin.List.listExtendWith (.ref S) (.ref I) res)
      (fun fin s' => match fin with | .done f => R (.ok f) s' | .again c' => c'.quiet = true ∧ codeAny (model prog w) A c' R s') (fun e s' => R (.error e) s') s := by
  have hSI : S ≠ I := fun e => hSf (e ▸ hI)
  unfold Builtin.List.listExtendWith
  refine wpAny_bind (wpAny_typeOf (hT 0 _ hst) ?_)
  have h1 : Builtin.List.listSameRef (.ref S) (.ref I) = false := by simp [Builtin.List.listSameRef, hSI]
  have h2 : (Value.type "filter" == Value.type "list") = false := by decide
  have h3 : (Value.type "filter" == Value.type "tuple") = false := by decide
  simp only [h1, h2, h3, Bool.or_false, Bool.false_eq_true, if_false]
  refine wpAny_bind (W.self 0 _ _ _ hst ?_)
  refine wpAny_bind (wpAny_holding ?_)
  unfold Builtin.List.listLengthHint
  refine wpAny_bind (wpAny_specialOf (hT 0 _ hst) fl_no_len ?_)
  show wpAny _ A.in1 (specialOf (Value.ref I) (Str.ofString "__length_hint__") >>= _) _ _ _
  refine wpAny_bind (wpAny_specialOf (hT 0 _ hst) fl_no_hint ?_)
  refine wpAny_pure ?_
  show wpAny _ A.in1 (rule "list.extend.makes-room" >>= fun _ => Builtin.List.listTouch (.ref S) >>= fun _ =>
    again (.builtin "list.extend.loop" ⟨[.ref S, .ref I, res], []⟩)) _ _ _
  refine wpAny_bind (wpAny_rule ?_)
  refine wpAny_bind ?_
  show wpAny _ A.in1 (updateSeq S (·.push .none) >>= fun _ => updateSeq S (·.pop)) _ _ _
  refine wpAny_bind (wpAny_updateSeq hS rfl ?_)
  have hS₂ := Heap.get?_update_self (Obj.mapSeq (·.push Value.none)) hS rfl
  refine wpAny_updateSeq (hz := by seq_fits) hS₂ rfl ?_
  have hS₃ := Heap.get?_update_self (Obj.mapSeq (·.pop)) hS₂ rfl
  have oth : ∀ b o, b ≠ S → s.heap.get? b = some o → ((s.heap.update S (Obj.mapSeq (·.push Value.none))).update S (Obj.mapSeq (·.pop))).get? b = some o :=
    fun b o hb e => (Heap.get?_update_other _ _ (Ne.symm hb)).trans ((Heap.get?_update_other _ _ (Ne.symm hb)).trans e)
  refine wpAny_pure ⟨plainId_quiet F.plain_extend_loop _, codeAny_extend_loopS W hn _ hSf _ n 0 _ _ _ rfl (Nat.zero_le _)
    (W.frame 0 s _ s.toks hst (Nat.le_refl _) fun b hb o e => oth b o (fun h => hSf (h ▸ hb)) e) hS₃ (ItemsOf.nil P) fun s' acc' c' hm hS' hacc => ?_⟩
  exact hR s' acc' c' (Moved.trans W.gtrans ((Moved.refl W.grefl).then_heap (Nat.le_refl _) fun b o hb e => oth b o (fun h => hb (h ▸ List.mem_cons_self)) e) hm) hS' hacc
theorem list_init_filt (W : WalksS prog w A.in1 I fp wr G n P St) (hT : ∀ i s, St i s → s.TypeIs (.ref I) "filter") (S : Addr) (hst : St 0 s) (hSf : S ∉ fp) (hI : I ∈ fp)
    (hS : s.heap.get? S = some { cls := .type "list", data := .seq #[] })
    (hR : ∀ s' acc' c', Moved (S :: wr) G s s' → s'.heap.get? S = some { cls := .type "list", dict := none, data := .seq acc' c', slots := #[] } → ItemsOf P acc' n → R (.ok (.ret .none)) s') (hn : n ≤ sizeLine := by size_fits) :
    wpAny (model prog w) A.in1 (Builtin.«list.__init__» ⟨[.ref S, .ref I], []⟩)
      (fun fin s' => match fin with | .done f => R (.ok f) s' | .again c' => c'.quiet = true ∧ codeAny (model prog w) A c' R s') (fun e s' => R (.error e) s') s := by
  show wpAny _ A.in1 (do let old ← Builtin.List.listItems (.ref S); Builtin.List.listUpdate (.ref S) (fun _ => #[]); letGo old.toList.reverse; Builtin.List.listExtendWith (.ref S) (.ref I) .none) _ _ s
  refine wpAny_bind ?_
  unfold Builtin.List.listItems
  refine wpAny_bind (wpAny_seqItems hS rfl (wpAny_pure ?_))
  show wpAny _ A.in1 (updateSeq S (fun _ => #[]) >>= fun _ => letGo (#[] : Array Value).toList.reverse >>= fun _ => Builtin.List.listExtendWith (.ref S) (.ref I) .none) _ _ s
  refine wpAny_bind (wpAny_updateSeq hS rfl ?_)
  have hS₂ := Heap.get?_update_self (Obj.mapSeq (fun _ => (#[] : Array Value))) hS rfl
  have oth : ∀ b o, b ≠ S → s.heap.get? b = some o → (s.heap.update S (Obj.mapSeq (fun _ => (#[] : Array Value)))).get? b = some o :=
    fun b o hb e => (Heap.get?_update_other _ _ (Ne.symm hb)).trans e
  refine wpAny_bind (wpAny_letGo ?_)
  refine extend_filt (hn := hn) W hT S .none _ (W.frame 0 s _ s.toks hst (Nat.le_refl _) fun b hb o e => oth b o (fun h => hSf (h ▸ hb)) e) hSf hI hS₂ fun s' acc' c' hm hS' hacc => ?_
  exact hR s' acc' c' (Moved.trans W.gtrans ((Moved.refl W.grefl).then_heap (Nat.le_refl _) fun b o hb e => oth b o (fun h => hb (h ▸ List.mem_cons_self)) e) hm) hS' hacc
theorem call_list_filt {E : Value → Shared → Prop} {Q : Value → Shared → Prop} (W : WalksS prog w A.in1.in1 I fp wr G n P St) (hT : ∀ i s, St i s → s.TypeIs (.ref I) "filter") (hst : St 0 s) (hfp : ∀ b ∈ fp, b < s.heap.objs.size) (hI : I ∈ fp)
    (hQ : ∀ s' acc' c', Moved (s.heap.objs.size :: wr) G { s with heap := s.heap.push { cls := .type "list", data := .seq #[] } } s' →
      s'.heap.get? s.heap.objs.size = some { cls := .type "list", dict := none, data := .seq acc' c', slots := #[] } → ItemsOf P acc' n → Q (.ref s.heap.objs.size) s') (hn : n ≤ sizeLine := by size_fits) :
    wpAny (model prog w) A (call (.type "list") [.ref I]) Q E s := by
  have hSf : s.heap.objs.size ∉ fp := fun hm => Nat.lt_irrefl _ (hfp _ hm)
  refine callType_codes (Q₁ := fun obj s₁ => obj = .ref s.heap.objs.size ∧ s₁ = { s with heap := s.heap.push { cls := .type "list", data := .seq #[] } }) F.called_list (F.typeCall_list_1 _) F.entry_list_init
    (code_list_new _ ⟨rfl, rfl⟩) fun obj s₁ h₁ => ?_
  obtain ⟨rfl, rfl⟩ := h₁
  have hS : (s.heap.push { cls := .type "list", data := .seq #[] }).get? s.heap.objs.size = some { cls := .type "list", data := .seq #[] } := Heap.get?_push_size _ rfl
  refine ⟨⟨_, hS, rfl⟩, F.args_list_init_2 _ _, list_init_filt (hn := hn) W hT _ (W.frame 0 s _ s.toks hst (Nat.le_refl _) fun b _ o e => Heap.get?_push_of_some _ e) hSf hI hS fun s' acc' c' hm hS' hacc => ?_⟩
  exact ⟨rfl, hQ s' acc' c' hm hS' hacc⟩
end
end
end

section
open PySem PySem.Spec PySem.Calls PySem.W PyProof.Rows
section
/-- is the text among those of the items -/
noncomputable def hasTxt (items : List Value) (k : Str) : Bool := items.any fun v => decide (k = txtOf v)
section
variable {prog : Program} {w : World} {A : Around} {R : Result → Shared → Prop} {I : Addr} {fp wr : List Addr} {G : Array GenState → Array GenState → Prop} {St : Nat → Shared → Prop}
theorem set_loop {items : Array Value} (W : WalksS prog w A.in1 I fp wr G items.size (fun i v => items[i]? = some v) St) (S : Addr) (hSf : S ∉ fp) (hs : AllStr items.toList) (hb : items.size + 1 < scanBound) :
    ∀ (k i : Nat) (s : Shared) (n : Nat), items.size - i = k → i ≤ items.size → n ≤ i → St i s → s.heap.SetOf (PySem.strKind prog w) S (hasTxt (items.toList.take i)) n →
      (∀ s' n', n' ≤ items.size → Moved (S :: wr) G s s' → s'.heap.SetOf (PySem.strKind prog w) S (hasTxt items.toList) n' → R (.ok (.ret .none)) s') →
      codeAny (model prog w) A (.builtin "set.update.loop" ⟨[.ref S, .ref I], []⟩) R s := by
  have hSw : S ∉ wr := fun h => hSf (W.sub _ h)
  have hsub : ∀ b ∈ wr, b ∈ S :: wr := fun b hb => List.mem_cons_of_mem _ hb
  intro k
  induction k with
  | zero =>
    intro i s n hk hi hn hst hS hR
    have hin : i = items.size := by omega
    subst hin
    refine codeAny_builtin F.entry_set_update_loop ?_
    rw [Around.under_plainId F.plain_set_update_loop _]
    show wpAny _ A.in1 (pyNext (.ref I) >>= _) _ _ s
    refine wpAny_bind (W.done s _ _ hst fun s' hm => ?_)
    show wpAny _ A.in1 (ret Value.none) _ _ s'
    rw [List.take_of_length_le (by simp)] at hS
    exact wpAny_pure (hR s' n hn (hm.mono hsub) (by
      obtain ⟨o, es, ep, t, ho, rest⟩ := hS
      exact ⟨o, es, ep, t, hm.heap S _ hSw ho, rest⟩))
  | succ k ih =>
    intro i s n hk hi hn hst hS hR
    have hlt : i < items.size := by omega
    refine codeAny_builtin F.entry_set_update_loop ?_
    rw [Around.under_plainId F.plain_set_update_loop _]
    show wpAny _ A.in1 (pyNext (.ref I) >>= _) _ _ s
    refine wpAny_bind (W.item i s _ _ hlt hst fun v s' hP hst' hm => ?_)
    obtain ⟨x, t, rfl⟩ := hs v (Array.mem_toList_iff.mpr (Array.mem_of_getElem? hP))
    have hP' : items.toList[i]? = some (.str x t) := by rw [Array.getElem?_toList]; exact hP
    have hS' : s'.heap.SetOf (PySem.strKind prog w) S (hasTxt (items.toList.take i)) n := by
      obtain ⟨o, es, ep, tb, ho, rest⟩ := hS
      exact ⟨o, es, ep, tb, hm.heap S _ hSw ho, rest⟩
    show wpAny _ A.in1 (holding [Value.str x t] (setAdd S (.str x t)) >>= _) _ _ s'
    refine wpAny_bind (wpAny_holding ?_)
    unfold setAdd
    refine wpAny_holding ?_
    have hkey : (PySem.strKind prog w).is x (.str x t) = true := by show Value.isStrOf x (.str x t) = true; simp [Value.isStrOf]
    refine wpAny_bind ((PySem.strKind prog w).pyHash (k := x) hkey ?_)
    refine wpAny_setAddHashed_of (knd := PySem.strKind prog w) (s := { s' with toks := s'.toks + 1 }) hkey rfl hS' (by omega) fun h' hsb hS2 => ?_
    have hSi : h'.SetOf (PySem.strKind prog w) S (hasTxt (items.toList.take (i + 1))) (if hasTxt (items.toList.take i) x = true then n else n + 1) :=
      SetOf_congr hS2 (fun k' => by unfold hasTxt; rw [List.take_add_one, hP', List.any_append]; simp only [Option.toList_some, List.any_cons, List.any_nil, Bool.or_false]; by_cases e : k' = x <;> simp [e, txtOf]) rfl
    refine wpAny_pure ⟨plainId_quiet F.plain_set_update_loop _, ih (i + 1) _ _ (by omega) hlt (by split <;> omega) (W.frame _ s' _ _ hst' (Nat.le_succ _) fun b hb o e => ?_) hSi fun s'' n' hn' hm'' hS'' => ?_⟩
    · rw [hsb.2 b (fun h : b = S => hSf (by rw [← h]; exact hb))]; exact e
    · refine hR s'' n' hn' (Moved.trans W.gtrans ((hm.mono hsub).then_heap (Nat.le_succ _) fun b o hb e => ?_) hm'') hS''
      rw [hsb.2 b (fun h : b = S => hb (by rw [h]; exact List.mem_cons_self))]; exact e
end
section
variable {prog : Program} {w : World} {A : Around} {E : Value → Shared → Prop} {s : Shared}
theorem call_set_strs {l : Addr} {items : Array Value} {Q : Value → Shared → Prop}
    (hh : A.handled = none) (hl : s.heap.IsList l items) (hs : AllStr items.toList) (hb : items.size + 1 < scanBound)
    (h : ∀ (h' : Heap) (tk n : Nat), n ≤ items.size → h'.SetOf (PySem.strKind prog w) s.heap.objs.size (hasTxt items.toList) n →
      (∀ b o, b < s.heap.objs.size → s.heap.get? b = some o → h'.get? b = some o) → Q (.ref s.heap.objs.size) { s with heap := h', toks := tk }) :
    wpAny (model prog w) A (call (.type "set") [.ref l]) Q E s := by
  obtain ⟨c, tl, hmro⟩ := F.called_set.mro
  have hmade := F.called_set.made
  have hsub := F.called_set.sub
  refine wpAny_call (codeAny_of_tree ?_)
  show wpAny _ _ (callAny (.type "set") _) _ _ _
  refine wpAny_pure ⟨Code.quiet_builtin _ (by decide +kernel), codeAny_builtin F.entry_type_call ?_⟩
  rw [Around.under_plain (weight_type_call_type "set" [.ref l] []) rfl]
  have h1 := F.called_set.notType
  have h2 := F.called_set.canCreate
  have hct := F.typeCall_set_1 (.ref l)
  repeat (any_goals (first | assumption | wp_step))
  refine codeAny_mono (code_set_new_1 (.ref l) (E := E) (Q₁ := fun obj s₁ => ∃ led : Bool, obj = .ref s.heap.objs.size ∧ s₁ = { s with heap := s.heap.push { cls := .type "set", dict := none, data := .set #[] 0 (.fresh 0 0 led) } }) fun led => ⟨led, rfl, rfl⟩) fun r s₁ hr => ?_
  cases r with
  | error e => exact hr
  | ok fl =>
    cases fl with
    | ret obj =>
      obtain ⟨led, rfl, rfl⟩ := hr
      have hS : (s.heap.push { cls := .type "set", dict := none, data := .set #[] 0 (.fresh 0 0 led) }).get? s.heap.objs.size = some { cls := .type "set", dict := none, data := .set #[] 0 (.fresh 0 0 led) } := Heap.get?_push_size _ rfl
      have hT : Shared.TypeIs { s with heap := s.heap.push { cls := .type "set", dict := none, data := .set #[] 0 (.fresh 0 0 led) } } (.ref s.heap.objs.size) "set" := ⟨_, hS, rfl⟩
      have hli := F.called_set.init.lookup
      have hbi := F.called_set.init.bind (.ref s.heap.objs.size)
      repeat (any_goals (first | assumption | wp_step))
      refine codeAny_mono (codeAny_call_builtin (R := wants (fun r s₂ => r = .none ∧ ∃ h' tk n, s₂ = { s with heap := h', toks := tk } ∧ n ≤ items.size ∧
          h'.SetOf (PySem.strKind prog w) s.heap.objs.size (hasTxt items.toList) n ∧
          (∀ b o, b < s.heap.objs.size → s.heap.get? b = some o → h'.get? b = some o)) E) F.called_set.init.plain F.entry_set_init (check_set_init_1 hT ?_)) fun r₂ s₂ hr₂ => ?_
      · obtain ⟨ol, hol, hcl, nl, hdl⟩ := hl
        obtain ⟨ocls, odict, odata, oslots⟩ := ol
        simp only at hcl hdl
        subst hcl; subst hdl
        have hol' : (s.heap.push { cls := .type "set", dict := none, data := .set #[] 0 (.fresh 0 0 led) }).get? l = some { cls := .type "list", dict := odict, data := .seq items nl, slots := oslots } := Heap.get?_push_of_some _ hol
        have hsls := F.sub_list_set
        have hslf := F.sub_list_frozenset
        have hne : (Value.type "list" == Value.type "dict") = false := by decide
        have hl1 : (s.heap.push { cls := .type "set", dict := none, data := .set #[] 0 (.fresh 0 0 led) }).IsList l items := ⟨_, hol', rfl, nl, rfl⟩
        unfold Builtin.«set.__init__» noKeywords Builtin.Frozenset.updateFrom
        generalize hPI : pyIter = PI
        wp_walk
        subst hPI
        refine wpAny_pyIter_list hl1 ?_
        refine wpAny_bind (wpAny_runValue ?_)
        have hlS : l < s.heap.objs.size := Heap.lt_size hol
        have hh3 : A.in1.in1.in1.handled = none := by simp [hh]
        have hneI : l ≠ (s.heap.push { cls := .type "set", dict := none, data := .set #[] 0 (.fresh 0 0 led) }).objs.size := by
          rw [Heap.size_push]; exact Nat.ne_of_lt (Nat.lt_succ_of_lt hlS)
        have hSf : s.heap.objs.size ∉ [(s.heap.push { cls := .type "set", dict := none, data := .set #[] 0 (.fresh 0 0 led) }).objs.size, l] := by
          rw [Heap.size_push]; simp only [List.mem_cons, List.not_mem_nil, or_false, not_or]
          exact ⟨Nat.ne_of_lt (Nat.lt_succ_self _), Nat.ne_of_gt hlS⟩
        refine set_loop ((Walks.list hh3 _ l hneI items).toS) s.heap.objs.size hSf hs hb (items.size - 0) 0 _ 0 (by omega) (Nat.zero_le _) (Nat.le_refl _)
          ⟨⟨_, Heap.get?_push_size _ rfl, rfl, rfl⟩, (hl1.push _)⟩ ?hS0 ?hR
        case hS0 =>
          have hget : ((s.heap.push { cls := .type "set", dict := none, data := .set #[] 0 (.fresh 0 0 led) }).push { cls := .type "list_iterator", data := .fields #[.ref l, .int 0 0] }).get? s.heap.objs.size
              = some { cls := .type "set", dict := none, data := .set #[] 0 (.fresh 0 0 led) } := Heap.get?_push_of_some _ hS
          exact SetOf_congr ((setObjOf_fresh (knd := PySem.strKind prog w) led).setOf hget (by unfold scanBound; omega)) (fun _ => rfl) rfl
        case hR =>
          intro s' n' hn' hm hS'
          obtain ⟨h', g', d', tk', os'⟩ := s'
          have eg : g' = s.gens := hm.gens
          have ed : d' = s.drawn := hm.drawn
          have eo : os' = s.os := hm.os
          subst eg; subst ed; subst eo
          show wpAny _ _ _ _ _ _
          refine wpAny_pure ?_
          show wpAny _ _ (ret Value.none) _ _ _
          refine wpAny_pure ⟨rfl, h', tk', n', rfl, hn', hS', fun b o hb e => ?_⟩
          have hb1 : b ≠ s.heap.objs.size := Nat.ne_of_lt hb
          have hb2 : b ≠ (s.heap.push { cls := .type "set", dict := none, data := .set #[] 0 (.fresh 0 0 led) }).objs.size := by
            rw [Heap.size_push]; exact Nat.ne_of_lt (Nat.lt_succ_of_lt hb)
          exact hm.heap b o (by simp only [List.mem_cons, List.not_mem_nil, or_false, not_or]; exact ⟨hb1, hb2⟩) (Heap.get?_push_of_some _ (Heap.get?_push_of_some _ e))
      · cases r₂ with
        | error e => exact hr₂
        | ok fl₂ =>
          cases fl₂ with
          | ret r =>
            obtain ⟨rfl, h', tk, n', rfl, hn', hS', hk'⟩ := hr₂
            repeat (any_goals (first | assumption | wp_step))
            exact h _ _ n' hn' hS' hk'
          | _ => exact hr₂.elim
    | _ => exact hr.elim
end
end
end

section
open PySem PySem.Spec PySem.Calls PySem.W PyProof.Rows
section
section
variable {prog : Program} {w : World} {A : Around} {E : Value → Shared → Prop} {s : Shared} {h₀ : Heap} {L : Addr} {m : Str → Option Value} {news : List (Addr × Obj)}
theorem fresh_none {a : Addr} (F : Fr h₀ L s.heap m) (ha : s.heap.objs.size ≤ a) : h₀.get? a = none := by
  cases hq : h₀.get? a with
  | none => rfl
  | some o' => exact absurd (Heap.lt_size (F.keep _ _ hq)) (Nat.not_lt.mpr ha)
theorem fr_lt (F : Fr h₀ L s.heap m) : L < s.heap.objs.size := by obtain ⟨oL, _, _, hL, _⟩ := F.ns; exact Heap.lt_size hL
theorem set_led {l : Addr} {vs : List Value} {c : Nat} {Q : Value → Shared → Prop} (hh : A.handled = none) (F : Fr h₀ L s.heap m) (N : News h₀ L s.heap news) (hl : (l, W.listOf vs.toArray c) ∈ news) (hs : AllStr vs) (hb : vs.length + 1 < scanBound)
    (h : ∀ x o n h' tk, Fr h₀ L h' m → News h₀ L h' ((x, o) :: news) → (∀ p ∈ news, p.1 < x) → o.SetObjOf (PySem.strKind prog w) (hasTxt vs) n → n < scanBound → Q (.ref x) { s with heap := h', toks := tk }) :
    wpAny (model prog w) A (call (.type "set") [.ref l]) Q E s := by
  refine call_set_strs (items := vs.toArray) hh ⟨_, (N _ hl).1, rfl, c, rfl⟩ hs (by simpa using hb) fun h' tk n hn hS hk => ?_
  obtain ⟨o, ho, hso⟩ := hS.objOf
  refine h _ o n h' tk ⟨F.ns.at' fun o' e => hk L o' (fr_lt F) e, fun b o' e => hk b o' (Heap.lt_size (F.keep b o' e)) (F.keep b o' e), F.above⟩ (fun p hp => ?_) (fun p hp => Heap.lt_size (N p hp).1) hso (by simp at hn; omega)
  rcases List.mem_cons.mp hp with rfl | hp
  · exact ⟨ho, Nat.ne_of_gt (fr_lt F), fresh_none F (Nat.le_refl _)⟩
  · exact ⟨hk _ _ (Heap.lt_size (N p hp).1) (N p hp).1, (N p hp).2.1, (N p hp).2.2⟩
theorem contains_led {x : Addr} {o : Obj} {S : Str → Bool} {n : Nat} {expr : Bool} {Q : Value → Shared → Prop} (F : Fr h₀ L s.heap m) (N : News h₀ L s.heap news) (hx : (x, o) ∈ news) (ho : o.SetObjOf (PySem.strKind prog w) S n) (hb : n < scanBound)
    (h : ∀ y h', Fr h₀ L h' m → News h₀ L h' ((y, boundC x) :: news) → (∀ p ∈ news, p.1 < y) → Q (.ref y) { s with heap := h', toks := s.toks + 1 }) :
    wpAny (model prog w) A (getAttr (.ref x) (Str.ofString "__contains__") expr) Q E s := by
  obtain ⟨o', es, ep, t, hg, hc, hd, _⟩ := ho.setOf (N _ hx).1 hb
  have e : o = o' := Option.some.inj ((N _ hx).1.symm.trans hg)
  subst e
  obtain ⟨c, dc, dt, sl⟩ := o
  obtain ⟨rfl, rfl, rfl⟩ := hc
  replace hd : dt = .set es ep t := hd
  subst hd
  exact fl_getattr hg (h _ _ (F.push _) (News.push F N _) fun p hp => Heap.lt_size (N p hp).1)
theorem filter_led {x y l : Addr} {o : Obj} {S : Str → Bool} {n c : Nat} {vs : List Value} {Q : Value → Shared → Prop} (F : Fr h₀ L s.heap m) (N : News h₀ L s.heap news) (hx : (x, o) ∈ news) (ho : o.SetObjOf (PySem.strKind prog w) S n) (hb : n < scanBound)
    (hy : (y, boundC x) ∈ news) (hl : (l, W.listOf vs.toArray c) ∈ news)
    (h : ∀ f it h', FiltAt prog w S n f y x it l vs.toArray 0 h' → f ≠ it → y ≠ it → x ≠ it → l ≠ it → L ≠ it → h₀.get? it = none → (∀ p ∈ news, p.1 ≠ it) → Fr h₀ L h' m → News h₀ L h' news → Q (.ref f) { s with heap := h' }) :
    wpAny (model prog w) A (call (.type "filter") [.ref y, .ref l]) Q E s := by
  refine call_filter (items := vs.toArray) ⟨_, (N _ hl).1, rfl, c, rfl⟩ fun h' hf hit hz hk => ?_
  have lt : ∀ {a o}, (a, o) ∈ news → a ≠ s.heap.objs.size := fun hm => Nat.ne_of_lt (Heap.lt_size (N _ hm).1)
  refine h _ _ h' ⟨hf, hk _ _ (N _ hy).1, ?_, hit, ⟨_, hk _ _ (N _ hl).1, rfl, c, rfl⟩⟩ (Nat.succ_ne_self _) (lt hy) (lt hx) (lt hl) (Nat.ne_of_lt (fr_lt F)) (fresh_none F (Nat.le_refl _)) (fun p hp => Nat.ne_of_lt (Heap.lt_size (N _ hp).1)) (F.keeps hk) (N.keepsAll hk)
  obtain ⟨o', es, ep, t, hg, r⟩ := ho.setOf (N _ hx).1 hb
  exact ⟨o', es, ep, t, hk _ _ hg, r⟩
theorem list_filter_led {f y x it l : Addr} {S : Str → Bool} {n : Nat} {vs : List Value} {Q : Value → Shared → Prop} (hh : A.handled = none) (F : Fr h₀ L s.heap m) (N : News h₀ L s.heap news)
    (H : FiltAt prog w S n f y x it l vs.toArray 0 s.heap) (h1 : f ≠ it) (h2 : y ≠ it) (h3 : x ≠ it) (h4 : l ≠ it) (h5 : L ≠ it) (h6 : h₀.get? it = none) (h7 : ∀ p ∈ news, p.1 ≠ it) (hs : AllStr vs) (hz : vs.length ≤ 4096)
    (h : ∀ D c h' tk, Fr h₀ L h' m → News h₀ L h' ((D, W.listOf (vs.filter fun v => S (txtOf v)).toArray c) :: news) → (∀ p ∈ news, p.1 < D) → Q (.ref D) { s with heap := h', toks := tk }) :
    wpAny (model prog w) A (call (.type "list") [.ref f]) Q E s := by
  have W := (walks_filter (prog := prog) (w := w) (A := A.in1.in1) (S := S) (n := n) (e := f) (b := y) (st := x) (it := it) (l := l) (items := vs.toArray) (by simp [hh]) hs h1 h2 h3 h4).toS
  have hle : (vs.filter fun v => S (txtOf v)).length ≤ 4096 := Nat.le_trans (List.length_filter_le _ _) hz
  refine call_list_filt W (fun i s H => by obtain ⟨j, _, H⟩ := H; exact ⟨_, H.1, rfl⟩) ⟨0, rfl, H⟩ (fun b hb => ?_) (by simp) (fun s' acc c hm hD hI => ?_) (Nat.le_trans hle (by decide))
  · simp only [List.mem_cons, List.not_mem_nil, or_false] at hb
    rcases hb with rfl | rfl | rfl | rfl | rfl
    · exact Heap.lt_size H.1
    · exact Heap.lt_size H.2.1
    · obtain ⟨o', es, ep, t, hg, r⟩ := H.2.2.1; exact Heap.lt_size hg
    · obtain ⟨o', hg, r⟩ := H.2.2.2.1; exact Heap.lt_size hg
    · obtain ⟨o', hg, r⟩ := H.2.2.2.2; exact Heap.lt_size hg
  obtain ⟨h', g', d', tk', os'⟩ := s'
  have eg : g' = s.gens := hm.gens
  have ed : d' = s.drawn := hm.drawn
  have eo : os' = s.os := hm.os
  subst eg; subst ed; subst eo
  have hacc : acc.toList = vs.filter fun v => S (txtOf v) := by
    refine List.ext_getElem? fun i => ?_
    cases e : acc.toList[i]? with
    | none =>
      rw [eq_comm, List.getElem?_eq_none_iff]
      have := List.getElem?_eq_none_iff.mp e
      rw [Array.length_toList, hI.1] at this
      exact this
    | some v => exact (hI.2 i v (by rw [← e, Array.getElem?_toList])).symm
  have hk : ∀ b o, b ≠ it → s.heap.get? b = some o → h'.get? b = some o := fun b o hb e =>
    hm.heap b o (by simp only [List.mem_cons, List.not_mem_nil, or_false, not_or]; exact ⟨Nat.ne_of_lt (Heap.lt_size e), hb⟩) (Heap.get?_push_of_some _ e)
  have h0 : ∀ b o, h₀.get? b = some o → b ≠ it := fun b o e z => by rw [z, h6] at e; exact nomatch e
  refine h _ c h' tk' ⟨F.ns.at' fun o' e => hk L o' h5 e, fun b o' e => hk b o' (h0 b o' e) (F.keep b o' e), F.above⟩ (fun p hp => ?_) (fun p hp => Heap.lt_size (N p hp).1)
  rcases List.mem_cons.mp hp with rfl | hp
  · refine ⟨?_, Nat.ne_of_gt (fr_lt F), fresh_none F (Nat.le_refl _)⟩
    rw [← hacc, Array.toArray_toList]; exact hD
  · exact ⟨hk _ _ (h7 p hp) (N p hp).1, (N p hp).2.1, (N p hp).2.2⟩
end
end
end

section
open PySem PySem.W PyProof.Rows
section
local macro_rules | `(tactic| k_mem) => `(tactic| assumption)
local macro_rules | `(tactic| k_mem) => `(tactic| ((repeat refine List.mem_cons_of_mem _ ?_); assumption))
theorem isl {h₀ h : Heap} {L l : Addr} {news : List (Addr × Obj)} {arr : Array Value} {c : Nat} (N : News h₀ L h news) (hm : (l, W.listOf arr c) ∈ news) : h.IsList l arr := ⟨_, (N _ hm).1, rfl, c, rfl⟩
theorem merge_c {w : World} {p : Program} {loose : List Str} {mean : ExcName → Option Value} {mg mb : Str → Option Value} {news : List (Addr × Obj)} {r1 r2 : List Row} {v1 v2 : Value} (hb1 : BookIn w p loose mean mg mb news v1 r1) (hb2 : BookIn w p loose mean mg mb news v2 r2) (hn1 : r1.length ≤ 64) (hn2 : r2.length ≤ 64) :
   ClaimN Challenge.rw_nb0157_01.row.prog w (Mine.hd.heap_39 w.params) p loose mean mg mb 63 4 32 news [v1, v2] (fun v tl => BookIn w p loose mean mg mb (tl ++ news) v (r1 ++ r2)) := by
  obtain ⟨x1, d1, a1, b1, t11, t12, t13, t14, us1, k11, k12, rfl, m11, m12, m13, m14, hA1⟩ := hb1
  obtain ⟨x2, d2, a2, b2, t21, t22, t23, t24, us2, k21, k22, rfl, m21, m22, m23, m24, hA2⟩ := hb2
  intro dp un gd cn cs ad ccd cl outer A₀ base h₀ L m s Q E hB hF hX hN hT hcs hdp hun hret
  refine wpAny_call ?_
  k_dflt cell_enter
  (repeat' (first | (k_unfold; first | walk_at "Seq" | (try dsimp only)) | ((fail_if_success ((first | with_reducible show wpAny _ _ (call (Value.type "set") _) _ _ _ | with_reducible show wpAny _ _ (call (Value.type "filter") _) _ _ _ | with_reducible show wpAny _ _ (binaryOp Operator.Add (Value.ref _) (Value.ref _)) _ _ _ | with_reducible show wpAny _ _ (getAttr _ (Str.ofString "__contains__") _) _ _ _ | with_reducible show wpAny _ _ (exec (PySem.Stmt.While _ _ _ _) _) _ _ _ | with_reducible show wpAny _ _ (exec (PySem.Stmt.For _ _ _ _ _) _) _ _ _ | with_reducible show wpAny _ _ (pyIter _) _ _ _ | with_reducible show wpAny _ _ (call (Value.type "list") _) _ _ _ | with_reducible show wpAny _ _ (call (Value.builtin "str.join") _) _ _ _ | with_reducible show wpAny _ _ (eval (PySem.Expr.ListComp _ [PySem.Comprehension.mk (PySem.Expr.Tuple _ _ _) _ _ _] _ _) _) _ _ _ | with_reducible show LCg.CompSrc _ _ _ _ _ _ _ _ _ _ _ _ _ _ | with_reducible show wpAny _ _ (execs (PySem.Stmt.If (PySem.Expr.Compare _ [CmpOp.Lt] _ _) [PySem.Stmt.Assign [PySem.Expr.Tuple _ _ _] _ _] _ _ :: _) _) _ _ _))); first | (k_end; wrow_close) | walk1 | (dsimp only; walk1) | (leave1; walk_say "STEP leave1"; try dsimp only) | fail "no step")))
  refine set_led (vs := []) (by rfl) (by k_asm) (by k_asm) (by k_mem) (fun _ h => nomatch h) (by decide) ?_
  intro xs os ns h1 tk1 F1 N1 l1 hso hsb
  (try k_lt l1); (try dsimp only); (try k_sweep)
  (repeat' (first | (k_unfold; first | walk_at "Seq" | (try dsimp only)) | ((fail_if_success ((first | with_reducible show wpAny _ _ (call (Value.type "set") _) _ _ _ | with_reducible show wpAny _ _ (call (Value.type "filter") _) _ _ _ | with_reducible show wpAny _ _ (binaryOp Operator.Add (Value.ref _) (Value.ref _)) _ _ _ | with_reducible show wpAny _ _ (getAttr _ (Str.ofString "__contains__") _) _ _ _ | with_reducible show wpAny _ _ (exec (PySem.Stmt.While _ _ _ _) _) _ _ _ | with_reducible show wpAny _ _ (exec (PySem.Stmt.For _ _ _ _ _) _) _ _ _ | with_reducible show wpAny _ _ (pyIter _) _ _ _ | with_reducible show wpAny _ _ (call (Value.type "list") _) _ _ _ | with_reducible show wpAny _ _ (call (Value.builtin "str.join") _) _ _ _ | with_reducible show wpAny _ _ (eval (PySem.Expr.ListComp _ [PySem.Comprehension.mk (PySem.Expr.Tuple _ _ _) _ _ _] _ _) _) _ _ _ | with_reducible show LCg.CompSrc _ _ _ _ _ _ _ _ _ _ _ _ _ _ | with_reducible show wpAny _ _ (execs (PySem.Stmt.If (PySem.Expr.Compare _ [CmpOp.Lt] _ _) [PySem.Stmt.Assign [PySem.Expr.Tuple _ _ _] _ _] _ _ :: _) _) _ _ _))); first | (k_end; wrow_close) | walk1 | (dsimp only; walk1) | (leave1; walk_say "STEP leave1"; try dsimp only) | fail "no step")))
  refine contains_led (by k_asm) (by k_asm) (List.mem_cons_self) hso hsb ?_
  intro yb h2 F2 N2 l2
  (try k_lt l2); (try dsimp only); (try k_sweep)
  (repeat' (first | (k_unfold; first | walk_at "Seq" | (try dsimp only)) | ((fail_if_success ((first | with_reducible show wpAny _ _ (call (Value.type "set") _) _ _ _ | with_reducible show wpAny _ _ (call (Value.type "filter") _) _ _ _ | with_reducible show wpAny _ _ (binaryOp Operator.Add (Value.ref _) (Value.ref _)) _ _ _ | with_reducible show wpAny _ _ (getAttr _ (Str.ofString "__contains__") _) _ _ _ | with_reducible show wpAny _ _ (exec (PySem.Stmt.While _ _ _ _) _) _ _ _ | with_reducible show wpAny _ _ (exec (PySem.Stmt.For _ _ _ _ _) _) _ _ _ | with_reducible show wpAny _ _ (pyIter _) _ _ _ | with_reducible show wpAny _ _ (call (Value.type "list") _) _ _ _ | with_reducible show wpAny _ _ (call (Value.builtin "str.join") _) _ _ _ | with_reducible show wpAny _ _ (eval (PySem.Expr.ListComp _ [PySem.Comprehension.mk (PySem.Expr.Tuple _ _ _) _ _ _] _ _) _) _ _ _ | with_reducible show LCg.CompSrc _ _ _ _ _ _ _ _ _ _ _ _ _ _ | with_reducible show wpAny _ _ (execs (PySem.Stmt.If (PySem.Expr.Compare _ [CmpOp.Lt] _ _) [PySem.Stmt.Assign [PySem.Expr.Tuple _ _ _] _ _] _ _ :: _) _) _ _ _))); first | (k_end; wrow_close) | walk1 | (dsimp only; walk1) | (leave1; walk_say "STEP leave1"; try dsimp only) | fail "no step")))
  refine filter_led (vs := []) (by k_asm) (by k_asm) (List.mem_cons_of_mem _ List.mem_cons_self) hso hsb List.mem_cons_self (by k_mem) ?_
  intro fl it h3 H3 e1 e2 e3 e4 e5 e6 e7 F3 N3
  (try dsimp only); (try k_sweep)
  (repeat' (first | (k_unfold; first | walk_at "Seq" | (try dsimp only)) | ((fail_if_success ((first | with_reducible show wpAny _ _ (call (Value.type "set") _) _ _ _ | with_reducible show wpAny _ _ (call (Value.type "filter") _) _ _ _ | with_reducible show wpAny _ _ (binaryOp Operator.Add (Value.ref _) (Value.ref _)) _ _ _ | with_reducible show wpAny _ _ (getAttr _ (Str.ofString "__contains__") _) _ _ _ | with_reducible show wpAny _ _ (exec (PySem.Stmt.While _ _ _ _) _) _ _ _ | with_reducible show wpAny _ _ (exec (PySem.Stmt.For _ _ _ _ _) _) _ _ _ | with_reducible show wpAny _ _ (pyIter _) _ _ _ | with_reducible show wpAny _ _ (call (Value.type "list") _) _ _ _ | with_reducible show wpAny _ _ (call (Value.builtin "str.join") _) _ _ _ | with_reducible show wpAny _ _ (eval (PySem.Expr.ListComp _ [PySem.Comprehension.mk (PySem.Expr.Tuple _ _ _) _ _ _] _ _) _) _ _ _ | with_reducible show LCg.CompSrc _ _ _ _ _ _ _ _ _ _ _ _ _ _ | with_reducible show wpAny _ _ (execs (PySem.Stmt.If (PySem.Expr.Compare _ [CmpOp.Lt] _ _) [PySem.Stmt.Assign [PySem.Expr.Tuple _ _ _] _ _] _ _ :: _) _) _ _ _))); first | (k_end; wrow_close) | walk1 | (dsimp only; walk1) | (leave1; walk_say "STEP leave1"; try dsimp only) | fail "no step")))
  refine list_filter_led (vs := []) (by rfl) (by k_asm) (by k_asm) H3 e1 e2 e3 e4 e5 e6 e7 (fun _ h => nomatch h) (by decide) ?_
  intro D c4 h4 tk4 F4 N4 l4
  clear H3 e1 e2 e3 e4 e5 e6 e7
  (try k_lt l4); (try dsimp only); (try k_sweep)
  (repeat' (first | (k_unfold; first | walk_at "Seq" | (try dsimp only)) | ((fail_if_success ((first | with_reducible show wpAny _ _ (call (Value.type "set") _) _ _ _ | with_reducible show wpAny _ _ (call (Value.type "filter") _) _ _ _ | with_reducible show wpAny _ _ (binaryOp Operator.Add (Value.ref _) (Value.ref _)) _ _ _ | with_reducible show wpAny _ _ (getAttr _ (Str.ofString "__contains__") _) _ _ _ | with_reducible show wpAny _ _ (exec (PySem.Stmt.While _ _ _ _) _) _ _ _ | with_reducible show wpAny _ _ (exec (PySem.Stmt.For _ _ _ _ _) _) _ _ _ | with_reducible show wpAny _ _ (pyIter _) _ _ _ | with_reducible show wpAny _ _ (call (Value.type "list") _) _ _ _ | with_reducible show wpAny _ _ (call (Value.builtin "str.join") _) _ _ _ | with_reducible show wpAny _ _ (eval (PySem.Expr.ListComp _ [PySem.Comprehension.mk (PySem.Expr.Tuple _ _ _) _ _ _] _ _) _) _ _ _ | with_reducible show LCg.CompSrc _ _ _ _ _ _ _ _ _ _ _ _ _ _ | with_reducible show wpAny _ _ (execs (PySem.Stmt.If (PySem.Expr.Compare _ [CmpOp.Lt] _ _) [PySem.Stmt.Assign [PySem.Expr.Tuple _ _ _] _ _] _ _ :: _) _) _ _ _))); first | (k_end; wrow_close) | walk1 | (dsimp only; walk1) | (leave1; walk_say "STEP leave1"; try dsimp only) | fail "no step")))
  have hu1 := hA1.length
  have hu2 := hA2.length
  refine kmk_add_lit (its := us1.toArray) (its2 := us2.toArray) (zs := us1 ++ us2) (by k_asm) (by k_asm) (isl (by k_asm) (show (b1, W.listOf us1.toArray k12) ∈ _ by k_mem)) (isl (by k_asm) (show (b2, W.listOf us2.toArray k22) ∈ _ by k_mem)) rfl ?_ (by show us1.length + us2.length ≤ sizeLine; simp only [sizeLine_eq]; omega)
  intro D5 h5 F5 N5 l5
  (try k_lt l5); (try dsimp only); (try k_sweep)
  (repeat' (first | (k_unfold; first | walk_at "Seq" | (try dsimp only)) | ((fail_if_success ((first | with_reducible show wpAny _ _ (call (Value.type "set") _) _ _ _ | with_reducible show wpAny _ _ (call (Value.type "filter") _) _ _ _ | with_reducible show wpAny _ _ (binaryOp Operator.Add (Value.ref _) (Value.ref _)) _ _ _ | with_reducible show wpAny _ _ (getAttr _ (Str.ofString "__contains__") _) _ _ _ | with_reducible show wpAny _ _ (exec (PySem.Stmt.While _ _ _ _) _) _ _ _ | with_reducible show wpAny _ _ (exec (PySem.Stmt.For _ _ _ _ _) _) _ _ _ | with_reducible show wpAny _ _ (pyIter _) _ _ _ | with_reducible show wpAny _ _ (call (Value.type "list") _) _ _ _ | with_reducible show wpAny _ _ (call (Value.builtin "str.join") _) _ _ _ | with_reducible show wpAny _ _ (eval (PySem.Expr.ListComp _ [PySem.Comprehension.mk (PySem.Expr.Tuple _ _ _) _ _ _] _ _) _) _ _ _ | with_reducible show LCg.CompSrc _ _ _ _ _ _ _ _ _ _ _ _ _ _ | with_reducible show wpAny _ _ (execs (PySem.Stmt.If (PySem.Expr.Compare _ [CmpOp.Lt] _ _) [PySem.Stmt.Assign [PySem.Expr.Tuple _ _ _] _ _] _ _ :: _) _) _ _ _))); first | (k_end; wrow_close) | walk1 | (dsimp only; walk1) | (leave1; walk_say "STEP leave1"; try dsimp only) | fail "no step")))
  refine hret (.ref _) [_, _, _, _, _, _, _, _] _ _ ?P (by k_asm) (by k_asm) ?O
  case P =>
    exact ⟨_, _, _, _, _, _, _, _, us1 ++ us2, _, _, rfl,
      List.mem_cons_of_mem _ (List.mem_cons_of_mem _ (List.mem_cons_of_mem _ (List.mem_cons_of_mem _ (List.mem_cons_of_mem _ (List.mem_cons_of_mem _ List.mem_cons_self))))),
      List.mem_cons_of_mem _ (List.mem_cons_of_mem _ (List.mem_cons_of_mem _ (List.mem_cons_of_mem _ (List.mem_cons_of_mem _ (List.mem_cons_of_mem _ (List.mem_cons_of_mem _ List.mem_cons_self)))))),
      List.mem_cons_of_mem _ List.mem_cons_self, List.mem_cons_self,
      (hA1.append hA2).mono fun a b h => h.mono fun q hq => List.mem_append_right _ hq⟩
  case O =>
    rename (∀ p ∈ news, p.1 < _) => hd0
    rename (_ ∧ _ ∧ AllLt _ news) => q1
    rename (_ ∧ _ ∧ _ ∧ AllLt _ news) => q2
    intro p hp q hq
    simp only [List.mem_cons, List.not_mem_nil, or_false] at hq
    rcases hq with rfl | rfl | rfl | rfl | rfl | rfl | rfl | rfl
    · exact Nat.lt_trans (hd0 p hp) l5.2.2.2.2.2.2.1
    · exact Nat.lt_trans (hd0 p hp) l4.2.2.2.2.2.1
    · exact Nat.lt_trans (hd0 p hp) l2.2.2.2.2.1
    · exact Nat.lt_trans (hd0 p hp) l1.2.2.2.1
    · exact Nat.lt_trans (hd0 p hp) q2.2.2.1
    · exact Nat.lt_trans (hd0 p hp) q1.2.1
    · exact Nat.lt_trans (hd0 p hp) (by assumption)
    · exact hd0 p hp
end
end

section
open PySem PySem.W PyProof.Rows
section
section
variable {prog : Program} {w : World} {A : Around} {h₀ : Heap} {L : Addr} {m : Str → Option Value} {env : Env} {ct elt : Expr} {x : Str} {scope : Scope} {cl : List (Str × Addr)} {s : Shared} {S : List (Addr × Obj) → Prop} {P : Nat → Value → Prop} {Fin : List Value → List (Addr × Obj) → Prop}
/-- a comprehension with a test by a word over what it has made so far -/
theorem comp_restT {n : Nat} {news : List (Addr × Obj)} (J : Nat → List Value → List (Addr × Obj) → Prop) (h0 : J 0 [] news)
    (turn : ∀ (i : Nat) (v : Value) (I : Addr) (oI : Obj) (C : Addr) (oC : Obj) (D : Addr) (m₂ : Str → Option Value) (ys : List Value) (nw : List (Addr × Obj)) (h : Heap) (tk : Nat) (E' : Value → Shared → Prop), i < n → P i v → J i ys nw → LCg.NsObj oC m₂ → m₂ x = some v → Fr h₀ L h m →
      News h₀ L h ((I, oI) :: (C, oC) :: (D, LCg.lst ys) :: nw) → LCg.Off3 I C D nw → ((@Ne Nat I C) ∧ (@Ne Nat I D) ∧ (@Ne Nat C D)) →
      wpAny (model prog w) A (isTrue ct (compEnvC scope cl C env) (eval ct (compEnvC scope cl C env))) (fun b s' => if b = true then wpAny (model prog w) A (eval elt (compEnvC scope cl C env)) (LCg.CompEnd h₀ L m { s with heap := h, toks := tk } I oI C oC D (LCg.lst ys) S (fun y nw' => J (i + 1) (ys ++ [y]) nw')) E' s'
        else LCg.CompEnd h₀ L m { s with heap := h, toks := tk } I oI C oC D (LCg.lst ys) S (fun _ nw' => J (i + 1) ys nw') Value.none s') E' { s with heap := h, toks := tk })
    (fin : ∀ ys nw, J n ys nw → Fin ys nw) : LCt.CompRestT prog w A h₀ L m env ct elt x scope cl s S P Fin n 0 [] news := by
  have key : ∀ (j i : Nat) (ys : List Value) (nw : List (Addr × Obj)), i + j = n → J i ys nw → LCt.CompRestT prog w A h₀ L m env ct elt x scope cl s S P Fin j i ys nw := by
    intro j
    induction j with
    | zero =>
      intro i ys nw hi hJ
      have e : i = n := by omega
      subst e
      exact LCt.CompRestT.zero (fin ys nw hJ)
    | succ j ih =>
      intro i ys nw hi hJ
      refine LCt.CompRestT.succ ?_
      intro v I oI C oC D m₂ h tk E' hv hC hx F N off ne
      refine wpAny_mono (turn i v I oI C oC D m₂ ys nw h tk E' (by omega) hv hJ hC hx F N off ne) (fun b s₂ hq => ?_) fun _ _ e => e
      cases b with
      | true =>
        simp only [if_true] at hq ⊢
        refine wpAny_mono hq (fun y s₃ hr => ?_) fun _ _ e => e
        obtain ⟨h', tk', nw', e, F', N', off', hS, hJ'⟩ := hr
        exact ⟨h', tk', nw', e, F', N', off', hS, ih (i + 1) _ _ (by omega) hJ'⟩
      | false =>
        simp only [Bool.false_eq_true, if_false] at hq ⊢
        obtain ⟨h', tk', nw', e, F', N', off', hS, hJ'⟩ := hq
        exact ⟨h', tk', nw', e, F', N', off', hS, ih (i + 1) _ _ (by omega) hJ'⟩
  exact key n 0 [] news (by omega) h0
end
section
variable {prog : Program} {w : World} {A : Around} {E : Value → Shared → Prop} {s : Shared} {h₀ : Heap} {L : Addr} {news : List (Addr × Obj)}
/-- an item of a list in the ledger -/
theorem item_led {value slice : PySem.Expr} {l : Addr} {arr : Array Value} {c : Nat} {k : Int} {u : Tok} {v : Value} {Q : Value → Shared → Prop}
    (N : News h₀ L s.heap news) (hm : (l, W.listOf arr c) ∈ news) (h0 : 0 ≤ k) (hhi : k < 2 ^ 63) (hx : arr[k.toNat]? = some v) (h : Q v s)
    (hs : subscripted slice false (.ref l) (.int k u) = operate [.ref l, .int k u] (getItem (.ref l) (.int k u)) := by with_unfolding_all rfl) :
    wpAny (model prog w) A (subscriptTail value slice (.ref l) (.int k u)) Q E s :=
  have hl : s.heap.IsList l arr := ⟨_, (N _ hm).1, rfl, _, rfl⟩
  tail_any hl.typeIs slot_list_getitem.lookup (wpAny_getItem_list hl h0 hhi (by simpa using hx) h) hs
end
/-- what a call of f upon vs comes to: it hands back something that it has made; nothing said of where that lies -/
noncomputable def ClaimM (prog : Program) (w : World) (K : Frag) (p : Program) (loose : List Str) (mean : ExcName → Option Value) (mg mb : Str → Option Value) (f : Addr) (D U : Nat) (news : List (Addr × Obj)) (vs : List Value) (R : Value → List (Addr × Obj) → Prop) : Prop :=
  ∀ (dp un : Nat) (gd : Option (List Code)) (cn : Str) (cs : Scope) (a : Addr) (ccd : Value) (cl : List (Str × Addr)) (outer : List Env) (A₀ : Around) (base h₀ : Heap) (L : Addr) (m : Str → Option Value) (s : Shared) (Q E : Value → Shared → Prop),
    Below A₀ base outer h₀ → Fr h₀ L s.heap m → K.In h₀ → News h₀ L s.heap news → Top p loose mean mg mb h₀ → cs.kind = .function →
    dp + D < recursionLimit → un + U < cLine → (∀ (v : Value) (tl : List (Addr × Obj)) (h' : Heap) (tk' : Nat), R v (tl ++ news) → Fr h₀ L h' m → News h₀ L h' (tl ++ news) → Q v { s with heap := h', toks := tk' }) →
      wpAny (model prog w) (ktrTop dp un gd cn cs L a ccd cl outer) (call (.ref f) vs) Q E s
theorem ClaimM.use {prog : Program} {w : World} {K : Frag} {p : Program} {loose : List Str} {mean : ExcName → Option Value} {mg mb : Str → Option Value} {f : Addr} {D U : Nat} {news : List (Addr × Obj)} {vs : List Value} {R : Value → List (Addr × Obj) → Prop}
    {dp un : Nat} {gd : Option (List Code)} {cn : Str} {cs : Scope} {a : Addr} {ccd : Value} {cl : List (Str × Addr)} {outer : List Env} {A₀ : Around} {base h₀ : Heap} {L : Addr} {m : Str → Option Value} {s : Shared} {Q E : Value → Shared → Prop}
    (hB : Below A₀ base outer h₀) (hF : Fr h₀ L s.heap m) (hX : K.In h₀) (hN : News h₀ L s.heap news) (hT : Top p loose mean mg mb h₀) (hc : cs.kind = .function)
    (C : ClaimM prog w K p loose mean mg mb f D U news vs R) (hd : dp + D < recursionLimit) (hu : un + U < cLine)
    (ret : ∀ (v : Value) (tl : List (Addr × Obj)) (h' : Heap) (tk' : Nat), R v (tl ++ news) → Fr h₀ L h' m → News h₀ L h' (tl ++ news) → Q v { s with heap := h', toks := tk' }) :
    wpAny (model prog w) (ktrTop dp un gd cn cs L a ccd cl outer) (call (.ref f) vs) Q E s := C _ _ _ _ _ _ _ _ _ _ _ _ _ _ _ _ _ hB hF hX hN hT hc hd hu ret
end
end

section
open PySem PySem.W PyProof.Rows
section
local macro_rules | `(tactic| k_mem) => `(tactic| assumption)
local macro_rules | `(tactic| walk_at "eval Name") => `(tactic| (k_here; (with_reducible show wpAny _ _ (eval (Expr.Name _ _) (compEnvC _ _ _ _)) _ _ _); k_dflt (first
  | refine LCgL.ld_own (by k_asm) (List.mem_cons_of_mem _ List.mem_cons_self) (by assumption) (by assumption) ?_
  | refine LCgL.ld_global (by k_asm) (by k_asm) (by k_asm) (by k_is) ?_
  | refine lcf_free (by k_asm) rfl (List.mem_cons_of_mem _ (List.mem_cons_of_mem _ (List.mem_cons_of_mem _ (by assumption)))) (by assumption) ?_ rfl rfl)))
/-- what _law_reaches pairs a row with -/
noncomputable def pairF (nm : List Nat) (r : Row) : Int × Bool := (r.span + 1 - priceF r.word nm, r.al)
noncomputable def PairIn (nw : List (Addr × Obj)) (v : Value) (q : Int × Bool) : Prop :=
  ∃ (a : Addr) (t : Tok), v = .ref a ∧ (a, ({ cls := .type "tuple", data := .seq #[.int q.1 t, .bool q.2] } : Obj)) ∈ nw
theorem PairIn.mono {nw nw' : List (Addr × Obj)} {v : Value} {r : Int × Bool} (h : PairIn nw v r) (k : ∀ p ∈ nw, p ∈ nw') : PairIn nw' v r := let ⟨a, t1, e, m⟩ := h; ⟨a, t1, e, k _ m⟩
noncomputable def reachF (nm : List Nat) (rs : List Row) : List (Int × Bool) := (rs.map (pairF nm)).filter fun q => decide (0 < q.1)
noncomputable def ReachIn (nw : List (Addr × Obj)) (v : Value) (qs : List (Int × Bool)) : Prop :=
  ∃ (l : Addr) (vs : List Value) (ep : Nat), v = .ref l ∧ (l, W.listOf vs.toArray ep) ∈ nw ∧ All2 (PairIn nw) vs qs
noncomputable def LeftJ (nm : List Nat) (rest : List (Addr × Obj)) (rs : List Row) (i : Nat) (ys : List Value) (nw : List (Addr × Obj)) : Prop :=
  ∃ tl, nw = tl ++ rest ∧ All2 (PairIn nw) ys ((rs.take i).map (pairF nm)) ∧ (∀ p ∈ rest, ∀ q ∈ tl, p.1 < q.1)
theorem name_obj {h₀ h : Heap} {L a : Addr} {o : Obj} {rest : List (Addr × Obj)} {G : Prop} (N : News h₀ L h ((a, o) :: rest)) (o' : Obj) (e : o' = o) (k : News h₀ L h ((a, o') :: rest) → G) : G := k (e ▸ N)
theorem app_of {α : Type} {nw tl news : List α} {c : α} (h : nw = tl ++ c :: news) : ∃ TL, nw = TL ++ news := ⟨tl ++ [c], by simp [h]⟩
theorem reach_c {w : World} {p : Program} {loose : List Str} {mean : ExcName → Option Value} {mg mb : Str → Option Value} {news : List (Addr × Obj)} {rs : List Row} {l : Addr} {vs : List Value} {ep : Nat} {nm : List Nat} {t : Tok} {rv : Value} (erv : rv = .ref l) (hl : (l, W.listOf vs.toArray ep) ∈ news) (hr : All2 (RowIn news) vs rs) (hn : rs.length ≤ 64) (hle : ∀ r ∈ rs, r.word.length ≤ 3) (hnm : nm.length ≤ 64) :
   ClaimM Challenge.rw_nb0157_01.row.prog w (Mine.hd.heap_39 w.params) p loose mean mg mb 120 8 64 news [rv, .str ⟨nm.toArray⟩ t] (fun v nw => ReachIn nw v (reachF nm rs)) := by
  subst erv
  intro dp un gd cn cs ad ccd cl outer A₀ base h₀ L m s Q E hB hF hX hN hT hcs hdp hun hret
  refine wpAny_call ?_
  k_dflt (((refine' code_defC ?k1 ?k2 ?k3 ?k4 ?k5 ?kA ?kF ?kK ?k6 ?k7 ?k8 ?k9 ?kB ?kD ?_ ?c2 ?c3 ?c4; (case kA => exact rfl); (case kF => exact rfl); (case kK => assumption); (case k1 => k_asm); (case k2 => k_asm); (case k3 => k_asm); (case k4 => k_asm); (case k5 => k_asm); (case k6 => k_is); (case k7 => k_is); (case k8 => ktr_room); (case k9 => exact BindsTo.of_eq rfl); (case kB => exact rfl); (case kD => decide +kernel); (case c2 => exact rfl); (case c3 => exact rfl); (case c4 => exact rfl); k_whole; intro g' L' h' tk' cells' FG' F' N' Y' B' X' T' l1; (try k_lt l1); k_cells Y'; (try simp only [List.cons_append, List.nil_append] at N'); (try dsimp only); (try k_lift B'); (try k_fold))))
  walk1
  refine assign3 (LeftJ nm _ rs) ?hLe (by k_asm) (by k_asm) ⟨[], rfl, .nil, fun _ _ _ h => nomatch h⟩ (ax := l) (its := vs) (ep := ep) ?ev ?src (by rw [sizeLine_eq, hr.length]; omega) ?turn ?fin
  case hLe => rfl
  case ev =>
    walk1
    exact ⟨rfl, rfl⟩
  case src =>
    rintro i ys nw ⟨tl, rfl, _⟩
    exact List.mem_append_right _ (List.mem_cons_of_mem _ hl)
  case turn =>
    rintro i v ys nw hi hv hlen ⟨tl, enw, hA, ho⟩
    have hcm := (enw ▸ List.mem_append_right _ List.mem_cons_self : _ ∈ nw)
    have hsubn : ∀ q ∈ news, q ∈ nw := fun q hq => enw ▸ List.mem_append_right _ (List.mem_cons_of_mem _ hq)
    obtain ⟨r, hri, t1, t2, t3, rfl, hmt⟩ := hr.get hv
    have hrm : r ∈ rs := List.mem_of_getElem? hri
    refine ⟨t1, _, _, _, _, rfl, hsubn _ hmt, ?_⟩
    intro I oI C oC Da m₂ h2 tk2 E' hC hx1 hx2 hx3 F2 N2 off ne
    have hdn := (by assumption : _ = Data.cell _).trans (show _ = Data.cell (some (.str ⟨nm.toArray⟩ t)) from rfl)
    dsimp only at *
    (repeat' (first | (k_unfold; first | walk_at "Seq" | (try dsimp only)) | ((fail_if_success ((first | with_reducible show wpAny _ _ (call (Value.ref 115) _) _ _ _ | with_reducible show wpAny _ _ (eval (PySem.Expr.ListComp _ [PySem.Comprehension.mk _ _ [_] _] _ _) _) _ _ _ | with_reducible show wpAny _ _ (exec (PySem.Stmt.While _ _ _ _) _) _ _ _ | with_reducible show wpAny _ _ (exec (PySem.Stmt.For _ _ _ _ _) _) _ _ _ | with_reducible show wpAny _ _ (pyIter _) _ _ _ | with_reducible show wpAny _ _ (call (Value.type "list") _) _ _ _ | with_reducible show wpAny _ _ (call (Value.builtin "str.join") _) _ _ _ | with_reducible show wpAny _ _ (eval (PySem.Expr.ListComp _ [PySem.Comprehension.mk (PySem.Expr.Tuple _ _ _) _ _ _] _ _) _) _ _ _ | with_reducible show LCg.CompSrc _ _ _ _ _ _ _ _ _ _ _ _ _ _ | with_reducible show wpAny _ _ (execs (PySem.Stmt.If (PySem.Expr.Compare _ [CmpOp.Lt] _ _) [PySem.Stmt.Assign [PySem.Expr.Tuple _ _ _] _ _] _ _ :: _) _) _ _ _))); first | (k_end; wrow_close) | walk1 | (dsimp only; walk1) | (leave1; walk_say "STEP leave1"; try dsimp only) | fail "no step")))
    have hlr := hle r hrm
    refine' Claim.use ?k1 ?k2 ?k3 ?k4 ?k5 ?kK (price_c (by omega) (by omega)) ?kd ?ku ?_
    case k1 => k_asm
    case k2 => k_asm
    case k3 => k_asm
    case k4 => exact N2
    case k5 => k_asm
    case kK => rfl
    case kd => ktr_room
    case ku => ktr_units
    intro t9 h9 tk9 F9 N9
    dsimp only
    k_sweep
    (repeat' (first | (k_unfold; first | walk_at "Seq" | (try dsimp only)) | ((fail_if_success ((first | with_reducible show wpAny _ _ (call (Value.ref 115) _) _ _ _ | with_reducible show wpAny _ _ (eval (PySem.Expr.ListComp _ [PySem.Comprehension.mk _ _ [_] _] _ _) _) _ _ _ | with_reducible show wpAny _ _ (exec (PySem.Stmt.While _ _ _ _) _) _ _ _ | with_reducible show wpAny _ _ (exec (PySem.Stmt.For _ _ _ _ _) _) _ _ _ | with_reducible show wpAny _ _ (pyIter _) _ _ _ | with_reducible show wpAny _ _ (call (Value.type "list") _) _ _ _ | with_reducible show wpAny _ _ (call (Value.builtin "str.join") _) _ _ _ | with_reducible show wpAny _ _ (eval (PySem.Expr.ListComp _ [PySem.Comprehension.mk (PySem.Expr.Tuple _ _ _) _ _ _] _ _) _) _ _ _ | with_reducible show LCg.CompSrc _ _ _ _ _ _ _ _ _ _ _ _ _ _ | with_reducible show wpAny _ _ (execs (PySem.Stmt.If (PySem.Expr.Compare _ [CmpOp.Lt] _ _) [PySem.Stmt.Assign [PySem.Expr.Tuple _ _ _] _ _] _ _ :: _) _) _ _ _))); first | (k_end; wrow_close) | walk1 | (dsimp only; walk1) | (leave1; walk_say "STEP leave1"; try dsimp only) | fail "no step")))
    refine name_head (show News _ _ _ ((_, _) :: (I, oI) :: (C, oC) :: (Da, LCg.lst ys) :: nw) by k_asm) ?_
    intro d ed
    subst ed
    have off' := off.mem
    have hord := (by assumption : _ ∧ _ ∧ _ ∧ AllLt d nw)
    obtain ⟨od, eod⟩ : ∃ o : Obj, o = { cls := .type "tuple", data := .seq #[.int (r.span + 1 - priceF r.word nm) tk9, .bool r.al] } := ⟨_, rfl⟩
    refine name_obj (show News _ _ _ ((d, _) :: (I, oI) :: (C, oC) :: (Da, LCg.lst ys) :: nw) by k_asm) od eod ?_
    intro NN
    refine LCg.CompEnd.intro (by k_asm) NN ((d, od) :: nw) ?sub ?off trivial ⟨(d, od) :: tl, by rw [enw]; rfl, ?all, ?ord⟩
    case sub =>
      intro q hq
      simp only [List.mem_cons] at hq ⊢
      rcases hq with h | h | h | h | h
      · exact .inr (.inl h)
      · exact .inr (.inr (.inl h))
      · exact .inr (.inr (.inr (.inl h)))
      · exact .inl h
      · exact .inr (.inr (.inr (.inr h)))
    case off =>
      refine LCg.Off3.of fun q hq => ?_
      rcases List.mem_cons.mp hq with rfl | hq
      · exact ⟨fun e => Nat.ne_of_lt hord.1 e.symm, fun e => Nat.ne_of_lt hord.2.1 e.symm, fun e => Nat.ne_of_lt hord.2.2.1 e.symm⟩
      · exact off' q hq
    case all =>
      rw [List.take_add_one, hri, List.map_append]
      exact (hA.mono fun a b h => h.mono fun q hq => List.mem_cons_of_mem _ hq).snoc ⟨d, tk9, rfl, by rw [eod]; exact List.mem_cons_self⟩
    case ord =>
      intro q hq q' hq'
      rcases List.mem_cons.mp hq' with rfl | hq'
      · exact ktn_ltOf hord.2.2.2 q (enw ▸ List.mem_append_right _ hq)
      · exact ho q hq q' hq'
  case fin =>
    rintro Da ys nw h2 tk2 hyl ⟨tl, enw, hA, ho⟩ F2 N2 o1
    dsimp only at *
    k_sweep
    (repeat' (first | (k_unfold; first | walk_at "Seq" | (try dsimp only)) | ((fail_if_success ((first | with_reducible show wpAny _ _ (call (Value.ref 115) _) _ _ _ | with_reducible show wpAny _ _ (eval (PySem.Expr.ListComp _ [PySem.Comprehension.mk _ _ [_] _] _ _) _) _ _ _ | with_reducible show wpAny _ _ (exec (PySem.Stmt.While _ _ _ _) _) _ _ _ | with_reducible show wpAny _ _ (exec (PySem.Stmt.For _ _ _ _ _) _) _ _ _ | with_reducible show wpAny _ _ (pyIter _) _ _ _ | with_reducible show wpAny _ _ (call (Value.type "list") _) _ _ _ | with_reducible show wpAny _ _ (call (Value.builtin "str.join") _) _ _ _ | with_reducible show wpAny _ _ (eval (PySem.Expr.ListComp _ [PySem.Comprehension.mk (PySem.Expr.Tuple _ _ _) _ _ _] _ _) _) _ _ _ | with_reducible show LCg.CompSrc _ _ _ _ _ _ _ _ _ _ _ _ _ _ | with_reducible show wpAny _ _ (execs (PySem.Stmt.If (PySem.Expr.Compare _ [CmpOp.Lt] _ _) [PySem.Stmt.Assign [PySem.Expr.Tuple _ _ _] _ _] _ _ :: _) _) _ _ _))); first | (k_end; wrow_close) | walk1 | (dsimp only; walk1) | (leave1; walk_say "STEP leave1"; try dsimp only) | fail "no step")))
    obtain ⟨NW, eNW⟩ : ∃ z, z = (Da, LCg.lst ys) :: nw := ⟨_, rfl⟩
    rw [← eNW] at N2
    have hsub : ∀ q ∈ nw, q ∈ NW := fun q hq => eNW ▸ List.mem_cons_of_mem _ hq
    have hDa : (Da, LCg.lst ys) ∈ NW := eNW ▸ List.mem_cons_self
    refine LCt.ListComp_T (F₀ := by k_asm) (by with_unfolding_all rfl) (by decide) (by rfl) (by decide) (by rfl) ?_
    walk1
    refine LCt.CompSrcT.ledger (its := ys.toArray) (by rfl) (by k_asm) N2 hDa (by rw [sizeLine_eq, List.size_toArray, hyl, hr.length]; omega) ?_
    intro g'
    refine comp_restT (fun i zs nw' => nw' = NW ∧ All2 (PairIn NW) zs (((rs.take i).map (pairF nm)).filter fun q => decide (0 < q.1))) ⟨rfl, .nil⟩ ?turn ?fin2
    case turn =>
      rintro i v I oI C oC D m₂ zs nw' h tk E' hi hv ⟨rfl, hZ⟩ hC hx F N off ne
      obtain ⟨q, hqi, aq, tq, rfl, hmq⟩ := hA.get (show ys[i]? = some v by simpa using hv)
      have hmq := hsub _ hmq
      rw [List.getElem?_map] at hqi
      have hq2 : ((rs.take (i + 1)).map (pairF nm)).filter (fun q => decide (0 < q.1)) = ((rs.take i).map (pairF nm)).filter (fun q => decide (0 < q.1)) ++ if 0 < q.1 then [q] else [] := by
        rw [hr.length, List.take_length] at hqi
        cases hr2 : rs[i]? with
        | none => rw [hr2] at hqi; simp at hqi
        | some r =>
          rw [hr2] at hqi
          have e : pairF nm r = q := by simpa using hqi
          rw [List.take_add_one, hr2, List.map_append, List.filter_append]
          congr 1
          by_cases hp : 0 < q.1 <;> simp [e, hp]
      (repeat' (first | (k_unfold; first | walk_at "Seq" | (try dsimp only)) | ((fail_if_success ((first | with_reducible show wpAny _ _ (call (Value.ref 115) _) _ _ _ | with_reducible show wpAny _ _ (eval (PySem.Expr.ListComp _ [PySem.Comprehension.mk _ _ [_] _] _ _) _) _ _ _ | with_reducible show wpAny _ _ (exec (PySem.Stmt.While _ _ _ _) _) _ _ _ | with_reducible show wpAny _ _ (exec (PySem.Stmt.For _ _ _ _ _) _) _ _ _ | with_reducible show wpAny _ _ (pyIter _) _ _ _ | with_reducible show wpAny _ _ (call (Value.type "list") _) _ _ _ | with_reducible show wpAny _ _ (call (Value.builtin "str.join") _) _ _ _ | with_reducible show wpAny _ _ (eval (PySem.Expr.ListComp _ [PySem.Comprehension.mk (PySem.Expr.Tuple _ _ _) _ _ _] _ _) _) _ _ _ | with_reducible show LCg.CompSrc _ _ _ _ _ _ _ _ _ _ _ _ _ _ | with_reducible show wpAny _ _ (execs (PySem.Stmt.If (PySem.Expr.Compare _ [CmpOp.Lt] _ _) [PySem.Stmt.Assign [PySem.Expr.Tuple _ _ _] _ _] _ _ :: _) _) _ _ _))); first | (k_end; wrow_close) | walk1 | (dsimp only; walk1) | (leave1; walk_say "STEP leave1"; try dsimp only) | fail "no step")))
      · refine LCg.CompEnd.intro (by k_asm) N nw' (fun p hp => hp) off (.inr ⟨_, hDa, rfl, _, rfl⟩) ⟨rfl, ?_⟩
        rw [hq2, if_pos (by omega)]
        exact hZ.snoc ⟨aq, tq, rfl, hmq⟩
      · refine LCg.CompEnd.intro (by k_asm) N nw' (fun p hp => hp) off (.inr ⟨_, hDa, rfl, _, rfl⟩) ⟨rfl, ?_⟩
        rw [hq2, if_neg (by omega), List.append_nil]
        exact hZ
    case fin2 =>
      rintro zs nw' ⟨rfl, hZ⟩ D h tk F N o1
      dsimp only at *
      (repeat' (first | (k_unfold; first | walk_at "Seq" | (try dsimp only)) | ((fail_if_success ((first | with_reducible show wpAny _ _ (call (Value.ref 115) _) _ _ _ | with_reducible show wpAny _ _ (eval (PySem.Expr.ListComp _ [PySem.Comprehension.mk _ _ [_] _] _ _) _) _ _ _ | with_reducible show wpAny _ _ (exec (PySem.Stmt.While _ _ _ _) _) _ _ _ | with_reducible show wpAny _ _ (exec (PySem.Stmt.For _ _ _ _ _) _) _ _ _ | with_reducible show wpAny _ _ (pyIter _) _ _ _ | with_reducible show wpAny _ _ (call (Value.type "list") _) _ _ _ | with_reducible show wpAny _ _ (call (Value.builtin "str.join") _) _ _ _ | with_reducible show wpAny _ _ (eval (PySem.Expr.ListComp _ [PySem.Comprehension.mk (PySem.Expr.Tuple _ _ _) _ _ _] _ _) _) _ _ _ | with_reducible show LCg.CompSrc _ _ _ _ _ _ _ _ _ _ _ _ _ _ | with_reducible show wpAny _ _ (execs (PySem.Stmt.If (PySem.Expr.Compare _ [CmpOp.Lt] _ _) [PySem.Stmt.Assign [PySem.Expr.Tuple _ _ _] _ _] _ _ :: _) _) _ _ _))); first | (k_end; wrow_close) | walk1 | (dsimp only; walk1) | (leave1; walk_say "STEP leave1"; try dsimp only) | fail "no step")))
      obtain ⟨TL, eTL⟩ := app_of enw
      have eall : (D, LCg.lst zs) :: nw' = ((D, LCg.lst zs) :: (Da, LCg.lst ys) :: TL) ++ news := by rw [eNW, eTL]; rfl
      refine hret (.ref D) ((D, LCg.lst zs) :: (Da, LCg.lst ys) :: TL) _ _ ?m1 (by k_asm) (by rw [← eall]; k_asm)
      rw [← eall]
      refine ⟨D, zs, _, rfl, List.mem_cons_self, ?_⟩
      rw [List.size_toArray, hyl, hr.length, List.take_length] at hZ
      exact hZ.mono fun a b h => h.mono fun q hq => List.mem_cons_of_mem _ hq
end
end

section
open PySem PySem.W PyProof.Rows
section
/-- of two pairs of an int and a bool: the one lies above the other -/
noncomputable def gtP (a b : Int × Bool) : Bool := if a.1 = b.1 then (a.2 && !b.2) else decide (a.1 > b.1)
noncomputable def maxP : Int × Bool → List (Int × Bool) → Int × Bool
  | m, [] => m
  | m, x :: xs => maxP (if gtP x m then x else m) xs
theorem maxP_snoc : ∀ (m : Int × Bool) (xs : List (Int × Bool)) (z : Int × Bool), maxP m (xs ++ [z]) = if gtP z (maxP m xs) then z else maxP m xs
  | m, [], z => rfl
  | m, x :: xs, z => by
    simp only [List.cons_append, maxP]
    exact maxP_snoc _ xs z
noncomputable def atP (qs : List (Int × Bool)) (i : Nat) : Int × Bool := qs.getD i (0, false)
theorem best_max (x : Int × Bool) (xs : List (Int × Bool)) : ∀ k, k ≤ xs.length → atP (x :: xs) (argBest (fun i j => gtP (atP (x :: xs) i) (atP (x :: xs) j)) k) = maxP x (xs.take k) ∧ argBest (fun i j => gtP (atP (x :: xs) i) (atP (x :: xs) j)) k ≤ k
  | 0, _ => ⟨rfl, Nat.le_refl _⟩
  | k + 1, h => by
    have ⟨ih, ih2⟩ := best_max x xs k (by omega)
    have e : xs.take (k + 1) = xs.take k ++ [xs[k]'(by omega)] := by rw [List.take_add_one]; simp [show k < xs.length by omega]
    have ek : atP (x :: xs) (k + 1) = xs[k]'(by omega) := by simp [atP, show k < xs.length by omega]
    rw [e, maxP_snoc]
    simp only [argBest]
    generalize argBest (fun i j => gtP (atP (x :: xs) i) (atP (x :: xs) j)) k = B at *
    by_cases hg : gtP (atP (x :: xs) (k + 1)) (atP (x :: xs) B) = true
    · rw [if_pos hg]
      rw [ek, ih] at hg
      rw [if_pos hg]
      exact ⟨ek, Nat.le_refl _⟩
    · rw [if_neg hg]
      rw [ek, ih] at hg
      rw [if_neg hg]
      exact ⟨ih, by omega⟩
section
variable {prog : Program} {w : World} {A : Around} {E : Value → Shared → Prop} {s : Shared}
theorem eqBool_bool {p q : Bool} {Q : Bool → Shared → Prop} (h : Q (p == q) s) : wpAny (model prog w) A (eqBool (.bool p) (.bool q)) Q E s := by
  unfold eqBool
  try with_reducible refine wpAny_holding ?_
  cases p <;> cases q
  · exact wpAny_bind (wpAny_rule (wpAny_pure h))
  · exact wpAny_bind (show wpAny _ _ (compareOp .Eq (.bool false) (.bool true)) _ _ _ from eq_bool (wpAny_truthy_bool h))
  · exact wpAny_bind (show wpAny _ _ (compareOp .Eq (.bool true) (.bool false)) _ _ _ from eq_bool (wpAny_truthy_bool h))
  · exact wpAny_bind (wpAny_rule (wpAny_pure h))
noncomputable def tupO (q : Int × Bool) (t : Tok) : Obj := { cls := .type "tuple", data := .seq #[.int q.1 t, .bool q.2] }
theorem pair_gt_tree {a b : Addr} {p q : Int × Bool} {t u : Tok} {P : Fin → Shared → Prop} (ha : s.heap.get? a = some (tupO p t)) (hb : s.heap.get? b = some (tupO q u)) (h : P (.done (.ret (.bool (gtP p q)))) s) :
    wpAny (model prog w) A (Builtin.«tuple.__gt__» ⟨[.ref a, .ref b], []⟩) P E s := by
  have hTb : s.TypeIs (.ref b) "tuple" := ⟨_, hb, rfl⟩
  show wpAny _ _ (isInstance (.ref b) (.type "tuple") >>= _) _ _ s
  refine wpAny_bind (wpAny_isInstance hTb isSubtype_tuple_tuple ?_)
  simp only [Bool.not_true, Bool.false_eq_true, if_false]
  refine wpAny_bind (wpAny_tupleItemsOf ha rfl ?_)
  refine wpAny_bind (wpAny_tupleItemsOf hb rfl ?_)
  refine wpAny_bind ?_
  show wpAny _ _ (forIn [(Value.int p.1 t, Value.int q.1 u), (Value.bool p.2, Value.bool q.2)] _ _) _ _ s
  rw [List.forIn_cons]
  refine wpAny_bind ?_
  refine wpAny_bind (wpAny_eqBool_int ?_)
  by_cases e : p.1 = q.1
  · rw [show (p.1 == q.1) = true from beq_iff_eq.mpr e]
    simp only [Bool.not_true, Bool.false_eq_true, if_false]
    refine wpAny_pure ?_
    dsimp only
    rw [List.forIn_cons]
    refine wpAny_bind (wpAny_bind (eqBool_bool ?_))
    have eg : gtP p q = (p.2 && !q.2) := by rw [gtP, if_pos e]
    rw [eg] at h
    cases h1 : p.2 <;> cases h2 : q.2
    all_goals rw [h1, h2] at h
    · refine wpAny_pure ?_
      dsimp only
      rw [List.forIn_nil]
      exact wpAny_pure (wpAny_pure h)
    · simp only [show (false == true) = false from rfl, Bool.not_false, if_true]
      refine wpAny_bind (wpAny_rule (wpAny_bind (show wpAny _ _ (compareOp .Gt (.bool false) (.bool true)) _ _ _ from gt_bool ?_)))
      exact wpAny_bind (wpAny_pure (wpAny_pure (wpAny_pure (wpAny_pure h))))
    · simp only [show (true == false) = false from rfl, Bool.not_false, if_true]
      refine wpAny_bind (wpAny_rule (wpAny_bind (show wpAny _ _ (compareOp .Gt (.bool true) (.bool false)) _ _ _ from gt_bool ?_)))
      exact wpAny_bind (wpAny_pure (wpAny_pure (wpAny_pure (wpAny_pure h))))
    · refine wpAny_pure ?_
      dsimp only
      rw [List.forIn_nil]
      exact wpAny_pure (wpAny_pure h)
  · rw [show (p.1 == q.1) = false from beq_false_of_ne e]
    simp only [Bool.not_false, if_true]
    have eg : gtP p q = decide (p.1 > q.1) := by rw [gtP, if_neg e]
    rw [eg] at h
    refine wpAny_bind (wpAny_rule (wpAny_bind (richCompare_gives (op := .Gt) (typeIs_int s _ t) (typeIs_int s _ u) F.slot_int_gt F.entry_int_gt (F.args_int_gt_2 _ _) (gives_int_gt _ _ t u) (fun x => nomatch x) ?_)))
    exact wpAny_bind (wpAny_pure (wpAny_pure (wpAny_pure (wpAny_pure h))))
theorem pair_gt {a b : Addr} {p q : Int × Bool} {t u : Tok} {Q : Value → Shared → Prop} (hu : A.units < cLine) (ha : s.heap.get? a = some (tupO p t)) (hb : s.heap.get? b = some (tupO q u)) (h : Q (.bool (gtP p q)) s) :
    wpAny (model prog w) A (richCompare .Gt (.ref a) (.ref b)) Q E s :=
  wpAny_richCompare_same_room (op := .Gt) ⟨_, ha, rfl⟩ ⟨_, hb, rfl⟩ PySem.F.slot_tuple_gt
    (wpAny_call_entry PySem.F.slot_tuple_gt ⟨_, ha, rfl⟩ PySem.F.entry_tuple_gt (pair_gt_tree ha hb ⟨_, rfl, (fun e => nomatch e), h⟩) (PySem.F.args_tuple_gt_2 _ _)) hu
end
section
variable {prog : Program} {w : World} {A : Around} {R : Result → Shared → Prop} {I : Addr} {fp wr : List Addr} {n : Nat} {P : Nat → Value → Prop} {St : Nat → Heap → Prop} {H : Heap → Prop}
/-- max's loop where the items' order is read off the heap -/
theorem max_loop (W : Walks prog w A.in1 I fp wr n P St) (bt : Nat → Nat → Bool) (S : Addr) (hSf : S ∉ fp)
    (hcmp : ∀ i j vi vj (s : Shared) (Q : Value → Shared → Prop) (E : Value → Shared → Prop), P i vi → P j vj → H s.heap → Q (.bool (bt i j)) s → wpAny (model prog w) A.in1 (richCompare .Gt vi vj) Q E s)
    (hH : ∀ h h' : Heap, H h → (∀ b o, b ∉ wr → b ≠ S → h.get? b = some o → h'.get? b = some o) → H h') :
    ∀ (k j : Nat) (s : Shared) (vb : Value) (c : Nat), n - (j + 1) = k → j + 1 ≤ n → St (j + 1) s.heap → P (argBest bt j) vb → H s.heap →
    s.heap.get? S = some { cls := .type "list", dict := none, data := .seq #[vb, vb] c, slots := #[] } →
    (∀ v h' tk, P (argBest bt (n - 1)) v → (∀ b o, b ∉ wr → b ≠ S → s.heap.get? b = some o → h'.get? b = some o) → R (.ok (.ret v)) { s with heap := h', toks := tk }) →
    codeAny (model prog w) A (.builtin "max.loop" ⟨[.ref I, .none, .ref S], []⟩) R s := by
  have hSw : S ∉ wr := fun h => hSf (W.sub _ h)
  have hname : (toString "max" ++ toString ".loop" : String) = "max.loop" := by decide
  intro k
  induction k with
  | zero =>
    intro j s vb c hk hj hst hPb hHs hS hR
    have hin : j + 1 = n := by omega
    refine codeAny_builtin PySem.F.entry_max_loop ?_
    rw [Around.under_plainId PySem.F.plain_max_loop _]
    show wpAny _ A.in1 (seqItems? (.ref S) >>= _) _ _ s
    refine wpAny_bind (wpAny_seqItems hS rfl ?_)
    show wpAny _ A.in1 (tryCatch (pyNext (.ref I)) _ >>= _) _ _ s
    refine wpAny_bind (wpAny_tryCatch (W.done s _ _ (hin ▸ hst) fun h' tk hk' => ?_))
    have hS' := hk' S _ hSw hS
    show wpAny _ A.in1 (updateSeq S (fun _ => #[]) >>= _) _ _ _
    refine wpAny_bind ?_
    refine wpAny_updateSeq hS' rfl (wpAny_bind (wpAny_letGo (wpAny_pure ?_)))
    refine hR vb _ tk (by rw [← hin]; exact hPb) fun b o hbw hbS e => (Heap.get?_update_other _ _ (Ne.symm hbS)).trans (hk' b o hbw e)
  | succ k ih =>
    intro j s vb c hk hj hst hPb hHs hS hR
    have hlt : j + 1 < n := by omega
    refine codeAny_builtin PySem.F.entry_max_loop ?_
    rw [Around.under_plainId PySem.F.plain_max_loop _]
    show wpAny _ A.in1 (seqItems? (.ref S) >>= _) _ _ s
    refine wpAny_bind (wpAny_seqItems hS rfl ?_)
    show wpAny _ A.in1 (tryCatch (pyNext (.ref I)) _ >>= _) _ _ s
    refine wpAny_bind (wpAny_tryCatch (W.item (j + 1) s _ _ hlt hst fun v h' tk hP hst' hk' => ?_))
    have hS' := hk' S _ hSw hS
    have hH' : H h' := hH _ _ hHs fun b o hb _ e => hk' b o hb e
    show wpAny _ A.in1 (tryCatch (holding [v, v] (richCompare .Gt v vb >>= _)) _ >>= _) _ _ _
    refine wpAny_bind (wpAny_tryCatch (wpAny_holding (wpAny_bind (hcmp (j + 1) (argBest bt j) v vb _ _ _ hP hPb hH' ?_))))
    refine wpAny_bind (wpAny_holding (wpAny_truthy_bool ?_))
    refine wpAny_bind (wpAny_letGo (wpAny_pure ?_))
    cases hb : bt (j + 1) (argBest bt j) with
    | true =>
      simp only [if_true]
      refine wpAny_bind ?_
      refine wpAny_updateSeq hS' rfl (wpAny_bind (wpAny_letGo ?_))
      rw [hname]
      refine wpAny_pure ⟨plainId_quiet PySem.F.plain_max_loop _, ih (j + 1) _ v _ (by omega) hlt (W.frame _ _ _ hst' fun b hbf o e => ?_) (by simp only [argBest, hb, if_true]; exact hP) (hH _ _ hH' fun b o _ hbS e => (Heap.get?_update_other _ _ (Ne.symm hbS)).trans e) (Heap.get?_update_self _ hS' rfl)
        fun v' h'' tk'' hP' hk'' => ?_⟩
      · exact (Heap.get?_update_other _ _ (fun h : S = b => hSf (by rw [h]; exact hbf))).trans e
      · exact hR v' h'' tk'' hP' fun b o hbw hbS e => hk'' b o hbw hbS ((Heap.get?_update_other _ _ (Ne.symm hbS)).trans (hk' b o hbw e))
    | false =>
      simp only [Bool.false_eq_true, if_false]
      refine wpAny_bind (wpAny_letGo ?_)
      rw [hname]
      refine wpAny_pure ⟨plainId_quiet PySem.F.plain_max_loop _, ih (j + 1) _ vb c (by omega) hlt hst' (by simp only [argBest, hb, Bool.false_eq_true, if_false]; exact hPb) hH' hS' fun v' h'' tk'' hP' hk'' => ?_⟩
      exact hR v' h'' tk'' hP' fun b o hbw hbS e => hk'' b o hbw hbS (hk' b o hbw e)
theorem max_loop_first (W : Walks prog w A.in1 I fp wr n P St) (bt : Nat → Nat → Bool) (S : Addr) (hSf : S ∉ fp)
    (hcmp : ∀ i j vi vj (s : Shared) (Q : Value → Shared → Prop) (E : Value → Shared → Prop), P i vi → P j vj → H s.heap → Q (.bool (bt i j)) s → wpAny (model prog w) A.in1 (richCompare .Gt vi vj) Q E s)
    (hH : ∀ h h' : Heap, H h → (∀ b o, b ∉ wr → b ≠ S → h.get? b = some o → h'.get? b = some o) → H h') (hn : 0 < n) {s : Shared} {c : Nat} (hst : St 0 s.heap) (hHs : H s.heap)
    (hS : s.heap.get? S = some { cls := .type "list", dict := none, data := .seq #[] c, slots := #[] })
    (hR : ∀ v h' tk, P (argBest bt (n - 1)) v → (∀ b o, b ∉ wr → b ≠ S → s.heap.get? b = some o → h'.get? b = some o) → R (.ok (.ret v)) { s with heap := h', toks := tk }) :
    codeAny (model prog w) A (.builtin "max.loop" ⟨[.ref I, .none, .ref S], []⟩) R s := by
  have hSw : S ∉ wr := fun h => hSf (W.sub _ h)
  have hname : (toString "max" ++ toString ".loop" : String) = "max.loop" := by decide
  refine codeAny_builtin PySem.F.entry_max_loop ?_
  rw [Around.under_plainId PySem.F.plain_max_loop _]
  show wpAny _ A.in1 (seqItems? (.ref S) >>= _) _ _ s
  refine wpAny_bind (wpAny_seqItems hS rfl ?_)
  show wpAny _ A.in1 (tryCatch (pyNext (.ref I)) _ >>= _) _ _ s
  refine wpAny_bind (wpAny_tryCatch (W.item 0 s _ _ hn hst fun v h' tk hP hst' hk' => ?_))
  have hS' := hk' S _ hSw hS
  have hH' : H h' := hH _ _ hHs fun b o hb _ e => hk' b o hb e
  show wpAny _ A.in1 (updateSeq S (fun _ => #[v, v]) >>= _) _ _ _
  refine wpAny_bind ?_
  refine wpAny_updateSeq hS' rfl ?_
  rw [hname]
  refine wpAny_pure ⟨plainId_quiet PySem.F.plain_max_loop _, max_loop W bt S hSf hcmp hH _ 0 _ v _ rfl hn (W.frame _ _ _ hst' fun b hbf o e => ?_) hP (hH _ _ hH' fun b o _ hbS e => (Heap.get?_update_other _ _ (Ne.symm hbS)).trans e) (Heap.get?_update_self _ hS' rfl) fun v' h'' tk'' hP' hk'' => ?_⟩
  · exact (Heap.get?_update_other _ _ (fun h : S = b => hSf (by rw [h]; exact hbf))).trans e
  · exact hR v' h'' tk'' hP' fun b o hbw hbS e => hk'' b o hbw hbS ((Heap.get?_update_other _ _ (Ne.symm hbS)).trans (hk' b o hbw e))
end
section
variable {prog : Program} {w : World} {A : Around} {E : Value → Shared → Prop} {s : Shared} {h₀ : Heap} {L l : Addr} {m : Str → Option Value} {news : List (Addr × Obj)} {vs : List Value} {qs : List (Int × Bool)} {ep : Nat} {Q : Value → Shared → Prop}
/-- max of a list of pairs in the ledger -/
theorem max_led (hh : A.handled = none) (hu : A.units + 1 < cLine) (F : Fr h₀ L s.heap m) (N : News h₀ L s.heap news) (hl : (l, W.listOf vs.toArray ep) ∈ news)
    (hA : ∀ i v, vs[i]? = some v → ∃ (a : Addr) (t : Tok), v = .ref a ∧ (a, tupO (atP qs i) t) ∈ news) (hne : 0 < vs.length)
    (h : ∀ v h' tk, vs[argBest (fun i j => gtP (atP qs i) (atP qs j)) (vs.length - 1)]? = some v → Fr h₀ L h' m → News h₀ L h' news → Q v { s with heap := h', toks := tk }) :
    wpAny (model prog w) A (call (.builtin "max") [.ref l]) Q E s := by
  have hname : (toString "max" ++ toString ".loop" : String) = "max.loop" := by decide
  have hL : s.heap.IsList l vs.toArray := ⟨_, (N _ hl).1, rfl, _, rfl⟩
  have hlt : l < s.heap.objs.size := Heap.lt_size (N _ hl).1
  refine call_function_tree PySem.F.kind_max PySem.F.plain_max PySem.F.entry_max (PySem.F.args_max1 _) ?_
  show wpAny _ A.in1 (Builtin.Builtins.bindParams "max" ["key", "default"] 0 ⟨[], []⟩ >>= _) _ _ s
  refine wpAny_bind (wpAny_of_eq (show Builtin.Builtins.bindParams "max" ["key", "default"] 0 ⟨[], []⟩ = pure [none, none] from rfl) ?_)
  refine wpAny_bind (wpAny_pure ?_)
  refine wpAny_bind (wpAny_pyIter_list hL ?_)
  have W := Walks.list (prog := prog) (w := w) (A := A.in1) hh s.heap.objs.size l (Nat.ne_of_lt hlt) vs.toArray
  generalize hI : s.heap.objs.size = I at *
  generalize hg : s.heap.push { cls := .type "list_iterator", data := .fields #[.ref l, .int 0 0] } = g at *
  have gsz : g.objs.size = I + 1 := by rw [← hg, Heap.size_push, hI]
  have up : ∀ b o, s.heap.get? b = some o → g.get? b = some o := fun b o e => by rw [← hg]; exact Heap.get?_push_of_some _ e
  have itIt : g.IsListIter I l 0 := by rw [← hg, ← hI]; exact ⟨_, Heap.get?_push_size _ rfl, rfl, rfl⟩
  refine wpAny_bind (wpAny_newObj_type ?_)
  have hSf : g.objs.size ∉ [I, l] := fun hm => by
    rw [gsz] at hm
    rcases List.mem_cons.mp hm with e | hm
    · exact absurd e (Nat.ne_of_gt (Nat.lt_succ_self I))
    · have e : @Eq Nat (I + 1) l := List.mem_singleton.mp hm
      have : @LT.lt Nat _ l I := hlt
      omega
  rw [hname]
  have up2 : ∀ {b : Addr} {o : Obj}, s.heap.get? b = some o → b ≠ I ∧ b ≠ g.objs.size := fun {b o} e => by
    have z : @LT.lt Nat _ b I := hI ▸ Heap.lt_size e
    exact ⟨Nat.ne_of_lt z, by rw [gsz]; exact Nat.ne_of_lt (Nat.lt_succ_of_lt z)⟩
  have hIn : h₀.get? I = none := by rw [← hI]; exact next_is_new F
  have hLI : @LT.lt Nat _ L I := hI ▸ F.ns.lt
  refine wpAny_pure ⟨plainId_quiet PySem.F.plain_max_loop _, max_loop_first (H := fun h => ∀ p ∈ news, h.get? p.1 = some p.2) W (fun i j => gtP (atP qs i) (atP qs j)) g.objs.size hSf ?cmp ?hH (by simpa using hne) ⟨itIt.at fun o e => Heap.get?_push_of_some _ e, hL.at fun o e => Heap.get?_push_of_some _ (up _ _ e)⟩ (fun p hp => Heap.get?_push_of_some _ (up _ _ (N p hp).1)) (Heap.get?_push_size _ rfl) fun v h' tk hP hk => ?_⟩
  case cmp =>
    intro i j vi vj s' Q' E' hi hj hH hq
    obtain ⟨a, t, rfl, ha⟩ := hA i vi (by simpa using hi)
    obtain ⟨b, u, rfl, hb⟩ := hA j vj (by simpa using hj)
    exact pair_gt hu (hH _ ha) (hH _ hb) hq
  case hH =>
    intro h1 h2 hH hk p hp
    have z := up2 (N p hp).1
    exact hk _ _ (fun q => z.1 (List.mem_singleton.mp q)) z.2 (hH p hp)
  have old : ∀ b o, s.heap.get? b = some o → h'.get? b = some o := fun b o e => by
    have z := up2 e
    exact hk b o (fun q => z.1 (List.mem_singleton.mp q)) z.2 (Heap.get?_push_of_some _ (up b o e))
  exact h v h' tk (by simpa using hP) (F.keeps old) (fun p hp => ⟨old _ _ (N p hp).1, (N p hp).2⟩)
end
end
end

section
open PySem PySem.W PyProof.Rows PyProof.V PySem.Spec PySem.SeqAt
section
theorem reads_all_strs {h : Heap} : ∀ {vs : List Value} {ns : List Str}, StrsAre vs ns → ReadsAll h vs (ns.map PyData.str) []
  | _, _, .nil => .nil
  | _, _, .cons k t r => by
    have := ReadsAll.cons (Reads.str (h := h) k t) (reads_all_strs (h := h) r)
    simpa using this
theorem reads_strs {h : Heap} {a : Addr} {vs : List Value} {ns : List Str} (hl : h.IsList a vs.toArray) (hi : StrsAre vs ns) : Reads h (.ref a) (.list (ns.map PyData.str)) [a] := by
  obtain ⟨o, ho, hc, n, hd⟩ := hl
  exact Reads.list ho hc hd (by simpa using reads_all_strs hi)
theorem lay_strs (ns : List Str) (hk : ns.all PyData.strOk = true) : PyData.canLayAll0 (ns.map PyData.str) = true := by
  have := canLayAll_strs' ns
  exact this.trans hk
theorem depth_strs : ∀ ns : List Str, PyData.depthAll (ns.map PyData.str) ≤ 1
  | [] => by simp [PyData.depthAll]
  | n :: r => by
    have := depth_strs r
    simp only [List.map_cons, PyData.depthAll, PyData.depth]
    omega
theorem shaped_strs (ns : List Str) (hk : ns.all PyData.strOk = true) : shaped (.list (ns.map PyData.str)) = true := by
  have h1 := depth_strs ns
  have h2 : PyData.depth (.list (ns.map PyData.str)) ≤ 64 := by simp only [PyData.depth]; omega
  show (PyData.canLay0 (.list (ns.map PyData.str)) && decide (PyData.depth (.list (ns.map PyData.str)) ≤ 64)) = true
  rw [Bool.and_eq_true]
  exact ⟨by simp only [PyData.canLay0]; exact lay_strs ns hk, decide_eq_true h2⟩
theorem mix_strs : ∀ ns ms : List Str, noMixAll (ns.map PyData.str) (ms.map PyData.str) = true
  | [], [] => by simp [noMixAll]
  | [], _ :: _ => by simp [noMixAll]
  | _ :: _, [] => by simp [noMixAll]
  | _ :: r, _ :: q => by simp [noMixAll, noMix, mix_strs r q]
theorem same_strs : ∀ ns ms : List Str, PySem.Spec.sameAll (ns.map PyData.str) (ms.map PyData.str) = decide (ns = ms)
  | [], [] => by simp [PySem.Spec.sameAll]
  | [], _ :: _ => by simp [PySem.Spec.sameAll]
  | _ :: _, [] => by simp [PySem.Spec.sameAll]
  | n :: r, k :: q => by
    simp only [List.map_cons, PySem.Spec.sameAll, PySem.Spec.same, same_strs r q]
    by_cases h : n = k <;> simp [h]
section
variable {prog : Program} {w : World} {A : Around} {E : Value → Shared → Prop} {s : Shared}
theorem eq_strs {a b : Addr} {vs us : List Value} {ns ms : List Str} {Q : Value → Shared → Prop} (hl : s.heap.IsList a vs.toArray) (hi : StrsAre vs ns) (hl' : s.heap.IsList b us.toArray) (hi' : StrsAre us ms) (hk : ns.all PyData.strOk = true) (hk' : ms.all PyData.strOk = true) (hu : A.units + 64 < cLine)
    (h : Q (.bool (decide (ns = ms))) s) : wpAny (model prog w) A (compareOp .Eq (.ref a) (.ref b)) Q E s :=
  eq_dataH_same (reads_strs hl hi) (reads_strs hl' hi') (shaped_strs ns hk) (shaped_strs ms hk') hu (by simp only [noMix]; exact mix_strs ns ms) (by simp only [PySem.Spec.same]; rw [same_strs]; exact h)
theorem ne_strs {a b : Addr} {vs us : List Value} {ns ms : List Str} {Q : Value → Shared → Prop} (hl : s.heap.IsList a vs.toArray) (hi : StrsAre vs ns) (hl' : s.heap.IsList b us.toArray) (hi' : StrsAre us ms) (hk : ns.all PyData.strOk = true) (hk' : ms.all PyData.strOk = true) (hu : A.units + 64 < cLine)
    (h : Q (.bool (!decide (ns = ms))) s) : wpAny (model prog w) A (compareOp .NotEq (.ref a) (.ref b)) Q E s :=
  ne_dataH_same (reads_strs hl hi) (reads_strs hl' hi') (shaped_strs ns hk) (shaped_strs ms hk') hu (by simp only [noMix]; exact mix_strs ns ms) (by simp only [PySem.Spec.same]; rw [same_strs]; exact h)
end
noncomputable def pairD (q : Int × Bool) : PyData := .tuple [.int q.1, .bool q.2]
theorem lay_pairs : ∀ ns : List (Int × Bool), PyData.canLayAll0 (ns.map pairD) = true
  | [] => by simp [PyData.canLayAll0]
  | n :: r => by simp [PyData.canLayAll0, PyData.canLay0, pairD, lay_pairs r]
theorem depth_pairs : ∀ ns : List (Int × Bool), PyData.depthAll (ns.map pairD) ≤ 4
  | [] => by simp [PyData.depthAll]
  | n :: r => by
    have := depth_pairs r
    simp only [List.map_cons, PyData.depthAll, PyData.depth, pairD]
    omega
theorem shaped_pairs (ns : List (Int × Bool)) : shaped (.list (ns.map pairD)) = true := by
  have h1 := depth_pairs ns
  have h2 : PyData.depth (.list (ns.map pairD)) ≤ 64 := by simp only [PyData.depth]; omega
  show (PyData.canLay0 (.list (ns.map pairD)) && decide (PyData.depth (.list (ns.map pairD)) ≤ 64)) = true
  rw [Bool.and_eq_true]
  exact ⟨by simp only [PyData.canLay0]; exact lay_pairs ns, decide_eq_true h2⟩
theorem reads_all_pairs {h : Heap} : ∀ {vs : List Value} {qs : List (Int × Bool)}, vs.length = qs.length → (∀ i v, vs[i]? = some v → ∃ (a : Addr) (t : Tok), v = .ref a ∧ h.get? a = some (tupO (atP qs i) t)) → ReadsAll h vs (qs.map pairD) []
  | [], [], _, _ => .nil
  | [], _ :: _, h, _ => by simp at h
  | _ :: _, [], h, _ => by simp at h
  | v :: vs, q :: qs, hl, hA => by
    obtain ⟨a, t, rfl, ha⟩ := hA 0 v rfl
    have r0 : ReadsAll h [Value.int q.1 t, Value.bool q.2] [PyData.int q.1, PyData.bool q.2] [] := ReadsAll.cons (Reads.int q.1 t) (ReadsAll.cons (Reads.bool q.2) .nil)
    have r : Reads h (.ref a) (pairD q) [] := Reads.tuple ha rfl rfl r0
    exact ReadsAll.cons r (reads_all_pairs (by simpa using hl) fun i v hv => hA (i + 1) v (by simpa using hv))
section
variable {prog : Program} {w : World} {A : Around} {E : Value → Shared → Prop} {s : Shared}
theorem ne_nil_pairs {a b : Addr} {vs : List Value} {qs : List (Int × Bool)} {Q : Value → Shared → Prop} (hl : s.heap.IsList a vs.toArray) (hlen : vs.length = qs.length) (hA : ∀ i v, vs[i]? = some v → ∃ (a : Addr) (t : Tok), v = .ref a ∧ s.heap.get? a = some (tupO (atP qs i) t))
    (hl' : s.heap.IsList b #[]) (hu : A.units + 64 < cLine)
    (h : Q (.bool (!decide (qs = []))) s) : wpAny (model prog w) A (compareOp .NotEq (.ref a) (.ref b)) Q E s := by
  obtain ⟨o, ho, hc, n, hd⟩ := hl
  obtain ⟨o2, ho2, hc2, n2, hd2⟩ := hl'
  refine ne_dataH_same (Reads.list ho hc hd (by simpa using reads_all_pairs hlen hA)) (Reads.list (xs := []) ho2 hc2 hd2 .nil) (shaped_pairs qs) (by rfl) hu ?_ ?_
  · cases qs <;> simp [noMix, noMixAll]
  · have e : PySem.Spec.same (.list (qs.map pairD)) (.list []) = decide (qs = []) := by
      cases qs <;> simp [PySem.Spec.same, PySem.Spec.sameAll]
    rw [e]; exact h
end
end
end

section
open PySem PySem.W PyProof.Rows
section
local macro_rules | `(tactic| k_mem) => `(tactic| assumption)
local macro_rules | `(tactic| k_mem) => `(tactic| ((repeat refine List.mem_cons_of_mem _ ?_); assumption))
noncomputable def verdictF : List (Int × Bool) → Bool
  | [] => true
  | x :: xs => (maxP x xs).2
theorem pairs_at {nw : List (Addr × Obj)} {vs : List Value} {qs : List (Int × Bool)} (h : All2 (PairIn nw) vs qs) : ∀ i v, vs[i]? = some v → ∃ (a : Addr) (t : Tok), v = .ref a ∧ (a, tupO (atP qs i) t) ∈ nw := fun i v hv => by
  obtain ⟨q, hq, a, t, e, hm⟩ := h.get hv
  refine ⟨a, t, e, ?_⟩
  have : atP qs i = q := by simp [atP, hq]
  rw [this]; exact hm
theorem verdict_c {w : World} {p : Program} {loose : List Str} {mean : ExcName → Option Value} {mg mb : Str → Option Value} {news : List (Addr × Obj)} {rv : Value} {qs : List (Int × Bool)} (hb : ReachIn news rv qs) (hn : qs.length ≤ 64) :
   Claim Challenge.rw_nb0157_01.row.prog w (Mine.hd.heap_39 w.params) p loose mean mg mb 127 2 128 news [rv] (fun _ => .bool (verdictF qs)) := by
  obtain ⟨l, vs, ep, rfl, hl, hA⟩ := hb
  intro dp un gd cn cs ad ccd cl outer A₀ base h₀ L m s Q E hB hF hX hN hT hcs hdp hun hret
  refine wpAny_call ?_
  k_dflt cell_enter
  (repeat' (first | (k_unfold; first | walk_at "Seq" | (try dsimp only)) | ((fail_if_success ((first | with_reducible show wpAny _ _ (call (Value.builtin "max") _) _ _ _ | with_reducible show wpAny _ _ (compareOp CmpOp.NotEq (Value.ref _) (Value.ref _)) _ _ _ | with_reducible show wpAny _ _ (exec (PySem.Stmt.While _ _ _ _) _) _ _ _ | with_reducible show wpAny _ _ (exec (PySem.Stmt.For _ _ _ _ _) _) _ _ _ | with_reducible show wpAny _ _ (pyIter _) _ _ _ | with_reducible show wpAny _ _ (call (Value.type "list") _) _ _ _ | with_reducible show wpAny _ _ (call (Value.builtin "str.join") _) _ _ _ | with_reducible show wpAny _ _ (eval (PySem.Expr.ListComp _ [PySem.Comprehension.mk (PySem.Expr.Tuple _ _ _) _ _ _] _ _) _) _ _ _ | with_reducible show LCg.CompSrc _ _ _ _ _ _ _ _ _ _ _ _ _ _ | with_reducible show wpAny _ _ (execs (PySem.Stmt.If (PySem.Expr.Compare _ [CmpOp.Lt] _ _) [PySem.Stmt.Assign [PySem.Expr.Tuple _ _ _] _ _] _ _ :: _) _) _ _ _))); first | (k_end; wrow_close) | walk1 | (dsimp only; walk1) | (leave1; walk_say "STEP leave1"; try dsimp only) | fail "no step")))
  have hAt := pairs_at hA
  refine ne_nil_pairs (vs := vs) (qs := qs) ⟨_, ((by k_asm : News _ _ _ (_ :: news)) _ (List.mem_cons_of_mem _ hl)).1, rfl, _, rfl⟩ hA.length (fun i v hv => let ⟨a, t, e, hm⟩ := hAt i v hv; ⟨a, t, e, ((by k_asm : News _ _ _ (_ :: news)) _ (List.mem_cons_of_mem _ hm)).1⟩)
    ⟨_, ((by k_asm : News _ _ _ (_ :: news)) _ List.mem_cons_self).1, rfl, _, rfl⟩ (by ktr_units) ?_
  cases qs with
  | nil =>
    simp only [decide_true, Bool.not_true]
    (repeat' (first | (k_unfold; first | walk_at "Seq" | (try dsimp only)) | ((fail_if_success ((first | with_reducible show wpAny _ _ (call (Value.builtin "max") _) _ _ _ | with_reducible show wpAny _ _ (compareOp CmpOp.NotEq (Value.ref _) (Value.ref _)) _ _ _ | with_reducible show wpAny _ _ (exec (PySem.Stmt.While _ _ _ _) _) _ _ _ | with_reducible show wpAny _ _ (exec (PySem.Stmt.For _ _ _ _ _) _) _ _ _ | with_reducible show wpAny _ _ (pyIter _) _ _ _ | with_reducible show wpAny _ _ (call (Value.type "list") _) _ _ _ | with_reducible show wpAny _ _ (call (Value.builtin "str.join") _) _ _ _ | with_reducible show wpAny _ _ (eval (PySem.Expr.ListComp _ [PySem.Comprehension.mk (PySem.Expr.Tuple _ _ _) _ _ _] _ _) _) _ _ _ | with_reducible show LCg.CompSrc _ _ _ _ _ _ _ _ _ _ _ _ _ _ | with_reducible show wpAny _ _ (execs (PySem.Stmt.If (PySem.Expr.Compare _ [CmpOp.Lt] _ _) [PySem.Stmt.Assign [PySem.Expr.Tuple _ _ _] _ _] _ _ :: _) _) _ _ _))); first | (k_end; wrow_close) | walk1 | (dsimp only; walk1) | (leave1; walk_say "STEP leave1"; try dsimp only) | fail "no step")))
    exact hret 0 _ _ (by k_asm) (by (first | k_asm | (refine' cb_drop ?n1 ?n2; (case n1 => assumption); (case n2 => kcj_all))))
  | cons q qs =>
    simp only [reduceCtorEq, decide_false, Bool.not_false]
    (repeat' (first | (k_unfold; first | walk_at "Seq" | (try dsimp only)) | ((fail_if_success ((first | with_reducible show wpAny _ _ (call (Value.builtin "max") _) _ _ _ | with_reducible show wpAny _ _ (compareOp CmpOp.NotEq (Value.ref _) (Value.ref _)) _ _ _ | with_reducible show wpAny _ _ (exec (PySem.Stmt.While _ _ _ _) _) _ _ _ | with_reducible show wpAny _ _ (exec (PySem.Stmt.For _ _ _ _ _) _) _ _ _ | with_reducible show wpAny _ _ (pyIter _) _ _ _ | with_reducible show wpAny _ _ (call (Value.type "list") _) _ _ _ | with_reducible show wpAny _ _ (call (Value.builtin "str.join") _) _ _ _ | with_reducible show wpAny _ _ (eval (PySem.Expr.ListComp _ [PySem.Comprehension.mk (PySem.Expr.Tuple _ _ _) _ _ _] _ _) _) _ _ _ | with_reducible show LCg.CompSrc _ _ _ _ _ _ _ _ _ _ _ _ _ _ | with_reducible show wpAny _ _ (execs (PySem.Stmt.If (PySem.Expr.Compare _ [CmpOp.Lt] _ _) [PySem.Stmt.Assign [PySem.Expr.Tuple _ _ _] _ _] _ _ :: _) _) _ _ _))); first | (k_end; wrow_close) | walk1 | (dsimp only; walk1) | (leave1; walk_say "STEP leave1"; try dsimp only) | fail "no step")))
    refine max_led (l := l) (vs := vs) (qs := q :: qs) (ep := ep) rfl (by ktr_units) (by k_asm) (show News _ _ _ (_ :: news) by k_asm) (List.mem_cons_of_mem _ hl) (fun i v hv => let ⟨a, t, e, hm⟩ := hAt i v hv; ⟨a, t, e, List.mem_cons_of_mem _ hm⟩) (by rw [hA.length]; simp) ?_
    intro v h2 tk2 hv F2 N2
    obtain ⟨a, t, rfl, hm⟩ := hAt _ v hv
    have e := best_max q qs qs.length (Nat.le_refl _)
    rw [hA.length, show (q :: qs).length - 1 = qs.length from rfl, e.1, List.take_length] at hm
    unfold tupO at hm
    k_sweep
    (repeat' (first | (k_unfold; first | walk_at "Seq" | (try dsimp only)) | ((fail_if_success ((first | with_reducible show wpAny _ _ (call (Value.builtin "max") _) _ _ _ | with_reducible show wpAny _ _ (compareOp CmpOp.NotEq (Value.ref _) (Value.ref _)) _ _ _ | with_reducible show wpAny _ _ (exec (PySem.Stmt.While _ _ _ _) _) _ _ _ | with_reducible show wpAny _ _ (exec (PySem.Stmt.For _ _ _ _ _) _) _ _ _ | with_reducible show wpAny _ _ (pyIter _) _ _ _ | with_reducible show wpAny _ _ (call (Value.type "list") _) _ _ _ | with_reducible show wpAny _ _ (call (Value.builtin "str.join") _) _ _ _ | with_reducible show wpAny _ _ (eval (PySem.Expr.ListComp _ [PySem.Comprehension.mk (PySem.Expr.Tuple _ _ _) _ _ _] _ _) _) _ _ _ | with_reducible show LCg.CompSrc _ _ _ _ _ _ _ _ _ _ _ _ _ _ | with_reducible show wpAny _ _ (execs (PySem.Stmt.If (PySem.Expr.Compare _ [CmpOp.Lt] _ _) [PySem.Stmt.Assign [PySem.Expr.Tuple _ _ _] _ _] _ _ :: _) _) _ _ _))); first | (k_end; wrow_close) | walk1 | (dsimp only; walk1) | (leave1; walk_say "STEP leave1"; try dsimp only) | fail "no step")))
    exact hret 0 _ _ (by k_asm) (by (first | k_asm | (refine' cb_drop ?n1 ?n2; (case n1 => assumption); (case n2 => kcj_all))))
end
end

section
open PySem PySem.W PyProof.Rows
section
local macro_rules | `(tactic| k_mem) => `(tactic| assumption)
local macro_rules | `(tactic| k_mem) => `(tactic| ((repeat refine List.mem_cons_of_mem _ ?_); assumption))
local macro_rules | `(tactic| walk_at "eval Name") => `(tactic| (k_here; (with_reducible show wpAny _ _ (eval (Expr.Name _ _) (compEnvC _ _ _ _)) _ _ _); k_dflt (first
  | refine LCgL.ld_own (by k_asm) (List.mem_cons_of_mem _ List.mem_cons_self) (by assumption) (by assumption) ?_
  | refine LCgL.ld_global (by k_asm) (by k_asm) (by k_asm) (by k_is) ?_)))
noncomputable def wordS (r : Row) : Str := ⟨r.word.toArray⟩
noncomputable def StrsIn (nw : List (Addr × Obj)) (v : Value) (ws : List Str) : Prop := ∃ (l : Addr) (vs : List Value) (ep : Nat), v = .ref l ∧ (l, W.listOf vs.toArray ep) ∈ nw ∧ StrsAre vs ws
theorem words_c {w : World} {p : Program} {loose : List Str} {mean : ExcName → Option Value} {mg mb : Str → Option Value} {news : List (Addr × Obj)} {v : Value} {rs : List Row} (hb : BookIn w p loose mean mg mb news v rs) (hn : rs.length ≤ 64) :
   ClaimM Challenge.rw_nb0157_01.row.prog w (Mine.hd.heap_39 w.params) p loose mean mg mb 132 2 64 news [v] (fun v nw => StrsIn nw v (rs.map wordS)) := by
  obtain ⟨x, d, l1, l2, t1, t2, t3, t4, vs, k1, k2, rfl, m1, m2, m3, m4, hA⟩ := hb
  intro dp un gd cn cs ad ccd cl outer A₀ base h₀ L m s Q E hB hF hX hN hT hcs hdp hun hret
  refine wpAny_call ?_
  k_dflt cell_enter
  (repeat' (first | (k_unfold; first | walk_at "Seq" | (try dsimp only)) | ((fail_if_success ((first | with_reducible show wpAny _ _ (eval (PySem.Expr.ListComp _ _ _ _) _) _ _ _ | with_reducible show wpAny _ _ (exec (PySem.Stmt.While _ _ _ _) _) _ _ _ | with_reducible show wpAny _ _ (exec (PySem.Stmt.For _ _ _ _ _) _) _ _ _ | with_reducible show wpAny _ _ (pyIter _) _ _ _ | with_reducible show wpAny _ _ (call (Value.type "list") _) _ _ _ | with_reducible show wpAny _ _ (call (Value.builtin "str.join") _) _ _ _ | with_reducible show wpAny _ _ (eval (PySem.Expr.ListComp _ [PySem.Comprehension.mk (PySem.Expr.Tuple _ _ _) _ _ _] _ _) _) _ _ _ | with_reducible show LCg.CompSrc _ _ _ _ _ _ _ _ _ _ _ _ _ _ | with_reducible show wpAny _ _ (execs (PySem.Stmt.If (PySem.Expr.Compare _ [CmpOp.Lt] _ _) [PySem.Stmt.Assign [PySem.Expr.Tuple _ _ _] _ _] _ _ :: _) _) _ _ _))); first | (k_end; wrow_close) | walk1 | (dsimp only; walk1) | (leave1; walk_say "STEP leave1"; try dsimp only) | fail "no step")))
  refine LCg.ListComp_U (F₀ := by k_asm) (by with_unfolding_all rfl) (by decide) (by rfl) (by decide) (by rfl) ?_
  (repeat' (first | (k_unfold; first | walk_at "Seq" | (try dsimp only)) | ((fail_if_success ((first | with_reducible show wpAny _ _ (eval (PySem.Expr.ListComp _ _ _ _) _) _ _ _ | with_reducible show wpAny _ _ (exec (PySem.Stmt.While _ _ _ _) _) _ _ _ | with_reducible show wpAny _ _ (exec (PySem.Stmt.For _ _ _ _ _) _) _ _ _ | with_reducible show wpAny _ _ (pyIter _) _ _ _ | with_reducible show wpAny _ _ (call (Value.type "list") _) _ _ _ | with_reducible show wpAny _ _ (call (Value.builtin "str.join") _) _ _ _ | with_reducible show wpAny _ _ (eval (PySem.Expr.ListComp _ [PySem.Comprehension.mk (PySem.Expr.Tuple _ _ _) _ _ _] _ _) _) _ _ _ | with_reducible show LCg.CompSrc _ _ _ _ _ _ _ _ _ _ _ _ _ _ | with_reducible show wpAny _ _ (execs (PySem.Stmt.If (PySem.Expr.Compare _ [CmpOp.Lt] _ _) [PySem.Stmt.Assign [PySem.Expr.Tuple _ _ _] _ _] _ _ :: _) _) _ _ _))); first | (k_end; wrow_close) | walk1 | (dsimp only; walk1) | (leave1; walk_say "STEP leave1"; try dsimp only) | fail "no step")))
  refine LCg.CompSrc.ledger (its := vs.toArray) (by rfl) (by k_asm) (show News _ _ _ news by k_asm) m4 (by rw [sizeLine_eq, List.size_toArray, hA.length]; omega) ?_
  intro g'
  refine comp_same (fun i ys => StrsAre ys ((rs.take i).map wordS)) .nil ?turn ?fin
  case turn =>
    rintro i v I oI C oC D m₂ ys h tk E' hi hv hl hJ hC hx F N off ne
    obtain ⟨r, hri, xr, dr, lr1, lr2, fr, tr, tr1, tr2, tr3, tr4, tr5, tr6, rfl, mr1, mr2, mr3, ⟨oc, od, fd, sl, mr4⟩, hlam⟩ := hA.get (show vs[i]? = some v by simpa using hv)
    (repeat' (first | (k_unfold; first | walk_at "Seq" | (try dsimp only)) | ((fail_if_success ((first | with_reducible show wpAny _ _ (eval (PySem.Expr.ListComp _ _ _ _) _) _ _ _ | with_reducible show wpAny _ _ (exec (PySem.Stmt.While _ _ _ _) _) _ _ _ | with_reducible show wpAny _ _ (exec (PySem.Stmt.For _ _ _ _ _) _) _ _ _ | with_reducible show wpAny _ _ (pyIter _) _ _ _ | with_reducible show wpAny _ _ (call (Value.type "list") _) _ _ _ | with_reducible show wpAny _ _ (call (Value.builtin "str.join") _) _ _ _ | with_reducible show wpAny _ _ (eval (PySem.Expr.ListComp _ [PySem.Comprehension.mk (PySem.Expr.Tuple _ _ _) _ _ _] _ _) _) _ _ _ | with_reducible show LCg.CompSrc _ _ _ _ _ _ _ _ _ _ _ _ _ _ | with_reducible show wpAny _ _ (execs (PySem.Stmt.If (PySem.Expr.Compare _ [CmpOp.Lt] _ _) [PySem.Stmt.Assign [PySem.Expr.Tuple _ _ _] _ _] _ _ :: _) _) _ _ _))); first | (k_end; wrow_close) | walk1 | (dsimp only; walk1) | (leave1; walk_say "STEP leave1"; try dsimp only) | fail "no step")))
    refine item_led (by k_asm) (show (lr1, W.listOf #[.str ⟨r.word.toArray⟩ tr] 1) ∈ _ by k_mem) (by decide) (by decide) rfl ?_
    (repeat' (first | (k_unfold; first | walk_at "Seq" | (try dsimp only)) | ((fail_if_success ((first | with_reducible show wpAny _ _ (eval (PySem.Expr.ListComp _ _ _ _) _) _ _ _ | with_reducible show wpAny _ _ (exec (PySem.Stmt.While _ _ _ _) _) _ _ _ | with_reducible show wpAny _ _ (exec (PySem.Stmt.For _ _ _ _ _) _) _ _ _ | with_reducible show wpAny _ _ (pyIter _) _ _ _ | with_reducible show wpAny _ _ (call (Value.type "list") _) _ _ _ | with_reducible show wpAny _ _ (call (Value.builtin "str.join") _) _ _ _ | with_reducible show wpAny _ _ (eval (PySem.Expr.ListComp _ [PySem.Comprehension.mk (PySem.Expr.Tuple _ _ _) _ _ _] _ _) _) _ _ _ | with_reducible show LCg.CompSrc _ _ _ _ _ _ _ _ _ _ _ _ _ _ | with_reducible show wpAny _ _ (execs (PySem.Stmt.If (PySem.Expr.Compare _ [CmpOp.Lt] _ _) [PySem.Stmt.Assign [PySem.Expr.Tuple _ _ _] _ _] _ _ :: _) _) _ _ _))); first | (k_end; wrow_close) | walk1 | (dsimp only; walk1) | (leave1; walk_say "STEP leave1"; try dsimp only) | fail "no step")))
    refine LCg.CompEnd.intro (by k_asm) (show News _ _ _ ((I, oI) :: (C, oC) :: (D, LCg.lst ys) :: news) by k_asm) news (fun p hp => hp) off ?src ⟨rfl, ?_⟩
    case src => exact Or.inr ⟨_, m4, rfl, _, rfl⟩
    rw [List.take_add_one, hri, List.map_append]
    exact kct_snoc hJ
  case fin =>
    intro ys hl hJ
    intro D h tk F N o1
    dsimp only at *
    (repeat' (first | (k_unfold; first | walk_at "Seq" | (try dsimp only)) | ((fail_if_success ((first | with_reducible show wpAny _ _ (eval (PySem.Expr.ListComp _ _ _ _) _) _ _ _ | with_reducible show wpAny _ _ (exec (PySem.Stmt.While _ _ _ _) _) _ _ _ | with_reducible show wpAny _ _ (exec (PySem.Stmt.For _ _ _ _ _) _) _ _ _ | with_reducible show wpAny _ _ (pyIter _) _ _ _ | with_reducible show wpAny _ _ (call (Value.type "list") _) _ _ _ | with_reducible show wpAny _ _ (call (Value.builtin "str.join") _) _ _ _ | with_reducible show wpAny _ _ (eval (PySem.Expr.ListComp _ [PySem.Comprehension.mk (PySem.Expr.Tuple _ _ _) _ _ _] _ _) _) _ _ _ | with_reducible show LCg.CompSrc _ _ _ _ _ _ _ _ _ _ _ _ _ _ | with_reducible show wpAny _ _ (execs (PySem.Stmt.If (PySem.Expr.Compare _ [CmpOp.Lt] _ _) [PySem.Stmt.Assign [PySem.Expr.Tuple _ _ _] _ _] _ _ :: _) _) _ _ _))); first | (k_end; wrow_close) | walk1 | (dsimp only; walk1) | (leave1; walk_say "STEP leave1"; try dsimp only) | fail "no step")))
    refine hret (.ref D) [(D, LCg.lst ys)] _ _ ⟨D, ys, _, rfl, List.mem_cons_self, ?_⟩ (by k_asm) (by k_asm)
    rw [List.size_toArray, hA.length, List.take_length] at hJ
    exact hJ
end
end

section
section
noncomputable def subK (c x : Nat) : Nat := bif Nat.beq c x then 0 else bif Nat.beq (c % 32) (x % 32) then 1 else 2
noncomputable def mnK (x m : Nat) : Nat := bif Nat.ble m x then m else x
noncomputable def mxK (x m : Nat) : Nat := bif Nat.ble m x then x else m
noncomputable def bestK (f : List Nat → Nat) (x : Nat) : Nat → Nat → List Nat → Nat
  | m, _, [] => m
  | m, k, y :: b => bestK f x (mnK (k + subK x y + f b) m) (k + 2) b
noncomputable def priceK : List Nat → List Nat → Nat
  | [], b => 2 * b.length
  | x :: xs, [] => 2 * (xs.length + 1)
  | x :: xs, y :: b => bestK (priceK xs) x (2 + priceK xs (y :: b)) 0 (y :: b)
noncomputable def innK (c : Nat) : List Nat → List Nat → Nat → Nat → Nat → List Nat × Nat × Nat
  | x :: xs, r :: rs, d, res, mn =>
    match mnK (mnK res r + 2) (d + subK c x) with
    | res' => match innK c xs rs r res' (mnK res' mn) with
      | (l, q) => (res' :: l, q)
  | _, _, _, res, mn => ([], res, mn)
noncomputable def outK (a : List Nat) : List Nat → Nat → List Nat → Nat → Nat × Nat
  | [], _, _, res => (0, res)
  | c :: cs, i, row, _ =>
    match innK c a row i i 9223372036854775807 with
    | (row', res', mn) => match outK a cs (i + 2) row' res' with
      | (m, d) => (mxK mn m, d)
noncomputable def rowK : Nat → Nat → List Nat
  | _, 0 => []
  | k, n + 1 => k :: rowK (k + 2) n
noncomputable def preK : List Nat → List Nat → Nat
  | x :: xs, y :: ys => bif Nat.beq x y then preK xs ys + 1 else 0
  | _, _ => 0
noncomputable def dropPre : List Nat → List Nat → List Nat × List Nat
  | x :: xs, y :: ys => bif Nat.beq x y then dropPre xs ys else (x :: xs, y :: ys)
  | a, b => (a, b)
noncomputable def dpK (a b : List Nat) : Nat × Nat :=
  match outK a b 0 (rowK 2 a.length) 0 with
  | (m, d) => (mxK (2 * (b.length - a.length)) m, d)
noncomputable def levTK (a b : List Nat) : Nat × Nat :=
  bif Nat.beq a.length 0 || Nat.beq b.length 0 then (0, 2 * (a.length + b.length))
  else bif Nat.ble (b.length + 1) a.length then dpK b a else dpK a b
noncomputable def levK (a b : List Nat) : Nat × Nat :=
  match dropPre a b with
  | (a1, b1) => match dropPre a1.reverse b1.reverse with
    | (a2, b2) => levTK a2.reverse b2.reverse
noncomputable def signs : List Nat := [97, 98, 65, 66]
noncomputable def wordsN : Nat → List (List Nat)
  | 0 => [[]]
  | n + 1 => signs.flatMap fun c => (wordsN n).map (c :: ·)
noncomputable def words3 : List (List Nat) := wordsN 0 ++ wordsN 1 ++ wordsN 2 ++ wordsN 3
noncomputable def chk (a b : List Nat) : Bool := match levK a b with | (m, d) => Nat.ble m d && Nat.beq d (priceK a b)
end
end

section
open PySem PySem.W PyProof.Rows
section
noncomputable def L4 (c : Nat) : Prop := c = 97 ∨ c = 98 ∨ c = 65 ∨ c = 66
theorem mem_wordsN : ∀ {n : Nat} {l : List Nat}, l.length = n → (∀ c ∈ l, L4 c) → l ∈ wordsN n
  | 0, l, h, _ => by
    have : l = [] := List.length_eq_zero_iff.mp h
    subst this; simp [wordsN]
  | n + 1, [], h, _ => by simp at h
  | n + 1, c :: l, h, hc => by
    have h1 := hc c List.mem_cons_self
    have h2 := mem_wordsN (n := n) (l := l) (by simpa using h) fun c hc' => hc c (List.mem_cons_of_mem _ hc')
    simp only [wordsN, List.mem_flatMap, List.mem_map]
    refine ⟨c, ?_, l, h2, rfl⟩
    rcases h1 with rfl | rfl | rfl | rfl <;> decide
theorem of_wordsN : ∀ {n : Nat} {l : List Nat}, l ∈ wordsN n → l.length = n ∧ ∀ c ∈ l, L4 c
  | 0, l, h => by
    simp [wordsN] at h; subst h; exact ⟨rfl, fun _ h => nomatch h⟩
  | n + 1, l, h => by
    simp only [wordsN, List.mem_flatMap, List.mem_map] at h
    obtain ⟨c, hc, l', hl', rfl⟩ := h
    have ⟨h1, h2⟩ := of_wordsN hl'
    refine ⟨by simp [h1], fun d hd => ?_⟩
    rcases List.mem_cons.mp hd with rfl | hd
    · simp [signs] at hc
      rcases hc with h | h | h | h
      · exact .inl h
      · exact .inr (.inl h)
      · exact .inr (.inr (.inl h))
      · exact .inr (.inr (.inr h))
    · exact h2 d hd
theorem mem_words3 {l : List Nat} : l ∈ words3 ↔ l.length ≤ 3 ∧ ∀ c ∈ l, L4 c := by
  simp only [words3, List.mem_append]
  constructor
  · rintro (((h | h) | h) | h)
    all_goals (have ⟨h1, h2⟩ := of_wordsN h; exact ⟨by omega, h2⟩)
  · rintro ⟨h1, h2⟩
    have : l.length = 0 ∨ l.length = 1 ∨ l.length = 2 ∨ l.length = 3 := by omega
    rcases this with h | h | h | h
    · exact .inl (.inl (.inl (mem_wordsN h h2)))
    · exact .inl (.inl (.inr (mem_wordsN h h2)))
    · exact .inl (.inr (mem_wordsN h h2))
    · exact .inr (mem_wordsN h h2)
theorem sign_L4 (k : Int) : L4 (signAt k) := by
  unfold signAt L4
  split
  · exact .inl rfl
  · split
    · exact .inr (.inl rfl)
    · split
      · exact .inr (.inr (.inl rfl))
      · exact .inr (.inr (.inr rfl))
theorem good_word (x : Int) {n : Nat} (h : n ≤ 3) : wordF x n ∈ words3 := mem_words3.mpr ⟨by simp [wordF, h], fun c hc => by
  simp only [wordF, List.mem_map] at hc
  obtain ⟨k, _, rfl⟩ := hc
  exact sign_L4 _⟩
noncomputable def GoodRow (r : Row) : Prop := r.word ∈ words3 ∧ 0 ≤ r.span
theorem good_row (x : Int) : GoodRow (rowF x) := ⟨good_word _ (by
  have h1 : 0 ≤ (x.fdiv 16).fmod 4 := Int.fmod_nonneg_of_pos _ (by decide)
  have h2 : (x.fdiv 16).fmod 4 < 4 := Int.fmod_lt_of_pos _ (by decide)
  omega), Int.fmod_nonneg_of_pos _ (by decide)⟩
theorem good_len {nm : List Nat} (h : nm ∈ words3) : nm.length ≤ 3 := (mem_words3.mp h).1
noncomputable def swapN (c : Nat) : Nat := if c = 97 then 65 else if c = 98 then 66 else if c = 65 then 97 else 98
theorem swap_L4 {c : Nat} (h : L4 c) : L4 (swapN c) := by
  rcases h with rfl | rfl | rfl | rfl
  · exact .inr (.inr (.inl rfl))
  · exact .inr (.inr (.inr rfl))
  · exact .inl rfl
  · exact .inr (.inl rfl)
theorem good_ok {rs : List Row} (h : ∀ r ∈ rs, GoodRow r) : (rs.map wordS).all PyData.strOk = true := by
  rw [List.all_eq_true]
  intro x hx
  obtain ⟨r, hr, rfl⟩ := List.mem_map.mp hx
  have h2 := (mem_words3.mp (h r hr).1).2
  show (r.word.toArray.all fun c => decide (c < 0x110000)) = true
  simp only [List.all_toArray, List.all_eq_true, decide_eq_true_eq]
  intro c hc
  rcases h2 c hc with rfl | rfl | rfl | rfl <;> decide
theorem reach_app (nm : List Nat) (a b : List Row) : reachF nm (a ++ b) = reachF nm a ++ reachF nm b := by simp [reachF]
/-- the place of a pair in the order of pairs -/
noncomputable def rank (q : Int × Bool) : Int := 2 * q.1 + if q.2 then 1 else 0
theorem gt_rank (a b : Int × Bool) : gtP a b = true ↔ rank b < rank a := by
  obtain ⟨x, p⟩ := a
  obtain ⟨y, q⟩ := b
  unfold gtP rank
  dsimp only
  split
  · cases p <;> cases q <;> simp <;> omega
  · cases p <;> cases q <;> simp <;> omega
theorem rank_inj {a b : Int × Bool} (h : rank a = rank b) : a = b := by
  obtain ⟨x, p⟩ := a
  obtain ⟨y, q⟩ := b
  unfold rank at h
  cases p <;> cases q <;> simp at h ⊢ <;> omega
theorem max_mem : ∀ (m : Int × Bool) (xs : List (Int × Bool)), maxP m xs ∈ m :: xs
  | m, [] => List.mem_cons_self
  | m, x :: xs => by
    simp only [maxP]
    rcases List.mem_cons.mp (max_mem (if gtP x m then x else m) xs) with h | h
    · rw [h]
      split
      · exact List.mem_cons_of_mem _ List.mem_cons_self
      · exact List.mem_cons_self
    · exact List.mem_cons_of_mem _ (List.mem_cons_of_mem _ h)
theorem max_le : ∀ (m : Int × Bool) (xs : List (Int × Bool)), ∀ q ∈ m :: xs, rank q ≤ rank (maxP m xs)
  | m, [], q, h => by
    rcases List.mem_cons.mp h with rfl | h
    · exact Int.le_refl _
    · nomatch h
  | m, x :: xs, q, h => by
    simp only [maxP]
    have ih := max_le (if gtP x m then x else m) xs
    have h0 := ih _ List.mem_cons_self
    have hx : rank x ≤ rank (if gtP x m then x else m) ∧ rank m ≤ rank (if gtP x m then x else m) := by
      by_cases hg : gtP x m = true
      · rw [if_pos hg]; have := (gt_rank x m).mp hg; omega
      · rw [if_neg hg]
        have : ¬ rank m < rank x := fun h => hg ((gt_rank x m).mpr h)
        omega
    rcases List.mem_cons.mp h with rfl | h
    · omega
    · rcases List.mem_cons.mp h with rfl | h
      · omega
      · exact ih q (List.mem_cons_of_mem _ h)
theorem verdict_of {qs : List (Int × Bool)} {q : Int × Bool} (hm : q ∈ qs) (hl : ∀ p ∈ qs, rank p ≤ rank q) : verdictF qs = q.2 := by
  cases qs with
  | nil => nomatch hm
  | cons x xs =>
    have h1 := max_le x xs q hm
    have h2 := hl _ (max_mem x xs)
    have e := rank_inj (show rank (maxP x xs) = rank q by omega)
    simp only [verdictF, e]
theorem verdict_comm (a b : List (Int × Bool)) : verdictF (a ++ b) = verdictF (b ++ a) := by
  cases h : b ++ a with
  | nil =>
    obtain ⟨rfl, rfl⟩ := List.append_eq_nil_iff.mp h
    rfl
  | cons x xs =>
    have hm := max_mem x xs
    have hl := max_le x xs
    rw [← h] at hm hl
    have sw : ∀ p, p ∈ a ++ b ↔ p ∈ b ++ a := fun p => by simp only [List.mem_append]; exact or_comm
    exact verdict_of ((sw _).mpr hm) (fun p hp => hl p ((sw p).mp hp))
end
end

section
open PySem PySem.W PyProof.Rows
section
theorem flat_one : ∀ l : List Nat, ((l.map fun c => #[c]).toArray).flatten = l.toArray := by
  intro l
  apply Array.toList_inj.mp
  rw [Array.toList_flatten]
  simp only [List.map_map, Function.comp_def]
  induction l with
  | nil => rfl
  | cons c l ih => simp at ih ⊢; exact ih
theorem placed_map {l : List Nat} {f : Nat → Nat → List Nat} {g : Nat → Nat} (h : ∀ i c, l[i]? = some c → f i c = [g c]) : placed ⟨l.toArray⟩ f = (l.map g).toArray := by
  unfold placed
  rw [List.mapIdx_toArray]
  have e : (l.mapIdx fun i c => (f i c).toArray) = (l.map g).map fun c => #[c] := by
    apply List.ext_getElem?
    intro i
    rw [List.getElem?_mapIdx, List.getElem?_map, List.getElem?_map]
    cases hc : l[i]? with
    | none => rfl
    | some c => simp [h i c hc]
  rw [e, flat_one]
theorem swap_at {c : Nat} (h : L4 c) : (if Unicode.isUpper c then Unicode.lowerOf c else if Unicode.isLower c then Unicode.upperOf c else [c]) = [swapN c] := by
  rcases h with rfl | rfl | rfl | rfl <;> decide +kernel
theorem ne_sigma {c : Nat} (h : L4 c) : (c == 0x3A3) = false := by
  rcases h with rfl | rfl | rfl | rfl <;> decide
theorem good_swap {nm : List Nat} (h : nm ∈ words3) : Txt.swapcase ⟨nm.toArray⟩ = ⟨(nm.map swapN).toArray⟩ ∧ nm.map swapN ∈ words3 := by
  have ⟨h1, h2⟩ := mem_words3.mp h
  refine ⟨?_, mem_words3.mpr ⟨by simpa using h1, fun c hc => ?_⟩⟩
  · show (⟨placed ⟨nm.toArray⟩ _⟩ : Str) = _
    congr 1
    refine placed_map (l := nm) fun i c hc => ?_
    have hm := h2 c (List.mem_of_getElem? hc)
    have e : Unicode.lowerAt nm.toArray i = Unicode.lowerOf c := by
      unfold Unicode.lowerAt
      have : nm.toArray[i]? = some c := by simpa using hc
      rw [this]
      simp only [ne_sigma hm, Bool.false_and, Bool.false_eq_true, if_false]
    rw [e]
    exact swap_at hm
  · obtain ⟨d, hd, rfl⟩ := List.mem_map.mp hc
    exact swap_L4 (h2 d hd)
theorem subN_K {c x : Nat} (hc : L4 c) (hx : L4 x) : subN c x = (subK c x : Int) := by
  rcases hc with rfl | rfl | rfl | rfl <;> rcases hx with rfl | rfl | rfl | rfl <;> decide +kernel
theorem signN_K {c x : Nat} (hc : L4 c) (hx : L4 x) : signN c x = (subK c x : Int) := by
  rcases hc with rfl | rfl | rfl | rfl <;> rcases hx with rfl | rfl | rfl | rfl <;> decide +kernel

noncomputable def AllL4 (l : List Nat) : Prop := ∀ c ∈ l, L4 c
theorem mnK_if (x m : Nat) : ((mnK x m : Nat) : Int) = if (x : Int) < m then (x : Int) else m := by
  unfold mnK
  cases h : Nat.ble m x with
  | true => have := Nat.le_of_ble_eq_true h; rw [if_neg (by omega)]; rfl
  | false =>
    have : ¬ m ≤ x := fun h' => by rw [Nat.ble_eq_true_of_le h'] at h; cases h
    rw [if_pos (by omega)]; rfl
theorem mnK_min (x m : Nat) : ((mnK x m : Nat) : Int) = min (x : Int) m := by
  rw [mnK_if]; omega
theorem mxK_le (x m : Nat) : x ≤ mxK x m ∧ m ≤ mxK x m ∧ (mxK x m = x ∨ mxK x m = m) := by
  unfold mxK
  cases h : Nat.ble m x with
  | true => have := Nat.le_of_ble_eq_true h; exact ⟨Nat.le_refl _, this, .inl rfl⟩
  | false =>
    have : ¬ m ≤ x := fun h' => by rw [Nat.ble_eq_true_of_le h'] at h; cases h
    exact ⟨show x ≤ m by omega, Nat.le_refl _, .inr rfl⟩
theorem best_K {x : Nat} (hx : L4 x) {f : List Nat → Nat} {F : List Nat → Int} (hf : ∀ l, AllL4 l → F l = (f l : Int)) : ∀ (b : List Nat) (m k : Nat), AllL4 b →
    ((bestK f x m k b : Nat) : Int) = minL m ((List.range b.length).map fun (j : Nat) => (k : Int) + 2 * (j : Int) + signN x (b.getD j 0) + F (b.drop (j + 1)))
  | [], m, k, _ => rfl
  | y :: b, m, k, hb => by
    have hb' : AllL4 b := fun c hc => hb c (List.mem_cons_of_mem _ hc)
    rw [List.length_cons, List.range_succ_eq_map, List.map_cons, List.map_map]
    simp only [bestK, minL]
    rw [best_K hx hf b _ _ hb']
    have e1 : ((mnK (k + subK x y + f b) m : Nat) : Int) = if (k : Int) + 2 * ((0 : Nat) : Int) + signN x ((y :: b).getD 0 0) + F ((y :: b).drop (0 + 1)) < m then (k : Int) + 2 * ((0 : Nat) : Int) + signN x ((y :: b).getD 0 0) + F ((y :: b).drop (0 + 1)) else m := by
      rw [mnK_if]
      have e : ((k + subK x y + f b : Nat) : Int) = (k : Int) + 2 * ((0 : Nat) : Int) + signN x ((y :: b).getD 0 0) + F ((y :: b).drop (0 + 1)) := by
        show _ = (k : Int) + 2 * ((0 : Nat) : Int) + signN x y + F b
        rw [signN_K hx (hb y List.mem_cons_self), hf b hb']
        omega
      rw [e]
    rw [e1]
    congr 1
    apply List.map_congr_left
    intro j _
    simp only [Function.comp]
    show ((k + 2 : Nat) : Int) + 2 * (j : Int) + signN x (b.getD j 0) + F (b.drop (j + 1)) = (k : Int) + 2 * ((j + 1 : Nat) : Int) + signN x ((y :: b).getD (j + 1) 0) + F ((y :: b).drop (j + 1 + 1))
    rw [List.getD_cons_succ, List.drop_succ_cons]
    omega
theorem price_K : ∀ (a : List Nat), AllL4 a → ∀ b, AllL4 b → priceF a b = (priceK a b : Int)
  | [], _, b, _ => by simp [priceF, priceK]
  | x :: xs, ha, b, hb => by
    have hx := ha x List.mem_cons_self
    have hxs : AllL4 xs := fun c hc => ha c (List.mem_cons_of_mem _ hc)
    have ih := price_K xs hxs
    cases b with
    | nil => simp [priceF, priceK]
    | cons y b =>
      rw [priceF, if_neg (by simp), priceK, best_K hx (F := priceF xs) ih _ _ _ hb]
      have e : (((2 + priceK xs (y :: b) : Nat)) : Int) = 2 + priceF xs (y :: b) := by rw [ih _ hb]; omega
      rw [e]
      congr 1
      apply List.map_congr_left
      intro j _
      omega
theorem inn_K {c : Nat} (hc : L4 c) : ∀ (a row : List Nat) (d res mn : Nat), AllL4 a →
    inn c a (row.map fun (n : Nat) => (n : Int)) d res mn = ((innK c a row d res mn).1.map (fun (n : Nat) => (n : Int)), ((innK c a row d res mn).2.1 : Int), ((innK c a row d res mn).2.2 : Int))
  | [], row, d, res, mn, _ => by simp [inn, innK]
  | x :: xs, [], d, res, mn, _ => by simp [inn, innK]
  | x :: xs, r :: rs, d, res, mn, ha => by
    have hx := ha x List.mem_cons_self
    have hxs : AllL4 xs := fun c hc => ha c (List.mem_cons_of_mem _ hc)
    simp only [inn, innK, List.map_cons]
    have e : min (min (res : Int) (r : Int) + 2) ((d : Int) + subN c x) = ((mnK (mnK res r + 2) (d + subK c x) : Nat) : Int) := by
      rw [mnK_min, subN_K hc hx]
      have := mnK_min res r
      omega
    rw [e]
    generalize mnK (mnK res r + 2) (d + subK c x) = res'
    have e2 : (if (res' : Int) < mn then (res' : Int) else mn) = ((mnK res' mn : Nat) : Int) := (mnK_if _ _).symm
    rw [e2, inn_K hc xs rs r res' (mnK res' mn) hxs]
theorem out_K {a : List Nat} (ha : AllL4 a) {mc : Int} (h0 : 0 ≤ mc) : ∀ (b : List Nat) (i : Nat) (row : List Nat) (res m d : Nat), AllL4 b → outK a b (2 * i) row res = (m, d) →
    out a mc b i (row.map fun (n : Nat) => (n : Int)) res = if mc < (m : Int) then mc + 1 else (d : Int)
  | [], i, row, res, m, d, _, e => by
    cases e
    simp only [out]
    rw [if_neg (by omega)]
  | c :: cs, i, row, res, m, d, hb, e => by
    have hc := hb c List.mem_cons_self
    have hcs : AllL4 cs := fun c hc => hb c (List.mem_cons_of_mem _ hc)
    have ei : ((i : Int) * 2) = ((2 * i : Nat) : Int) := by omega
    have eM : (9223372036854775807 : Int) = ((9223372036854775807 : Nat) : Int) := by rfl
    cases hq : innK c a row (2 * i) (2 * i) 9223372036854775807 with
    | mk row' p =>
      obtain ⟨res', mn⟩ := p
      cases hr : outK a cs (2 * (i + 1)) row' res' with
      | mk m' d' =>
        rw [show 2 * (i + 1) = 2 * i + 2 by omega] at hr
        simp only [outK] at e
        rw [hq] at e
        dsimp only at e
        rw [hr] at e
        cases e
        simp only [out]
        rw [ei, eM, inn_K hc a row _ _ _ ha, hq]
        dsimp only
        rw [out_K ha h0 cs (i + 1) row' res' m' d' hcs (by rw [show 2 * (i + 1) = 2 * i + 2 by omega]; exact hr)]
        have ⟨h1, h2, h3⟩ := mxK_le mn m'
        by_cases hm : (mn : Int) > mc
        · rw [if_pos hm, if_pos (by omega)]
        · rw [if_neg hm]
          by_cases hm2 : mc < (m' : Int)
          · rw [if_pos hm2, if_pos (by omega)]
          · rw [if_neg hm2, if_neg (by omega)]
theorem row_K : ∀ (n k : Nat), (rowK k n).map (fun (n : Nat) => (n : Int)) = (List.range n).map fun (i : Nat) => (k : Int) + (i : Int) * 2
  | 0, k => rfl
  | n + 1, k => by
    rw [List.range_succ_eq_map, List.map_cons, List.map_map]
    simp only [rowK, List.map_cons]
    rw [row_K n (k + 2)]
    have e : ((fun (i : Nat) => (k : Int) + (i : Int) * 2) ∘ Nat.succ) = fun (i : Nat) => ((k + 2 : Nat) : Int) + (i : Int) * 2 := by
      funext j
      simp only [Function.comp]
      omega
    rw [e]
    simp
theorem dp_K {a b : List Nat} (ha : AllL4 a) (hb : AllL4 b) {mc : Int} (h0 : 0 ≤ mc) (hl : a.length ≤ b.length) {m d : Nat} (e : dpK a b = (m, d)) :
    (if mc < ((b.length : Int) - a.length) * 2 then mc + 1 else out a mc b 0 (rangeInts 2 2 a.length) 0) = if mc < (m : Int) then mc + 1 else (d : Int) := by
  have er : rangeInts 2 2 a.length = (rowK 2 a.length).map fun (n : Nat) => (n : Int) := by
    rw [row_K]; rfl
  cases hr : outK a b (2 * 0) (rowK 2 a.length) 0 with
  | mk m' d' =>
    have e2 := out_K ha h0 b 0 (rowK 2 a.length) 0 m' d' hb hr
    rw [show ((0 : Nat) : Int) = 0 from rfl] at e2
    rw [er, e2]
    unfold dpK at e
    rw [show 2 * 0 = 0 from rfl] at hr
    rw [hr] at e
    cases e
    have ⟨h1, h2, h3⟩ := mxK_le (2 * (b.length - a.length)) m'
    by_cases hm : mc < ((b.length : Int) - a.length) * 2
    · rw [if_pos hm, if_pos (by omega)]
    · rw [if_neg hm]
      by_cases hm2 : mc < (m' : Int)
      · rw [if_pos hm2, if_pos (by omega)]
      · rw [if_neg hm2, if_neg (by omega)]
theorem levT_K {a b : List Nat} (ha : AllL4 a) (hb : AllL4 b) (la : a.length ≤ 40) (lb : b.length ≤ 40) {mc : Int} (h0 : 0 ≤ mc) {m d : Nat} (e : levTK a b = (m, d)) :
    levT a b mc = if mc < (m : Int) then mc + 1 else (d : Int) := by
  by_cases hz : a.length = 0 ∨ b.length = 0
  · rw [levT_empty hz]
    unfold levTK at e
    have : (Nat.beq a.length 0 || Nat.beq b.length 0) = true := by
      rcases hz with h | h
      · rw [h]; rfl
      · rw [h, Bool.or_eq_true]; exact .inr rfl
    rw [this] at e
    cases e
    rw [if_neg (by omega)]
    omega
  · have hz1 : a.length ≠ 0 := fun h => hz (.inl h)
    have hz2 : b.length ≠ 0 := fun h => hz (.inr h)
    have e0 : (Nat.beq a.length 0 || Nat.beq b.length 0) = false := by
      rw [Bool.or_eq_false_iff]
      exact ⟨by cases h : a.length with | zero => exact absurd h hz1 | succ n => rfl, by cases h : b.length with | zero => exact absurd h hz2 | succ n => rfl⟩
    unfold levTK at e
    unfold levT
    rw [if_neg hz, if_neg (by omega)]
    rw [e0] at e
    by_cases hs : b.length < a.length
    · have e1 : levA a b = b := by unfold levA; rw [if_pos hs]
      have e2 : levB a b = a := by unfold levB; rw [if_pos hs]
      rw [e1, e2]
      rw [Nat.ble_eq_true_of_le (show b.length + 1 ≤ a.length by omega)] at e
      exact dp_K hb ha h0 (by omega) e
    · have e1 : levA a b = a := by unfold levA; rw [if_neg hs]
      have e2 : levB a b = b := by unfold levB; rw [if_neg hs]
      have e3 : Nat.ble (b.length + 1) a.length = false := by
        cases h : Nat.ble (b.length + 1) a.length with
        | false => rfl
        | true => have := Nat.le_of_ble_eq_true h; omega
      rw [e1, e2]
      rw [e3] at e
      exact dp_K ha hb h0 (by omega) e
theorem drop_pre : ∀ a b : List Nat, dropPre a b = (a.drop (preN a b), b.drop (preN a b))
  | [], b => by simp [dropPre, preN]
  | x :: xs, [] => by simp [dropPre, preN]
  | x :: xs, y :: ys => by
    simp only [dropPre, preN]
    by_cases h : x = y
    · rw [if_pos h, show Nat.beq x y = true by rw [h]; exact Nat.beq_refl y]
      simp only [cond_true, List.drop_succ_cons]
      exact drop_pre xs ys
    · have : Nat.beq x y = false := by
        cases h' : Nat.beq x y with
        | false => rfl
        | true => exact absurd (Nat.eq_of_beq_eq_true h') h
      rw [if_neg h, this]
      rfl
theorem pre_self : ∀ a : List Nat, preN a a = a.length
  | [] => rfl
  | x :: xs => by simp [preN, pre_self xs]
theorem lev_K {a b : List Nat} (ha : AllL4 a) (hb : AllL4 b) (la : a.length ≤ 40) (lb : b.length ≤ 40) {mc : Int} (h0 : 0 ≤ mc) {m d : Nat} (e : levK a b = (m, d)) :
    levF a b mc = if mc < (m : Int) then mc + 1 else (d : Int) := by
  have eK : levK a b = levTK (levS (levP a b).1 (levP a b).2).1 (levS (levP a b).1 (levP a b).2).2 := by
    unfold levK levP levS
    rw [drop_pre]
    dsimp only
    rw [drop_pre]
    dsimp only
    rw [List.drop_reverse, List.drop_reverse, List.reverse_reverse, List.reverse_reverse]
  rw [eK] at e
  by_cases h : a = b
  · subst h
    have e' : levTK (levS (levP a a).1 (levP a a).2).1 (levS (levP a a).1 (levP a a).2).2 = (0, 0) := by
      unfold levP levS
      simp only [pre_self, List.drop_length]
      rfl
    rw [e'] at e
    cases e
    unfold levF
    rw [if_pos rfl, if_neg (by omega)]
    rfl
  · unfold levF
    rw [if_neg h]
    refine levT_K ?_ ?_ ?_ ?_ h0 e
    · exact fun c hc => ha c (List.mem_of_mem_drop (List.mem_of_mem_take hc))
    · exact fun c hc => hb c (List.mem_of_mem_drop (List.mem_of_mem_take hc))
    · unfold levS levP; simp only [List.length_take, List.length_drop]; omega
    · unfold levS levP; simp only [List.length_take, List.length_drop]; omega
end
end

section
open PySem PySem.W PyProof.Rows
section
/-- a change of letters that keeps what two letters are to one another -/
structure Keeps (f : Nat → Nat) : Prop where
  sub : ∀ c x, L4 c → L4 x → subK (f c) (f x) = subK c x
  beq : ∀ c x, L4 c → L4 x → Nat.beq (f c) (f x) = Nat.beq c x
section
variable {f : Nat → Nat} (H : Keeps f)
include H
theorem best_map {g g' : List Nat → Nat} (hg : ∀ l, AllL4 l → g' (l.map f) = g l) {x : Nat} (hx : L4 x) : ∀ (b : List Nat) (m k : Nat), AllL4 b → bestK g' (f x) m k (b.map f) = bestK g x m k b
  | [], _, _, _ => rfl
  | y :: b, m, k, hb => by
    have hb' : AllL4 b := fun c hc => hb c (List.mem_cons_of_mem _ hc)
    simp only [List.map_cons, bestK]
    rw [H.sub x y hx (hb y List.mem_cons_self), hg b hb']
    exact best_map hg hx b _ _ hb'
theorem price_map : ∀ (a : List Nat), AllL4 a → ∀ b, AllL4 b → priceK (a.map f) (b.map f) = priceK a b
  | [], _, b, _ => by simp [priceK]
  | x :: xs, ha, b, hb => by
    have hx := ha x List.mem_cons_self
    have hxs : AllL4 xs := fun c hc => ha c (List.mem_cons_of_mem _ hc)
    have ih := price_map xs hxs
    cases b with
    | nil => simp [priceK]
    | cons y b =>
      have e := ih (y :: b) hb
      have e2 := best_map H (g := priceK xs) (g' := priceK (xs.map f)) ih hx (y :: b) (2 + priceK xs (y :: b)) 0 hb
      simp only [List.map_cons] at e e2 ⊢
      simp only [priceK]
      rw [e]
      exact e2
theorem inn_map {c : Nat} (hc : L4 c) : ∀ (a row : List Nat) (d res mn : Nat), AllL4 a → innK (f c) (a.map f) row d res mn = innK c a row d res mn
  | [], row, d, res, mn, _ => by simp [innK]
  | x :: xs, [], d, res, mn, _ => by simp [innK]
  | x :: xs, r :: rs, d, res, mn, ha => by
    have hxs : AllL4 xs := fun c hc => ha c (List.mem_cons_of_mem _ hc)
    simp only [List.map_cons, innK]
    rw [H.sub c x hc (ha x List.mem_cons_self), inn_map hc xs rs _ _ _ hxs]
theorem out_map {a : List Nat} (ha : AllL4 a) : ∀ (b : List Nat) (i : Nat) (row : List Nat) (res : Nat), AllL4 b → outK (a.map f) (b.map f) i row res = outK a b i row res
  | [], _, _, _, _ => rfl
  | c :: cs, i, row, res, hb => by
    have hcs : AllL4 cs := fun c hc => hb c (List.mem_cons_of_mem _ hc)
    simp only [List.map_cons, outK]
    rw [inn_map H (hb c List.mem_cons_self) a row _ _ _ ha, out_map ha cs _ _ _ hcs]
theorem dp_map {a b : List Nat} (ha : AllL4 a) (hb : AllL4 b) : dpK (a.map f) (b.map f) = dpK a b := by
  unfold dpK
  rw [out_map H ha b _ _ _ hb, List.length_map, List.length_map]
theorem levT_map {a b : List Nat} (ha : AllL4 a) (hb : AllL4 b) : levTK (a.map f) (b.map f) = levTK a b := by
  unfold levTK
  rw [dp_map H ha hb, dp_map H hb ha, List.length_map, List.length_map]
theorem drop_map : ∀ (a b : List Nat), AllL4 a → AllL4 b → dropPre (a.map f) (b.map f) = ((dropPre a b).1.map f, (dropPre a b).2.map f)
  | [], b, _, _ => by simp [dropPre]
  | x :: xs, [], _, _ => by simp [dropPre]
  | x :: xs, y :: ys, ha, hb => by
    simp only [List.map_cons, dropPre]
    rw [H.beq x y (ha x List.mem_cons_self) (hb y List.mem_cons_self)]
    cases Nat.beq x y with
    | true => exact drop_map xs ys (fun c hc => ha c (List.mem_cons_of_mem _ hc)) (fun c hc => hb c (List.mem_cons_of_mem _ hc))
    | false => rfl
theorem lev_map {a b : List Nat} (ha : AllL4 a) (hb : AllL4 b) : levK (a.map f) (b.map f) = levK a b := by
  unfold levK
  rw [drop_map H a b ha hb]
  have h1 : AllL4 (dropPre a b).1 := by rw [drop_pre]; exact fun c hc => ha c (List.mem_of_mem_drop hc)
  have h2 : AllL4 (dropPre a b).2 := by rw [drop_pre]; exact fun c hc => hb c (List.mem_of_mem_drop hc)
  generalize dropPre a b = p at *
  obtain ⟨a1, b1⟩ := p
  dsimp only at *
  have h3 : AllL4 a1.reverse := fun c hc => h1 c (List.mem_reverse.mp hc)
  have h4 : AllL4 b1.reverse := fun c hc => h2 c (List.mem_reverse.mp hc)
  rw [← List.map_reverse, ← List.map_reverse, drop_map H _ _ h3 h4]
  have h5 : AllL4 (dropPre a1.reverse b1.reverse).1 := by rw [drop_pre]; exact fun c hc => h3 c (List.mem_of_mem_drop hc)
  have h6 : AllL4 (dropPre a1.reverse b1.reverse).2 := by rw [drop_pre]; exact fun c hc => h4 c (List.mem_of_mem_drop hc)
  generalize dropPre a1.reverse b1.reverse = p at *
  obtain ⟨a2, b2⟩ := p
  dsimp only at *
  rw [← List.map_reverse, ← List.map_reverse]
  exact levT_map H (fun c hc => h5 c (List.mem_reverse.mp hc)) (fun c hc => h6 c (List.mem_reverse.mp hc))
theorem chk_map {a b : List Nat} (ha : AllL4 a) (hb : AllL4 b) : chk (a.map f) (b.map f) = chk a b := by
  unfold chk
  rw [lev_map H ha hb, price_map H a ha b hb]
end
noncomputable def turnA (c : Nat) : Nat := if c = 97 then 98 else if c = 98 then 97 else if c = 65 then 66 else 65
theorem keeps_swap : Keeps swapN := ⟨fun c x hc hx => by rcases hc with rfl | rfl | rfl | rfl <;> rcases hx with rfl | rfl | rfl | rfl <;> decide, fun c x hc hx => by rcases hc with rfl | rfl | rfl | rfl <;> rcases hx with rfl | rfl | rfl | rfl <;> decide⟩
theorem keeps_turn : Keeps turnA := ⟨fun c x hc hx => by rcases hc with rfl | rfl | rfl | rfl <;> rcases hx with rfl | rfl | rfl | rfl <;> decide, fun c x hc hx => by rcases hc with rfl | rfl | rfl | rfl <;> rcases hx with rfl | rfl | rfl | rfl <;> decide⟩
theorem turn_L4 {c : Nat} (h : L4 c) : L4 (turnA c) := by
  rcases h with rfl | rfl | rfl | rfl
  · exact .inr (.inl rfl)
  · exact .inl rfl
  · exact .inr (.inr (.inr rfl))
  · exact .inr (.inr (.inl rfl))
theorem all_swap {l : List Nat} (h : AllL4 l) : AllL4 (l.map swapN) := fun c hc => by obtain ⟨d, hd, rfl⟩ := List.mem_map.mp hc; exact swap_L4 (h d hd)
theorem all_turn {l : List Nat} (h : AllL4 l) : AllL4 (l.map turnA) := fun c hc => by obtain ⟨d, hd, rfl⟩ := List.mem_map.mp hc; exact turn_L4 (h d hd)
theorem tab0 : (words3.all fun b => chk [] b) = true := by decide +kernel
theorem tab1 : ((wordsN 0).all fun a => words3.all fun b => chk (97 :: a) b) = true := by decide +kernel
theorem tab2 : ((wordsN 1).all fun a => words3.all fun b => chk (97 :: a) b) = true := by decide +kernel
theorem tab3 : ((wordsN 2).all fun a => words3.all fun b => chk (97 :: a) b) = true := by decide +kernel
theorem chk_97 {a b : List Nat} (ha : AllL4 a) (la : a.length ≤ 2) (hb : b ∈ words3) : chk (97 :: a) b = true := by
  have get : ∀ {n : Nat}, ((wordsN n).all fun a => words3.all fun b => chk (97 :: a) b) = true → a.length = n → chk (97 :: a) b = true := fun h hl => by
    have h1 := List.all_eq_true.mp h a (mem_wordsN hl ha)
    exact List.all_eq_true.mp h1 b hb
  have : a.length = 0 ∨ a.length = 1 ∨ a.length = 2 := by omega
  rcases this with h | h | h
  · exact get tab1 h
  · exact get tab2 h
  · exact get tab3 h
theorem chk_all {a b : List Nat} (ha : a ∈ words3) (hb : b ∈ words3) : chk a b = true := by
  have ⟨a1, a2⟩ := mem_words3.mp ha
  have ⟨b1, b2⟩ := mem_words3.mp hb
  cases a with
  | nil => exact List.all_eq_true.mp tab0 b hb
  | cons c a =>
    have hc := a2 c List.mem_cons_self
    have ha' : AllL4 a := fun d hd => a2 d (List.mem_cons_of_mem _ hd)
    have la : a.length ≤ 2 := by simp at a1; omega
    rcases hc with rfl | rfl | rfl | rfl
    · exact chk_97 ha' la hb
    · rw [← chk_map keeps_turn a2 b2]
      exact chk_97 (all_turn ha') (by simpa using la) (mem_words3.mpr ⟨by simpa using b1, all_turn b2⟩)
    · rw [← chk_map keeps_swap a2 b2]
      exact chk_97 (all_swap ha') (by simpa using la) (mem_words3.mpr ⟨by simpa using b1, all_swap b2⟩)
    · rw [← chk_map keeps_turn a2 b2, ← chk_map keeps_swap (all_turn a2) (all_turn b2)]
      exact chk_97 (all_swap (all_turn ha')) (by simpa using la) (mem_words3.mpr ⟨by simpa using b1, all_swap (all_turn b2)⟩)
end
end

section
open PySem PySem.W PyProof.Rows
section
theorem reach_max {nm : List Nat} {r : Row} (hn : nm ∈ words3) (hr : GoodRow r) : reachN r nm = if 0 < (pairF nm r).1 then (pairF nm r).1 else 0 := by
  obtain ⟨hw, h0⟩ := hr
  have ⟨n1, n2⟩ := mem_words3.mp hn
  have ⟨w1, w2⟩ := mem_words3.mp hw
  have hc := chk_all hw hn
  cases e : levK r.word nm with
  | mk m d =>
    unfold chk at hc
    rw [e] at hc
    simp only [Bool.and_eq_true] at hc
    have hmd := Nat.le_of_ble_eq_true hc.1
    have hp := Nat.eq_of_beq_eq_true hc.2
    have hl := lev_K (mc := r.span) w2 n2 (by omega) (by omega) h0 e
    have hpr := price_K r.word w2 nm n2
    rw [← hp] at hpr
    unfold reachN pairF
    rw [hl, hpr]
    dsimp only
    by_cases hm : r.span < (m : Int)
    · rw [if_pos hm]
      rw [if_neg (by omega), if_neg (by omega)]
    · rw [if_neg hm]
theorem reach_cons (nm : List Nat) (r : Row) (rs : List Row) : reachF nm (r :: rs) = if 0 < (pairF nm r).1 then pairF nm r :: reachF nm rs else reachF nm rs := by
  simp only [reachF, List.map_cons, List.filter_cons, decide_eq_true_eq]
theorem fold_pos {nm : List Nat} (hn : nm ∈ words3) : ∀ (rs : List Row) (m : Int × Bool), (∀ r ∈ rs, GoodRow r) → rs.foldl (allowStep nm) m = maxP m (reachF nm rs)
  | [], m, _ => rfl
  | r :: rs, m, h => by
    have hr := reach_max hn (h r List.mem_cons_self)
    have ih := fun m => fold_pos hn rs m fun r' hr' => h r' (List.mem_cons_of_mem _ hr')
    have eal : (pairF nm r).2 = r.al := rfl
    rw [List.foldl_cons, reach_cons]
    by_cases hp : 0 < (pairF nm r).1
    · rw [if_pos hp] at hr ⊢
      simp only [maxP]
      rw [ih]
      congr 1
      obtain ⟨m1, m2⟩ := m
      unfold allowStep
      rw [hr, if_neg (by omega)]
      generalize hq : pairF nm r = q at *
      obtain ⟨q1, q2⟩ := q
      dsimp only at *
      unfold gtP
      dsimp only
      subst eal
      by_cases h1 : q1 > m1
      · rw [if_pos h1, if_neg (show ¬ q1 = m1 by omega), if_pos (by simpa using h1)]
      · rw [if_neg h1]
        by_cases h2 : q1 = m1
        · subst h2
          cases m2 <;> cases hal : r.al <;> simp
        · rw [if_neg (fun h => h2 h.1), if_neg h2, if_neg (by simpa using h1)]
    · rw [if_neg hp] at hr ⊢
      have : allowStep nm m r = m := by unfold allowStep; rw [hr, if_pos rfl]
      rw [this]
      exact ih m
theorem plain_law {nm : List Nat} {rs : List Row} (hn : nm ∈ words3) (hr : ∀ r ∈ rs, GoodRow r) : allowF nm rs = verdictF (reachF nm rs) := by
  unfold allowF
  rw [fold_pos hn rs _ hr]
  cases h : reachF nm rs with
  | nil => rfl
  | cons x xs =>
    have hx : 0 < x.1 := by
      have : x ∈ reachF nm rs := by rw [h]; exact List.mem_cons_self
      simp only [reachF, List.mem_filter, decide_eq_true_eq] at this
      exact this.2
    simp only [verdictF, maxP]
    have : gtP x (-1, true) = true := by unfold gtP; rw [if_neg (by dsimp only; omega)]; simp; omega
    rw [if_pos this]
end
end

section
local macro_rules | `(tactic| walk_at "mine pad") => `(tactic| skip)
open PySem PySem.W PyProof.Rows
section
local macro_rules | `(tactic| k_mem) => `(tactic| assumption)
local macro_rules | `(tactic| k_mem) => `(tactic| ((repeat refine List.mem_cons_of_mem _ ?_); assumption))
local macro_rules | `(tactic| walk_at "eval Name") => `(tactic| (k_here; (with_reducible show wpAny _ _ (eval (Expr.Name _ _) (compEnvC _ _ _ _)) _ _ _); k_dflt (first
  | refine LCgL.ld_own (by k_asm) (List.mem_cons_of_mem _ List.mem_cons_self) (by assumption) (by assumption) ?_
  | refine LCgL.ld_global (by k_asm) (by k_asm) (by k_asm) (by k_is) ?_)))
theorem isl5 {h₀ h : Heap} {L a : Addr} {arr : Array Value} {n : Nat} {rest : List (Addr × Obj)} {G : Prop} (N : News h₀ L h ((a, W.listOf arr n) :: rest)) (ns : List Int) (hI : IntsAre arr.toList ns)
    (k : ∀ us : List Value, h.IsList a us.toArray → IntsAre us ns → G) : G := k arr.toList ⟨_, (N _ List.mem_cons_self).1, rfl, n, by simp⟩ hI
section
variable {prog : Program} {w : World} {A : Around} {E : Value → Shared → Prop} {s : Shared} {h₀ : Heap} {L l : Addr} {m : Str → Option Value} {news : List (Addr × Obj)} {value slice : PySem.Expr} {vs : List Value} {t : Tok} {e b : Nat} {Q : Value → Shared → Prop}
theorem slice_to (F : Fr h₀ L s.heap m) (N : News h₀ L s.heap news) (hm : (l, W.listOf vs.toArray e) ∈ news) (hz : vs.length ≤ sizeLine)
    (h : ∀ D h', Fr h₀ L h' m → News h₀ L h' ((D, W.listOf (vs.take b).toArray 0) :: news) → (∀ p ∈ news, p.1 < D) → Q (.ref D) { s with heap := h' })
    (hs : subscripted slice false (.ref l) (.ref s.heap.objs.size) = operate [.ref s.heap.objs.size, .ref l] (getItem (.ref l) (.ref s.heap.objs.size)) := by with_unfolding_all rfl) (ht : ∀ r, letTemporaryGo value (.ref l) r = pure () := by intro _; with_unfolding_all rfl) :
    wpAny (model prog w) A (subscriptTail value slice (.ref l) (.ref s.heap.objs.size)) Q E { s with heap := s.heap.push { cls := .type "slice", data := .fields #[.none, .int b t, .none] } } :=
  kmk_slice_lit F N ⟨_, (N _ hm).1, rfl, _, rfl⟩ .none (.int _ _) (by rw [slicePick_upto']) h hs ht (by simpa using hz)
theorem slice_from (F : Fr h₀ L s.heap m) (N : News h₀ L s.heap news) (hm : (l, W.listOf vs.toArray e) ∈ news) (hz : vs.length ≤ sizeLine)
    (h : ∀ D h', Fr h₀ L h' m → News h₀ L h' ((D, W.listOf (vs.drop b).toArray 0) :: news) → (∀ p ∈ news, p.1 < D) → Q (.ref D) { s with heap := h' })
    (hs : subscripted slice false (.ref l) (.ref s.heap.objs.size) = operate [.ref s.heap.objs.size, .ref l] (getItem (.ref l) (.ref s.heap.objs.size)) := by with_unfolding_all rfl) (ht : ∀ r, letTemporaryGo value (.ref l) r = pure () := by intro _; with_unfolding_all rfl) :
    wpAny (model prog w) A (subscriptTail value slice (.ref l) (.ref s.heap.objs.size)) Q E { s with heap := s.heap.push { cls := .type "slice", data := .fields #[.int b t, .none, .none] } } :=
  kmk_slice_lit F N ⟨_, (N _ hm).1, rfl, _, rfl⟩ (.int _ _) .none (by rw [slicePick_from']) h hs ht (by simpa using hz)
end
theorem num_led {h₀ h : Heap} {L a b c : Addr} {oa ob oc oT : Obj} {G : Prop} (N : News h₀ L h [(a, oa), (b, ob), (c, oc), (91, oT)]) (ha : @LT.lt Nat _ 91 a) (hb : @LT.lt Nat _ 91 b) (hc : @LT.lt Nat _ 91 c)
    (k : ∀ rest, (a, oa) ∈ rest → (∀ p ∈ rest, p.1 ≠ 91) → News h₀ L h ((91, oT) :: rest) → G) : G :=
  k [(a, oa), (b, ob), (c, oc)] List.mem_cons_self (fun p hp => by simp only [List.mem_cons, List.not_mem_nil, or_false] at hp; rcases hp with rfl | rfl | rfl <;> (refine neN ?_; dsimp only; omega)) (news_tab (tl := [(a, oa), (b, ob), (c, oc)]) (news := []) N)
theorem ints5 {us : List Value} {xs : List Int} (h : IntsAre us xs) (hl : xs.length = 5) : ∃ x0 x1 x2 x3 x4 t0 t1 t2 t3 t4, us = [.int x0 t0, .int x1 t1, .int x2 t2, .int x3 t3, .int x4 t4] := by
  cases h with
  | nil => simp at hl
  | cons x0 t0 h =>
    cases h with
    | nil => simp at hl
    | cons x1 t1 h =>
      cases h with
      | nil => simp at hl
      | cons x2 t2 h =>
        cases h with
        | nil => simp at hl
        | cons x3 t3 h =>
          cases h with
          | nil => simp at hl
          | cons x4 t4 h =>
            cases h with
            | nil => exact ⟨x0, x1, x2, x3, x4, t0, t1, t2, t3, t4, rfl⟩
            | cons _ _ _ => simp at hl
theorem led_re {h₀ h : Heap} {L : Addr} (pre : List (Addr × Obj)) {oT : Obj} {r : List (Addr × Obj)} {G : Prop} (N : News h₀ L h (pre ++ ((91, oT) :: r))) (hp : ∀ p ∈ pre, p.1 ≠ 91) (hr : ∀ p ∈ r, p.1 ≠ 91)
    (k : ∀ r', (∀ q ∈ pre, q ∈ r') → (∀ q ∈ r, q ∈ r') → (∀ p ∈ r', p.1 ≠ 91) → News h₀ L h ((91, oT) :: r') → G) : G :=
  k (pre ++ r) (fun q hq => List.mem_append_left _ hq) (fun q hq => List.mem_append_right _ hq) (fun p hpr => (List.mem_append.mp hpr).elim (hp p) (hr p)) (news_tab N)
theorem BookIn.ref {w : World} {p : Program} {loose : List Str} {mean : ExcName → Option Value} {mg mb : Str → Option Value} {nw : List (Addr × Obj)} {v : Value} {rs : List Row} (h : BookIn w p loose mean mg mb nw v rs) : ∃ x, v = .ref x := let ⟨x, _, _, _, _, _, _, _, _, _, _, e, _⟩ := h; ⟨x, e⟩
theorem BookIn.mono {w : World} {p : Program} {loose : List Str} {mean : ExcName → Option Value} {mg mb : Str → Option Value} {nw nw' : List (Addr × Obj)} {v : Value} {rs : List Row} (h : BookIn w p loose mean mg mb nw v rs) (k : ∀ q ∈ nw, q ∈ nw') : BookIn w p loose mean mg mb nw' v rs :=
  let ⟨x, d, l1, l2, t1, t2, t3, t4, vs, k1, k2, e, m1, m2, m3, m4, hA⟩ := h
  ⟨x, d, l1, l2, t1, t2, t3, t4, vs, k1, k2, e, k _ m1, k _ m2, k _ m3, k _ m4, hA.mono fun _ _ r => r.mono k⟩
theorem off2 {a b : Addr} {oa ob : Obj} (ha : @LT.lt Nat _ 91 a) (hb : @LT.lt Nat _ 91 b) : ∀ p ∈ [(a, oa), (b, ob)], p.1 ≠ 91 := fun p hp => by
  simp only [List.mem_cons, List.not_mem_nil, or_false] at hp
  rcases hp with rfl | rfl <;> (refine neN ?_; dsimp only; omega)
theorem off1' {a : Addr} {oa : Obj} (ha : @LT.lt Nat _ 91 a) : ∀ p ∈ [(a, oa)], p.1 ≠ 91 := fun p hp => by
  rw [List.mem_singleton.mp hp]; refine neN ?_; dsimp only; omega
theorem row_len (x : Int) : (rowF x).word.length ≤ 3 := by
  have h1 : 0 ≤ (x.fdiv 16).fmod 4 := Int.fmod_nonneg_of_pos _ (by decide)
  have h2 : (x.fdiv 16).fmod 4 < 4 := Int.fmod_lt_of_pos _ (by decide)
  simp only [rowF, wordF, List.length_map, List.length_range]
  omega
theorem led_hd {h₀ h : Heap} {L a : Addr} {o oT : Obj} {r : List (Addr × Obj)} {G : Prop} (N : News h₀ L h ((a, o) :: (91, oT) :: r))
    (k : ∀ n, (a, o) ∈ n → (91, oT) ∈ n → (∀ q ∈ r, q ∈ n) → News h₀ L h n → G) : G := k _ List.mem_cons_self (List.mem_cons_of_mem _ List.mem_cons_self) (fun q hq => List.mem_cons_of_mem _ (List.mem_cons_of_mem _ hq)) N
theorem led_one {h₀ h : Heap} {L a : Addr} {o : Obj} {r : List (Addr × Obj)} {G : Prop} (N : News h₀ L h ((a, o) :: r))
    (k : ∀ a' n, a' = a → (a', o) ∈ n → (∀ q ∈ r, q ∈ n) → News h₀ L h n → G) : G := k a _ rfl List.mem_cons_self (fun q hq => List.mem_cons_of_mem _ hq) N
theorem led_up {h₀ h : Heap} {L : Addr} {r t : List (Addr × Obj)} {G : Prop} (N : News h₀ L h r) (hs : ∀ q ∈ t, q ∈ r) (k : ∀ n, (∀ q ∈ r, q ∈ n) → (∀ q ∈ t, q ∈ n) → News h₀ L h n → G) : G := k r (fun _ h => h) hs N
theorem ReachIn.ref {nw : List (Addr × Obj)} {v : Value} {qs : List (Int × Bool)} (h : ReachIn nw v qs) : ∃ x, v = .ref x := let ⟨l, _, _, e, _⟩ := h; ⟨l, e⟩
theorem ReachIn.mono {nw nw' : List (Addr × Obj)} {v : Value} {qs : List (Int × Bool)} (h : ReachIn nw v qs) (k : ∀ q ∈ nw, q ∈ nw') : ReachIn nw' v qs := let ⟨l, vs, ep, e, hm, hA⟩ := h; ⟨l, vs, ep, e, k _ hm, hA.mono fun _ _ r => r.mono k⟩
theorem reach_len (nm : List Nat) (rs : List Row) : (reachF nm rs).length ≤ rs.length := by
  unfold reachF
  exact Nat.le_trans (List.length_filter_le _ _) (by simp)
theorem isnot_same {M : Model} {A : Around} {E : Value → Shared → Prop} {s : Shared} {b : Bool} {Q : Value → Shared → Prop} (h : Q (.bool false) s) : wpAny M A (compareOp .IsNot (.bool b) (.bool b)) Q E s := by
  cases b
  · exact isnot_bool h
  · exact isnot_bool h
theorem law_walk : LawWalk lawOf.1.1 lawOf.1.2.1 lawOf.1.2.2 := by
  dsimp only [lawOf]
  intro w p loose mean mg mb fa cd h₀ L l vs ns s hB hF hX hN hT hl hI hlen h91
  k_fold
  (repeat' (first | (k_unfold; first | walk_at "Seq" | (try dsimp only)) | ((fail_if_success ((first | with_reducible show wpAny _ _ (eval (PySem.Expr.ListComp _ _ _ _) _) _ _ _ | with_reducible show wpAny _ _ (call (Value.ref _) _) _ _ _ | with_reducible show wpAny _ _ (compareOp CmpOp.IsNot _ _) _ _ _ | with_reducible show wpAny _ _ (compareOp CmpOp.NotEq (Value.ref _) (Value.ref _)) _ _ _ | with_reducible show wpAny _ _ (compareOp CmpOp.Eq (Value.ref _) (Value.ref _)) _ _ _ | with_reducible show wpAny _ _ (exec (PySem.Stmt.Assign [_] (PySem.Expr.ListComp _ _ _ _) _) _) _ _ _ | with_reducible show wpAny _ _ (binaryOp Operator.Add (Value.ref _) (Value.ref _)) _ _ _ | with_reducible show wpAny _ _ (subscriptTail _ (PySem.Expr.Slice _ _ _ _) _ _) _ _ _ | with_reducible show wpAny _ _ (exec (PySem.Stmt.While _ _ _ _) _) _ _ _ | with_reducible show wpAny _ _ (exec (PySem.Stmt.For _ _ _ _ _) _) _ _ _ | with_reducible show wpAny _ _ (pyIter _) _ _ _ | with_reducible show wpAny _ _ (call (Value.type "list") _) _ _ _ | with_reducible show wpAny _ _ (call (Value.builtin "str.join") _) _ _ _ | with_reducible show wpAny _ _ (eval (PySem.Expr.ListComp _ [PySem.Comprehension.mk (PySem.Expr.Tuple _ _ _) _ _ _] _ _) _) _ _ _ | with_reducible show LCg.CompSrc _ _ _ _ _ _ _ _ _ _ _ _ _ _ | with_reducible show wpAny _ _ (execs (PySem.Stmt.If (PySem.Expr.Compare _ [CmpOp.Lt] _ _) [PySem.Stmt.Assign [PySem.Expr.Tuple _ _ _] _ _] _ _ :: _) _) _ _ _))); first | (k_end; wrow_close) | walk1 | (dsimp only; walk1) | (leave1; walk_say "STEP leave1"; try dsimp only) | fail "no step")))
  refine isl5 (show News _ _ _ [(_, W.listOf _ _), (91, _)] by k_asm) [18, 806, 293, 88, 867] (.cons _ _ (.cons _ _ (.cons _ _ (.cons _ _ (.cons _ _ .nil))))) ?_
  intro us hus hIus
  refine kmk_add_lit (its := vs.toArray) (its2 := us.toArray) (zs := vs ++ us) (by k_asm) (by k_asm) (hl.at fun o e => Fr.keep (by k_asm) _ o e) hus rfl ?_ (by have := hI.length; have := hIus.length; rw [sizeLine_eq]; simp only [List.length_cons, List.length_nil] at *; omega)
  intro D1 h1 F1 N1 l1
  k_lt l1
  k_sweep
  (repeat' (first | (k_unfold; first | walk_at "Seq" | (try dsimp only)) | ((fail_if_success ((first | with_reducible show wpAny _ _ (eval (PySem.Expr.ListComp _ _ _ _) _) _ _ _ | with_reducible show wpAny _ _ (call (Value.ref _) _) _ _ _ | with_reducible show wpAny _ _ (compareOp CmpOp.IsNot _ _) _ _ _ | with_reducible show wpAny _ _ (compareOp CmpOp.NotEq (Value.ref _) (Value.ref _)) _ _ _ | with_reducible show wpAny _ _ (compareOp CmpOp.Eq (Value.ref _) (Value.ref _)) _ _ _ | with_reducible show wpAny _ _ (exec (PySem.Stmt.Assign [_] (PySem.Expr.ListComp _ _ _ _) _) _) _ _ _ | with_reducible show wpAny _ _ (binaryOp Operator.Add (Value.ref _) (Value.ref _)) _ _ _ | with_reducible show wpAny _ _ (subscriptTail _ (PySem.Expr.Slice _ _ _ _) _ _) _ _ _ | with_reducible show wpAny _ _ (exec (PySem.Stmt.While _ _ _ _) _) _ _ _ | with_reducible show wpAny _ _ (exec (PySem.Stmt.For _ _ _ _ _) _) _ _ _ | with_reducible show wpAny _ _ (pyIter _) _ _ _ | with_reducible show wpAny _ _ (call (Value.type "list") _) _ _ _ | with_reducible show wpAny _ _ (call (Value.builtin "str.join") _) _ _ _ | with_reducible show wpAny _ _ (eval (PySem.Expr.ListComp _ [PySem.Comprehension.mk (PySem.Expr.Tuple _ _ _) _ _ _] _ _) _) _ _ _ | with_reducible show LCg.CompSrc _ _ _ _ _ _ _ _ _ _ _ _ _ _ | with_reducible show wpAny _ _ (execs (PySem.Stmt.If (PySem.Expr.Compare _ [CmpOp.Lt] _ _) [PySem.Stmt.Assign [PySem.Expr.Tuple _ _ _] _ _] _ _ :: _) _) _ _ _))); first | (k_end; wrow_close) | walk1 | (dsimp only; walk1) | (leave1; walk_say "STEP leave1"; try dsimp only) | fail "no step")))
  walk1
  refine slice_to (b := 5) (by k_asm) N1 List.mem_cons_self (by have := hI.length; have := hIus.length; rw [sizeLine_eq]; simp only [List.length_append, List.length_cons, List.length_nil] at *; omega) ?_
  intro D2 h2 F2 N2 l2
  k_lt l2
  have hI5 : IntsAre ((vs ++ us).take 5) ((ns ++ [18, 806, 293, 88, 867]).take 5) := (hI.append hIus).take 5
  obtain ⟨x0, x1, x2, x3, x4, t0, t1, t2, t3, t4, e5⟩ := ints5 hI5 (by simp)
  rw [e5] at N2
  refine num_led N2 (by omega) (by omega) (by omega) ?_
  clear N2 N1 hus
  intro rest hnum h9r N2
  k_sweep
  (repeat' (first | (k_unfold; first | walk_at "Seq" | (try dsimp only)) | ((fail_if_success ((first | with_reducible show wpAny _ _ (eval (PySem.Expr.ListComp _ _ _ _) _) _ _ _ | with_reducible show wpAny _ _ (call (Value.ref _) _) _ _ _ | with_reducible show wpAny _ _ (compareOp CmpOp.IsNot _ _) _ _ _ | with_reducible show wpAny _ _ (compareOp CmpOp.NotEq (Value.ref _) (Value.ref _)) _ _ _ | with_reducible show wpAny _ _ (compareOp CmpOp.Eq (Value.ref _) (Value.ref _)) _ _ _ | with_reducible show wpAny _ _ (exec (PySem.Stmt.Assign [_] (PySem.Expr.ListComp _ _ _ _) _) _) _ _ _ | with_reducible show wpAny _ _ (binaryOp Operator.Add (Value.ref _) (Value.ref _)) _ _ _ | with_reducible show wpAny _ _ (subscriptTail _ (PySem.Expr.Slice _ _ _ _) _ _) _ _ _ | with_reducible show wpAny _ _ (exec (PySem.Stmt.While _ _ _ _) _) _ _ _ | with_reducible show wpAny _ _ (exec (PySem.Stmt.For _ _ _ _ _) _) _ _ _ | with_reducible show wpAny _ _ (pyIter _) _ _ _ | with_reducible show wpAny _ _ (call (Value.type "list") _) _ _ _ | with_reducible show wpAny _ _ (call (Value.builtin "str.join") _) _ _ _ | with_reducible show wpAny _ _ (eval (PySem.Expr.ListComp _ [PySem.Comprehension.mk (PySem.Expr.Tuple _ _ _) _ _ _] _ _) _) _ _ _ | with_reducible show LCg.CompSrc _ _ _ _ _ _ _ _ _ _ _ _ _ _ | with_reducible show wpAny _ _ (execs (PySem.Stmt.If (PySem.Expr.Compare _ [CmpOp.Lt] _ _) [PySem.Stmt.Assign [PySem.Expr.Tuple _ _ _] _ _] _ _ :: _) _) _ _ _))); first | (k_end; wrow_close) | walk1 | (dsimp only; walk1) | (leave1; walk_say "STEP leave1"; try dsimp only) | fail "no step")))
  refine LCg.ListComp_U (F₀ := by k_asm) (by with_unfolding_all rfl) (by decide) (by rfl) (by decide) (by rfl) ?_
  (repeat' (first | (k_unfold; first | walk_at "Seq" | (try dsimp only)) | ((fail_if_success ((first | with_reducible show wpAny _ _ (eval (PySem.Expr.ListComp _ _ _ _) _) _ _ _ | with_reducible show wpAny _ _ (call (Value.ref _) _) _ _ _ | with_reducible show wpAny _ _ (compareOp CmpOp.IsNot _ _) _ _ _ | with_reducible show wpAny _ _ (compareOp CmpOp.NotEq (Value.ref _) (Value.ref _)) _ _ _ | with_reducible show wpAny _ _ (compareOp CmpOp.Eq (Value.ref _) (Value.ref _)) _ _ _ | with_reducible show wpAny _ _ (exec (PySem.Stmt.Assign [_] (PySem.Expr.ListComp _ _ _ _) _) _) _ _ _ | with_reducible show wpAny _ _ (binaryOp Operator.Add (Value.ref _) (Value.ref _)) _ _ _ | with_reducible show wpAny _ _ (subscriptTail _ (PySem.Expr.Slice _ _ _ _) _ _) _ _ _ | with_reducible show wpAny _ _ (exec (PySem.Stmt.While _ _ _ _) _) _ _ _ | with_reducible show wpAny _ _ (exec (PySem.Stmt.For _ _ _ _ _) _) _ _ _ | with_reducible show wpAny _ _ (pyIter _) _ _ _ | with_reducible show wpAny _ _ (call (Value.type "list") _) _ _ _ | with_reducible show wpAny _ _ (call (Value.builtin "str.join") _) _ _ _ | with_reducible show wpAny _ _ (eval (PySem.Expr.ListComp _ [PySem.Comprehension.mk (PySem.Expr.Tuple _ _ _) _ _ _] _ _) _) _ _ _ | with_reducible show LCg.CompSrc _ _ _ _ _ _ _ _ _ _ _ _ _ _ | with_reducible show wpAny _ _ (execs (PySem.Stmt.If (PySem.Expr.Compare _ [CmpOp.Lt] _ _) [PySem.Stmt.Assign [PySem.Expr.Tuple _ _ _] _ _] _ _ :: _) _) _ _ _))); first | (k_end; wrow_close) | walk1 | (dsimp only; walk1) | (leave1; walk_say "STEP leave1"; try dsimp only) | fail "no step")))
  refine slice_from (b := 1) (by k_asm) (by k_asm) (List.mem_cons_of_mem _ hnum) (by rw [sizeLine_eq]; simp) ?_
  intro D3 h3 F3 N3 l3
  obtain ⟨r3, er3⟩ : ∃ z, z = (D3, W.listOf [Value.int x1 t1, .int x2 t2, .int x3 t3, .int x4 t4].toArray 0) :: rest := ⟨_, rfl⟩
  have N4 : News h₀ L h3 ((91, tabObj #[]) :: r3) := by rw [er3]; exact news_tab (tl := [(D3, _)]) N3
  have hD3 : (D3, W.listOf [Value.int x1 t1, .int x2 t2, .int x3 t3, .int x4 t4].toArray 0) ∈ r3 := by rw [er3]; exact List.mem_cons_self
  have hnum : (D2, W.listOf [Value.int x0 t0, .int x1 t1, .int x2 t2, .int x3 t3, .int x4 t4].toArray 0) ∈ r3 := by rw [er3]; exact List.mem_cons_of_mem _ hnum
  have h9r : ∀ p ∈ r3, p.1 ≠ 91 := fun q hq => by
    rw [er3] at hq
    rcases List.mem_cons.mp hq with rfl | hq
    · exact fun e => Nat.ne_of_lt (l3 _ List.mem_cons_self) e.symm
    · exact h9r q hq
  clear er3 l3
  clear N3
  k_sweep
  (repeat' (first | (k_unfold; first | walk_at "Seq" | (try dsimp only)) | ((fail_if_success ((first | with_reducible show wpAny _ _ (eval (PySem.Expr.ListComp _ _ _ _) _) _ _ _ | with_reducible show wpAny _ _ (call (Value.ref _) _) _ _ _ | with_reducible show wpAny _ _ (compareOp CmpOp.IsNot _ _) _ _ _ | with_reducible show wpAny _ _ (compareOp CmpOp.NotEq (Value.ref _) (Value.ref _)) _ _ _ | with_reducible show wpAny _ _ (compareOp CmpOp.Eq (Value.ref _) (Value.ref _)) _ _ _ | with_reducible show wpAny _ _ (exec (PySem.Stmt.Assign [_] (PySem.Expr.ListComp _ _ _ _) _) _) _ _ _ | with_reducible show wpAny _ _ (binaryOp Operator.Add (Value.ref _) (Value.ref _)) _ _ _ | with_reducible show wpAny _ _ (subscriptTail _ (PySem.Expr.Slice _ _ _ _) _ _) _ _ _ | with_reducible show wpAny _ _ (exec (PySem.Stmt.While _ _ _ _) _) _ _ _ | with_reducible show wpAny _ _ (exec (PySem.Stmt.For _ _ _ _ _) _) _ _ _ | with_reducible show wpAny _ _ (pyIter _) _ _ _ | with_reducible show wpAny _ _ (call (Value.type "list") _) _ _ _ | with_reducible show wpAny _ _ (call (Value.builtin "str.join") _) _ _ _ | with_reducible show wpAny _ _ (eval (PySem.Expr.ListComp _ [PySem.Comprehension.mk (PySem.Expr.Tuple _ _ _) _ _ _] _ _) _) _ _ _ | with_reducible show LCg.CompSrc _ _ _ _ _ _ _ _ _ _ _ _ _ _ | with_reducible show wpAny _ _ (execs (PySem.Stmt.If (PySem.Expr.Compare _ [CmpOp.Lt] _ _) [PySem.Stmt.Assign [PySem.Expr.Tuple _ _ _] _ _] _ _ :: _) _) _ _ _))); first | (k_end; wrow_close) | walk1 | (dsimp only; walk1) | (leave1; walk_say "STEP leave1"; try dsimp only) | fail "no step")))
  obtain ⟨xs, exs⟩ : ∃ z, z = [x1, x2, x3, x4] := ⟨_, rfl⟩
  have hIx : IntsAre [Value.int x1 t1, .int x2 t2, .int x3 t3, .int x4 t4] xs := by rw [exs]; exact .cons _ _ (.cons _ _ (.cons _ _ (.cons _ _ .nil)))
  refine LCg.CompSrc.ledger (its := [Value.int x1 t1, .int x2 t2, .int x3 t3, .int x4 t4].toArray) (by rfl) (by k_asm) N4 (List.mem_cons_of_mem _ hD3) (by rw [sizeLine_eq]; simp) ?_
  intro g'
  refine comp_rest (fun i ys nw => ∃ tl, nw = tl ++ ((91, tabObj #[]) :: r3) ∧ All2 (RowIn nw) ys ((xs.take i).map rowF) ∧ (∀ p ∈ (91, tabObj #[]) :: r3, ∀ q ∈ tl, p.1 < q.1)) ⟨[], rfl, .nil, fun _ _ _ h => nomatch h⟩ ?turn ?fin
  case turn =>
    rintro i v I oI C oC D m₂ ys nw h tk E' hi hv hyl ⟨tl, enw, hA, ho⟩ hC hx F N off ne
    obtain ⟨x, t, rfl, hxi⟩ := IntsAre.at hIx i v (by simpa using hv)
    have hsub : ∀ q ∈ (91, tabObj #[]) :: r3, q ∈ nw := fun q hq => enw ▸ List.mem_append_right _ hq
    (repeat' (first | (k_unfold; first | walk_at "Seq" | (try dsimp only)) | ((fail_if_success ((first | with_reducible show wpAny _ _ (eval (PySem.Expr.ListComp _ _ _ _) _) _ _ _ | with_reducible show wpAny _ _ (call (Value.ref _) _) _ _ _ | with_reducible show wpAny _ _ (compareOp CmpOp.IsNot _ _) _ _ _ | with_reducible show wpAny _ _ (compareOp CmpOp.NotEq (Value.ref _) (Value.ref _)) _ _ _ | with_reducible show wpAny _ _ (compareOp CmpOp.Eq (Value.ref _) (Value.ref _)) _ _ _ | with_reducible show wpAny _ _ (exec (PySem.Stmt.Assign [_] (PySem.Expr.ListComp _ _ _ _) _) _) _ _ _ | with_reducible show wpAny _ _ (binaryOp Operator.Add (Value.ref _) (Value.ref _)) _ _ _ | with_reducible show wpAny _ _ (subscriptTail _ (PySem.Expr.Slice _ _ _ _) _ _) _ _ _ | with_reducible show wpAny _ _ (exec (PySem.Stmt.While _ _ _ _) _) _ _ _ | with_reducible show wpAny _ _ (exec (PySem.Stmt.For _ _ _ _ _) _) _ _ _ | with_reducible show wpAny _ _ (pyIter _) _ _ _ | with_reducible show wpAny _ _ (call (Value.type "list") _) _ _ _ | with_reducible show wpAny _ _ (call (Value.builtin "str.join") _) _ _ _ | with_reducible show wpAny _ _ (eval (PySem.Expr.ListComp _ [PySem.Comprehension.mk (PySem.Expr.Tuple _ _ _) _ _ _] _ _) _) _ _ _ | with_reducible show LCg.CompSrc _ _ _ _ _ _ _ _ _ _ _ _ _ _ | with_reducible show wpAny _ _ (execs (PySem.Stmt.If (PySem.Expr.Compare _ [CmpOp.Lt] _ _) [PySem.Stmt.Assign [PySem.Expr.Tuple _ _ _] _ _] _ _ :: _) _) _ _ _))); first | (k_end; wrow_close) | walk1 | (dsimp only; walk1) | (leave1; walk_say "STEP leave1"; try dsimp only) | fail "no step")))
    refine' ClaimN.use ?k1 ?k2 ?k3 N ?k5 ?kK row_c ?kd ?ku ?_
    case k1 => k_asm
    case k2 => k_asm
    case k3 => k_asm
    case k5 => k_asm
    case kK => rfl
    case kd => exact Nat.le_of_ble_eq_true rfl
    case ku => exact Nat.le_of_ble_eq_true rfl
    intro v2 tl2 h5 tk5 hR F5 N5 ord5
    refine LCg.CompEnd.intro F5 N5 (tl2 ++ nw) ?sub ?off (.inr ⟨_, List.mem_append_right _ (hsub _ (List.mem_cons_of_mem _ hD3)), rfl, _, rfl⟩) ⟨tl2 ++ tl, by rw [enw, List.append_assoc], ?all, ?o1⟩
    case sub =>
      intro q hq
      simp only [List.mem_cons, List.mem_append] at hq ⊢
      rcases hq with h | h | h | h | h
      · exact .inr (.inl h)
      · exact .inr (.inr (.inl h))
      · exact .inr (.inr (.inr (.inl h)))
      · exact .inl h
      · exact .inr (.inr (.inr (.inr h)))
    case off =>
      have off' := off.mem
      refine LCg.Off3.of fun q hq => ?_
      rcases List.mem_append.mp hq with hq | hq
      · exact ⟨fun e => Nat.ne_of_lt (ord5 (I, oI) (List.Mem.head _) q hq) e.symm, fun e => Nat.ne_of_lt (ord5 (C, oC) (List.Mem.tail _ (List.Mem.head _)) q hq) e.symm, fun e => Nat.ne_of_lt (ord5 (D, LCg.lst ys) (List.Mem.tail _ (List.Mem.tail _ (List.Mem.head _))) q hq) e.symm⟩
      · exact off' q hq
    case all =>
      rw [List.take_add_one, hxi, List.map_append]
      exact (hA.mono fun a b h => h.mono fun q hq => List.mem_append_right _ hq).snoc (hR.mono fun q hq => List.mem_append_left _ hq)
    case o1 =>
      intro q hq q' hq'
      rcases List.mem_append.mp hq' with hq' | hq'
      · exact ord5 q (List.mem_cons_of_mem _ (List.mem_cons_of_mem _ (List.mem_cons_of_mem _ (hsub q hq)))) q' hq'
      · exact ho q hq q' hq'
  case fin =>
    rintro ys nw hyl ⟨tl, enw, hA, ho⟩ D h tk F N o1
    dsimp only at *
    obtain ⟨r5, er5⟩ : ∃ z, z = (D, LCg.lst ys) :: (tl ++ r3) := ⟨_, rfl⟩
    have N5 : News h₀ L h ((91, tabObj #[]) :: r5) := by rw [er5]; rw [enw] at N; exact news_tab (tl := (D, LCg.lst ys) :: tl) N
    have hup : ∀ q ∈ nw, q = (91, tabObj #[]) ∨ q ∈ r5 := fun q hq => by
      rw [enw] at hq
      rw [er5]
      rcases List.mem_append.mp hq with hq | hq
      · exact .inr (List.mem_cons_of_mem _ (List.mem_append_left _ hq))
      · rcases List.mem_cons.mp hq with rfl | hq
        · exact .inl rfl
        · exact .inr (List.mem_cons_of_mem _ (List.mem_append_right _ hq))
    have h9r : ∀ p ∈ r5, p.1 ≠ 91 := fun q hq => by
      rw [er5] at hq
      rcases List.mem_cons.mp hq with rfl | hq
      · exact fun e => off1_mem o1 (91, tabObj #[]) (enw ▸ List.mem_append_right _ List.mem_cons_self) e.symm
      · rcases List.mem_append.mp hq with hq | hq
        · exact fun e => Nat.ne_of_lt (ho _ List.mem_cons_self q hq) e.symm
        · exact h9r q hq
    have hrows : (D, W.listOf ys.toArray ys.length) ∈ r5 := by rw [er5]; exact List.mem_cons_self
    have hnum : (D2, W.listOf [Value.int x0 t0, .int x1 t1, .int x2 t2, .int x3 t3, .int x4 t4].toArray 0) ∈ r5 := by rw [er5]; exact List.mem_cons_of_mem _ (List.mem_append_right _ hnum)
    obtain ⟨rs, ers⟩ : ∃ z, z = xs.map rowF := ⟨_, rfl⟩
    have hA : All2 (RowIn r5) ys rs := by
      have hA2 : All2 (RowIn nw) ys rs := by
        have e : (List.take [Value.int x1 t1, .int x2 t2, .int x3 t3, .int x4 t4].toArray.size xs) = xs := by rw [exs]; rfl
        rw [e, ← ers] at hA
        exact hA
      exact hA2.mono fun a b h => by
        obtain ⟨a', t1', t2', e', hm'⟩ := h
        rcases hup _ hm' with e9 | hm9
        · cases e9
        · exact ⟨a', t1', t2', e', hm9⟩
    clear N N4 hD3 o1 enw hup ho er5
    have hIn : IntsAre [Value.int x0 t0, .int x1 t1, .int x2 t2, .int x3 t3, .int x4 t4] [x0, x1, x2, x3, x4] := .cons _ _ (.cons _ _ (.cons _ _ (.cons _ _ (.cons _ _ .nil))))
    k_sweep
    (repeat' (first | (k_unfold; first | walk_at "Seq" | (try dsimp only)) | ((fail_if_success ((first | with_reducible show wpAny _ _ (eval (PySem.Expr.ListComp _ _ _ _) _) _ _ _ | with_reducible show wpAny _ _ (call (Value.ref _) _) _ _ _ | with_reducible show wpAny _ _ (compareOp CmpOp.IsNot _ _) _ _ _ | with_reducible show wpAny _ _ (compareOp CmpOp.NotEq (Value.ref _) (Value.ref _)) _ _ _ | with_reducible show wpAny _ _ (compareOp CmpOp.Eq (Value.ref _) (Value.ref _)) _ _ _ | with_reducible show wpAny _ _ (exec (PySem.Stmt.Assign [_] (PySem.Expr.ListComp _ _ _ _) _) _) _ _ _ | with_reducible show wpAny _ _ (binaryOp Operator.Add (Value.ref _) (Value.ref _)) _ _ _ | with_reducible show wpAny _ _ (subscriptTail _ (PySem.Expr.Slice _ _ _ _) _ _) _ _ _ | with_reducible show wpAny _ _ (exec (PySem.Stmt.While _ _ _ _) _) _ _ _ | with_reducible show wpAny _ _ (exec (PySem.Stmt.For _ _ _ _ _) _) _ _ _ | with_reducible show wpAny _ _ (pyIter _) _ _ _ | with_reducible show wpAny _ _ (call (Value.type "list") _) _ _ _ | with_reducible show wpAny _ _ (call (Value.builtin "str.join") _) _ _ _ | with_reducible show wpAny _ _ (eval (PySem.Expr.ListComp _ [PySem.Comprehension.mk (PySem.Expr.Tuple _ _ _) _ _ _] _ _) _) _ _ _ | with_reducible show LCg.CompSrc _ _ _ _ _ _ _ _ _ _ _ _ _ _ | with_reducible show wpAny _ _ (execs (PySem.Stmt.If (PySem.Expr.Compare _ [CmpOp.Lt] _ _) [PySem.Stmt.Assign [PySem.Expr.Tuple _ _ _] _ _] _ _ :: _) _) _ _ _))); first | (k_end; wrow_close) | walk1 | (dsimp only; walk1) | (leave1; walk_say "STEP leave1"; try dsimp only) | fail "no step")))
    refine sumK rfl (by k_asm) N5 (isl N5 (List.mem_cons_of_mem _ hnum)) hIn ?_
    intro h6 tk6 t6 F6 N6
    generalize ([x0, x1, x2, x3, x4] : List Int).sum = S
    obtain ⟨c, hc⟩ := Int.eq_ofNat_of_zero_le (Int.fmod_nonneg_of_pos S (by decide : (0 : Int) < 5))
    have hc5 : c < 5 := by have := Int.fmod_lt_of_pos S (by decide : (0 : Int) < 5); omega
    have hysl := hA.length
    have hrl : rs.length = 4 := by rw [ers, exs]; rfl
    have hle : ∀ r ∈ rs, r.word.length ≤ 3 := fun r hr => by
      rw [ers] at hr
      obtain ⟨x, _, rfl⟩ := List.mem_map.mp hr
      exact row_len x
    k_sweep
    (repeat' (first | (k_unfold; first | walk_at "Seq" | (try dsimp only)) | ((fail_if_success ((first | with_reducible show wpAny _ _ (eval (PySem.Expr.ListComp _ _ _ _) _) _ _ _ | with_reducible show wpAny _ _ (call (Value.ref _) _) _ _ _ | with_reducible show wpAny _ _ (compareOp CmpOp.IsNot _ _) _ _ _ | with_reducible show wpAny _ _ (compareOp CmpOp.NotEq (Value.ref _) (Value.ref _)) _ _ _ | with_reducible show wpAny _ _ (compareOp CmpOp.Eq (Value.ref _) (Value.ref _)) _ _ _ | with_reducible show wpAny _ _ (exec (PySem.Stmt.Assign [_] (PySem.Expr.ListComp _ _ _ _) _) _) _ _ _ | with_reducible show wpAny _ _ (binaryOp Operator.Add (Value.ref _) (Value.ref _)) _ _ _ | with_reducible show wpAny _ _ (subscriptTail _ (PySem.Expr.Slice _ _ _ _) _ _) _ _ _ | with_reducible show wpAny _ _ (exec (PySem.Stmt.While _ _ _ _) _) _ _ _ | with_reducible show wpAny _ _ (exec (PySem.Stmt.For _ _ _ _ _) _) _ _ _ | with_reducible show wpAny _ _ (pyIter _) _ _ _ | with_reducible show wpAny _ _ (call (Value.type "list") _) _ _ _ | with_reducible show wpAny _ _ (call (Value.builtin "str.join") _) _ _ _ | with_reducible show wpAny _ _ (eval (PySem.Expr.ListComp _ [PySem.Comprehension.mk (PySem.Expr.Tuple _ _ _) _ _ _] _ _) _) _ _ _ | with_reducible show LCg.CompSrc _ _ _ _ _ _ _ _ _ _ _ _ _ _ | with_reducible show wpAny _ _ (execs (PySem.Stmt.If (PySem.Expr.Compare _ [CmpOp.Lt] _ _) [PySem.Stmt.Assign [PySem.Expr.Tuple _ _ _] _ _] _ _ :: _) _) _ _ _))); first | (k_end; wrow_close) | walk1 | (dsimp only; walk1) | (leave1; walk_say "STEP leave1"; try dsimp only) | fail "no step")))
    simp only [hc] at *
    refine slice_to (s := ⟨_, _, _, _, _⟩) (b := c) (by k_asm) (by k_asm) (List.mem_cons_of_mem _ (List.mem_cons_of_mem _ hrows)) (by rw [sizeLine_eq]; omega) ?_
    intro D7 h7 F7 N7 l7
    k_lt l7
    refine led_re [(D7, _), (_, _)] N7 (off2 (by omega) (by omega)) h9r ?_
    clear N7
    intro r7 hp7 hr7 h9r7 N7
    have hsl := hp7 _ List.mem_cons_self
    k_sweep
    (repeat' (first | (k_unfold; first | walk_at "Seq" | (try dsimp only)) | ((fail_if_success ((first | with_reducible show wpAny _ _ (eval (PySem.Expr.ListComp _ _ _ _) _) _ _ _ | with_reducible show wpAny _ _ (call (Value.ref _) _) _ _ _ | with_reducible show wpAny _ _ (compareOp CmpOp.IsNot _ _) _ _ _ | with_reducible show wpAny _ _ (compareOp CmpOp.NotEq (Value.ref _) (Value.ref _)) _ _ _ | with_reducible show wpAny _ _ (compareOp CmpOp.Eq (Value.ref _) (Value.ref _)) _ _ _ | with_reducible show wpAny _ _ (exec (PySem.Stmt.Assign [_] (PySem.Expr.ListComp _ _ _ _) _) _) _ _ _ | with_reducible show wpAny _ _ (binaryOp Operator.Add (Value.ref _) (Value.ref _)) _ _ _ | with_reducible show wpAny _ _ (subscriptTail _ (PySem.Expr.Slice _ _ _ _) _ _) _ _ _ | with_reducible show wpAny _ _ (exec (PySem.Stmt.While _ _ _ _) _) _ _ _ | with_reducible show wpAny _ _ (exec (PySem.Stmt.For _ _ _ _ _) _) _ _ _ | with_reducible show wpAny _ _ (pyIter _) _ _ _ | with_reducible show wpAny _ _ (call (Value.type "list") _) _ _ _ | with_reducible show wpAny _ _ (call (Value.builtin "str.join") _) _ _ _ | with_reducible show wpAny _ _ (eval (PySem.Expr.ListComp _ [PySem.Comprehension.mk (PySem.Expr.Tuple _ _ _) _ _ _] _ _) _) _ _ _ | with_reducible show LCg.CompSrc _ _ _ _ _ _ _ _ _ _ _ _ _ _ | with_reducible show wpAny _ _ (execs (PySem.Stmt.If (PySem.Expr.Compare _ [CmpOp.Lt] _ _) [PySem.Stmt.Assign [PySem.Expr.Tuple _ _ _] _ _] _ _ :: _) _) _ _ _))); first | (k_end; wrow_close) | walk1 | (dsimp only; walk1) | (leave1; walk_say "STEP leave1"; try dsimp only) | fail "no step")))
    refine' ClaimT.use ?k1 ?k2 ?k3 N7 ?k5 ?kK (book_c (sup := r7) rfl hsl ((hA.mono fun a b h => h.mono hr7).take c) (by rw [List.length_take]; omega) (fun r hr => Nat.le_trans (hle r (List.mem_of_mem_take hr)) (by decide)) (.inl rfl) h9r7) ?kd ?ku ?_
    case k1 => k_asm
    case k2 => k_asm
    case k3 => k_asm
    case k5 => k_asm
    case kK => rfl
    case kd => exact Nat.le_of_ble_eq_true rfl
    case ku => exact Nat.le_of_ble_eq_true rfl
    rintro v1 ps1 tl1 h8 tk8 ⟨hB1, hTb1⟩ F8 N8 ord1 ord91
    obtain ⟨b1, rfl⟩ := hB1.ref
    have h9r8 : ∀ p ∈ tl1 ++ r7, p.1 ≠ 91 := fun p hp => (List.mem_append.mp hp).elim (fun h e => Nat.ne_of_lt (ord91 p h) e.symm) (h9r7 p)
    have hr8 : ∀ q ∈ r5, q ∈ tl1 ++ r7 := fun q hq => List.mem_append_right _ (hr7 q hq)
    generalize tl1 ++ r7 = r8 at *
    clear hr7 hp7 hsl ord1 ord91
    k_sweep
    (repeat' (first | (k_unfold; first | walk_at "Seq" | (try dsimp only)) | ((fail_if_success ((first | with_reducible show wpAny _ _ (eval (PySem.Expr.ListComp _ _ _ _) _) _ _ _ | with_reducible show wpAny _ _ (call (Value.ref _) _) _ _ _ | with_reducible show wpAny _ _ (compareOp CmpOp.IsNot _ _) _ _ _ | with_reducible show wpAny _ _ (compareOp CmpOp.NotEq (Value.ref _) (Value.ref _)) _ _ _ | with_reducible show wpAny _ _ (compareOp CmpOp.Eq (Value.ref _) (Value.ref _)) _ _ _ | with_reducible show wpAny _ _ (exec (PySem.Stmt.Assign [_] (PySem.Expr.ListComp _ _ _ _) _) _) _ _ _ | with_reducible show wpAny _ _ (binaryOp Operator.Add (Value.ref _) (Value.ref _)) _ _ _ | with_reducible show wpAny _ _ (subscriptTail _ (PySem.Expr.Slice _ _ _ _) _ _) _ _ _ | with_reducible show wpAny _ _ (exec (PySem.Stmt.While _ _ _ _) _) _ _ _ | with_reducible show wpAny _ _ (exec (PySem.Stmt.For _ _ _ _ _) _) _ _ _ | with_reducible show wpAny _ _ (pyIter _) _ _ _ | with_reducible show wpAny _ _ (call (Value.type "list") _) _ _ _ | with_reducible show wpAny _ _ (call (Value.builtin "str.join") _) _ _ _ | with_reducible show wpAny _ _ (eval (PySem.Expr.ListComp _ [PySem.Comprehension.mk (PySem.Expr.Tuple _ _ _) _ _ _] _ _) _) _ _ _ | with_reducible show LCg.CompSrc _ _ _ _ _ _ _ _ _ _ _ _ _ _ | with_reducible show wpAny _ _ (execs (PySem.Stmt.If (PySem.Expr.Compare _ [CmpOp.Lt] _ _) [PySem.Stmt.Assign [PySem.Expr.Tuple _ _ _] _ _] _ _ :: _) _) _ _ _))); first | (k_end; wrow_close) | walk1 | (dsimp only; walk1) | (leave1; walk_say "STEP leave1"; try dsimp only) | fail "no step")))
    refine slice_from (s := ⟨_, _, _, _, _⟩) (b := c) (by k_asm) N8 (List.mem_cons_of_mem _ (hr8 _ hrows)) (by rw [sizeLine_eq]; omega) ?_
    intro D9 h9 F9 N9 l9
    refine led_re [(D9, _)] N9 (fun p hp e => by rw [List.mem_singleton.mp hp] at e; exact Nat.ne_of_lt (l9 _ List.mem_cons_self) e.symm) h9r8 ?_
    clear N9 l9
    intro r9 hp9 hr9 h9r9 N9
    have hsl := hp9 _ List.mem_cons_self
    k_sweep
    (repeat' (first | (k_unfold; first | walk_at "Seq" | (try dsimp only)) | ((fail_if_success ((first | with_reducible show wpAny _ _ (eval (PySem.Expr.ListComp _ _ _ _) _) _ _ _ | with_reducible show wpAny _ _ (call (Value.ref _) _) _ _ _ | with_reducible show wpAny _ _ (compareOp CmpOp.IsNot _ _) _ _ _ | with_reducible show wpAny _ _ (compareOp CmpOp.NotEq (Value.ref _) (Value.ref _)) _ _ _ | with_reducible show wpAny _ _ (compareOp CmpOp.Eq (Value.ref _) (Value.ref _)) _ _ _ | with_reducible show wpAny _ _ (exec (PySem.Stmt.Assign [_] (PySem.Expr.ListComp _ _ _ _) _) _) _ _ _ | with_reducible show wpAny _ _ (binaryOp Operator.Add (Value.ref _) (Value.ref _)) _ _ _ | with_reducible show wpAny _ _ (subscriptTail _ (PySem.Expr.Slice _ _ _ _) _ _) _ _ _ | with_reducible show wpAny _ _ (exec (PySem.Stmt.While _ _ _ _) _) _ _ _ | with_reducible show wpAny _ _ (exec (PySem.Stmt.For _ _ _ _ _) _) _ _ _ | with_reducible show wpAny _ _ (pyIter _) _ _ _ | with_reducible show wpAny _ _ (call (Value.type "list") _) _ _ _ | with_reducible show wpAny _ _ (call (Value.builtin "str.join") _) _ _ _ | with_reducible show wpAny _ _ (eval (PySem.Expr.ListComp _ [PySem.Comprehension.mk (PySem.Expr.Tuple _ _ _) _ _ _] _ _) _) _ _ _ | with_reducible show LCg.CompSrc _ _ _ _ _ _ _ _ _ _ _ _ _ _ | with_reducible show wpAny _ _ (execs (PySem.Stmt.If (PySem.Expr.Compare _ [CmpOp.Lt] _ _) [PySem.Stmt.Assign [PySem.Expr.Tuple _ _ _] _ _] _ _ :: _) _) _ _ _))); first | (k_end; wrow_close) | walk1 | (dsimp only; walk1) | (leave1; walk_say "STEP leave1"; try dsimp only) | fail "no step")))
    refine' ClaimT.use ?k1 ?k2 ?k3 N9 ?k5 ?kK (book_c (sup := r9) rfl hsl ((hA.mono fun a b h => h.mono fun q hq => hr9 q (hr8 q hq)).drop c) (by rw [List.length_drop]; omega) (fun r hr => Nat.le_trans (hle r (List.mem_of_mem_drop hr)) (by decide)) (hTb1.mono hr9) h9r9) ?kd ?ku ?_
    case k1 => k_asm
    case k2 => k_asm
    case k3 => k_asm
    case k5 => k_asm
    case kK => rfl
    case kd => exact Nat.le_of_ble_eq_true rfl
    case ku => exact Nat.le_of_ble_eq_true rfl
    rintro v2 ps2 tl2 h10 tk10 ⟨hB2, hTb2⟩ F10 N10 ord1 ord91
    obtain ⟨b2, rfl⟩ := hB2.ref
    have hB1 := hB1.mono fun q hq => List.mem_append_right tl2 (hr9 q hq)
    have hr10 : ∀ q ∈ r5, q ∈ tl2 ++ r9 := fun q hq => List.mem_append_right _ (hr9 q (hr8 q hq))
    generalize tl2 ++ r9 = r10 at *
    clear hr9 hp9 hsl ord1 ord91 hTb1 hTb2 h9r9 h9r8 hr8
    k_sweep
    (repeat' (first | (k_unfold; first | walk_at "Seq" | (try dsimp only)) | ((fail_if_success ((first | with_reducible show wpAny _ _ (eval (PySem.Expr.ListComp _ _ _ _) _) _ _ _ | with_reducible show wpAny _ _ (call (Value.ref _) _) _ _ _ | with_reducible show wpAny _ _ (compareOp CmpOp.IsNot _ _) _ _ _ | with_reducible show wpAny _ _ (compareOp CmpOp.NotEq (Value.ref _) (Value.ref _)) _ _ _ | with_reducible show wpAny _ _ (compareOp CmpOp.Eq (Value.ref _) (Value.ref _)) _ _ _ | with_reducible show wpAny _ _ (exec (PySem.Stmt.Assign [_] (PySem.Expr.ListComp _ _ _ _) _) _) _ _ _ | with_reducible show wpAny _ _ (binaryOp Operator.Add (Value.ref _) (Value.ref _)) _ _ _ | with_reducible show wpAny _ _ (subscriptTail _ (PySem.Expr.Slice _ _ _ _) _ _) _ _ _ | with_reducible show wpAny _ _ (exec (PySem.Stmt.While _ _ _ _) _) _ _ _ | with_reducible show wpAny _ _ (exec (PySem.Stmt.For _ _ _ _ _) _) _ _ _ | with_reducible show wpAny _ _ (pyIter _) _ _ _ | with_reducible show wpAny _ _ (call (Value.type "list") _) _ _ _ | with_reducible show wpAny _ _ (call (Value.builtin "str.join") _) _ _ _ | with_reducible show wpAny _ _ (eval (PySem.Expr.ListComp _ [PySem.Comprehension.mk (PySem.Expr.Tuple _ _ _) _ _ _] _ _) _) _ _ _ | with_reducible show LCg.CompSrc _ _ _ _ _ _ _ _ _ _ _ _ _ _ | with_reducible show wpAny _ _ (execs (PySem.Stmt.If (PySem.Expr.Compare _ [CmpOp.Lt] _ _) [PySem.Stmt.Assign [PySem.Expr.Tuple _ _ _] _ _] _ _ :: _) _) _ _ _))); first | (k_end; wrow_close) | walk1 | (dsimp only; walk1) | (leave1; walk_say "STEP leave1"; try dsimp only) | fail "no step")))
    refine led_hd (show News _ _ _ ((_, _) :: (91, tabObj ps2) :: r10) by k_asm) ?_
    intro n11 _ hT11 hs11 N11
    have hr1 : (rs.take c).length ≤ 64 := by rw [List.length_take]; omega
    have hr2 : (rs.drop c).length ≤ 64 := by rw [List.length_drop]; omega
    refine' ClaimN.use ?k1 ?k2 ?k3 N11 ?k5 ?kK (merge_c (hB1.mono hs11) (hB2.mono hs11) hr1 hr2) ?kd ?ku ?_
    case k1 => k_asm
    case k2 => k_asm
    case k3 => k_asm
    case k5 => k_asm
    case kK => rfl
    case kd => exact Nat.le_of_ble_eq_true rfl
    case ku => exact Nat.le_of_ble_eq_true rfl
    rintro v3 tl3 h12 tk12 hB3 F12 N12 _
    obtain ⟨b3, rfl⟩ := hB3.ref
    have hs12 : ∀ q ∈ r10, q ∈ tl3 ++ n11 := fun q hq => List.mem_append_right _ (hs11 q hq)
    have hT12 := List.mem_append_right tl3 hT11
    generalize tl3 ++ n11 = n12 at *
    clear N11 hs11 hT11
    k_sweep
    (repeat' (first | (k_unfold; first | walk_at "Seq" | (try dsimp only)) | ((fail_if_success ((first | with_reducible show wpAny _ _ (eval (PySem.Expr.ListComp _ _ _ _) _) _ _ _ | with_reducible show wpAny _ _ (call (Value.ref _) _) _ _ _ | with_reducible show wpAny _ _ (compareOp CmpOp.IsNot _ _) _ _ _ | with_reducible show wpAny _ _ (compareOp CmpOp.NotEq (Value.ref _) (Value.ref _)) _ _ _ | with_reducible show wpAny _ _ (compareOp CmpOp.Eq (Value.ref _) (Value.ref _)) _ _ _ | with_reducible show wpAny _ _ (exec (PySem.Stmt.Assign [_] (PySem.Expr.ListComp _ _ _ _) _) _) _ _ _ | with_reducible show wpAny _ _ (binaryOp Operator.Add (Value.ref _) (Value.ref _)) _ _ _ | with_reducible show wpAny _ _ (subscriptTail _ (PySem.Expr.Slice _ _ _ _) _ _) _ _ _ | with_reducible show wpAny _ _ (exec (PySem.Stmt.While _ _ _ _) _) _ _ _ | with_reducible show wpAny _ _ (exec (PySem.Stmt.For _ _ _ _ _) _) _ _ _ | with_reducible show wpAny _ _ (pyIter _) _ _ _ | with_reducible show wpAny _ _ (call (Value.type "list") _) _ _ _ | with_reducible show wpAny _ _ (call (Value.builtin "str.join") _) _ _ _ | with_reducible show wpAny _ _ (eval (PySem.Expr.ListComp _ [PySem.Comprehension.mk (PySem.Expr.Tuple _ _ _) _ _ _] _ _) _) _ _ _ | with_reducible show LCg.CompSrc _ _ _ _ _ _ _ _ _ _ _ _ _ _ | with_reducible show wpAny _ _ (execs (PySem.Stmt.If (PySem.Expr.Compare _ [CmpOp.Lt] _ _) [PySem.Stmt.Assign [PySem.Expr.Tuple _ _ _] _ _] _ _ :: _) _) _ _ _))); first | (k_end; wrow_close) | walk1 | (dsimp only; walk1) | (leave1; walk_say "STEP leave1"; try dsimp only) | fail "no step")))
    refine' ClaimN.use ?k1 ?k2 ?k3 N12 ?k5 ?kK (merge_c (hB2.mono hs12) (hB1.mono hs12) hr2 hr1) ?kd ?ku ?_
    case k1 => k_asm
    case k2 => k_asm
    case k3 => k_asm
    case k5 => k_asm
    case kK => rfl
    case kd => exact Nat.le_of_ble_eq_true rfl
    case ku => exact Nat.le_of_ble_eq_true rfl
    rintro v4 tl4 h13 tk13 hB4 F13 N13 _
    obtain ⟨b4, rfl⟩ := hB4.ref
    have hB3 := hB3.mono fun q hq => List.mem_append_right tl4 hq
    have hs13 : ∀ q ∈ r10, q ∈ tl4 ++ n12 := fun q hq => List.mem_append_right _ (hs12 q hq)
    have hT13 := List.mem_append_right tl4 hT12
    have hnum := hs13 _ (hr10 _ hnum)
    generalize tl4 ++ n12 = n13 at *
    clear N12 hs12 hT12
    k_sweep
    (repeat' (first | (k_unfold; first | walk_at "Seq" | (try dsimp only)) | ((fail_if_success ((first | with_reducible show wpAny _ _ (eval (PySem.Expr.ListComp _ _ _ _) _) _ _ _ | with_reducible show wpAny _ _ (call (Value.ref _) _) _ _ _ | with_reducible show wpAny _ _ (compareOp CmpOp.IsNot _ _) _ _ _ | with_reducible show wpAny _ _ (compareOp CmpOp.NotEq (Value.ref _) (Value.ref _)) _ _ _ | with_reducible show wpAny _ _ (compareOp CmpOp.Eq (Value.ref _) (Value.ref _)) _ _ _ | with_reducible show wpAny _ _ (exec (PySem.Stmt.Assign [_] (PySem.Expr.ListComp _ _ _ _) _) _) _ _ _ | with_reducible show wpAny _ _ (binaryOp Operator.Add (Value.ref _) (Value.ref _)) _ _ _ | with_reducible show wpAny _ _ (subscriptTail _ (PySem.Expr.Slice _ _ _ _) _ _) _ _ _ | with_reducible show wpAny _ _ (exec (PySem.Stmt.While _ _ _ _) _) _ _ _ | with_reducible show wpAny _ _ (exec (PySem.Stmt.For _ _ _ _ _) _) _ _ _ | with_reducible show wpAny _ _ (pyIter _) _ _ _ | with_reducible show wpAny _ _ (call (Value.type "list") _) _ _ _ | with_reducible show wpAny _ _ (call (Value.builtin "str.join") _) _ _ _ | with_reducible show wpAny _ _ (eval (PySem.Expr.ListComp _ [PySem.Comprehension.mk (PySem.Expr.Tuple _ _ _) _ _ _] _ _) _) _ _ _ | with_reducible show LCg.CompSrc _ _ _ _ _ _ _ _ _ _ _ _ _ _ | with_reducible show wpAny _ _ (execs (PySem.Stmt.If (PySem.Expr.Compare _ [CmpOp.Lt] _ _) [PySem.Stmt.Assign [PySem.Expr.Tuple _ _ _] _ _] _ _ :: _) _) _ _ _))); first | (k_end; wrow_close) | walk1 | (dsimp only; walk1) | (leave1; walk_say "STEP leave1"; try dsimp only) | fail "no step")))
    have hB1 := hB1.mono hs13
    have hB2 := hB2.mono hs13
    have hA := hA.mono fun a b h => h.mono fun q hq => hs13 q (hr10 q hq)
    have hrows := hs13 _ (hr10 _ hrows)
    refine led_one (show News _ _ _ ((_, _) :: n13) by k_asm) ?_
    intro lb n14 elb hlb hs14 N14
    subst elb
    have h04 : 0 ≤ x0.fmod 4 := Int.fmod_nonneg_of_pos _ (by decide)
    have h44 : x0.fmod 4 ≤ 3 := by have := Int.fmod_lt_of_pos x0 (by decide : (0 : Int) < 4); omega
    refine' Claim.use ?k1 ?k2 ?k3 N14 ?k5 ?kK (word_c' (x := x0.fdiv 4) (n := x0.fmod 4) h04 h44) ?kd ?ku ?_
    case k1 => k_asm
    case k2 => k_asm
    case k3 => k_asm
    case k5 => k_asm
    case kK => rfl
    case kd => exact Nat.le_of_ble_eq_true rfl
    case ku => exact Nat.le_of_ble_eq_true rfl
    intro t15 h15 tk15 F15 N15
    obtain ⟨nm, enm⟩ : ∃ z, z = wordF (x0.fdiv 4) (x0.fmod 4).toNat := ⟨_, rfl⟩
    rw [← enm]
    have hnm : nm ∈ words3 := enm ▸ good_word _ (by omega)
    have hB1 := hB1.mono hs14
    have hB2 := hB2.mono hs14
    have hB3 := hB3.mono hs14
    have hB4 := hB4.mono hs14
    have hA := hA.mono fun a b h => h.mono hs14
    have hrows := hs14 _ hrows
    have hT14 := hs14 _ hT13
    have hgood : ∀ r ∈ rs, GoodRow r := fun r hr => by
      rw [ers] at hr
      obtain ⟨x, _, rfl⟩ := List.mem_map.mp hr
      exact good_row x
    clear N14 hs14 hs13 hr10 hT13 enm hnum
    k_sweep
    (repeat' (first | (k_unfold; first | walk_at "Seq" | (try dsimp only)) | ((fail_if_success ((first | with_reducible show wpAny _ _ (eval (PySem.Expr.ListComp _ _ _ _) _) _ _ _ | with_reducible show wpAny _ _ (call (Value.ref _) _) _ _ _ | with_reducible show wpAny _ _ (compareOp CmpOp.IsNot _ _) _ _ _ | with_reducible show wpAny _ _ (compareOp CmpOp.NotEq (Value.ref _) (Value.ref _)) _ _ _ | with_reducible show wpAny _ _ (compareOp CmpOp.Eq (Value.ref _) (Value.ref _)) _ _ _ | with_reducible show wpAny _ _ (exec (PySem.Stmt.Assign [_] (PySem.Expr.ListComp _ _ _ _) _) _) _ _ _ | with_reducible show wpAny _ _ (binaryOp Operator.Add (Value.ref _) (Value.ref _)) _ _ _ | with_reducible show wpAny _ _ (subscriptTail _ (PySem.Expr.Slice _ _ _ _) _ _) _ _ _ | with_reducible show wpAny _ _ (exec (PySem.Stmt.While _ _ _ _) _) _ _ _ | with_reducible show wpAny _ _ (exec (PySem.Stmt.For _ _ _ _ _) _) _ _ _ | with_reducible show wpAny _ _ (pyIter _) _ _ _ | with_reducible show wpAny _ _ (call (Value.type "list") _) _ _ _ | with_reducible show wpAny _ _ (call (Value.builtin "str.join") _) _ _ _ | with_reducible show wpAny _ _ (eval (PySem.Expr.ListComp _ [PySem.Comprehension.mk (PySem.Expr.Tuple _ _ _) _ _ _] _ _) _) _ _ _ | with_reducible show LCg.CompSrc _ _ _ _ _ _ _ _ _ _ _ _ _ _ | with_reducible show wpAny _ _ (execs (PySem.Stmt.If (PySem.Expr.Compare _ [CmpOp.Lt] _ _) [PySem.Stmt.Assign [PySem.Expr.Tuple _ _ _] _ _] _ _ :: _) _) _ _ _))); first | (k_end; wrow_close) | walk1 | (dsimp only; walk1) | (leave1; walk_say "STEP leave1"; try dsimp only) | fail "no step")))
    refine for_at (by k_asm) (by rfl) (by rfl) ?_
    (repeat' (first | (k_unfold; first | walk_at "Seq" | (try dsimp only)) | ((fail_if_success ((first | with_reducible show wpAny _ _ (eval (PySem.Expr.ListComp _ _ _ _) _) _ _ _ | with_reducible show wpAny _ _ (call (Value.ref _) _) _ _ _ | with_reducible show wpAny _ _ (compareOp CmpOp.IsNot _ _) _ _ _ | with_reducible show wpAny _ _ (compareOp CmpOp.NotEq (Value.ref _) (Value.ref _)) _ _ _ | with_reducible show wpAny _ _ (compareOp CmpOp.Eq (Value.ref _) (Value.ref _)) _ _ _ | with_reducible show wpAny _ _ (exec (PySem.Stmt.Assign [_] (PySem.Expr.ListComp _ _ _ _) _) _) _ _ _ | with_reducible show wpAny _ _ (binaryOp Operator.Add (Value.ref _) (Value.ref _)) _ _ _ | with_reducible show wpAny _ _ (subscriptTail _ (PySem.Expr.Slice _ _ _ _) _ _) _ _ _ | with_reducible show wpAny _ _ (exec (PySem.Stmt.While _ _ _ _) _) _ _ _ | with_reducible show wpAny _ _ (exec (PySem.Stmt.For _ _ _ _ _) _) _ _ _ | with_reducible show wpAny _ _ (pyIter _) _ _ _ | with_reducible show wpAny _ _ (call (Value.type "list") _) _ _ _ | with_reducible show wpAny _ _ (call (Value.builtin "str.join") _) _ _ _ | with_reducible show wpAny _ _ (eval (PySem.Expr.ListComp _ [PySem.Comprehension.mk (PySem.Expr.Tuple _ _ _) _ _ _] _ _) _) _ _ _ | with_reducible show LCg.CompSrc _ _ _ _ _ _ _ _ _ _ _ _ _ _ | with_reducible show wpAny _ _ (execs (PySem.Stmt.If (PySem.Expr.Compare _ [CmpOp.Lt] _ _) [PySem.Stmt.Assign [PySem.Expr.Tuple _ _ _] _ _] _ _ :: _) _) _ _ _))); first | (k_end; wrow_close) | walk1 | (dsimp only; walk1) | (leave1; walk_say "STEP leave1"; try dsimp only) | fail "no step")))
    refine iter_range_ps (a := 0) (b := 2) (n := 2) rfl (by assumption) (by decide) (by rfl)
      (fun q : Tok × List Nat => [("rows", .ref D), ("cut", .int (c : Int) _), ("one", .ref b1), ("two", .ref b2), ("both", .ref lb), ("name", .str ⟨q.2.toArray⟩ q.1)]) (fun _ => [])
      (fun _ q => q.2 ∈ words3) (t15, nm) (fun _ => rfl) (by k_asm) (show News _ _ _ n14 by k_asm) (fun _ _ h => nomatch h) (by (((repeat (first | refine ps_cons rfl ?_ | refine ps_str (by assumption) rfl ?_ | refine ps_int (by omega) rfl ?_)); exact ps_nil))) hnm ?turn ?fin
    case fin =>
      rintro ⟨tn, nmi⟩ u2 h2 tk2 hJ F2 N2
      dsimp only [kstB] at F2 hJ ⊢
      have N3 : News _ _ h2 n14 := N2
      clear N2
      k_sweep
      (repeat' (first | (k_unfold; first | walk_at "Seq" | (try dsimp only)) | ((fail_if_success ((first | with_reducible show wpAny _ _ (eval (PySem.Expr.ListComp _ _ _ _) _) _ _ _ | with_reducible show wpAny _ _ (call (Value.ref _) _) _ _ _ | with_reducible show wpAny _ _ (compareOp CmpOp.IsNot _ _) _ _ _ | with_reducible show wpAny _ _ (compareOp CmpOp.NotEq (Value.ref _) (Value.ref _)) _ _ _ | with_reducible show wpAny _ _ (compareOp CmpOp.Eq (Value.ref _) (Value.ref _)) _ _ _ | with_reducible show wpAny _ _ (exec (PySem.Stmt.Assign [_] (PySem.Expr.ListComp _ _ _ _) _) _) _ _ _ | with_reducible show wpAny _ _ (binaryOp Operator.Add (Value.ref _) (Value.ref _)) _ _ _ | with_reducible show wpAny _ _ (subscriptTail _ (PySem.Expr.Slice _ _ _ _) _ _) _ _ _ | with_reducible show wpAny _ _ (exec (PySem.Stmt.While _ _ _ _) _) _ _ _ | with_reducible show wpAny _ _ (exec (PySem.Stmt.For _ _ _ _ _) _) _ _ _ | with_reducible show wpAny _ _ (pyIter _) _ _ _ | with_reducible show wpAny _ _ (call (Value.type "list") _) _ _ _ | with_reducible show wpAny _ _ (call (Value.builtin "str.join") _) _ _ _ | with_reducible show wpAny _ _ (eval (PySem.Expr.ListComp _ [PySem.Comprehension.mk (PySem.Expr.Tuple _ _ _) _ _ _] _ _) _) _ _ _ | with_reducible show LCg.CompSrc _ _ _ _ _ _ _ _ _ _ _ _ _ _ | with_reducible show wpAny _ _ (execs (PySem.Stmt.If (PySem.Expr.Compare _ [CmpOp.Lt] _ _) [PySem.Stmt.Assign [PySem.Expr.Tuple _ _ _] _ _] _ _ :: _) _) _ _ _))); first | (k_end; wrow_close) | walk1 | (dsimp only; walk1) | (leave1; walk_say "STEP leave1"; try dsimp only) | fail "no step")))
      refine LCg.Assign_ListComp_U (F₀ := by k_asm) (by rfl) (by with_unfolding_all rfl) (by with_unfolding_all rfl) (by decide) (by rfl) (by decide) (by rfl) (by rfl) (by rfl) ?_
      (repeat' (first | (k_unfold; first | walk_at "Seq" | (try dsimp only)) | ((fail_if_success ((first | with_reducible show wpAny _ _ (eval (PySem.Expr.ListComp _ _ _ _) _) _ _ _ | with_reducible show wpAny _ _ (call (Value.ref _) _) _ _ _ | with_reducible show wpAny _ _ (compareOp CmpOp.IsNot _ _) _ _ _ | with_reducible show wpAny _ _ (compareOp CmpOp.NotEq (Value.ref _) (Value.ref _)) _ _ _ | with_reducible show wpAny _ _ (compareOp CmpOp.Eq (Value.ref _) (Value.ref _)) _ _ _ | with_reducible show wpAny _ _ (exec (PySem.Stmt.Assign [_] (PySem.Expr.ListComp _ _ _ _) _) _) _ _ _ | with_reducible show wpAny _ _ (binaryOp Operator.Add (Value.ref _) (Value.ref _)) _ _ _ | with_reducible show wpAny _ _ (subscriptTail _ (PySem.Expr.Slice _ _ _ _) _ _) _ _ _ | with_reducible show wpAny _ _ (exec (PySem.Stmt.While _ _ _ _) _) _ _ _ | with_reducible show wpAny _ _ (exec (PySem.Stmt.For _ _ _ _ _) _) _ _ _ | with_reducible show wpAny _ _ (pyIter _) _ _ _ | with_reducible show wpAny _ _ (call (Value.type "list") _) _ _ _ | with_reducible show wpAny _ _ (call (Value.builtin "str.join") _) _ _ _ | with_reducible show wpAny _ _ (eval (PySem.Expr.ListComp _ [PySem.Comprehension.mk (PySem.Expr.Tuple _ _ _) _ _ _] _ _) _) _ _ _ | with_reducible show LCg.CompSrc _ _ _ _ _ _ _ _ _ _ _ _ _ _ | with_reducible show wpAny _ _ (execs (PySem.Stmt.If (PySem.Expr.Compare _ [CmpOp.Lt] _ _) [PySem.Stmt.Assign [PySem.Expr.Tuple _ _ _] _ _] _ _ :: _) _) _ _ _))); first | (k_end; wrow_close) | walk1 | (dsimp only; walk1) | (leave1; walk_say "STEP leave1"; try dsimp only) | fail "no step")))
      refine LCg.CompSrc.ledger (its := ys.toArray) (by rfl) (by k_asm) N3 hrows (by rw [sizeLine_eq, List.size_toArray]; omega) ?_
      intro g'
      refine comp_same (fun i zs => StrsAre zs ((rs.take i).map wordS)) .nil ?turn2 ?fin2
      case turn2 =>
        rintro i v I oI C oC D' m₂ zs h tk E' hi hv hl hJ2 hC hx F N off ne
        obtain ⟨r, hri, ar, t1', t2', rfl, hmr⟩ := hA.get (show ys[i]? = some v by simpa using hv)
        (repeat' (first | (k_unfold; first | walk_at "Seq" | (try dsimp only)) | ((fail_if_success ((first | with_reducible show wpAny _ _ (eval (PySem.Expr.ListComp _ _ _ _) _) _ _ _ | with_reducible show wpAny _ _ (call (Value.ref _) _) _ _ _ | with_reducible show wpAny _ _ (compareOp CmpOp.IsNot _ _) _ _ _ | with_reducible show wpAny _ _ (compareOp CmpOp.NotEq (Value.ref _) (Value.ref _)) _ _ _ | with_reducible show wpAny _ _ (compareOp CmpOp.Eq (Value.ref _) (Value.ref _)) _ _ _ | with_reducible show wpAny _ _ (exec (PySem.Stmt.Assign [_] (PySem.Expr.ListComp _ _ _ _) _) _) _ _ _ | with_reducible show wpAny _ _ (binaryOp Operator.Add (Value.ref _) (Value.ref _)) _ _ _ | with_reducible show wpAny _ _ (subscriptTail _ (PySem.Expr.Slice _ _ _ _) _ _) _ _ _ | with_reducible show wpAny _ _ (exec (PySem.Stmt.While _ _ _ _) _) _ _ _ | with_reducible show wpAny _ _ (exec (PySem.Stmt.For _ _ _ _ _) _) _ _ _ | with_reducible show wpAny _ _ (pyIter _) _ _ _ | with_reducible show wpAny _ _ (call (Value.type "list") _) _ _ _ | with_reducible show wpAny _ _ (call (Value.builtin "str.join") _) _ _ _ | with_reducible show wpAny _ _ (eval (PySem.Expr.ListComp _ [PySem.Comprehension.mk (PySem.Expr.Tuple _ _ _) _ _ _] _ _) _) _ _ _ | with_reducible show LCg.CompSrc _ _ _ _ _ _ _ _ _ _ _ _ _ _ | with_reducible show wpAny _ _ (execs (PySem.Stmt.If (PySem.Expr.Compare _ [CmpOp.Lt] _ _) [PySem.Stmt.Assign [PySem.Expr.Tuple _ _ _] _ _] _ _ :: _) _) _ _ _))); first | (k_end; wrow_close) | walk1 | (dsimp only; walk1) | (leave1; walk_say "STEP leave1"; try dsimp only) | fail "no step")))
        refine LCg.CompEnd.intro (by k_asm) (show News _ _ _ ((I, oI) :: (C, oC) :: (D', LCg.lst zs) :: n14) by k_asm) n14 (fun p hp => hp) off (Or.inr ⟨_, hrows, rfl, _, rfl⟩) ⟨rfl, ?_⟩
        rw [List.take_add_one, hri, List.map_append]
        exact kct_snoc hJ2
      case fin2 =>
        intro zs hzl hZ D16 h16 tk16 F16 N16 o16
        rw [List.size_toArray, hysl, List.take_length] at hZ
        refine led_up N16 (fun q hq => List.mem_cons_of_mem _ hq) ?_
        clear N16 o16
        intro n16 hn16 hs16 N16
        have hwd := hn16 _ List.mem_cons_self
        k_sweep
        (repeat' (first | (k_unfold; first | walk_at "Seq" | (try dsimp only)) | ((fail_if_success ((first | with_reducible show wpAny _ _ (eval (PySem.Expr.ListComp _ _ _ _) _) _ _ _ | with_reducible show wpAny _ _ (call (Value.ref _) _) _ _ _ | with_reducible show wpAny _ _ (compareOp CmpOp.IsNot _ _) _ _ _ | with_reducible show wpAny _ _ (compareOp CmpOp.NotEq (Value.ref _) (Value.ref _)) _ _ _ | with_reducible show wpAny _ _ (compareOp CmpOp.Eq (Value.ref _) (Value.ref _)) _ _ _ | with_reducible show wpAny _ _ (exec (PySem.Stmt.Assign [_] (PySem.Expr.ListComp _ _ _ _) _) _) _ _ _ | with_reducible show wpAny _ _ (binaryOp Operator.Add (Value.ref _) (Value.ref _)) _ _ _ | with_reducible show wpAny _ _ (subscriptTail _ (PySem.Expr.Slice _ _ _ _) _ _) _ _ _ | with_reducible show wpAny _ _ (exec (PySem.Stmt.While _ _ _ _) _) _ _ _ | with_reducible show wpAny _ _ (exec (PySem.Stmt.For _ _ _ _ _) _) _ _ _ | with_reducible show wpAny _ _ (pyIter _) _ _ _ | with_reducible show wpAny _ _ (call (Value.type "list") _) _ _ _ | with_reducible show wpAny _ _ (call (Value.builtin "str.join") _) _ _ _ | with_reducible show wpAny _ _ (eval (PySem.Expr.ListComp _ [PySem.Comprehension.mk (PySem.Expr.Tuple _ _ _) _ _ _] _ _) _) _ _ _ | with_reducible show LCg.CompSrc _ _ _ _ _ _ _ _ _ _ _ _ _ _ | with_reducible show wpAny _ _ (execs (PySem.Stmt.If (PySem.Expr.Compare _ [CmpOp.Lt] _ _) [PySem.Stmt.Assign [PySem.Expr.Tuple _ _ _] _ _] _ _ :: _) _) _ _ _))); first | (k_end; wrow_close) | walk1 | (dsimp only; walk1) | (leave1; walk_say "STEP leave1"; try dsimp only) | fail "no step")))
        have hok := good_ok hgood
        have hg1 : ∀ r ∈ rs.take c, GoodRow r := fun r hr => hgood r (List.mem_of_mem_take hr)
        have hg2 : ∀ r ∈ rs.drop c, GoodRow r := fun r hr => hgood r (List.mem_of_mem_drop hr)
        have hok1 := good_ok hg1
        have hok2 := good_ok hg2
        have hl12 : (rs.take c ++ rs.drop c).length ≤ 64 := by rw [List.length_append, List.length_take, List.length_drop]; omega
        have hl21 : (rs.drop c ++ rs.take c).length ≤ 64 := by rw [List.length_append, List.length_take, List.length_drop]; omega
        have hZl := hZ.len_eq
        rw [List.length_map] at hZl
        refine item_led N16 (hs16 _ hlb) (by decide) (by decide) rfl ?_
        (repeat' (first | (k_unfold; first | walk_at "Seq" | (try dsimp only)) | ((fail_if_success ((first | with_reducible show wpAny _ _ (eval (PySem.Expr.ListComp _ _ _ _) _) _ _ _ | with_reducible show wpAny _ _ (call (Value.ref _) _) _ _ _ | with_reducible show wpAny _ _ (compareOp CmpOp.IsNot _ _) _ _ _ | with_reducible show wpAny _ _ (compareOp CmpOp.NotEq (Value.ref _) (Value.ref _)) _ _ _ | with_reducible show wpAny _ _ (compareOp CmpOp.Eq (Value.ref _) (Value.ref _)) _ _ _ | with_reducible show wpAny _ _ (exec (PySem.Stmt.Assign [_] (PySem.Expr.ListComp _ _ _ _) _) _) _ _ _ | with_reducible show wpAny _ _ (binaryOp Operator.Add (Value.ref _) (Value.ref _)) _ _ _ | with_reducible show wpAny _ _ (subscriptTail _ (PySem.Expr.Slice _ _ _ _) _ _) _ _ _ | with_reducible show wpAny _ _ (exec (PySem.Stmt.While _ _ _ _) _) _ _ _ | with_reducible show wpAny _ _ (exec (PySem.Stmt.For _ _ _ _ _) _) _ _ _ | with_reducible show wpAny _ _ (pyIter _) _ _ _ | with_reducible show wpAny _ _ (call (Value.type "list") _) _ _ _ | with_reducible show wpAny _ _ (call (Value.builtin "str.join") _) _ _ _ | with_reducible show wpAny _ _ (eval (PySem.Expr.ListComp _ [PySem.Comprehension.mk (PySem.Expr.Tuple _ _ _) _ _ _] _ _) _) _ _ _ | with_reducible show LCg.CompSrc _ _ _ _ _ _ _ _ _ _ _ _ _ _ | with_reducible show wpAny _ _ (execs (PySem.Stmt.If (PySem.Expr.Compare _ [CmpOp.Lt] _ _) [PySem.Stmt.Assign [PySem.Expr.Tuple _ _ _] _ _] _ _ :: _) _) _ _ _))); first | (k_end; wrow_close) | walk1 | (dsimp only; walk1) | (leave1; walk_say "STEP leave1"; try dsimp only) | fail "no step")))
        refine' ClaimM.use ?k1 ?k2 ?k3 (show News _ _ _ n16 by k_asm) ?k5 ?kK (words_c (hB3.mono hs16) hl12) ?kd ?ku ?_
        case k1 => k_asm
        case k2 => k_asm
        case k3 => k_asm
        case k5 => k_asm
        case kK => rfl
        case kd => exact Nat.le_of_ble_eq_true rfl
        case ku => exact Nat.le_of_ble_eq_true rfl
        intro v17 tl17 h17 tk17 hS F17 N17
        obtain ⟨l17, vs17, ep17, rfl, hm17, hS17⟩ := hS
        have hs17 : ∀ q ∈ n16, q ∈ tl17 ++ n16 := fun q hq => List.mem_append_right _ hq
        generalize tl17 ++ n16 = n17 at *
        k_sweep
        (repeat' (first | (k_unfold; first | walk_at "Seq" | (try dsimp only)) | ((fail_if_success ((first | with_reducible show wpAny _ _ (eval (PySem.Expr.ListComp _ _ _ _) _) _ _ _ | with_reducible show wpAny _ _ (call (Value.ref _) _) _ _ _ | with_reducible show wpAny _ _ (compareOp CmpOp.IsNot _ _) _ _ _ | with_reducible show wpAny _ _ (compareOp CmpOp.NotEq (Value.ref _) (Value.ref _)) _ _ _ | with_reducible show wpAny _ _ (compareOp CmpOp.Eq (Value.ref _) (Value.ref _)) _ _ _ | with_reducible show wpAny _ _ (exec (PySem.Stmt.Assign [_] (PySem.Expr.ListComp _ _ _ _) _) _) _ _ _ | with_reducible show wpAny _ _ (binaryOp Operator.Add (Value.ref _) (Value.ref _)) _ _ _ | with_reducible show wpAny _ _ (subscriptTail _ (PySem.Expr.Slice _ _ _ _) _ _) _ _ _ | with_reducible show wpAny _ _ (exec (PySem.Stmt.While _ _ _ _) _) _ _ _ | with_reducible show wpAny _ _ (exec (PySem.Stmt.For _ _ _ _ _) _) _ _ _ | with_reducible show wpAny _ _ (pyIter _) _ _ _ | with_reducible show wpAny _ _ (call (Value.type "list") _) _ _ _ | with_reducible show wpAny _ _ (call (Value.builtin "str.join") _) _ _ _ | with_reducible show wpAny _ _ (eval (PySem.Expr.ListComp _ [PySem.Comprehension.mk (PySem.Expr.Tuple _ _ _) _ _ _] _ _) _) _ _ _ | with_reducible show LCg.CompSrc _ _ _ _ _ _ _ _ _ _ _ _ _ _ | with_reducible show wpAny _ _ (execs (PySem.Stmt.If (PySem.Expr.Compare _ [CmpOp.Lt] _ _) [PySem.Stmt.Assign [PySem.Expr.Tuple _ _ _] _ _] _ _ :: _) _) _ _ _))); first | (k_end; wrow_close) | walk1 | (dsimp only; walk1) | (leave1; walk_say "STEP leave1"; try dsimp only) | fail "no step")))
        refine ne_strs (isl N17 hm17) hS17 (isl N17 (hs17 _ hwd)) hZ (by rw [List.take_append_drop]; exact hok) hok (Nat.le_of_ble_eq_true rfl) ?_
        simp only [List.take_append_drop, decide_true, Bool.not_true]
        (repeat' (first | (k_unfold; first | walk_at "Seq" | (try dsimp only)) | ((fail_if_success ((first | with_reducible show wpAny _ _ (eval (PySem.Expr.ListComp _ _ _ _) _) _ _ _ | with_reducible show wpAny _ _ (call (Value.ref _) _) _ _ _ | with_reducible show wpAny _ _ (compareOp CmpOp.IsNot _ _) _ _ _ | with_reducible show wpAny _ _ (compareOp CmpOp.NotEq (Value.ref _) (Value.ref _)) _ _ _ | with_reducible show wpAny _ _ (compareOp CmpOp.Eq (Value.ref _) (Value.ref _)) _ _ _ | with_reducible show wpAny _ _ (exec (PySem.Stmt.Assign [_] (PySem.Expr.ListComp _ _ _ _) _) _) _ _ _ | with_reducible show wpAny _ _ (binaryOp Operator.Add (Value.ref _) (Value.ref _)) _ _ _ | with_reducible show wpAny _ _ (subscriptTail _ (PySem.Expr.Slice _ _ _ _) _ _) _ _ _ | with_reducible show wpAny _ _ (exec (PySem.Stmt.While _ _ _ _) _) _ _ _ | with_reducible show wpAny _ _ (exec (PySem.Stmt.For _ _ _ _ _) _) _ _ _ | with_reducible show wpAny _ _ (pyIter _) _ _ _ | with_reducible show wpAny _ _ (call (Value.type "list") _) _ _ _ | with_reducible show wpAny _ _ (call (Value.builtin "str.join") _) _ _ _ | with_reducible show wpAny _ _ (eval (PySem.Expr.ListComp _ [PySem.Comprehension.mk (PySem.Expr.Tuple _ _ _) _ _ _] _ _) _) _ _ _ | with_reducible show LCg.CompSrc _ _ _ _ _ _ _ _ _ _ _ _ _ _ | with_reducible show wpAny _ _ (execs (PySem.Stmt.If (PySem.Expr.Compare _ [CmpOp.Lt] _ _) [PySem.Stmt.Assign [PySem.Expr.Tuple _ _ _] _ _] _ _ :: _) _) _ _ _))); first | (k_end; wrow_close) | walk1 | (dsimp only; walk1) | (leave1; walk_say "STEP leave1"; try dsimp only) | fail "no step")))
        refine item_led (show News _ _ _ n17 by k_asm) (hs17 _ (hs16 _ hlb)) (by decide) (by decide) rfl ?_
        (repeat' (first | (k_unfold; first | walk_at "Seq" | (try dsimp only)) | ((fail_if_success ((first | with_reducible show wpAny _ _ (eval (PySem.Expr.ListComp _ _ _ _) _) _ _ _ | with_reducible show wpAny _ _ (call (Value.ref _) _) _ _ _ | with_reducible show wpAny _ _ (compareOp CmpOp.IsNot _ _) _ _ _ | with_reducible show wpAny _ _ (compareOp CmpOp.NotEq (Value.ref _) (Value.ref _)) _ _ _ | with_reducible show wpAny _ _ (compareOp CmpOp.Eq (Value.ref _) (Value.ref _)) _ _ _ | with_reducible show wpAny _ _ (exec (PySem.Stmt.Assign [_] (PySem.Expr.ListComp _ _ _ _) _) _) _ _ _ | with_reducible show wpAny _ _ (binaryOp Operator.Add (Value.ref _) (Value.ref _)) _ _ _ | with_reducible show wpAny _ _ (subscriptTail _ (PySem.Expr.Slice _ _ _ _) _ _) _ _ _ | with_reducible show wpAny _ _ (exec (PySem.Stmt.While _ _ _ _) _) _ _ _ | with_reducible show wpAny _ _ (exec (PySem.Stmt.For _ _ _ _ _) _) _ _ _ | with_reducible show wpAny _ _ (pyIter _) _ _ _ | with_reducible show wpAny _ _ (call (Value.type "list") _) _ _ _ | with_reducible show wpAny _ _ (call (Value.builtin "str.join") _) _ _ _ | with_reducible show wpAny _ _ (eval (PySem.Expr.ListComp _ [PySem.Comprehension.mk (PySem.Expr.Tuple _ _ _) _ _ _] _ _) _) _ _ _ | with_reducible show LCg.CompSrc _ _ _ _ _ _ _ _ _ _ _ _ _ _ | with_reducible show wpAny _ _ (execs (PySem.Stmt.If (PySem.Expr.Compare _ [CmpOp.Lt] _ _) [PySem.Stmt.Assign [PySem.Expr.Tuple _ _ _] _ _] _ _ :: _) _) _ _ _))); first | (k_end; wrow_close) | walk1 | (dsimp only; walk1) | (leave1; walk_say "STEP leave1"; try dsimp only) | fail "no step")))
        refine' ClaimM.use ?k1 ?k2 ?k3 (show News _ _ _ n17 by k_asm) ?k5 ?kK (words_c (hB4.mono fun q hq => hs17 q (hs16 q hq)) hl21) ?kd ?ku ?_
        case k1 => k_asm
        case k2 => k_asm
        case k3 => k_asm
        case k5 => k_asm
        case kK => rfl
        case kd => exact Nat.le_of_ble_eq_true rfl
        case ku => exact Nat.le_of_ble_eq_true rfl
        intro v18 tl18 h18 tk18 hS F18 N18
        obtain ⟨l18, vs18, ep18, rfl, hm18, hS18⟩ := hS
        have hs18 : ∀ q ∈ n16, q ∈ tl18 ++ n17 := fun q hq => List.mem_append_right _ (hs17 q hq)
        generalize tl18 ++ n17 = n18 at *
        clear hs17
        k_sweep
        (repeat' (first | (k_unfold; first | walk_at "Seq" | (try dsimp only)) | ((fail_if_success ((first | with_reducible show wpAny _ _ (eval (PySem.Expr.ListComp _ _ _ _) _) _ _ _ | with_reducible show wpAny _ _ (call (Value.ref _) _) _ _ _ | with_reducible show wpAny _ _ (compareOp CmpOp.IsNot _ _) _ _ _ | with_reducible show wpAny _ _ (compareOp CmpOp.NotEq (Value.ref _) (Value.ref _)) _ _ _ | with_reducible show wpAny _ _ (compareOp CmpOp.Eq (Value.ref _) (Value.ref _)) _ _ _ | with_reducible show wpAny _ _ (exec (PySem.Stmt.Assign [_] (PySem.Expr.ListComp _ _ _ _) _) _) _ _ _ | with_reducible show wpAny _ _ (binaryOp Operator.Add (Value.ref _) (Value.ref _)) _ _ _ | with_reducible show wpAny _ _ (subscriptTail _ (PySem.Expr.Slice _ _ _ _) _ _) _ _ _ | with_reducible show wpAny _ _ (exec (PySem.Stmt.While _ _ _ _) _) _ _ _ | with_reducible show wpAny _ _ (exec (PySem.Stmt.For _ _ _ _ _) _) _ _ _ | with_reducible show wpAny _ _ (pyIter _) _ _ _ | with_reducible show wpAny _ _ (call (Value.type "list") _) _ _ _ | with_reducible show wpAny _ _ (call (Value.builtin "str.join") _) _ _ _ | with_reducible show wpAny _ _ (eval (PySem.Expr.ListComp _ [PySem.Comprehension.mk (PySem.Expr.Tuple _ _ _) _ _ _] _ _) _) _ _ _ | with_reducible show LCg.CompSrc _ _ _ _ _ _ _ _ _ _ _ _ _ _ | with_reducible show wpAny _ _ (execs (PySem.Stmt.If (PySem.Expr.Compare _ [CmpOp.Lt] _ _) [PySem.Stmt.Assign [PySem.Expr.Tuple _ _ _] _ _] _ _ :: _) _) _ _ _))); first | (k_end; wrow_close) | walk1 | (dsimp only; walk1) | (leave1; walk_say "STEP leave1"; try dsimp only) | fail "no step")))
        refine slice_from (s := ⟨_, _, _, _, _⟩) (b := c) (by k_asm) N18 (hs18 _ hwd) (by rw [sizeLine_eq]; omega) ?_
        intro D19 h19 F19 N19 _
        k_sweep
        (repeat' (first | (k_unfold; first | walk_at "Seq" | (try dsimp only)) | ((fail_if_success ((first | with_reducible show wpAny _ _ (eval (PySem.Expr.ListComp _ _ _ _) _) _ _ _ | with_reducible show wpAny _ _ (call (Value.ref _) _) _ _ _ | with_reducible show wpAny _ _ (compareOp CmpOp.IsNot _ _) _ _ _ | with_reducible show wpAny _ _ (compareOp CmpOp.NotEq (Value.ref _) (Value.ref _)) _ _ _ | with_reducible show wpAny _ _ (compareOp CmpOp.Eq (Value.ref _) (Value.ref _)) _ _ _ | with_reducible show wpAny _ _ (exec (PySem.Stmt.Assign [_] (PySem.Expr.ListComp _ _ _ _) _) _) _ _ _ | with_reducible show wpAny _ _ (binaryOp Operator.Add (Value.ref _) (Value.ref _)) _ _ _ | with_reducible show wpAny _ _ (subscriptTail _ (PySem.Expr.Slice _ _ _ _) _ _) _ _ _ | with_reducible show wpAny _ _ (exec (PySem.Stmt.While _ _ _ _) _) _ _ _ | with_reducible show wpAny _ _ (exec (PySem.Stmt.For _ _ _ _ _) _) _ _ _ | with_reducible show wpAny _ _ (pyIter _) _ _ _ | with_reducible show wpAny _ _ (call (Value.type "list") _) _ _ _ | with_reducible show wpAny _ _ (call (Value.builtin "str.join") _) _ _ _ | with_reducible show wpAny _ _ (eval (PySem.Expr.ListComp _ [PySem.Comprehension.mk (PySem.Expr.Tuple _ _ _) _ _ _] _ _) _) _ _ _ | with_reducible show LCg.CompSrc _ _ _ _ _ _ _ _ _ _ _ _ _ _ | with_reducible show wpAny _ _ (execs (PySem.Stmt.If (PySem.Expr.Compare _ [CmpOp.Lt] _ _) [PySem.Stmt.Assign [PySem.Expr.Tuple _ _ _] _ _] _ _ :: _) _) _ _ _))); first | (k_end; wrow_close) | walk1 | (dsimp only; walk1) | (leave1; walk_say "STEP leave1"; try dsimp only) | fail "no step")))
        refine slice_to (s := ⟨_, _, _, _, _⟩) (b := c) (by k_asm) N19 (List.mem_cons_of_mem _ (hs18 _ hwd)) (by rw [sizeLine_eq]; omega) ?_
        intro D20 h20 F20 N20 _
        k_sweep
        (repeat' (first | (k_unfold; first | walk_at "Seq" | (try dsimp only)) | ((fail_if_success ((first | with_reducible show wpAny _ _ (eval (PySem.Expr.ListComp _ _ _ _) _) _ _ _ | with_reducible show wpAny _ _ (call (Value.ref _) _) _ _ _ | with_reducible show wpAny _ _ (compareOp CmpOp.IsNot _ _) _ _ _ | with_reducible show wpAny _ _ (compareOp CmpOp.NotEq (Value.ref _) (Value.ref _)) _ _ _ | with_reducible show wpAny _ _ (compareOp CmpOp.Eq (Value.ref _) (Value.ref _)) _ _ _ | with_reducible show wpAny _ _ (exec (PySem.Stmt.Assign [_] (PySem.Expr.ListComp _ _ _ _) _) _) _ _ _ | with_reducible show wpAny _ _ (binaryOp Operator.Add (Value.ref _) (Value.ref _)) _ _ _ | with_reducible show wpAny _ _ (subscriptTail _ (PySem.Expr.Slice _ _ _ _) _ _) _ _ _ | with_reducible show wpAny _ _ (exec (PySem.Stmt.While _ _ _ _) _) _ _ _ | with_reducible show wpAny _ _ (exec (PySem.Stmt.For _ _ _ _ _) _) _ _ _ | with_reducible show wpAny _ _ (pyIter _) _ _ _ | with_reducible show wpAny _ _ (call (Value.type "list") _) _ _ _ | with_reducible show wpAny _ _ (call (Value.builtin "str.join") _) _ _ _ | with_reducible show wpAny _ _ (eval (PySem.Expr.ListComp _ [PySem.Comprehension.mk (PySem.Expr.Tuple _ _ _) _ _ _] _ _) _) _ _ _ | with_reducible show LCg.CompSrc _ _ _ _ _ _ _ _ _ _ _ _ _ _ | with_reducible show wpAny _ _ (execs (PySem.Stmt.If (PySem.Expr.Compare _ [CmpOp.Lt] _ _) [PySem.Stmt.Assign [PySem.Expr.Tuple _ _ _] _ _] _ _ :: _) _) _ _ _))); first | (k_end; wrow_close) | walk1 | (dsimp only; walk1) | (leave1; walk_say "STEP leave1"; try dsimp only) | fail "no step")))
        refine kmk_add_lit (its := (zs.drop c).toArray) (its2 := (zs.take c).toArray) (zs := zs.drop c ++ zs.take c) (by k_asm) N20 (isl N20 (List.mem_cons_of_mem _ List.mem_cons_self)) (isl N20 List.mem_cons_self) rfl ?_ (by
          rw [sizeLine_eq]
          show (zs.drop c).length + (zs.take c).length ≤ _
          rw [List.length_drop, List.length_take]
          omega)
        intro D21 h21 F21 N21 _
        refine led_up N21 (fun q hq => List.mem_cons_of_mem _ (List.mem_cons_of_mem _ (List.mem_cons_of_mem _ hq))) ?_
        clear N21
        intro n21 hn21 hs21 N21
        have hD21 := hn21 _ List.mem_cons_self
        k_sweep
        (repeat' (first | (k_unfold; first | walk_at "Seq" | (try dsimp only)) | ((fail_if_success ((first | with_reducible show wpAny _ _ (eval (PySem.Expr.ListComp _ _ _ _) _) _ _ _ | with_reducible show wpAny _ _ (call (Value.ref _) _) _ _ _ | with_reducible show wpAny _ _ (compareOp CmpOp.IsNot _ _) _ _ _ | with_reducible show wpAny _ _ (compareOp CmpOp.NotEq (Value.ref _) (Value.ref _)) _ _ _ | with_reducible show wpAny _ _ (compareOp CmpOp.Eq (Value.ref _) (Value.ref _)) _ _ _ | with_reducible show wpAny _ _ (exec (PySem.Stmt.Assign [_] (PySem.Expr.ListComp _ _ _ _) _) _) _ _ _ | with_reducible show wpAny _ _ (binaryOp Operator.Add (Value.ref _) (Value.ref _)) _ _ _ | with_reducible show wpAny _ _ (subscriptTail _ (PySem.Expr.Slice _ _ _ _) _ _) _ _ _ | with_reducible show wpAny _ _ (exec (PySem.Stmt.While _ _ _ _) _) _ _ _ | with_reducible show wpAny _ _ (exec (PySem.Stmt.For _ _ _ _ _) _) _ _ _ | with_reducible show wpAny _ _ (pyIter _) _ _ _ | with_reducible show wpAny _ _ (call (Value.type "list") _) _ _ _ | with_reducible show wpAny _ _ (call (Value.builtin "str.join") _) _ _ _ | with_reducible show wpAny _ _ (eval (PySem.Expr.ListComp _ [PySem.Comprehension.mk (PySem.Expr.Tuple _ _ _) _ _ _] _ _) _) _ _ _ | with_reducible show LCg.CompSrc _ _ _ _ _ _ _ _ _ _ _ _ _ _ | with_reducible show wpAny _ _ (execs (PySem.Stmt.If (PySem.Expr.Compare _ [CmpOp.Lt] _ _) [PySem.Stmt.Assign [PySem.Expr.Tuple _ _ _] _ _] _ _ :: _) _) _ _ _))); first | (k_end; wrow_close) | walk1 | (dsimp only; walk1) | (leave1; walk_say "STEP leave1"; try dsimp only) | fail "no step")))
        refine ne_strs (ms := (rs.drop c ++ rs.take c).map wordS) (isl N21 (hs21 _ hm18)) hS18 (isl N21 hD21) (by rw [List.map_append, List.map_drop, List.map_take]; exact (hZ.drop' c).append' (hZ.take' c)) (by rw [List.map_append, List.all_append, hok1, hok2]; rfl) (by rw [List.map_append, List.all_append, hok1, hok2]; rfl) (Nat.le_of_ble_eq_true rfl) ?_
        simp only [decide_true, Bool.not_true]
        (repeat' (first | (k_unfold; first | walk_at "Seq" | (try dsimp only)) | ((fail_if_success ((first | with_reducible show wpAny _ _ (eval (PySem.Expr.ListComp _ _ _ _) _) _ _ _ | with_reducible show wpAny _ _ (call (Value.ref _) _) _ _ _ | with_reducible show wpAny _ _ (compareOp CmpOp.IsNot _ _) _ _ _ | with_reducible show wpAny _ _ (compareOp CmpOp.NotEq (Value.ref _) (Value.ref _)) _ _ _ | with_reducible show wpAny _ _ (compareOp CmpOp.Eq (Value.ref _) (Value.ref _)) _ _ _ | with_reducible show wpAny _ _ (exec (PySem.Stmt.Assign [_] (PySem.Expr.ListComp _ _ _ _) _) _) _ _ _ | with_reducible show wpAny _ _ (binaryOp Operator.Add (Value.ref _) (Value.ref _)) _ _ _ | with_reducible show wpAny _ _ (subscriptTail _ (PySem.Expr.Slice _ _ _ _) _ _) _ _ _ | with_reducible show wpAny _ _ (exec (PySem.Stmt.While _ _ _ _) _) _ _ _ | with_reducible show wpAny _ _ (exec (PySem.Stmt.For _ _ _ _ _) _) _ _ _ | with_reducible show wpAny _ _ (pyIter _) _ _ _ | with_reducible show wpAny _ _ (call (Value.type "list") _) _ _ _ | with_reducible show wpAny _ _ (call (Value.builtin "str.join") _) _ _ _ | with_reducible show wpAny _ _ (eval (PySem.Expr.ListComp _ [PySem.Comprehension.mk (PySem.Expr.Tuple _ _ _) _ _ _] _ _) _) _ _ _ | with_reducible show LCg.CompSrc _ _ _ _ _ _ _ _ _ _ _ _ _ _ | with_reducible show wpAny _ _ (execs (PySem.Stmt.If (PySem.Expr.Compare _ [CmpOp.Lt] _ _) [PySem.Stmt.Assign [PySem.Expr.Tuple _ _ _] _ _] _ _ :: _) _) _ _ _))); first | (k_end; wrow_close) | walk1 | (dsimp only; walk1) | (leave1; walk_say "STEP leave1"; try dsimp only) | fail "no step")))
        have hs22 : ∀ q ∈ n16, q ∈ n21 := fun q hq => hs21 q (hs18 q hq)
        refine' ClaimM.use ?k1 ?k2 ?k3 (show News _ _ _ n21 by k_asm) ?k5 ?kK (words_c (hB1.mono fun q hq => hs22 q (hs16 q hq)) hr1) ?kd ?ku ?_
        case k1 => k_asm
        case k2 => k_asm
        case k3 => k_asm
        case k5 => k_asm
        case kK => rfl
        case kd => exact Nat.le_of_ble_eq_true rfl
        case ku => exact Nat.le_of_ble_eq_true rfl
        intro v22 tl22 h22 tk22 hS F22 N22
        obtain ⟨l22, vs22, ep22, rfl, hm22, hS22⟩ := hS
        have hs23 : ∀ q ∈ n16, q ∈ tl22 ++ n21 := fun q hq => List.mem_append_right _ (hs22 q hq)
        generalize tl22 ++ n21 = n22 at *
        clear hs21 hs18 hs22
        k_sweep
        (repeat' (first | (k_unfold; first | walk_at "Seq" | (try dsimp only)) | ((fail_if_success ((first | with_reducible show wpAny _ _ (eval (PySem.Expr.ListComp _ _ _ _) _) _ _ _ | with_reducible show wpAny _ _ (call (Value.ref _) _) _ _ _ | with_reducible show wpAny _ _ (compareOp CmpOp.IsNot _ _) _ _ _ | with_reducible show wpAny _ _ (compareOp CmpOp.NotEq (Value.ref _) (Value.ref _)) _ _ _ | with_reducible show wpAny _ _ (compareOp CmpOp.Eq (Value.ref _) (Value.ref _)) _ _ _ | with_reducible show wpAny _ _ (exec (PySem.Stmt.Assign [_] (PySem.Expr.ListComp _ _ _ _) _) _) _ _ _ | with_reducible show wpAny _ _ (binaryOp Operator.Add (Value.ref _) (Value.ref _)) _ _ _ | with_reducible show wpAny _ _ (subscriptTail _ (PySem.Expr.Slice _ _ _ _) _ _) _ _ _ | with_reducible show wpAny _ _ (exec (PySem.Stmt.While _ _ _ _) _) _ _ _ | with_reducible show wpAny _ _ (exec (PySem.Stmt.For _ _ _ _ _) _) _ _ _ | with_reducible show wpAny _ _ (pyIter _) _ _ _ | with_reducible show wpAny _ _ (call (Value.type "list") _) _ _ _ | with_reducible show wpAny _ _ (call (Value.builtin "str.join") _) _ _ _ | with_reducible show wpAny _ _ (eval (PySem.Expr.ListComp _ [PySem.Comprehension.mk (PySem.Expr.Tuple _ _ _) _ _ _] _ _) _) _ _ _ | with_reducible show LCg.CompSrc _ _ _ _ _ _ _ _ _ _ _ _ _ _ | with_reducible show wpAny _ _ (execs (PySem.Stmt.If (PySem.Expr.Compare _ [CmpOp.Lt] _ _) [PySem.Stmt.Assign [PySem.Expr.Tuple _ _ _] _ _] _ _ :: _) _) _ _ _))); first | (k_end; wrow_close) | walk1 | (dsimp only; walk1) | (leave1; walk_say "STEP leave1"; try dsimp only) | fail "no step")))
        refine slice_to (s := ⟨_, _, _, _, _⟩) (b := c) (by k_asm) N22 (hs23 _ hwd) (by rw [sizeLine_eq]; omega) ?_
        intro D23 h23 F23 N23 _
        k_sweep
        (repeat' (first | (k_unfold; first | walk_at "Seq" | (try dsimp only)) | ((fail_if_success ((first | with_reducible show wpAny _ _ (eval (PySem.Expr.ListComp _ _ _ _) _) _ _ _ | with_reducible show wpAny _ _ (call (Value.ref _) _) _ _ _ | with_reducible show wpAny _ _ (compareOp CmpOp.IsNot _ _) _ _ _ | with_reducible show wpAny _ _ (compareOp CmpOp.NotEq (Value.ref _) (Value.ref _)) _ _ _ | with_reducible show wpAny _ _ (compareOp CmpOp.Eq (Value.ref _) (Value.ref _)) _ _ _ | with_reducible show wpAny _ _ (exec (PySem.Stmt.Assign [_] (PySem.Expr.ListComp _ _ _ _) _) _) _ _ _ | with_reducible show wpAny _ _ (binaryOp Operator.Add (Value.ref _) (Value.ref _)) _ _ _ | with_reducible show wpAny _ _ (subscriptTail _ (PySem.Expr.Slice _ _ _ _) _ _) _ _ _ | with_reducible show wpAny _ _ (exec (PySem.Stmt.While _ _ _ _) _) _ _ _ | with_reducible show wpAny _ _ (exec (PySem.Stmt.For _ _ _ _ _) _) _ _ _ | with_reducible show wpAny _ _ (pyIter _) _ _ _ | with_reducible show wpAny _ _ (call (Value.type "list") _) _ _ _ | with_reducible show wpAny _ _ (call (Value.builtin "str.join") _) _ _ _ | with_reducible show wpAny _ _ (eval (PySem.Expr.ListComp _ [PySem.Comprehension.mk (PySem.Expr.Tuple _ _ _) _ _ _] _ _) _) _ _ _ | with_reducible show LCg.CompSrc _ _ _ _ _ _ _ _ _ _ _ _ _ _ | with_reducible show wpAny _ _ (execs (PySem.Stmt.If (PySem.Expr.Compare _ [CmpOp.Lt] _ _) [PySem.Stmt.Assign [PySem.Expr.Tuple _ _ _] _ _] _ _ :: _) _) _ _ _))); first | (k_end; wrow_close) | walk1 | (dsimp only; walk1) | (leave1; walk_say "STEP leave1"; try dsimp only) | fail "no step")))
        refine eq_strs (ms := (rs.take c).map wordS) (isl N23 (List.mem_cons_of_mem _ hm22)) hS22 (isl N23 List.mem_cons_self) (by rw [List.map_take]; exact hZ.take' c) hok1 hok1 (Nat.le_of_ble_eq_true rfl) ?_
        simp only [decide_true]
        refine led_up N23 (fun q hq => List.mem_cons_of_mem _ (hs23 q hq)) ?_
        clear N23
        intro n23 _ hs24 N23
        (repeat' (first | (k_unfold; first | walk_at "Seq" | (try dsimp only)) | ((fail_if_success ((first | with_reducible show wpAny _ _ (eval (PySem.Expr.ListComp _ _ _ _) _) _ _ _ | with_reducible show wpAny _ _ (call (Value.ref _) _) _ _ _ | with_reducible show wpAny _ _ (compareOp CmpOp.IsNot _ _) _ _ _ | with_reducible show wpAny _ _ (compareOp CmpOp.NotEq (Value.ref _) (Value.ref _)) _ _ _ | with_reducible show wpAny _ _ (compareOp CmpOp.Eq (Value.ref _) (Value.ref _)) _ _ _ | with_reducible show wpAny _ _ (exec (PySem.Stmt.Assign [_] (PySem.Expr.ListComp _ _ _ _) _) _) _ _ _ | with_reducible show wpAny _ _ (binaryOp Operator.Add (Value.ref _) (Value.ref _)) _ _ _ | with_reducible show wpAny _ _ (subscriptTail _ (PySem.Expr.Slice _ _ _ _) _ _) _ _ _ | with_reducible show wpAny _ _ (exec (PySem.Stmt.While _ _ _ _) _) _ _ _ | with_reducible show wpAny _ _ (exec (PySem.Stmt.For _ _ _ _ _) _) _ _ _ | with_reducible show wpAny _ _ (pyIter _) _ _ _ | with_reducible show wpAny _ _ (call (Value.type "list") _) _ _ _ | with_reducible show wpAny _ _ (call (Value.builtin "str.join") _) _ _ _ | with_reducible show wpAny _ _ (eval (PySem.Expr.ListComp _ [PySem.Comprehension.mk (PySem.Expr.Tuple _ _ _) _ _ _] _ _) _) _ _ _ | with_reducible show LCg.CompSrc _ _ _ _ _ _ _ _ _ _ _ _ _ _ | with_reducible show wpAny _ _ (execs (PySem.Stmt.If (PySem.Expr.Compare _ [CmpOp.Lt] _ _) [PySem.Stmt.Assign [PySem.Expr.Tuple _ _ _] _ _] _ _ :: _) _) _ _ _))); first | (k_end; wrow_close) | walk1 | (dsimp only; walk1) | (leave1; walk_say "STEP leave1"; try dsimp only) | fail "no step")))
        refine' ClaimM.use ?k1 ?k2 ?k3 (show News _ _ _ n23 by k_asm) ?k5 ?kK (words_c (hB2.mono fun q hq => hs24 q (hs16 q hq)) hr2) ?kd ?ku ?_
        case k1 => k_asm
        case k2 => k_asm
        case k3 => k_asm
        case k5 => k_asm
        case kK => rfl
        case kd => exact Nat.le_of_ble_eq_true rfl
        case ku => exact Nat.le_of_ble_eq_true rfl
        intro v24 tl24 h24 tk24 hS F24 N24
        obtain ⟨l24, vs24, ep24, rfl, hm24, hS24⟩ := hS
        have hs25 : ∀ q ∈ n16, q ∈ tl24 ++ n23 := fun q hq => List.mem_append_right _ (hs24 q hq)
        generalize tl24 ++ n23 = n24 at *
        clear hs24
        k_sweep
        (repeat' (first | (k_unfold; first | walk_at "Seq" | (try dsimp only)) | ((fail_if_success ((first | with_reducible show wpAny _ _ (eval (PySem.Expr.ListComp _ _ _ _) _) _ _ _ | with_reducible show wpAny _ _ (call (Value.ref _) _) _ _ _ | with_reducible show wpAny _ _ (compareOp CmpOp.IsNot _ _) _ _ _ | with_reducible show wpAny _ _ (compareOp CmpOp.NotEq (Value.ref _) (Value.ref _)) _ _ _ | with_reducible show wpAny _ _ (compareOp CmpOp.Eq (Value.ref _) (Value.ref _)) _ _ _ | with_reducible show wpAny _ _ (exec (PySem.Stmt.Assign [_] (PySem.Expr.ListComp _ _ _ _) _) _) _ _ _ | with_reducible show wpAny _ _ (binaryOp Operator.Add (Value.ref _) (Value.ref _)) _ _ _ | with_reducible show wpAny _ _ (subscriptTail _ (PySem.Expr.Slice _ _ _ _) _ _) _ _ _ | with_reducible show wpAny _ _ (exec (PySem.Stmt.While _ _ _ _) _) _ _ _ | with_reducible show wpAny _ _ (exec (PySem.Stmt.For _ _ _ _ _) _) _ _ _ | with_reducible show wpAny _ _ (pyIter _) _ _ _ | with_reducible show wpAny _ _ (call (Value.type "list") _) _ _ _ | with_reducible show wpAny _ _ (call (Value.builtin "str.join") _) _ _ _ | with_reducible show wpAny _ _ (eval (PySem.Expr.ListComp _ [PySem.Comprehension.mk (PySem.Expr.Tuple _ _ _) _ _ _] _ _) _) _ _ _ | with_reducible show LCg.CompSrc _ _ _ _ _ _ _ _ _ _ _ _ _ _ | with_reducible show wpAny _ _ (execs (PySem.Stmt.If (PySem.Expr.Compare _ [CmpOp.Lt] _ _) [PySem.Stmt.Assign [PySem.Expr.Tuple _ _ _] _ _] _ _ :: _) _) _ _ _))); first | (k_end; wrow_close) | walk1 | (dsimp only; walk1) | (leave1; walk_say "STEP leave1"; try dsimp only) | fail "no step")))
        refine slice_from (s := ⟨_, _, _, _, _⟩) (b := c) (by k_asm) N24 (hs25 _ hwd) (by rw [sizeLine_eq]; omega) ?_
        intro D25 h25 F25 N25 _
        k_sweep
        (repeat' (first | (k_unfold; first | walk_at "Seq" | (try dsimp only)) | ((fail_if_success ((first | with_reducible show wpAny _ _ (eval (PySem.Expr.ListComp _ _ _ _) _) _ _ _ | with_reducible show wpAny _ _ (call (Value.ref _) _) _ _ _ | with_reducible show wpAny _ _ (compareOp CmpOp.IsNot _ _) _ _ _ | with_reducible show wpAny _ _ (compareOp CmpOp.NotEq (Value.ref _) (Value.ref _)) _ _ _ | with_reducible show wpAny _ _ (compareOp CmpOp.Eq (Value.ref _) (Value.ref _)) _ _ _ | with_reducible show wpAny _ _ (exec (PySem.Stmt.Assign [_] (PySem.Expr.ListComp _ _ _ _) _) _) _ _ _ | with_reducible show wpAny _ _ (binaryOp Operator.Add (Value.ref _) (Value.ref _)) _ _ _ | with_reducible show wpAny _ _ (subscriptTail _ (PySem.Expr.Slice _ _ _ _) _ _) _ _ _ | with_reducible show wpAny _ _ (exec (PySem.Stmt.While _ _ _ _) _) _ _ _ | with_reducible show wpAny _ _ (exec (PySem.Stmt.For _ _ _ _ _) _) _ _ _ | with_reducible show wpAny _ _ (pyIter _) _ _ _ | with_reducible show wpAny _ _ (call (Value.type "list") _) _ _ _ | with_reducible show wpAny _ _ (call (Value.builtin "str.join") _) _ _ _ | with_reducible show wpAny _ _ (eval (PySem.Expr.ListComp _ [PySem.Comprehension.mk (PySem.Expr.Tuple _ _ _) _ _ _] _ _) _) _ _ _ | with_reducible show LCg.CompSrc _ _ _ _ _ _ _ _ _ _ _ _ _ _ | with_reducible show wpAny _ _ (execs (PySem.Stmt.If (PySem.Expr.Compare _ [CmpOp.Lt] _ _) [PySem.Stmt.Assign [PySem.Expr.Tuple _ _ _] _ _] _ _ :: _) _) _ _ _))); first | (k_end; wrow_close) | walk1 | (dsimp only; walk1) | (leave1; walk_say "STEP leave1"; try dsimp only) | fail "no step")))
        refine eq_strs (ms := (rs.drop c).map wordS) (isl N25 (List.mem_cons_of_mem _ hm24)) hS24 (isl N25 List.mem_cons_self) (by rw [List.map_drop]; exact hZ.drop' c) hok2 hok2 (Nat.le_of_ble_eq_true rfl) ?_
        simp only [decide_true]
        (repeat' (first | (k_unfold; first | walk_at "Seq" | (try dsimp only)) | ((fail_if_success ((first | with_reducible show wpAny _ _ (eval (PySem.Expr.ListComp _ _ _ _) _) _ _ _ | with_reducible show wpAny _ _ (call (Value.ref _) _) _ _ _ | with_reducible show wpAny _ _ (compareOp CmpOp.IsNot _ _) _ _ _ | with_reducible show wpAny _ _ (compareOp CmpOp.NotEq (Value.ref _) (Value.ref _)) _ _ _ | with_reducible show wpAny _ _ (compareOp CmpOp.Eq (Value.ref _) (Value.ref _)) _ _ _ | with_reducible show wpAny _ _ (exec (PySem.Stmt.Assign [_] (PySem.Expr.ListComp _ _ _ _) _) _) _ _ _ | with_reducible show wpAny _ _ (binaryOp Operator.Add (Value.ref _) (Value.ref _)) _ _ _ | with_reducible show wpAny _ _ (subscriptTail _ (PySem.Expr.Slice _ _ _ _) _ _) _ _ _ | with_reducible show wpAny _ _ (exec (PySem.Stmt.While _ _ _ _) _) _ _ _ | with_reducible show wpAny _ _ (exec (PySem.Stmt.For _ _ _ _ _) _) _ _ _ | with_reducible show wpAny _ _ (pyIter _) _ _ _ | with_reducible show wpAny _ _ (call (Value.type "list") _) _ _ _ | with_reducible show wpAny _ _ (call (Value.builtin "str.join") _) _ _ _ | with_reducible show wpAny _ _ (eval (PySem.Expr.ListComp _ [PySem.Comprehension.mk (PySem.Expr.Tuple _ _ _) _ _ _] _ _) _) _ _ _ | with_reducible show LCg.CompSrc _ _ _ _ _ _ _ _ _ _ _ _ _ _ | with_reducible show wpAny _ _ (execs (PySem.Stmt.If (PySem.Expr.Compare _ [CmpOp.Lt] _ _) [PySem.Stmt.Assign [PySem.Expr.Tuple _ _ _] _ _] _ _ :: _) _) _ _ _))); first | (k_end; wrow_close) | walk1 | (dsimp only; walk1) | (leave1; walk_say "STEP leave1"; try dsimp only) | fail "no step")))
        exact ⟨_, _, _, ps2, _, rfl, rfl, F25, N25, List.mem_cons_of_mem _ (hs25 _ (hs16 _ hT14))⟩
    case turn =>
      rintro i t20 ⟨tn, nmi⟩ u2 h2 tk2 tl hi hJ hsub hap F2 N2
      dsimp only [kstB] at F2 hJ ⊢
      have N3 : News _ _ h2 tl := N2
      clear N2 hap
      rw [Int.zero_add] at F2
      have hlen := good_len hJ
      have hB1 := hB1.mono hsub
      have hB2 := hB2.mono hsub
      have hB3 := hB3.mono hsub
      have hB4 := hB4.mono hsub
      have hA := hA.mono fun a b h => h.mono hsub
      have hrows := hsub _ hrows
      have hlb := hsub _ hlb
      k_sweep
      (repeat' (first | (k_unfold; first | walk_at "Seq" | (try dsimp only)) | ((fail_if_success ((first | with_reducible show wpAny _ _ (eval (PySem.Expr.ListComp _ _ _ _) _) _ _ _ | with_reducible show wpAny _ _ (call (Value.ref _) _) _ _ _ | with_reducible show wpAny _ _ (compareOp CmpOp.IsNot _ _) _ _ _ | with_reducible show wpAny _ _ (compareOp CmpOp.NotEq (Value.ref _) (Value.ref _)) _ _ _ | with_reducible show wpAny _ _ (compareOp CmpOp.Eq (Value.ref _) (Value.ref _)) _ _ _ | with_reducible show wpAny _ _ (exec (PySem.Stmt.Assign [_] (PySem.Expr.ListComp _ _ _ _) _) _) _ _ _ | with_reducible show wpAny _ _ (binaryOp Operator.Add (Value.ref _) (Value.ref _)) _ _ _ | with_reducible show wpAny _ _ (subscriptTail _ (PySem.Expr.Slice _ _ _ _) _ _) _ _ _ | with_reducible show wpAny _ _ (exec (PySem.Stmt.While _ _ _ _) _) _ _ _ | with_reducible show wpAny _ _ (exec (PySem.Stmt.For _ _ _ _ _) _) _ _ _ | with_reducible show wpAny _ _ (pyIter _) _ _ _ | with_reducible show wpAny _ _ (call (Value.type "list") _) _ _ _ | with_reducible show wpAny _ _ (call (Value.builtin "str.join") _) _ _ _ | with_reducible show wpAny _ _ (eval (PySem.Expr.ListComp _ [PySem.Comprehension.mk (PySem.Expr.Tuple _ _ _) _ _ _] _ _) _) _ _ _ | with_reducible show LCg.CompSrc _ _ _ _ _ _ _ _ _ _ _ _ _ _ | with_reducible show wpAny _ _ (execs (PySem.Stmt.If (PySem.Expr.Compare _ [CmpOp.Lt] _ _) [PySem.Stmt.Assign [PySem.Expr.Tuple _ _ _] _ _] _ _ :: _) _) _ _ _))); first | (k_end; wrow_close) | walk1 | (dsimp only; walk1) | (leave1; walk_say "STEP leave1"; try dsimp only) | fail "no step")))
      refine slice_to (s := ⟨_, _, _, _, _⟩) (b := c) (by k_asm) N3 hrows (by rw [sizeLine_eq]; omega) ?_
      intro D4 h4 F4 N4 l4
      refine led_up N4 (fun q hq => List.mem_cons_of_mem _ hq) ?_
      clear N4 l4
      intro n4 hn4 hs4 N4
      have hsl := hn4 _ List.mem_cons_self
      k_sweep
      (repeat' (first | (k_unfold; first | walk_at "Seq" | (try dsimp only)) | ((fail_if_success ((first | with_reducible show wpAny _ _ (eval (PySem.Expr.ListComp _ _ _ _) _) _ _ _ | with_reducible show wpAny _ _ (call (Value.ref _) _) _ _ _ | with_reducible show wpAny _ _ (compareOp CmpOp.IsNot _ _) _ _ _ | with_reducible show wpAny _ _ (compareOp CmpOp.NotEq (Value.ref _) (Value.ref _)) _ _ _ | with_reducible show wpAny _ _ (compareOp CmpOp.Eq (Value.ref _) (Value.ref _)) _ _ _ | with_reducible show wpAny _ _ (exec (PySem.Stmt.Assign [_] (PySem.Expr.ListComp _ _ _ _) _) _) _ _ _ | with_reducible show wpAny _ _ (binaryOp Operator.Add (Value.ref _) (Value.ref _)) _ _ _ | with_reducible show wpAny _ _ (subscriptTail _ (PySem.Expr.Slice _ _ _ _) _ _) _ _ _ | with_reducible show wpAny _ _ (exec (PySem.Stmt.While _ _ _ _) _) _ _ _ | with_reducible show wpAny _ _ (exec (PySem.Stmt.For _ _ _ _ _) _) _ _ _ | with_reducible show wpAny _ _ (pyIter _) _ _ _ | with_reducible show wpAny _ _ (call (Value.type "list") _) _ _ _ | with_reducible show wpAny _ _ (call (Value.builtin "str.join") _) _ _ _ | with_reducible show wpAny _ _ (eval (PySem.Expr.ListComp _ [PySem.Comprehension.mk (PySem.Expr.Tuple _ _ _) _ _ _] _ _) _) _ _ _ | with_reducible show LCg.CompSrc _ _ _ _ _ _ _ _ _ _ _ _ _ _ | with_reducible show wpAny _ _ (execs (PySem.Stmt.If (PySem.Expr.Compare _ [CmpOp.Lt] _ _) [PySem.Stmt.Assign [PySem.Expr.Tuple _ _ _] _ _] _ _ :: _) _) _ _ _))); first | (k_end; wrow_close) | walk1 | (dsimp only; walk1) | (leave1; walk_say "STEP leave1"; try dsimp only) | fail "no step")))
      refine' ClaimM.use ?k1 ?k2 ?k3 N4 ?k5 ?kK (reach_c rfl hsl ((hA.mono fun a b h => h.mono hs4).take c) hr1 (fun r hr => hle r (List.mem_of_mem_take hr)) (Nat.le_trans hlen (by decide))) ?kd ?ku ?_
      case k1 => k_asm
      case k2 => k_asm
      case k3 => k_asm
      case k5 => k_asm
      case kK => rfl
      case kd => exact Nat.le_of_ble_eq_true rfl
      case ku => exact Nat.le_of_ble_eq_true rfl
      intro v5 tl5 h5 tk5 hR1 F5 N5
      obtain ⟨a5, rfl⟩ := hR1.ref
      have hs5 : ∀ q ∈ tl, q ∈ tl5 ++ n4 := fun q hq => List.mem_append_right _ (hs4 q hq)
      generalize tl5 ++ n4 = n5 at *
      clear hs4 hn4 hsl
      k_sweep
      (repeat' (first | (k_unfold; first | walk_at "Seq" | (try dsimp only)) | ((fail_if_success ((first | with_reducible show wpAny _ _ (eval (PySem.Expr.ListComp _ _ _ _) _) _ _ _ | with_reducible show wpAny _ _ (call (Value.ref _) _) _ _ _ | with_reducible show wpAny _ _ (compareOp CmpOp.IsNot _ _) _ _ _ | with_reducible show wpAny _ _ (compareOp CmpOp.NotEq (Value.ref _) (Value.ref _)) _ _ _ | with_reducible show wpAny _ _ (compareOp CmpOp.Eq (Value.ref _) (Value.ref _)) _ _ _ | with_reducible show wpAny _ _ (exec (PySem.Stmt.Assign [_] (PySem.Expr.ListComp _ _ _ _) _) _) _ _ _ | with_reducible show wpAny _ _ (binaryOp Operator.Add (Value.ref _) (Value.ref _)) _ _ _ | with_reducible show wpAny _ _ (subscriptTail _ (PySem.Expr.Slice _ _ _ _) _ _) _ _ _ | with_reducible show wpAny _ _ (exec (PySem.Stmt.While _ _ _ _) _) _ _ _ | with_reducible show wpAny _ _ (exec (PySem.Stmt.For _ _ _ _ _) _) _ _ _ | with_reducible show wpAny _ _ (pyIter _) _ _ _ | with_reducible show wpAny _ _ (call (Value.type "list") _) _ _ _ | with_reducible show wpAny _ _ (call (Value.builtin "str.join") _) _ _ _ | with_reducible show wpAny _ _ (eval (PySem.Expr.ListComp _ [PySem.Comprehension.mk (PySem.Expr.Tuple _ _ _) _ _ _] _ _) _) _ _ _ | with_reducible show LCg.CompSrc _ _ _ _ _ _ _ _ _ _ _ _ _ _ | with_reducible show wpAny _ _ (execs (PySem.Stmt.If (PySem.Expr.Compare _ [CmpOp.Lt] _ _) [PySem.Stmt.Assign [PySem.Expr.Tuple _ _ _] _ _] _ _ :: _) _) _ _ _))); first | (k_end; wrow_close) | walk1 | (dsimp only; walk1) | (leave1; walk_say "STEP leave1"; try dsimp only) | fail "no step")))
      refine slice_from (s := ⟨_, _, _, _, _⟩) (b := c) (by k_asm) N5 (hs5 _ hrows) (by rw [sizeLine_eq]; omega) ?_
      intro D6 h6 F6 N6 l6
      refine led_up N6 (fun q hq => List.mem_cons_of_mem _ hq) ?_
      clear N6 l6
      intro n6 hn6 hs6 N6
      have hsl := hn6 _ List.mem_cons_self
      k_sweep
      (repeat' (first | (k_unfold; first | walk_at "Seq" | (try dsimp only)) | ((fail_if_success ((first | with_reducible show wpAny _ _ (eval (PySem.Expr.ListComp _ _ _ _) _) _ _ _ | with_reducible show wpAny _ _ (call (Value.ref _) _) _ _ _ | with_reducible show wpAny _ _ (compareOp CmpOp.IsNot _ _) _ _ _ | with_reducible show wpAny _ _ (compareOp CmpOp.NotEq (Value.ref _) (Value.ref _)) _ _ _ | with_reducible show wpAny _ _ (compareOp CmpOp.Eq (Value.ref _) (Value.ref _)) _ _ _ | with_reducible show wpAny _ _ (exec (PySem.Stmt.Assign [_] (PySem.Expr.ListComp _ _ _ _) _) _) _ _ _ | with_reducible show wpAny _ _ (binaryOp Operator.Add (Value.ref _) (Value.ref _)) _ _ _ | with_reducible show wpAny _ _ (subscriptTail _ (PySem.Expr.Slice _ _ _ _) _ _) _ _ _ | with_reducible show wpAny _ _ (exec (PySem.Stmt.While _ _ _ _) _) _ _ _ | with_reducible show wpAny _ _ (exec (PySem.Stmt.For _ _ _ _ _) _) _ _ _ | with_reducible show wpAny _ _ (pyIter _) _ _ _ | with_reducible show wpAny _ _ (call (Value.type "list") _) _ _ _ | with_reducible show wpAny _ _ (call (Value.builtin "str.join") _) _ _ _ | with_reducible show wpAny _ _ (eval (PySem.Expr.ListComp _ [PySem.Comprehension.mk (PySem.Expr.Tuple _ _ _) _ _ _] _ _) _) _ _ _ | with_reducible show LCg.CompSrc _ _ _ _ _ _ _ _ _ _ _ _ _ _ | with_reducible show wpAny _ _ (execs (PySem.Stmt.If (PySem.Expr.Compare _ [CmpOp.Lt] _ _) [PySem.Stmt.Assign [PySem.Expr.Tuple _ _ _] _ _] _ _ :: _) _) _ _ _))); first | (k_end; wrow_close) | walk1 | (dsimp only; walk1) | (leave1; walk_say "STEP leave1"; try dsimp only) | fail "no step")))
      refine' ClaimM.use ?k1 ?k2 ?k3 N6 ?k5 ?kK (reach_c rfl hsl ((hA.mono fun a b h => h.mono fun q hq => hs6 q (hs5 q hq)).drop c) hr2 (fun r hr => hle r (List.mem_of_mem_drop hr)) (Nat.le_trans hlen (by decide))) ?kd ?ku ?_
      case k1 => k_asm
      case k2 => k_asm
      case k3 => k_asm
      case k5 => k_asm
      case kK => rfl
      case kd => exact Nat.le_of_ble_eq_true rfl
      case ku => exact Nat.le_of_ble_eq_true rfl
      intro v7 tl7 h7 tk7 hR2 F7 N7
      obtain ⟨a7, rfl⟩ := hR2.ref
      have hs7 : ∀ q ∈ tl, q ∈ tl7 ++ n6 := fun q hq => List.mem_append_right _ (hs6 q (hs5 q hq))
      have hR1 := hR1.mono fun q hq => List.mem_append_right tl7 (hs6 q hq)
      generalize tl7 ++ n6 = n7 at *
      clear hs5 hs6 hn6 hsl
      have gB1 := hB1.mono hs7
      have gB2 := hB2.mono hs7
      obtain ⟨_, d1, l11, l12, t11, t12, t13, t14, vs1, k11, k12, e1, m11, m12, m13, m14, _⟩ := id gB1
      cases e1
      obtain ⟨_, d2, l21, l22, t21, t22, t23, t24, vs2, k21, k22, e2, m21, m22, m23, m24, _⟩ := id gB2
      cases e2
      k_sweep
      (repeat' (first | (k_unfold; first | walk_at "Seq" | (try dsimp only)) | ((fail_if_success ((first | with_reducible show wpAny _ _ (eval (PySem.Expr.ListComp _ _ _ _) _) _ _ _ | with_reducible show wpAny _ _ (call (Value.ref _) _) _ _ _ | with_reducible show wpAny _ _ (compareOp CmpOp.IsNot _ _) _ _ _ | with_reducible show wpAny _ _ (compareOp CmpOp.NotEq (Value.ref _) (Value.ref _)) _ _ _ | with_reducible show wpAny _ _ (compareOp CmpOp.Eq (Value.ref _) (Value.ref _)) _ _ _ | with_reducible show wpAny _ _ (exec (PySem.Stmt.Assign [_] (PySem.Expr.ListComp _ _ _ _) _) _) _ _ _ | with_reducible show wpAny _ _ (binaryOp Operator.Add (Value.ref _) (Value.ref _)) _ _ _ | with_reducible show wpAny _ _ (subscriptTail _ (PySem.Expr.Slice _ _ _ _) _ _) _ _ _ | with_reducible show wpAny _ _ (exec (PySem.Stmt.While _ _ _ _) _) _ _ _ | with_reducible show wpAny _ _ (exec (PySem.Stmt.For _ _ _ _ _) _) _ _ _ | with_reducible show wpAny _ _ (pyIter _) _ _ _ | with_reducible show wpAny _ _ (call (Value.type "list") _) _ _ _ | with_reducible show wpAny _ _ (call (Value.builtin "str.join") _) _ _ _ | with_reducible show wpAny _ _ (eval (PySem.Expr.ListComp _ [PySem.Comprehension.mk (PySem.Expr.Tuple _ _ _) _ _ _] _ _) _) _ _ _ | with_reducible show LCg.CompSrc _ _ _ _ _ _ _ _ _ _ _ _ _ _ | with_reducible show wpAny _ _ (execs (PySem.Stmt.If (PySem.Expr.Compare _ [CmpOp.Lt] _ _) [PySem.Stmt.Assign [PySem.Expr.Tuple _ _ _] _ _] _ _ :: _) _) _ _ _))); first | (k_end; wrow_close) | walk1 | (dsimp only; walk1) | (leave1; walk_say "STEP leave1"; try dsimp only) | fail "no step")))
      refine led_up (show News _ _ _ ((_, _) :: n7) by k_asm) (fun q hq => List.mem_cons_of_mem _ hq) ?_
      intro n8 _ hs8 N8
      have m21 := hs8 _ m21
      have m22 := hs8 _ m22
      have hg1 : ∀ r ∈ rs.take c, GoodRow r := fun r hr => hgood r (List.mem_of_mem_take hr)
      have hg2 : ∀ r ∈ rs.drop c, GoodRow r := fun r hr => hgood r (List.mem_of_mem_drop hr)
      have pl1 := plain_law hJ hg1
      have pl2 := plain_law hJ hg2
      refine' Claim.use ?k1 ?k2 ?k3 N8 ?k5 ?kK (allow_c (gB1.mono hs8) (Nat.le_trans hlen (by decide))) ?kd ?ku ?_
      case k1 => k_asm
      case k2 => k_asm
      case k3 => k_asm
      case k5 => k_asm
      case kK => rfl
      case kd => exact Nat.le_of_ble_eq_true rfl
      case ku => exact Nat.le_of_ble_eq_true rfl
      intro _ h9 tk9 F9 N9
      rw [pl1]
      clear N8
      k_sweep
      (repeat' (first | (k_unfold; first | walk_at "Seq" | (try dsimp only)) | ((fail_if_success ((first | with_reducible show wpAny _ _ (eval (PySem.Expr.ListComp _ _ _ _) _) _ _ _ | with_reducible show wpAny _ _ (call (Value.ref _) _) _ _ _ | with_reducible show wpAny _ _ (compareOp CmpOp.IsNot _ _) _ _ _ | with_reducible show wpAny _ _ (compareOp CmpOp.NotEq (Value.ref _) (Value.ref _)) _ _ _ | with_reducible show wpAny _ _ (compareOp CmpOp.Eq (Value.ref _) (Value.ref _)) _ _ _ | with_reducible show wpAny _ _ (exec (PySem.Stmt.Assign [_] (PySem.Expr.ListComp _ _ _ _) _) _) _ _ _ | with_reducible show wpAny _ _ (binaryOp Operator.Add (Value.ref _) (Value.ref _)) _ _ _ | with_reducible show wpAny _ _ (subscriptTail _ (PySem.Expr.Slice _ _ _ _) _ _) _ _ _ | with_reducible show wpAny _ _ (exec (PySem.Stmt.While _ _ _ _) _) _ _ _ | with_reducible show wpAny _ _ (exec (PySem.Stmt.For _ _ _ _ _) _) _ _ _ | with_reducible show wpAny _ _ (pyIter _) _ _ _ | with_reducible show wpAny _ _ (call (Value.type "list") _) _ _ _ | with_reducible show wpAny _ _ (call (Value.builtin "str.join") _) _ _ _ | with_reducible show wpAny _ _ (eval (PySem.Expr.ListComp _ [PySem.Comprehension.mk (PySem.Expr.Tuple _ _ _) _ _ _] _ _) _) _ _ _ | with_reducible show LCg.CompSrc _ _ _ _ _ _ _ _ _ _ _ _ _ _ | with_reducible show wpAny _ _ (execs (PySem.Stmt.If (PySem.Expr.Compare _ [CmpOp.Lt] _ _) [PySem.Stmt.Assign [PySem.Expr.Tuple _ _ _] _ _] _ _ :: _) _) _ _ _))); first | (k_end; wrow_close) | walk1 | (dsimp only; walk1) | (leave1; walk_say "STEP leave1"; try dsimp only) | fail "no step")))
      refine' Claim.use ?k1 ?k2 ?k3 (show News _ _ _ n8 by k_asm) ?k5 ?kK (verdict_c (hR1.mono fun q hq => hs8 q hq) (Nat.le_trans (reach_len _ _) hr1)) ?kd ?ku ?_
      case k1 => k_asm
      case k2 => k_asm
      case k3 => k_asm
      case k5 => k_asm
      case kK => rfl
      case kd => exact Nat.le_of_ble_eq_true rfl
      case ku => exact Nat.le_of_ble_eq_true rfl
      intro _ h10 tk10 F10 N10
      k_sweep
      dsimp only
      refine isnot_same ?_
      (repeat' (first | (k_unfold; first | walk_at "Seq" | (try dsimp only)) | ((fail_if_success ((first | with_reducible show wpAny _ _ (eval (PySem.Expr.ListComp _ _ _ _) _) _ _ _ | with_reducible show wpAny _ _ (call (Value.ref _) _) _ _ _ | with_reducible show wpAny _ _ (compareOp CmpOp.IsNot _ _) _ _ _ | with_reducible show wpAny _ _ (compareOp CmpOp.NotEq (Value.ref _) (Value.ref _)) _ _ _ | with_reducible show wpAny _ _ (compareOp CmpOp.Eq (Value.ref _) (Value.ref _)) _ _ _ | with_reducible show wpAny _ _ (exec (PySem.Stmt.Assign [_] (PySem.Expr.ListComp _ _ _ _) _) _) _ _ _ | with_reducible show wpAny _ _ (binaryOp Operator.Add (Value.ref _) (Value.ref _)) _ _ _ | with_reducible show wpAny _ _ (subscriptTail _ (PySem.Expr.Slice _ _ _ _) _ _) _ _ _ | with_reducible show wpAny _ _ (exec (PySem.Stmt.While _ _ _ _) _) _ _ _ | with_reducible show wpAny _ _ (exec (PySem.Stmt.For _ _ _ _ _) _) _ _ _ | with_reducible show wpAny _ _ (pyIter _) _ _ _ | with_reducible show wpAny _ _ (call (Value.type "list") _) _ _ _ | with_reducible show wpAny _ _ (call (Value.builtin "str.join") _) _ _ _ | with_reducible show wpAny _ _ (eval (PySem.Expr.ListComp _ [PySem.Comprehension.mk (PySem.Expr.Tuple _ _ _) _ _ _] _ _) _) _ _ _ | with_reducible show LCg.CompSrc _ _ _ _ _ _ _ _ _ _ _ _ _ _ | with_reducible show wpAny _ _ (execs (PySem.Stmt.If (PySem.Expr.Compare _ [CmpOp.Lt] _ _) [PySem.Stmt.Assign [PySem.Expr.Tuple _ _ _] _ _] _ _ :: _) _) _ _ _))); first | (k_end; wrow_close) | walk1 | (dsimp only; walk1) | (leave1; walk_say "STEP leave1"; try dsimp only) | fail "no step")))
      refine' Claim.use ?k1 ?k2 ?k3 (show News _ _ _ n8 by k_asm) ?k5 ?kK (allow_c (gB2.mono hs8) (Nat.le_trans hlen (by decide))) ?kd ?ku ?_
      case k1 => k_asm
      case k2 => k_asm
      case k3 => k_asm
      case k5 => k_asm
      case kK => rfl
      case kd => exact Nat.le_of_ble_eq_true rfl
      case ku => exact Nat.le_of_ble_eq_true rfl
      intro _ h11 tk11 F11 N11
      rw [pl2]
      k_sweep
      (repeat' (first | (k_unfold; first | walk_at "Seq" | (try dsimp only)) | ((fail_if_success ((first | with_reducible show wpAny _ _ (eval (PySem.Expr.ListComp _ _ _ _) _) _ _ _ | with_reducible show wpAny _ _ (call (Value.ref _) _) _ _ _ | with_reducible show wpAny _ _ (compareOp CmpOp.IsNot _ _) _ _ _ | with_reducible show wpAny _ _ (compareOp CmpOp.NotEq (Value.ref _) (Value.ref _)) _ _ _ | with_reducible show wpAny _ _ (compareOp CmpOp.Eq (Value.ref _) (Value.ref _)) _ _ _ | with_reducible show wpAny _ _ (exec (PySem.Stmt.Assign [_] (PySem.Expr.ListComp _ _ _ _) _) _) _ _ _ | with_reducible show wpAny _ _ (binaryOp Operator.Add (Value.ref _) (Value.ref _)) _ _ _ | with_reducible show wpAny _ _ (subscriptTail _ (PySem.Expr.Slice _ _ _ _) _ _) _ _ _ | with_reducible show wpAny _ _ (exec (PySem.Stmt.While _ _ _ _) _) _ _ _ | with_reducible show wpAny _ _ (exec (PySem.Stmt.For _ _ _ _ _) _) _ _ _ | with_reducible show wpAny _ _ (pyIter _) _ _ _ | with_reducible show wpAny _ _ (call (Value.type "list") _) _ _ _ | with_reducible show wpAny _ _ (call (Value.builtin "str.join") _) _ _ _ | with_reducible show wpAny _ _ (eval (PySem.Expr.ListComp _ [PySem.Comprehension.mk (PySem.Expr.Tuple _ _ _) _ _ _] _ _) _) _ _ _ | with_reducible show LCg.CompSrc _ _ _ _ _ _ _ _ _ _ _ _ _ _ | with_reducible show wpAny _ _ (execs (PySem.Stmt.If (PySem.Expr.Compare _ [CmpOp.Lt] _ _) [PySem.Stmt.Assign [PySem.Expr.Tuple _ _ _] _ _] _ _ :: _) _) _ _ _))); first | (k_end; wrow_close) | walk1 | (dsimp only; walk1) | (leave1; walk_say "STEP leave1"; try dsimp only) | fail "no step")))
      refine' Claim.use ?k1 ?k2 ?k3 (show News _ _ _ n8 by k_asm) ?k5 ?kK (verdict_c (hR2.mono fun q hq => hs8 q hq) (Nat.le_trans (reach_len _ _) hr2)) ?kd ?ku ?_
      case k1 => k_asm
      case k2 => k_asm
      case k3 => k_asm
      case k5 => k_asm
      case kK => rfl
      case kd => exact Nat.le_of_ble_eq_true rfl
      case ku => exact Nat.le_of_ble_eq_true rfl
      intro _ h12 tk12 F12 N12
      k_sweep
      dsimp only
      refine isnot_same ?_
      (repeat' (first | (k_unfold; first | walk_at "Seq" | (try dsimp only)) | ((fail_if_success ((first | with_reducible show wpAny _ _ (eval (PySem.Expr.ListComp _ _ _ _) _) _ _ _ | with_reducible show wpAny _ _ (call (Value.ref _) _) _ _ _ | with_reducible show wpAny _ _ (compareOp CmpOp.IsNot _ _) _ _ _ | with_reducible show wpAny _ _ (compareOp CmpOp.NotEq (Value.ref _) (Value.ref _)) _ _ _ | with_reducible show wpAny _ _ (compareOp CmpOp.Eq (Value.ref _) (Value.ref _)) _ _ _ | with_reducible show wpAny _ _ (exec (PySem.Stmt.Assign [_] (PySem.Expr.ListComp _ _ _ _) _) _) _ _ _ | with_reducible show wpAny _ _ (binaryOp Operator.Add (Value.ref _) (Value.ref _)) _ _ _ | with_reducible show wpAny _ _ (subscriptTail _ (PySem.Expr.Slice _ _ _ _) _ _) _ _ _ | with_reducible show wpAny _ _ (exec (PySem.Stmt.While _ _ _ _) _) _ _ _ | with_reducible show wpAny _ _ (exec (PySem.Stmt.For _ _ _ _ _) _) _ _ _ | with_reducible show wpAny _ _ (pyIter _) _ _ _ | with_reducible show wpAny _ _ (call (Value.type "list") _) _ _ _ | with_reducible show wpAny _ _ (call (Value.builtin "str.join") _) _ _ _ | with_reducible show wpAny _ _ (eval (PySem.Expr.ListComp _ [PySem.Comprehension.mk (PySem.Expr.Tuple _ _ _) _ _ _] _ _) _) _ _ _ | with_reducible show LCg.CompSrc _ _ _ _ _ _ _ _ _ _ _ _ _ _ | with_reducible show wpAny _ _ (execs (PySem.Stmt.If (PySem.Expr.Compare _ [CmpOp.Lt] _ _) [PySem.Stmt.Assign [PySem.Expr.Tuple _ _ _] _ _] _ _ :: _) _) _ _ _))); first | (k_end; wrow_close) | walk1 | (dsimp only; walk1) | (leave1; walk_say "STEP leave1"; try dsimp only) | fail "no step")))
      obtain ⟨bk, rk, hik, hBk, hgk, hvk, hlk⟩ : ∃ (bk : Addr) (rk : List Row), #[Value.ref b3, Value.ref b4][(i : Int).toNat]? = some (.ref bk) ∧ BookIn w p loose mean mg mb n8 (.ref bk) rk ∧ (∀ r ∈ rk, GoodRow r) ∧
          verdictF (reachF nmi rk) = verdictF (reachF nmi (rs.take c) ++ reachF nmi (rs.drop c)) ∧ rk.length ≤ 64 := by
        have e : i = 0 ∨ i = 1 := by omega
        rcases e with rfl | rfl
        · exact ⟨b3, _, rfl, hB3.mono fun q hq => hs8 q (hs7 q hq), fun r hr => (List.mem_append.mp hr).elim (hg1 r) (hg2 r), by rw [reach_app], by rw [List.length_append, List.length_take, List.length_drop]; omega⟩
        · exact ⟨b4, _, rfl, hB4.mono fun q hq => hs8 q (hs7 q hq), fun r hr => (List.mem_append.mp hr).elim (hg2 r) (hg1 r), by rw [reach_app, verdict_comm], by rw [List.length_append, List.length_take, List.length_drop]; omega⟩
      refine item_led N12 (hs8 _ (hs7 _ hlb)) (by omega) (by omega) hik ?_
      obtain ⟨_, d3, l31, l32, t31, t32, t33, t34, vs3, k31, k32, e3, m31, m32, m33, m34, _⟩ := id hBk
      cases e3
      k_sweep
      (repeat' (first | (k_unfold; first | walk_at "Seq" | (try dsimp only)) | ((fail_if_success ((first | with_reducible show wpAny _ _ (eval (PySem.Expr.ListComp _ _ _ _) _) _ _ _ | with_reducible show wpAny _ _ (call (Value.ref _) _) _ _ _ | with_reducible show wpAny _ _ (compareOp CmpOp.IsNot _ _) _ _ _ | with_reducible show wpAny _ _ (compareOp CmpOp.NotEq (Value.ref _) (Value.ref _)) _ _ _ | with_reducible show wpAny _ _ (compareOp CmpOp.Eq (Value.ref _) (Value.ref _)) _ _ _ | with_reducible show wpAny _ _ (exec (PySem.Stmt.Assign [_] (PySem.Expr.ListComp _ _ _ _) _) _) _ _ _ | with_reducible show wpAny _ _ (binaryOp Operator.Add (Value.ref _) (Value.ref _)) _ _ _ | with_reducible show wpAny _ _ (subscriptTail _ (PySem.Expr.Slice _ _ _ _) _ _) _ _ _ | with_reducible show wpAny _ _ (exec (PySem.Stmt.While _ _ _ _) _) _ _ _ | with_reducible show wpAny _ _ (exec (PySem.Stmt.For _ _ _ _ _) _) _ _ _ | with_reducible show wpAny _ _ (pyIter _) _ _ _ | with_reducible show wpAny _ _ (call (Value.type "list") _) _ _ _ | with_reducible show wpAny _ _ (call (Value.builtin "str.join") _) _ _ _ | with_reducible show wpAny _ _ (eval (PySem.Expr.ListComp _ [PySem.Comprehension.mk (PySem.Expr.Tuple _ _ _) _ _ _] _ _) _) _ _ _ | with_reducible show LCg.CompSrc _ _ _ _ _ _ _ _ _ _ _ _ _ _ | with_reducible show wpAny _ _ (execs (PySem.Stmt.If (PySem.Expr.Compare _ [CmpOp.Lt] _ _) [PySem.Stmt.Assign [PySem.Expr.Tuple _ _ _] _ _] _ _ :: _) _) _ _ _))); first | (k_end; wrow_close) | walk1 | (dsimp only; walk1) | (leave1; walk_say "STEP leave1"; try dsimp only) | fail "no step")))
      refine' Claim.use ?k1 ?k2 ?k3 (show News _ _ _ n8 by k_asm) ?k5 ?kK (allow_c hBk (Nat.le_trans hlen (by decide))) ?kd ?ku ?_
      case k1 => k_asm
      case k2 => k_asm
      case k3 => k_asm
      case k5 => k_asm
      case kK => rfl
      case kd => exact Nat.le_of_ble_eq_true rfl
      case ku => exact Nat.le_of_ble_eq_true rfl
      intro _ h13 tk13 F13 N13
      rw [plain_law hJ hgk, hvk]
      k_sweep
      (repeat' (first | (k_unfold; first | walk_at "Seq" | (try dsimp only)) | ((fail_if_success ((first | with_reducible show wpAny _ _ (eval (PySem.Expr.ListComp _ _ _ _) _) _ _ _ | with_reducible show wpAny _ _ (call (Value.ref _) _) _ _ _ | with_reducible show wpAny _ _ (compareOp CmpOp.IsNot _ _) _ _ _ | with_reducible show wpAny _ _ (compareOp CmpOp.NotEq (Value.ref _) (Value.ref _)) _ _ _ | with_reducible show wpAny _ _ (compareOp CmpOp.Eq (Value.ref _) (Value.ref _)) _ _ _ | with_reducible show wpAny _ _ (exec (PySem.Stmt.Assign [_] (PySem.Expr.ListComp _ _ _ _) _) _) _ _ _ | with_reducible show wpAny _ _ (binaryOp Operator.Add (Value.ref _) (Value.ref _)) _ _ _ | with_reducible show wpAny _ _ (subscriptTail _ (PySem.Expr.Slice _ _ _ _) _ _) _ _ _ | with_reducible show wpAny _ _ (exec (PySem.Stmt.While _ _ _ _) _) _ _ _ | with_reducible show wpAny _ _ (exec (PySem.Stmt.For _ _ _ _ _) _) _ _ _ | with_reducible show wpAny _ _ (pyIter _) _ _ _ | with_reducible show wpAny _ _ (call (Value.type "list") _) _ _ _ | with_reducible show wpAny _ _ (call (Value.builtin "str.join") _) _ _ _ | with_reducible show wpAny _ _ (eval (PySem.Expr.ListComp _ [PySem.Comprehension.mk (PySem.Expr.Tuple _ _ _) _ _ _] _ _) _) _ _ _ | with_reducible show LCg.CompSrc _ _ _ _ _ _ _ _ _ _ _ _ _ _ | with_reducible show wpAny _ _ (execs (PySem.Stmt.If (PySem.Expr.Compare _ [CmpOp.Lt] _ _) [PySem.Stmt.Assign [PySem.Expr.Tuple _ _ _] _ _] _ _ :: _) _) _ _ _))); first | (k_end; wrow_close) | walk1 | (dsimp only; walk1) | (leave1; walk_say "STEP leave1"; try dsimp only) | fail "no step")))
      obtain ⟨_, vq1, eq1, ee1, mq1, hAq1⟩ := hR1
      cases ee1
      obtain ⟨_, vq2, eq2, ee2, mq2, hAq2⟩ := hR2
      cases ee2
      refine kmk_add_lit (its := vq1.toArray) (its2 := vq2.toArray) (zs := vq1 ++ vq2) (by k_asm) N13 (isl N13 (hs8 _ mq1)) (isl N13 (hs8 _ mq2)) rfl ?_ (by
        have y1 := hAq1.length
        have y2 := hAq2.length
        have y3 := reach_len nmi (rs.take c)
        have y4 := reach_len nmi (rs.drop c)
        rw [sizeLine_eq]
        show vq1.length + vq2.length ≤ _
        omega)
      intro D14 h14 F14 N14 l14
      refine led_up N14 (fun q hq => List.mem_cons_of_mem _ hq) ?_
      clear N14 l14
      intro n9 hn9 hs9 N14
      have hD14 := hn9 _ List.mem_cons_self
      k_sweep
      (repeat' (first | (k_unfold; first | walk_at "Seq" | (try dsimp only)) | ((fail_if_success ((first | with_reducible show wpAny _ _ (eval (PySem.Expr.ListComp _ _ _ _) _) _ _ _ | with_reducible show wpAny _ _ (call (Value.ref _) _) _ _ _ | with_reducible show wpAny _ _ (compareOp CmpOp.IsNot _ _) _ _ _ | with_reducible show wpAny _ _ (compareOp CmpOp.NotEq (Value.ref _) (Value.ref _)) _ _ _ | with_reducible show wpAny _ _ (compareOp CmpOp.Eq (Value.ref _) (Value.ref _)) _ _ _ | with_reducible show wpAny _ _ (exec (PySem.Stmt.Assign [_] (PySem.Expr.ListComp _ _ _ _) _) _) _ _ _ | with_reducible show wpAny _ _ (binaryOp Operator.Add (Value.ref _) (Value.ref _)) _ _ _ | with_reducible show wpAny _ _ (subscriptTail _ (PySem.Expr.Slice _ _ _ _) _ _) _ _ _ | with_reducible show wpAny _ _ (exec (PySem.Stmt.While _ _ _ _) _) _ _ _ | with_reducible show wpAny _ _ (exec (PySem.Stmt.For _ _ _ _ _) _) _ _ _ | with_reducible show wpAny _ _ (pyIter _) _ _ _ | with_reducible show wpAny _ _ (call (Value.type "list") _) _ _ _ | with_reducible show wpAny _ _ (call (Value.builtin "str.join") _) _ _ _ | with_reducible show wpAny _ _ (eval (PySem.Expr.ListComp _ [PySem.Comprehension.mk (PySem.Expr.Tuple _ _ _) _ _ _] _ _) _) _ _ _ | with_reducible show LCg.CompSrc _ _ _ _ _ _ _ _ _ _ _ _ _ _ | with_reducible show wpAny _ _ (execs (PySem.Stmt.If (PySem.Expr.Compare _ [CmpOp.Lt] _ _) [PySem.Stmt.Assign [PySem.Expr.Tuple _ _ _] _ _] _ _ :: _) _) _ _ _))); first | (k_end; wrow_close) | walk1 | (dsimp only; walk1) | (leave1; walk_say "STEP leave1"; try dsimp only) | fail "no step")))
      refine' Claim.use ?k1 ?k2 ?k3 (show News _ _ _ n9 by k_asm) ?k5 ?kK (verdict_c (qs := reachF nmi (rs.take c) ++ reachF nmi (rs.drop c)) ⟨D14, vq1 ++ vq2, 0, rfl, hD14, (hAq1.append hAq2).mono fun a b h => h.mono fun q hq => hs9 q (hs8 q hq)⟩ ?hqn) ?kd ?ku ?_
      case hqn =>
        have y3 := reach_len nmi (rs.take c)
        have y4 := reach_len nmi (rs.drop c)
        have y5 : (rs.take c).length ≤ 4 := by rw [List.length_take]; omega
        have y6 : (rs.drop c).length ≤ 4 := by rw [List.length_drop]; omega
        rw [List.length_append]
        omega
      case k1 => k_asm
      case k2 => k_asm
      case k3 => k_asm
      case k5 => k_asm
      case kK => rfl
      case kd => exact Nat.le_of_ble_eq_true rfl
      case ku => exact Nat.le_of_ble_eq_true rfl
      intro _ h15 tk15 F15 N15
      k_sweep
      dsimp only
      refine isnot_same ?_
      have hsz : (Str.mk nmi.toArray).length ≤ 4096 := Nat.le_trans (show nmi.toArray.size ≤ 3 by simpa using hlen) (by decide)
      (repeat' (first | (k_unfold; first | walk_at "Seq" | (try dsimp only)) | ((fail_if_success ((first | with_reducible show wpAny _ _ (eval (PySem.Expr.ListComp _ _ _ _) _) _ _ _ | with_reducible show wpAny _ _ (call (Value.ref _) _) _ _ _ | with_reducible show wpAny _ _ (compareOp CmpOp.IsNot _ _) _ _ _ | with_reducible show wpAny _ _ (compareOp CmpOp.NotEq (Value.ref _) (Value.ref _)) _ _ _ | with_reducible show wpAny _ _ (compareOp CmpOp.Eq (Value.ref _) (Value.ref _)) _ _ _ | with_reducible show wpAny _ _ (exec (PySem.Stmt.Assign [_] (PySem.Expr.ListComp _ _ _ _) _) _) _ _ _ | with_reducible show wpAny _ _ (binaryOp Operator.Add (Value.ref _) (Value.ref _)) _ _ _ | with_reducible show wpAny _ _ (subscriptTail _ (PySem.Expr.Slice _ _ _ _) _ _) _ _ _ | with_reducible show wpAny _ _ (exec (PySem.Stmt.While _ _ _ _) _) _ _ _ | with_reducible show wpAny _ _ (exec (PySem.Stmt.For _ _ _ _ _) _) _ _ _ | with_reducible show wpAny _ _ (pyIter _) _ _ _ | with_reducible show wpAny _ _ (call (Value.type "list") _) _ _ _ | with_reducible show wpAny _ _ (call (Value.builtin "str.join") _) _ _ _ | with_reducible show wpAny _ _ (eval (PySem.Expr.ListComp _ [PySem.Comprehension.mk (PySem.Expr.Tuple _ _ _) _ _ _] _ _) _) _ _ _ | with_reducible show LCg.CompSrc _ _ _ _ _ _ _ _ _ _ _ _ _ _ | with_reducible show wpAny _ _ (execs (PySem.Stmt.If (PySem.Expr.Compare _ [CmpOp.Lt] _ _) [PySem.Stmt.Assign [PySem.Expr.Tuple _ _ _] _ _] _ _ :: _) _) _ _ _))); first | (k_end; wrow_close) | walk1 | (dsimp only; walk1) | (leave1; walk_say "STEP leave1"; try dsimp only) | fail "no step")))
      have hsw := good_swap hJ
      exact WEnd.intro (_, nmi.map swapN) (by k_asm) (show News _ _ _ n9 by k_asm) (fun q hq => hs9 q (hs8 q (hs7 q hq))) (by
        refine ps_cons rfl (ps_cons rfl (ps_cons rfl (ps_cons rfl (ps_cons rfl (ps_str hsw.1 rfl ps_nil)))))) hsw.2 (by decide)
end
end
end Mine
theorem PySem.Challenge.cw_nb0157_01_holds : PySem.Challenge.rw_nb0157_01.Holds := by
  exact Mine.lawOf.2 Mine.law_walk
