import PyProof.Rows.All
import Wide.All
import OpenK.AllK
import Wide.FinOn
import PySem.Challenge.RW_un0008_01
open PySem PySem.W PyProof.Rows
set_option Elab.async false
namespace Mine
set_option maxRecDepth 100000 in
set_option maxHeartbeats 8000000 in
open_top hd for PySem.Challenge.rw_un0008_01

section
/-- trees of trees: no branch, or a first branch and the rest -/
inductive Tr where
  | nil
  | cons (b r : Tr)
def Tr.worth : Tr → Nat
  | .nil => 0
  | .cons b r => (2 * r.worth + 1) * 2 ^ b.worth

abbrev tupObj (vs : List Value) : Obj := { cls := .type "tuple", data := .seq vs.toArray 0 }

/-- the ledger bears the branches vs of the tree t -/
def Items (news : List (Addr × Obj)) : Tr → List Value → Prop
  | .nil, vs => vs = []
  | .cons b r, vs => ∃ a ws vs', vs = .ref a :: vs' ∧ (a, tupObj ws) ∈ news ∧ Items news b ws ∧ Items news r vs'
def TreeIn (news : List (Addr × Obj)) (v : Value) (t : Tr) : Prop := ∃ a ws, v = .ref a ∧ (a, tupObj ws) ∈ news ∧ Items news t ws

theorem Items.mono {n n' : List (Addr × Obj)} (hs : ∀ q ∈ n, q ∈ n') : ∀ {t : Tr} {vs : List Value}, Items n t vs → Items n' t vs
  | .nil, _, h => h
  | .cons _ _, _, ⟨a, ws, vs', e, m, hb, hr⟩ => ⟨a, ws, vs', e, hs _ m, hb.mono hs, hr.mono hs⟩
theorem TreeIn.mono {n n' : List (Addr × Obj)} (hs : ∀ q ∈ n, q ∈ n') {t : Tr} {v : Value} : TreeIn n v t → TreeIn n' v t
  | ⟨a, ws, e, m, h⟩ => ⟨a, ws, e, hs _ m, h.mono hs⟩

/-- a contract of the def at f -/
def Con (prog : Program) (w : World) (p : Program) (loose : List Str) (mean : ExcName → Option Value) (mg mb : Str → Option Value) (f : Addr) (D U : Nat)
    (Pre : List (Addr × Obj) → List Value → Prop) (Post : List (Addr × Obj) → Value → Prop) : Prop :=
  ∀ (dp un : Nat) (gd : Option (List Code)) (cn : Str) (cs : Scope) (a : Addr) (ccd : Value) (cl : List (Str × Addr)) (outer : List Env) (A₀ : Around) (base h₀ : Heap) (L : Addr) (m : Str → Option Value) (news : List (Addr × Obj)) (s : Shared) (vs : List Value)
    (Q E : Value → Shared → Prop),
    Below A₀ base outer h₀ → Fr h₀ L s.heap m → (Mine.hd.heap_39 w.params).In h₀ → News h₀ L s.heap news → Top p loose mean mg mb h₀ → cs.kind = .function → Pre news vs → dp + D < recursionLimit → un + U < cLine →
    (∀ r nx h' tk', Fr h₀ L h' m → News h₀ L h' nx → (∀ q ∈ news, q ∈ nx) → Post nx r → Q r { s with heap := h', toks := tk' }) →
    wpAny (model prog w) (ktrTop dp un gd cn cs L a ccd cl outer) (call (.ref f) vs) Q E s

theorem con_use {prog : Program} {w : World} {p : Program} {loose : List Str} {mean : ExcName → Option Value} {mg mb : Str → Option Value} {f : Addr} {D U : Nat}
    {Pre : List (Addr × Obj) → List Value → Prop} {Post : List (Addr × Obj) → Value → Prop} (C : Con prog w p loose mean mg mb f D U Pre Post)
    {dp un : Nat} {gd : Option (List Code)} {cn : Str} {cs : Scope} {a : Addr} {ccd : Value} {cl : List (Str × Addr)} {outer : List Env} {A₀ : Around} {base h₀ : Heap} {L : Addr} {m : Str → Option Value} {news : List (Addr × Obj)} {s : Shared} {vs : List Value}
    {Q E : Value → Shared → Prop} (B : Below A₀ base outer h₀) (F : Fr h₀ L s.heap m) (X : (Mine.hd.heap_39 w.params).In h₀) (N : News h₀ L s.heap news) (T : Top p loose mean mg mb h₀) (hk : cs.kind = .function) (hp : Pre news vs)
    (hd : dp + D < recursionLimit) (hu : un + U < cLine)
    (ret : ∀ r nx h' tk', Fr h₀ L h' m → News h₀ L h' nx → (∀ q ∈ news, q ∈ nx) → Post nx r → Q r { s with heap := h', toks := tk' }) :
    wpAny (model prog w) (ktrTop dp un gd cn cs L a ccd cl outer) (call (.ref f) vs) Q E s := C _ _ _ _ _ _ _ _ _ _ _ _ _ _ _ _ _ _ _ B F X N T hk hp hd hu ret

section
variable {prog : Program} {w : World} {A : Around} {E : Value → Shared → Prop} {Q : Flow → Shared → Prop} {s : Shared} {env : Env} {h₀ : Heap} {L : Addr}

theorem is_small {M : Model} {A : Around} {f : Addr} {vs : List Value} {Q E : Value → Shared → Prop} {s : Shared} (H : wpAny M A (call (.ref f) vs) Q E s) (_ : (Nat.ble 70 f && Nat.ble f 105) = true) : wpAny M A (call (.ref f) vs) Q E s := H
theorem room1 {a b c d : Nat} (h : a + b < c) (k : Nat.ble (1 + d) b = true) : a + 1 + d < c := by
  have := Nat.le_of_ble_eq_true k; omega
theorem room3 {a b c d : Nat} (h : a + b < c) (k : Nat.ble (3 + d) b = true) : a + 3 + d < c := by
  have := Nat.le_of_ble_eq_true k; omega
/-- the count of made ints need not be known -/
theorem tok_any {α : Type} {M : Model} {A : Around} {t : Sem α} {Q : α → Shared → Prop} {E : Value → Shared → Prop} {h : Heap} {g} {d} {n : Nat} {o} (H : ∀ k, wpAny M A t Q E ⟨h, g, d, k, o⟩) : wpAny M A t Q E ⟨h, g, d, n, o⟩ := H n
theorem enter_cut {M : Model} {A : Around} {env : Env} {body : List Stmt} {s : Shared} {Q : Flow → Shared → Prop} {Q₁ : Value → Shared → Prop} {E₁ : Value → Shared → Prop}
    (h : ∀ (Q0 : Flow → Shared → Prop) (E0 : Value → Shared → Prop), (∀ f s', Q f s' → Q0 f s') → PassesOwn M A env E0 → wpAny M A (execs body env) Q0 E0 s) :
    wpAny M A (execs body env) Q (fun e s' => wpAny M A (leaving env e) (fun _ s'' => Q₁ e s'') E₁ s') s := h _ _ (fun _ _ x => x) PassesOwn.leaving

/-- behind a statement: what is then to be shown, by name alone -/
structure Cuts (M : Model) (A : Around) (env : Env) (rest : List Stmt) (Q : Flow → Shared → Prop) (E : Value → Shared → Prop) (Q0 : Flow → Shared → Prop) : Prop where
  next : ∀ s', wpAny M A (execs rest env) Q E s' → Q0 .next s'
  ret : ∀ v s', Q (.ret v) s' → Q0 (.ret v) s'
  brk : ∀ s', Q .brk s' → Q0 .brk s'
  cont : ∀ s', Q .cont s' → Q0 .cont s'
theorem execs_cut {M : Model} {A : Around} {env : Env} {st : Stmt} {rest : List Stmt} {Q : Flow → Shared → Prop} {E : Value → Shared → Prop} {s : Shared}
    (h : ∀ Q0, Cuts M A env rest Q E Q0 → wpAny M A (exec st env) Q0 E s) : wpAny M A (execs (st :: rest) env) Q E s :=
  wpAny_execs_cons (h _ ⟨fun _ x => x, fun _ _ x => x, fun _ x => x, fun _ x => x⟩)
theorem Cuts.nextI {M : Model} {A : Around} {env : Env} {rest : List Stmt} {Q : Flow → Shared → Prop} {E : Value → Shared → Prop} {Q0 : Flow → Shared → Prop} {s' : Shared} (c : Cuts M A env rest Q E Q0) (h : wpAny M A (execs rest env) Q E s') : Q0 .next s' := c.next _ h
theorem Cuts.retI {M : Model} {A : Around} {env : Env} {rest : List Stmt} {Q : Flow → Shared → Prop} {E : Value → Shared → Prop} {Q0 : Flow → Shared → Prop} {v : Value} {s' : Shared} (c : Cuts M A env rest Q E Q0) (h : Q (.ret v) s') : Q0 (.ret v) s' := c.ret _ _ h

/-- the frame holds what the list says -/
def Ag (m : Str → Option Value) (l : List (Str × Value)) : Prop := ∀ p ∈ l, m p.1 = some p.2
/-- what stands at the end of a turn of a while -/
def WEnd {σ : Type} (h₀ : Heap) (L : Addr) (ps : σ → List (Str × Value)) (I : σ → List (Addr × Obj) → Prop) (μ : σ → Nat) (c : σ) (s s₃ : Shared) : Prop :=
  ∃ c' h' tk m' nx', s₃ = { s with heap := h', toks := tk } ∧ Fr h₀ L h' m' ∧ News h₀ L h' nx' ∧ Ag m' (ps c') ∧ I c' nx' ∧ μ c' < μ c
def WPost {σ : Type} (h₀ : Heap) (L : Addr) (ps : σ → List (Str × Value)) (I : σ → List (Addr × Obj) → Prop) (μ : σ → Nat) (Q : Flow → Shared → Prop) (c : σ) (s : Shared) (f : Flow) (s₃ : Shared) : Prop :=
  match f with
  | .next => WEnd h₀ L ps I μ c s s₃
  | .cont => WEnd h₀ L ps I μ c s s₃
  | .brk => Q .next s₃
  | .ret v => Q (.ret v) s₃

theorem WPost.nextI {σ : Type} {ps : σ → List (Str × Value)} {I : σ → List (Addr × Obj) → Prop} {μ : σ → Nat} {c : σ} {h' : Heap} {tk : Nat} {m' : Str → Option Value} {nx' : List (Addr × Obj)} (c' : σ)
    (F : Fr h₀ L h' m') (N : News h₀ L h' nx') (hk : Ag m' (ps c')) (hI : I c' nx') (hm : μ c' < μ c) : WPost h₀ L ps I μ Q c s .next { s with heap := h', toks := tk } :=
  ⟨c', h', tk, m', nx', rfl, F, N, hk, hI, hm⟩
theorem WPost.retI {σ : Type} {ps : σ → List (Str × Value)} {I : σ → List (Addr × Obj) → Prop} {μ : σ → Nat} {c : σ} {v : Value} {s₃ : Shared} (h : Q (.ret v) s₃) : WPost h₀ L ps I μ Q c s (.ret v) s₃ := h
theorem Ag.one {m : Str → Option Value} {a : Str} {x : Value} (h1 : m a = some x) : Ag m [(a, x)] := fun p hp => by rw [List.mem_singleton.mp hp]; exact h1
theorem Ag.cons {m : Str → Option Value} {a : Str} {x : Value} {l : List (Str × Value)} (h1 : m a = some x) (h2 : Ag m l) : Ag m ((a, x) :: l) := List.forall_mem_cons.mpr ⟨h1, h2⟩
theorem kst_all {m : Str → Option Value} {ps : List (Str × Value)} (h : ∀ p ∈ ps, m p.1 = some p.2) : kstB m ps = m := by
  funext z; exact kstB_eq h fun _ => rfl

theorem while_my {σ : Type} {test : Expr} {body : List Stmt} {pos : Pos} {m₀ : Str → Option Value} {nx₀ : List (Addr × Obj)} (ps : σ → List (Str × Value)) (I : σ → List (Addr × Obj) → Prop) (μ : σ → Nat) (c₀ : σ)
    (F : Fr h₀ L s.heap m₀) (N : News h₀ L s.heap nx₀) (hk : Ag m₀ (ps c₀)) (hI : I c₀ nx₀)
    (turn : ∀ c u nx h tk, I c nx → Fr h₀ L h (kstB u (ps c)) → News h₀ L h nx →
      wpAny (model prog w) A (isTrue test env (eval test env)) (fun b s₂ =>
        if b = true then wpAny (model prog w) A (execs body env) (WPost h₀ L ps I μ Q c s) E s₂ else Q .next s₂) E { s with heap := h, toks := tk })
    (hE : PassesOwn (model prog w) A env E := by passes_own) :
    wpAny (model prog w) A (exec (.While test body [] pos) env) Q E s := by
  refine While_inv2 (fun n m nx => ∃ c, μ c = n ∧ (∀ p ∈ ps c, m p.1 = some p.2) ∧ I c nx) F N ⟨c₀, rfl, hk, hI⟩ ?_ hE
  rintro n m nx h tk F₁ N₁ ⟨c, rfl, h1, hI₁⟩
  refine wpAny_mono (turn c m nx h tk hI₁ (by rw [kst_all h1]; exact F₁) N₁) (fun b s₂ p => ?_) fun _ _ x => x
  cases b with
  | false => simpa using p
  | true =>
    simp only [if_true] at p ⊢
    refine wpAny_mono p (fun f s₃ q => ?_) fun _ _ x => x
    cases f with
    | ret v => exact q
    | brk => exact q
    | next => obtain ⟨c', h', tk', m', nx', rfl, F', N', h2, hI', hm⟩ := q; exact ⟨h', tk', m', nx', μ c', rfl, F', N', hm, c', rfl, h2, hI'⟩
    | cont => obtain ⟨c', h', tk', m', nx', rfl, F', N', h2, hI', hm⟩ := q; exact ⟨h', tk', m', nx', μ c', rfl, F', N', hm, c', rfl, h2, hI'⟩

/-- what stands at the end of a turn of a for -/
def FEnd {σ : Type} (h₀ : Heap) (L : Addr) (ps : σ → List (Str × Value)) (Inv : Nat → σ → List (Addr × Obj) → Prop) (I : Addr) (oI : Obj) (i : Nat) (s s₃ : Shared) : Prop :=
  ∃ c' h' tk m' nx', s₃ = { s with heap := h', toks := tk } ∧ Fr h₀ L h' m' ∧ News h₀ L h' ((I, oI) :: nx') ∧ (∀ p ∈ nx', p.1 ≠ I) ∧ Ag m' (ps c') ∧ Inv (i + 1) c' nx'
def FPost {σ : Type} (h₀ : Heap) (L : Addr) (ps : σ → List (Str × Value)) (Inv : Nat → σ → List (Addr × Obj) → Prop) (I : Addr) (oI : Obj) (i : Nat) (Q : Flow → Shared → Prop) (s : Shared) (f : Flow) (s₃ : Shared) : Prop :=
  match f with
  | .next => FEnd h₀ L ps Inv I oI i s s₃
  | .cont => FEnd h₀ L ps Inv I oI i s s₃
  | .brk => Q .next s₃
  | .ret v => Q (.ret v) s₃

theorem FPost.nextI {σ : Type} {ps : σ → List (Str × Value)} {Inv : Nat → σ → List (Addr × Obj) → Prop} {I : Addr} {oI : Obj} {i : Nat} {h' : Heap} {tk : Nat} {m' : Str → Option Value} {nx' : List (Addr × Obj)} (c' : σ)
    (F : Fr h₀ L h' m') (N : News h₀ L h' ((I, oI) :: nx')) (ha : ∀ p ∈ nx', p.1 ≠ I) (hk : Ag m' (ps c')) (hI : Inv (i + 1) c' nx') : FPost h₀ L ps Inv I oI i Q s .next { s with heap := h', toks := tk } :=
  ⟨c', h', tk, m', nx', rfl, F, N, ha, hk, hI⟩

theorem loop_my {σ : Type} {x : Str} {body : List Stmt} {I : Addr} {cls : String} {fp : List Addr} {n : Nat} {P : Nat → Value → Prop} {St : Nat → Heap → Prop} {m₀ : Str → Option Value} {nx₀ : List (Addr × Obj)}
    (W : Walks prog w A I fp [I] n P St) (hIf : I ∈ fp) (hLf : env.locals ∉ fp) (hI₀ : h₀.get? I = none) (hStI : ∀ i h, St i h → ∃ o, h.get? I = some o ∧ o.cls = .type cls)
    (ps : σ → List (Str × Value)) (Inv : Nat → σ → List (Addr × Obj) → Prop) (c₀ : σ)
    (fx : List (Addr × Obj)) (hfx : ∀ i c nx, Inv i c nx → ∀ q ∈ fx, q ∈ nx) (hfp : ∀ b ∈ fp, b ≠ I → (∃ o, (b, o) ∈ fx) ∨ ∃ o, h₀.get? b = some o) (hnw : ∀ p ∈ nx₀, p.1 ≠ I) (hst : St 0 s.heap)
    (F : Fr h₀ env.locals s.heap m₀) (N : News h₀ env.locals s.heap nx₀) (hk : Ag m₀ (ps c₀)) (hI : Inv 0 c₀ nx₀)
    (turn : ∀ i v c u nx h tk oI, i < n → P i v → Inv i c nx → (∀ p ∈ nx, p.1 ≠ I) → oI.cls = .type cls → Fr h₀ env.locals h (fun y => if y = x then some v else kstB u (ps c) y) → News h₀ env.locals h ((I, oI) :: nx) →
      wpAny (model prog w) A (execs body env) (FPost h₀ env.locals ps Inv I oI i Q s) E { s with heap := h, toks := tk })
    (done : ∀ c u nx h tk, Inv n c nx → Fr h₀ env.locals h (kstB u (ps c)) → News h₀ env.locals h nx → Q .next { s with heap := h, toks := tk }) :
    LoopAtV prog w A h₀ env x body Q E (.ref I) s := by
  let J : Nat → (Str → Option Value) → List (Addr × Obj) → Prop := fun i m nx => ∃ c, (∀ p ∈ ps c, m p.1 = some p.2) ∧ Inv i c nx
  refine ⟨I, fp, [I], n, P, St, m₀, nx₀, J, rfl, W, hLf, ?_, ?_, hst, F, N, ⟨c₀, hk, hI⟩, ?_, ?_⟩
  · intro b hb; rw [List.mem_singleton.mp hb]; exact hI₀
  · intro p hp hm; exact hnw p hp (List.mem_singleton.mp hm)
  · rintro i v m₁ nx₁ s₁ own ⟨hh', tk', rfl⟩ hin hP ⟨c, h1, hI₁⟩ hoff h5 h6 h7 hs F₁ N₁
    obtain ⟨oI, hoI, hcI⟩ := hStI _ _ hs
    have ow : ∀ q ∈ own, q = (I, oI) ∨ q ∈ fx := fun q hq => by
      have a := N₁ q (List.mem_append.mpr (.inl hq))
      rcases Decidable.em (q.1 = I) with e | e
      · left
        have c := a.1; rw [e] at c
        exact Prod.ext e (Option.some.inj (c.symm.trans hoI))
      · rcases hfp q.1 (h5 q hq) e with ⟨o, h⟩ | ⟨o, ho⟩
        · have b := (N₁ _ (List.mem_append.mpr (.inr (hfx i c nx₁ hI₁ _ h)))).1
          have : q = (q.1, o) := Prod.ext rfl (Option.some.inj (a.1.symm.trans b))
          exact .inr (this ▸ h)
        · rw [a.2.2] at ho; cases ho
    have NI : News h₀ env.locals hh' ((I, oI) :: nx₁) := fun q hq => by
      rcases List.mem_cons.mp hq with rfl | hq
      · exact N₁ _ (List.mem_append.mpr (.inl (h7 I hIf hI₀ oI hoI)))
      · exact N₁ q (List.mem_append.mpr (.inr hq))
    have e : (fun y => if y = x then some v else m₁ y) = fun y => if y = x then some v else kstB m₁ (ps c) y := by rw [kst_all h1]
    rw [e] at F₁
    refine wpAny_mono (turn i v c m₁ nx₁ hh' tk' oI hin hP hI₁ (fun p hp e => hoff p hp (List.mem_singleton.mpr e)) hcI F₁ NI) (fun f s₂ p => ?_) fun _ _ x => x
    have fin : FEnd h₀ env.locals ps Inv I oI i s s₂ → LoopStepU h₀ env.locals [I] own (J (i + 1)) { s with heap := hh', toks := tk' } .next s₂ := by
      rintro ⟨c', h', tk, m', nx', rfl, F', N', hn, h2, hI'⟩
      refine ⟨rfl, h', tk, m', nx', rfl, F', fun q hq => ?_, fun q hq hm => hn q hq (List.mem_singleton.mp hm), c', h2, hI'⟩
      rcases List.mem_append.mp hq with hq | hq
      · rcases ow q hq with rfl | _
        · exact N' _ (.head _)
        · exact N' q (List.mem_cons_of_mem _ (hfx (i + 1) c' nx' hI' q ‹_›))
      · exact N' q (List.mem_cons_of_mem _ hq)
    cases f with
    | ret v => exact .ret p
    | brk => exact .brk p
    | next => exact .next (fin p)
    | cont => exact .cont (fin p)
  · rintro h' tk m' nx' F' N' _ ⟨c, h1, hI'⟩
    exact done c m' nx' h' tk hI' (by rw [kst_all h1]; exact F') N'
end
end

section
theorem fits {n : Nat} (h : n ≤ 16000000) : n ≤ sizeLine := by rw [sizeLine_eq]; omega
section
variable {prog : Program} {w : World} {A : Around} {E : Value → Shared → Prop} {s : Shared} {h₀ : Heap} {L t : Addr} {m : Str → Option Value} {news : List (Addr × Obj)}

theorem isTup_of {vs : List Value} (N : News h₀ L s.heap news) (hm : (t, tupObj vs) ∈ news) : IsTup s.heap t vs.toArray := ⟨_, (N _ hm).1, rfl, 0, rfl⟩
theorem isTuple_of {vs : List Value} (N : News h₀ L s.heap news) (hm : (t, tupObj vs) ∈ news) : s.heap.IsTuple t vs.toArray := ⟨_, (N _ hm).1, rfl, 0, rfl⟩

theorem r_len {vs : List Value} {Q : Value → Shared → Prop} (N : News h₀ L s.heap news) (hm : (t, tupObj vs) ∈ news) (hz : vs.length ≤ sizeLine)
    (h : ∀ tk tk', Q (.int vs.length tk) { s with toks := tk' }) : wpAny (model prog w) A (call (.builtin "len") [.ref t]) Q E s := by
  have hz' : vs.length ≤ 16777216 := by simpa [sizeLine_eq] using hz
  refine PyProof.Rows.len_tuple (isTup_of N hm) (by rw [List.size_toArray]; omega) ?_
  rw [List.size_toArray]; exact h _ _

theorem r_item {value slice : PySem.Expr} {vs : List Value} {k : Int} {u : Tok} {x : Value} {Q : Value → Shared → Prop} (N : News h₀ L s.heap news) (hm : (t, tupObj vs) ∈ news) (hz : vs.length ≤ sizeLine)
    (h0 : 0 ≤ k) (hx : vs[k.toNat]? = some x) (h : Q x s)
    (hs : subscripted slice false (.ref t) (.int k u) = operate [.ref t, .int k u] (getItem (.ref t) (.int k u))) (hg : ∀ r, letTemporaryGo value (.ref t) r = pure ()) :
    wpAny (model prog w) A (subscriptTail value slice (.ref t) (.int k u)) Q E s := by
  have hz' : vs.length ≤ 16777216 := by simpa [sizeLine_eq] using hz
  obtain ⟨hlt, _⟩ := List.getElem?_eq_some_iff.mp hx
  refine item_tupleL (j := k.toNat) (isTup_of N hm) (by omega) (by omega) ?_ hx h hs hg
  unfold seqIndex?
  have h1 : ¬ (k < 0) := by omega
  simp only [h1, if_false]
  rw [if_pos (by simp only [Bool.and_eq_true, decide_eq_true_eq]; omega)]

theorem r_eq0 {b : Addr} {vs : List Value} {Q : Value → Shared → Prop} (N : News h₀ L s.heap news) (hm : (t, tupObj vs) ∈ news) (hb : (b, tupObj []) ∈ news) (hu : A.units < cLine)
    (h : Q (.bool (decide (vs = []))) s) : wpAny (model prog w) A (compareOp .Eq (.ref t) (.ref b)) Q E s := by
  refine PySem.SeqAt.eq_tupleAt (e := fun _ => true) (isTuple_of N hm) (isTuple_of N hb) hu (fun j _ h2 => absurd h2 (by simp)) ?_
  have e : ((List.range (min vs.toArray.size ([] : List Value).toArray.size)).all (fun _ => true) && vs.toArray.size == ([] : List Value).toArray.size) = decide (vs = []) := by
    cases vs <;> simp
  rw [e]; exact h
theorem r_ne0 {b : Addr} {vs : List Value} {Q : Value → Shared → Prop} (N : News h₀ L s.heap news) (hm : (t, tupObj vs) ∈ news) (hb : (b, tupObj []) ∈ news) (hu : A.units < cLine)
    (h : Q (.bool (decide (vs ≠ []))) s) : wpAny (model prog w) A (compareOp .NotEq (.ref t) (.ref b)) Q E s := by
  refine PySem.SeqAt.RcNeAt.tuples (e := fun _ => true) (isTuple_of N hm) (isTuple_of N hb) hu (fun j _ h2 => absurd h2 (by simp)) prog w E Q ?_
  have e : (!((List.range (min vs.toArray.size ([] : List Value).toArray.size)).all (fun _ => true) && vs.toArray.size == ([] : List Value).toArray.size)) = decide (vs ≠ []) := by
    cases vs <;> simp
  rw [e]; exact h

theorem r_slice {value slice : PySem.Expr} {vs : List Value} {k : Int} {u : Tok} {Q : Value → Shared → Prop} (F : Fr h₀ L s.heap m) (N : News h₀ L s.heap news) (hm : (t, tupObj vs) ∈ news) (h1 : 1 ≤ k) (ha : k ≤ vs.length)
    (h : ∀ D h', Fr h₀ L h' m → News h₀ L h' ((D, tupObj (vs.drop k.toNat)) :: news) → (∀ p ∈ news, p.1 < D) → Q (.ref D) { s with heap := h' })
    (hs : subscripted slice false (.ref t) (.ref s.heap.objs.size) = operate [.ref s.heap.objs.size, .ref t] (getItem (.ref t) (.ref s.heap.objs.size)))
    (hg : ∀ r, letTemporaryGo value (.ref t) r = pure ())
    (hsz : vs.length ≤ sizeLine) :
    wpAny (model prog w) A (subscriptTail value slice (.ref t) (.ref s.heap.objs.size)) Q E { s with heap := s.heap.push { cls := .type "slice", data := .fields #[.int k u, .none, .none] } } := by
  have ek : k = (k.toNat : Int) := by omega
  rw [ek]
  refine slice_tuple_from (a := k.toNat) F N (isTup_of N hm) (by omega) (by rw [List.size_toArray]; omega) (fun h' F' N' => ?_) hs hg (by rw [List.size_toArray]; exact hsz)
  exact h _ h' F' N' fun p hp => Nat.lt_succ_of_lt (Heap.lt_size (N p hp).1)

theorem r_add {b : Addr} {vs ws : List Value} {Q : Value → Shared → Prop} (F : Fr h₀ L s.heap m) (N : News h₀ L s.heap news) (hm : (t, tupObj vs) ∈ news) (hb : (b, tupObj ws) ∈ news) (hsz : vs.length + ws.length ≤ sizeLine)
    (h : ∀ D h', Fr h₀ L h' m → News h₀ L h' ((D, tupObj (vs ++ ws)) :: news) → Q (.ref D) { s with heap := h' }) :
    wpAny (model prog w) A (binaryOp .Add (.ref t) (.ref b)) Q E s := by
  have ht := (N _ hm).1
  have hb' := (N _ hb).1
  by_cases e1 : vs = []
  · subst e1
    refine concat_meets ⟨_, ht, rfl⟩ ⟨_, hb', rfl⟩ noFill_tuple_add seq_tuple_add PySem.F.slot_tuple_add PySem.F.entry_tuple_add (PySem.F.args_tuple_add_2 _ _) (tuple_addW0 t b _ _ _ _ _ _ _ _ rfl) ⟨ht, hb', ?_⟩
    exact h b s.heap F fun p hp => by
      rcases List.mem_cons.mp hp with rfl | hp
      · exact N _ hb
      · exact N _ hp
  · by_cases e2 : ws = []
    · subst e2
      refine concat_meets ⟨_, ht, rfl⟩ ⟨_, hb', rfl⟩ noFill_tuple_add seq_tuple_add PySem.F.slot_tuple_add PySem.F.entry_tuple_add (PySem.F.args_tuple_add_2 _ _) (tuple_addW1 t b _ _ _ _ _ _ _ _ (by simpa using e1) rfl) ⟨ht, hb', ?_⟩
      refine h t s.heap F fun p hp => ?_
      rw [List.append_nil] at hp
      rcases List.mem_cons.mp hp with rfl | hp
      · exact N _ hm
      · exact N _ hp
    · refine concat_meets ⟨_, ht, rfl⟩ ⟨_, hb', rfl⟩ noFill_tuple_add seq_tuple_add PySem.F.slot_tuple_add PySem.F.entry_tuple_add (PySem.F.args_tuple_add_2 _ _) (tuple_addW2 t b _ _ _ _ _ _ _ _ (by simpa using e1) (by simpa using e2) (by simpa using hsz)) ⟨ht, hb', ?_⟩
      have e : vs.toArray ++ ws.toArray = (vs ++ ws).toArray := by simp
      rw [e]
      exact h _ _ (F.push _) (News.push F N _)

theorem rev_applied {sl : Addr} {n : Nat} {u : Tok} {Q : Int × Int × Nat → Shared → Prop} (hs : s.heap.IsSliceOf sl .none .none (.int (-1) u)) (h : Q ((n : Int) - 1, -1, n) s) :
    wpAny (model prog w) A (Builtin.Slice.sliceApplied (.ref sl) (pure (n : Int))) Q E s := by
  obtain ⟨os, hos, hcs, hds⟩ := id hs
  unfold Builtin.Slice.sliceApplied Builtin.Slice.sliceFields
  refine wpAny_bind (wpAny_bind (wpAny_field hos hds (x := .none) rfl (wpAny_bind (wpAny_field hos hds (x := .none) rfl (wpAny_bind (wpAny_field hos hds (x := .int (-1) u) rfl (wpAny_pure ?_)))))))
  refine wpAny_bind (slicePart_int ?_)
  show wpAny _ _ (if ((-1 : Int) == 0) = true then _ else _) _ _ s
  rw [if_neg (by decide)]
  refine wpAny_bind (slicePart_none (wpAny_bind (slicePart_none (wpAny_bind (wpAny_pure ?_)))))
  show wpAny _ _ (match Builtin.Slice.sliceAdjust none none (-1) (n : Int) with | (lo, hi) => pure (lo, (-1 : Int), Builtin.Slice.slicePlaces lo hi (-1))) _ _ s
  have e : Builtin.Slice.sliceAdjust none none (-1) (n : Int) = ((n : Int) - 1, -1) := by
    unfold Builtin.Slice.sliceAdjust; simp
  rw [e]
  show wpAny _ _ (pure ((n : Int) - 1, (-1 : Int), Builtin.Slice.slicePlaces ((n : Int) - 1) (-1) (-1))) _ _ s
  have e2 : Builtin.Slice.slicePlaces ((n : Int) - 1) (-1) (-1) = n := by
    unfold Builtin.Slice.slicePlaces
    have h1 : ¬ ((-1 : Int) > 0) := by omega
    simp only [h1, if_false]
    split
    · rw [show (- -1 : Int) = 1 by decide, Int.ediv_one]; omega
    · omega
  rw [e2]
  exact wpAny_pure h

theorem filterMap_congr_my {α β : Type} {f g : α → Option β} : ∀ {l : List α}, (∀ x ∈ l, f x = g x) → l.filterMap f = l.filterMap g
  | [], _ => rfl
  | a :: l, h => by
    rw [List.filterMap_cons, List.filterMap_cons, h a (.head _), filterMap_congr_my fun x hx => h x (.tail _ hx)]
theorem rev_pick (xs : Array Value) : ((List.range xs.size).filterMap fun (k : Nat) => xs[((xs.size : Int) - 1 + (k : Int) * -1).toNat]?).toArray = xs.toList.reverse.toArray := by
  congr 1
  have e : (List.range xs.size).filterMap (fun (k : Nat) => xs[((xs.size : Int) - 1 + (k : Int) * -1).toNat]?) = (List.range xs.size).filterMap (fun k => xs[xs.size - 1 - k]?) := by
    refine filterMap_congr_my fun k hk => ?_
    have := List.mem_range.mp hk
    rw [show ((xs.size : Int) - 1 + (k : Int) * -1).toNat = xs.size - 1 - k by omega]
  rw [e, show (fun k => xs[xs.size - 1 - k]?) = ((fun k => xs[k]?) ∘ fun k => xs.size - 1 - k) from rfl, ← List.filterMap_map, krv_range, List.filterMap_reverse, krv_all]

theorem r_rev {value slice : PySem.Expr} {vs : List Value} {u : Tok} {ops : List Value} {Q : Value → Shared → Prop} (F : Fr h₀ L s.heap m) (N : News h₀ L s.heap news) (hm : (t, tupObj vs) ∈ news)
    (h : ∀ D h', Fr h₀ L h' m → News h₀ L h' ((D, tupObj vs.reverse) :: news) → (∀ p ∈ news, p.1 < D) → Q (.ref D) { s with heap := h' })
    (hs : subscripted slice false (.ref t) (.ref s.heap.objs.size) = operate ops (getItem (.ref t) (.ref s.heap.objs.size)))
    (hg : ∀ r, letTemporaryGo value (.ref t) r = pure ())
    (hsz : vs.length ≤ sizeLine) :
    wpAny (model prog w) A (subscriptTail value slice (.ref t) (.ref s.heap.objs.size)) Q E { s with heap := s.heap.push { cls := .type "slice", data := .fields #[.none, .none, .int (-1) u] } } := by
  have ht := isTup_of N hm
  have ht' : IsTup (s.heap.push { cls := .type "slice", data := .fields #[.none, .none, .int (-1) u] }) t vs.toArray := ht.keeps fun _ _ e => Heap.get?_push_of_some _ e
  have hsl := Heap.IsSliceOf.new s.heap .none .none (.int (-1) u)
  obtain ⟨os, hos, hcs, hds⟩ := id hsl
  have hTs : ({ s with heap := s.heap.push { cls := .type "slice", data := .fields #[.none, .none, .int (-1) u] } } : Shared).TypeIs (.ref s.heap.objs.size) "slice" := ⟨os, hos, hcs⟩
  refine subscriptTail_ops (s := { s with heap := s.heap.push { cls := .type "slice", data := .fields #[.none, .none, .int (-1) u] } }) ht'.typeIs PyProof.Rows.slot_tuple_getitem.lookup ?_ hs hg
  unfold getItem
  try with_reducible refine wpAny_holding ?_
  first | refine wpAny_bind (wpAny_pure ?_) | skip
  refine wpAny_bind (wpAny_sequenceKey ht'.typeIs (by decide) ?_)
  refine wpAny_bind (wpAny_callSpecial?_slot (name := Str.ofString "__getitem__") ht'.typeIs PyProof.Rows.slot_tuple_getitem
    (wpAny_call_entry PyProof.Rows.slot_tuple_getitem ht'.typeIs PyProof.Rows.entry_tuple_getitem ?_ (PyProof.Rows.args_tuple_getitem _ _)))
  show wpAny _ _ (Builtin.Tuple.tupleItemsOf (.ref t) >>= _) _ _ _
  refine wpAny_bind (tupleItemsOf_ ht' ?_)
  refine wpAny_bind (wpAny_typeOf hTs ?_)
  rw [if_pos (by decide)]
  refine wpAny_bind (rev_applied hsl ?_)
  have hno : ¬ ((((vs.toArray.size : Nat) : Int) - 1 == 0 && (-1 : Int) == 1 && vs.toArray.size == vs.toArray.size) = true) := by simp
  show wpAny _ _ (if (((vs.toArray.size : Nat) : Int) - 1 == 0 && (-1 : Int) == 1 && vs.toArray.size == vs.toArray.size) = true then _ else _) _ _ _
  rw [if_neg hno, rev_pick vs.toArray]
  have N1 := News.push (F.push { cls := .type "slice", data := .fields #[.none, .none, .int (-1) u] }) (N.grown fun _ _ e => Heap.get?_push_of_some _ e) (tupObj vs.reverse)
  rw [Heap.size_push] at N1
  have hq := h _ _ ((F.push _).push _) N1 (fun p hp => Nat.lt_succ_of_lt (Heap.lt_size (N p hp).1))
  have hz : sizeOk (.seq vs.toArray.toList.reverse.toArray) := by show vs.toArray.toList.reverse.toArray.size ≤ sizeLine; simpa using hsz
  have hz' : vs.toArray.toList.reverse = vs.reverse := rfl
  rw [hz'] at hz ⊢
  have hz2 : (s.heap.push { cls := .type "slice", data := .fields #[.none, .none, .int (-1) u] }).objs.size = s.heap.objs.size + 1 := Heap.size_push _ _
  first
    | exact wpAny_bind (m := Builtin.Tuple.tupleExact _) (wpAny_newObj_type (wpAny_pure ⟨_, rfl, wpAny_pure (hz2 ▸ hq)⟩) hz)
    | exact wpAny_bind (m := Builtin.Tuple.tupleExact _) (wpAny_newObj_type (wpAny_bind (wpAny_pure (wpAny_pure ⟨_, rfl, wpAny_pure (hz2 ▸ hq)⟩))) hz)
    | exact wpAny_bind (wpAny_bind (m := Builtin.Tuple.tupleExact _) (wpAny_newObj_type (wpAny_pure (wpAny_pure ⟨_, rfl, wpAny_pure (hz2 ▸ hq)⟩)) hz))
    | exact wpAny_bind (wpAny_bind (m := Builtin.Tuple.tupleExact _) (wpAny_newObj_type (wpAny_pure ⟨_, rfl, wpAny_pure (hz2 ▸ hq)⟩) hz))
end

section
variable {prog : Program} {w : World} {A : Around} {E : Value → Shared → Prop} {Q : Flow → Shared → Prop} {s : Shared} {env : Env} {h₀ : Heap} {x : Str} {body : List Stmt}

theorem iter_tuple_my {σ : Type} {l : Addr} {vs : List Value} {m₀ : Str → Option Value} {nx₀ : List (Addr × Obj)} (ps : σ → List (Str × Value)) (Inv : Nat → σ → List (Addr × Obj) → Prop) (c₀ : σ)
    (hh : A.handled = none) (hfx : ∀ i c nx, Inv i c nx → (l, tupObj vs) ∈ nx)
    (F : Fr h₀ env.locals s.heap m₀) (N : News h₀ env.locals s.heap nx₀) (hk : Ag m₀ (ps c₀)) (hI : Inv 0 c₀ nx₀)
    (turn : ∀ i v c u nx h tk I oI, i < vs.length → vs[i]? = some v → Inv i c nx → (∀ p ∈ nx, p.1 ≠ I) → oI.cls = .type "tuple_iterator" → Fr h₀ env.locals h (fun y => if y = x then some v else kstB u (ps c) y) → News h₀ env.locals h ((I, oI) :: nx) →
      wpAny (model prog w) A (execs body env) (FPost h₀ env.locals ps Inv I oI i Q s) E { s with heap := h, toks := tk })
    (done : ∀ c u nx h tk, Inv vs.length c nx → Fr h₀ env.locals h (kstB u (ps c)) → News h₀ env.locals h nx → Q .next { s with heap := h, toks := tk }) :
    wpAny (model prog w) A (pyIter (.ref l)) (fun it s₂ => LoopAtV prog w A h₀ env x body Q E it s₂) E s := by
  have hm := hfx _ _ _ hI
  have hl : s.heap.IsTuple l vs.toArray := ⟨_, (N _ hm).1, rfl, 0, rfl⟩
  have hlt := Heap.lt_size (N _ hm).1
  refine wpAny_pyIter_tuple hl ?_
  have W := Walks.tuple (prog := prog) (w := w) hh s.heap.objs.size l (Nat.ne_of_lt hlt) vs.toArray
  rw [List.size_toArray] at W
  refine loop_my (cls := "tuple_iterator") W (List.mem_cons_self) ?_ (next_is_new F) (fun i h st => by obtain ⟨o, ho, hc, _⟩ := st.1; exact ⟨o, ho, hc⟩) ps Inv c₀ [(l, tupObj vs)] (fun i c nx h q hq => by rw [List.mem_singleton.mp hq]; exact hfx i c nx h) ?_ (fun p hp e => absurd (Heap.lt_size (N p hp).1) (e ▸ Nat.lt_irrefl _))
    ⟨⟨_, Heap.get?_push_size _ rfl, rfl, rfl⟩, ⟨_, Heap.get?_push_of_some _ (N _ hm).1, rfl, 0, rfl⟩⟩ (F.push _) (fun p hp => ⟨Heap.get?_push_of_some _ (N p hp).1, (N p hp).2⟩) hk hI (fun i v c u nx h tk oI hi hP => turn i v c u nx h tk _ oI hi (by simpa using hP)) done
  · intro hmm
    rcases List.mem_cons.mp hmm with e | hmm
    · exact absurd F.ns.lt (e ▸ Nat.lt_irrefl _)
    · exact (N _ hm).2.1 (List.mem_singleton.mp hmm).symm
  · intro b hb hne
    rcases List.mem_cons.mp hb with e | hb
    · exact absurd e hne
    · rw [List.mem_singleton.mp hb]; exact .inl ⟨_, List.mem_singleton.mpr rfl⟩

theorem iter_list_my {σ : Type} {l : Addr} {vs : List Value} {n : Nat} {m₀ : Str → Option Value} {nx₀ : List (Addr × Obj)} (ps : σ → List (Str × Value)) (Inv : Nat → σ → List (Addr × Obj) → Prop) (c₀ : σ)
    (hh : A.handled = none) (hfx : ∀ i c nx, Inv i c nx → (l, listOf vs.toArray n) ∈ nx)
    (F : Fr h₀ env.locals s.heap m₀) (N : News h₀ env.locals s.heap nx₀) (hk : Ag m₀ (ps c₀)) (hI : Inv 0 c₀ nx₀)
    (turn : ∀ i v c u nx h tk I oI, i < vs.length → vs[i]? = some v → Inv i c nx → (∀ p ∈ nx, p.1 ≠ I) → oI.cls = .type "list_iterator" → Fr h₀ env.locals h (fun y => if y = x then some v else kstB u (ps c) y) → News h₀ env.locals h ((I, oI) :: nx) →
      wpAny (model prog w) A (execs body env) (FPost h₀ env.locals ps Inv I oI i Q s) E { s with heap := h, toks := tk })
    (done : ∀ c u nx h tk, Inv vs.length c nx → Fr h₀ env.locals h (kstB u (ps c)) → News h₀ env.locals h nx → Q .next { s with heap := h, toks := tk }) :
    wpAny (model prog w) A (pyIter (.ref l)) (fun it s₂ => LoopAtV prog w A h₀ env x body Q E it s₂) E s := by
  have hm := hfx _ _ _ hI
  have hl : s.heap.IsList l vs.toArray := ⟨_, (N _ hm).1, rfl, n, rfl⟩
  have hlt := Heap.lt_size (N _ hm).1
  refine wpAny_pyIter_list hl ?_
  have W := Walks.list (prog := prog) (w := w) hh s.heap.objs.size l (Nat.ne_of_lt hlt) vs.toArray
  rw [List.size_toArray] at W
  refine loop_my (cls := "list_iterator") W (List.mem_cons_self) ?_ (next_is_new F) (fun i h st => by obtain ⟨o, ho, hc, _⟩ := st.1; exact ⟨o, ho, hc⟩) ps Inv c₀ [(l, listOf vs.toArray n)] (fun i c nx h q hq => by rw [List.mem_singleton.mp hq]; exact hfx i c nx h) ?_ (fun p hp e => absurd (Heap.lt_size (N p hp).1) (e ▸ Nat.lt_irrefl _))
    ⟨⟨_, Heap.get?_push_size _ rfl, rfl, rfl⟩, hl.at fun o e => Heap.get?_push_of_some _ e⟩ (F.push _) (fun p hp => ⟨Heap.get?_push_of_some _ (N p hp).1, (N p hp).2⟩) hk hI (fun i v c u nx h tk oI hi hP => turn i v c u nx h tk _ oI hi (by simpa using hP)) done
  · intro hmm
    rcases List.mem_cons.mp hmm with e | hmm
    · exact absurd F.ns.lt (e ▸ Nat.lt_irrefl _)
    · exact (N _ hm).2.1 (List.mem_singleton.mp hmm).symm
  · intro b hb hne
    rcases List.mem_cons.mp hb with e | hb
    · exact absurd e hne
    · rw [List.mem_singleton.mp hb]; exact .inl ⟨_, List.mem_singleton.mpr rfl⟩

theorem iter_range_my {σ : Type} {r : Addr} {a₀ b₀ : Int} {t₀ u₀ v₀ : Tok} {n : Nat} {m₀ : Str → Option Value} {nx₀ : List (Addr × Obj)} (ps : σ → List (Str × Value)) (Inv : Nat → σ → List (Addr × Obj) → Prop) (c₀ : σ)
    (hh : A.handled = none) (hr : IsRange s.heap r a₀ b₀ 1 t₀ u₀ v₀) (hsmall : Builtin.Range.small a₀ b₀ 1 = true) (hn : Builtin.Range.rangeSize a₀ b₀ 1 = (n : Int))
    (F : Fr h₀ env.locals s.heap m₀) (N : News h₀ env.locals s.heap nx₀) (hk : Ag m₀ (ps c₀)) (hI : Inv 0 c₀ nx₀)
    (turn : ∀ i t c u nx h tk I oI, i < n → Inv i c nx → (∀ p ∈ nx, p.1 ≠ I) → oI.cls = .type "range_iterator" → Fr h₀ env.locals h (fun y => if y = x then some (.int (a₀ + i) t) else kstB u (ps c) y) → News h₀ env.locals h ((I, oI) :: nx) →
      wpAny (model prog w) A (execs body env) (FPost h₀ env.locals ps Inv I oI i Q s) E { s with heap := h, toks := tk })
    (done : ∀ c u nx h tk, Inv n c nx → Fr h₀ env.locals h (kstB u (ps c)) → News h₀ env.locals h nx → Q .next { s with heap := h, toks := tk }) :
    wpAny (model prog w) A (pyIter (.ref r)) (fun it s₂ => LoopAtV prog w A h₀ env x body Q E it s₂) E s := by
  refine wpAny_pyIter_range hr hsmall ?_
  have W := Walks.range (prog := prog) (w := w) hh s.heap.objs.size a₀ 1 n
  refine loop_my (cls := "range_iterator") W (List.mem_singleton.mpr rfl) ?_ (next_is_new F) (fun i h st => ⟨_, st, rfl⟩) ps Inv c₀ [] (fun i c nx h q hq => nomatch hq) ?_ (fun p hp e => absurd (Heap.lt_size (N p hp).1) (e ▸ Nat.lt_irrefl _))
    (by show IsRangeIter _ _ _ _ _; rw [hn]; simpa using Heap.get?_push_size _ rfl) (F.push _) (fun p hp => ⟨Heap.get?_push_of_some _ (N p hp).1, (N p hp).2⟩) hk hI ?_ done
  · intro hmm
    exact absurd F.ns.lt ((List.mem_singleton.mp hmm) ▸ Nat.lt_irrefl _)
  · intro b hb hne
    exact absurd (List.mem_singleton.mp hb) hne
  · rintro i v c u nx h tk oI hi ⟨t, rfl⟩ hI' ha hc F' N'
    rw [Int.mul_one] at F'
    exact turn i t c u nx h tk _ oI hi hI' ha hc F' N'

theorem iter_rev_my {σ : Type} {l D : Addr} {vs : List Value} {n : Nat} {m₀ : Str → Option Value} {nx₀ : List (Addr × Obj)} (ps : σ → List (Str × Value)) (Inv : Nat → σ → List (Addr × Obj) → Prop) (c₀ : σ)
    (hh : A.handled = none) (hfx : ∀ i c nx, Inv i c nx → (l, listOf vs.toArray n) ∈ nx)
    (F : Fr h₀ env.locals s.heap m₀) (N : News h₀ env.locals s.heap ((D, revObj l ((vs.length : Int) - 1)) :: nx₀)) (hD : ∀ p ∈ nx₀, p.1 ≠ D) (hk : Ag m₀ (ps c₀)) (hI : Inv 0 c₀ nx₀)
    (turn : ∀ i v c u nx h tk oI, i < vs.length → vs[vs.length - 1 - i]? = some v → Inv i c nx → (∀ p ∈ nx, p.1 ≠ D) → oI.cls = .type "list_reverseiterator" → Fr h₀ env.locals h (fun y => if y = x then some v else kstB u (ps c) y) → News h₀ env.locals h ((D, oI) :: nx) →
      wpAny (model prog w) A (execs body env) (FPost h₀ env.locals ps Inv D oI i Q s) E { s with heap := h, toks := tk })
    (done : ∀ c u nx h tk, Inv vs.length c nx → Fr h₀ env.locals h (kstB u (ps c)) → News h₀ env.locals h nx → Q .next { s with heap := h, toks := tk }) :
    wpAny (model prog w) A (pyIter (.ref D)) (fun it s₂ => LoopAtV prog w A h₀ env x body Q E it s₂) E s := by
  have hm := hfx _ _ _ hI
  have hDx := N _ List.mem_cons_self
  have hlx := N _ (List.mem_cons_of_mem _ hm)
  have hl : s.heap.IsList l vs.toArray := ⟨_, hlx.1, rfl, n, rfl⟩
  have hit : s.heap.IsRevIter D l ((vs.length : Int) - 1) := ⟨_, hDx.1, rfl, rfl⟩
  refine wpAny_pyIter_revIter hit ?_
  have W := Walks.listRev (prog := prog) (w := w) hh D l (hD _ hm) vs.toArray
  rw [List.size_toArray] at W
  refine loop_my (cls := "list_reverseiterator") W (List.mem_cons_self) ?_ hDx.2.2 (fun i h st => by obtain ⟨o, ho, hc, _⟩ := st.2.1; exact ⟨o, ho, hc⟩) ps Inv c₀ [(l, listOf vs.toArray n)] (fun i c nx h q hq => by rw [List.mem_singleton.mp hq]; exact hfx i c nx h) ?_ hD
    ⟨Nat.zero_le _, by simpa using hit, hl⟩ F (fun p hp => N p (List.mem_cons_of_mem _ hp)) hk hI (fun i v c u nx h tk oI hi hP => turn i v c u nx h tk oI hi (by simpa using hP)) done
  · intro hmm
    rcases List.mem_cons.mp hmm with e | hmm
    · exact hDx.2.1 e.symm
    · exact hlx.2.1 (List.mem_singleton.mp hmm).symm
  · intro b hb hne
    rcases List.mem_cons.mp hb with e | hb
    · exact absurd e hne
    · rw [List.mem_singleton.mp hb]; exact .inl ⟨_, List.mem_singleton.mpr rfl⟩
end

section
variable {prog : Program} {w : World} {A : Around} {E : Value → Shared → Prop} {s : Shared} {h₀ : Heap} {L t : Addr} {m : Str → Option Value} {news : List (Addr × Obj)}

theorem rl_add {b : Addr} {vs ws : List Value} {n n2 : Nat} {Q : Value → Shared → Prop} (F : Fr h₀ L s.heap m) (N : News h₀ L s.heap news) (hm : (t, listOf vs.toArray n) ∈ news) (hb : (b, listOf ws.toArray n2) ∈ news) (hsz : vs.length + ws.length ≤ sizeLine)
    (h : ∀ D h', Fr h₀ L h' m → News h₀ L h' ((D, listOf (vs ++ ws).toArray 0) :: news) → (∀ p ∈ news, p.1 < D) → Q (.ref D) { s with heap := h' }) :
    wpAny (model prog w) A (binaryOp .Add (.ref t) (.ref b)) Q E s :=
  add_lists F N ⟨_, (N _ hm).1, rfl, n, rfl⟩ ⟨_, (N _ hb).1, rfl, n2, rfl⟩ (fun h' F' N' => h _ h' F' N' fun p hp => Heap.lt_size (N p hp).1) hsz

theorem rl_mul {vs : List Value} {n : Nat} {c : Int} {u : Tok} {Q : Value → Shared → Prop} (F : Fr h₀ L s.heap m) (N : News h₀ L s.heap news) (hm : (t, listOf vs.toArray n) ∈ news) (h0 : 0 ≤ c) (hsz : vs.length * c.toNat ≤ 1000000) (hc : c ≤ 1000000)
    (h : ∀ D h', Fr h₀ L h' m → News h₀ L h' ((D, listOf (List.replicate c.toNat vs).flatten.toArray 0) :: news) → (∀ p ∈ news, p.1 < D) → Q (.ref D) { s with heap := h' }) :
    wpAny (model prog w) A (binaryOp .Mult (.ref t) (.int c u)) Q E s := by
  refine mul_list F N (N _ hm).1 (by omega) (by omega) (by rw [List.size_toArray]; omega) fun h' F' N' => ?_
  rw [listMul_foldl_if] at N'
  exact h _ h' F' N' fun p hp => Heap.lt_size (N p hp).1

theorem rl_len {vs : List Value} {n : Nat} {Q : Value → Shared → Prop} (N : News h₀ L s.heap news) (hm : (t, listOf vs.toArray n) ∈ news) (hz : vs.length ≤ sizeLine)
    (h : ∀ tk tk', Q (.int vs.length tk) { s with toks := tk' }) : wpAny (model prog w) A (call (.builtin "len") [.ref t]) Q E s := by
  have hz' : vs.length ≤ 16777216 := by simpa [sizeLine_eq] using hz
  have hl : s.heap.IsList t vs.toArray := ⟨_, (N _ hm).1, rfl, n, rfl⟩
  refine PyProof.Rows.len_list hl (by rw [List.size_toArray]; omega) ?_
  rw [List.size_toArray]; exact h _ _

theorem rl_item {value slice : PySem.Expr} {vs : List Value} {n : Nat} {k : Int} {u : Tok} {x : Value} {Q : Value → Shared → Prop} (N : News h₀ L s.heap news) (hm : (t, listOf vs.toArray n) ∈ news) (hz : vs.length ≤ sizeLine)
    (h0 : 0 ≤ k) (hx : vs[k.toNat]? = some x) (h : Q x s)
    (hs : subscripted slice false (.ref t) (.int k u) = operate [.ref t, .int k u] (getItem (.ref t) (.int k u))) (hg : ∀ r, letTemporaryGo value (.ref t) r = pure ()) :
    wpAny (model prog w) A (subscriptTail value slice (.ref t) (.int k u)) Q E s := by
  have hz' : vs.length ≤ 16777216 := by simpa [sizeLine_eq] using hz
  have hl : s.heap.IsList t vs.toArray := ⟨_, (N _ hm).1, rfl, n, rfl⟩
  obtain ⟨hlt, _⟩ := List.getElem?_eq_some_iff.mp hx
  exact item_list hl h0 (by omega) (by simpa using hx) h hs hg

theorem rl_rev {value slice : PySem.Expr} {vs : List Value} {n : Nat} {u : Tok} {ops : List Value} {Q : Value → Shared → Prop} (F : Fr h₀ L s.heap m) (N : News h₀ L s.heap news) (hm : (t, listOf vs.toArray n) ∈ news)
    (h : ∀ D h', Fr h₀ L h' m → News h₀ L h' ((D, listOf vs.reverse.toArray 0) :: news) → (∀ p ∈ news, p.1 < D) → Q (.ref D) { s with heap := h' })
    (hs : subscripted slice false (.ref t) (.ref s.heap.objs.size) = operate ops (getItem (.ref t) (.ref s.heap.objs.size)))
    (hg : ∀ r, letTemporaryGo value (.ref t) r = pure ()) (hsz : vs.length ≤ sizeLine) :
    wpAny (model prog w) A (subscriptTail value slice (.ref t) (.ref s.heap.objs.size)) Q E { s with heap := s.heap.push { cls := .type "slice", data := .fields #[.none, .none, .int (-1) u] } } :=
  krv_lit (its := vs.toArray) (zs := vs.reverse) F N ⟨_, (N _ hm).1, rfl, n, rfl⟩ (IsPart.int _ _) rfl h hs hg (by rw [List.size_toArray]; exact hsz)

theorem rl_slice {value slice : PySem.Expr} {vs : List Value} {n : Nat} {k : Int} {u : Tok} {Q : Value → Shared → Prop} (F : Fr h₀ L s.heap m) (N : News h₀ L s.heap news) (hm : (t, listOf vs.toArray n) ∈ news) (h0 : 0 ≤ k) (hk : k ≤ vs.length)
    (h : ∀ D h', Fr h₀ L h' m → News h₀ L h' ((D, listOf (vs.drop k.toNat).toArray 0) :: news) → (∀ p ∈ news, p.1 < D) → Q (.ref D) { s with heap := h' })
    (hs : subscripted slice false (.ref t) (.ref s.heap.objs.size) = operate [.ref s.heap.objs.size, .ref t] (getItem (.ref t) (.ref s.heap.objs.size)))
    (hg : ∀ r, letTemporaryGo value (.ref t) r = pure ()) (hsz : vs.length ≤ sizeLine) :
    wpAny (model prog w) A (subscriptTail value slice (.ref t) (.ref s.heap.objs.size)) Q E { s with heap := s.heap.push { cls := .type "slice", data := .fields #[.int k u, .none, .none] } } := by
  refine kmk_slice F N ⟨_, (N _ hm).1, rfl, n, rfl⟩ (IsPart.int _ _) IsPart.none (fun D h' F' N' l1 => h D h' F' ?_ l1) hs hg (by rw [List.size_toArray]; exact hsz)
  have e := slicePick_from vs.toArray k.toNat (by rw [List.size_toArray]; omega)
  rw [show ((k.toNat : Nat) : Int) = k by omega] at e
  rw [e] at N'
  exact N'

theorem rl_eq {b : Addr} {vs us : List Value} {n n2 : Nat} {ns ms : List Int} {Q : Value → Shared → Prop} (N : News h₀ L s.heap news) (hm : (t, listOf vs.toArray n) ∈ news) (hb : (b, listOf us.toArray n2) ∈ news) (hi : IntsAre vs ns) (hj : IntsAre us ms) (hu : A.units + 64 < cLine)
    (h : Q (.bool (decide (ns = ms))) s) : wpAny (model prog w) A (compareOp .Eq (.ref t) (.ref b)) Q E s :=
  eq_intsK ⟨_, (N _ hm).1, rfl, n, rfl⟩ hi ⟨_, (N _ hb).1, rfl, n2, rfl⟩ hj hu h
theorem rl_ne {b : Addr} {vs us : List Value} {n n2 : Nat} {ns ms : List Int} {Q : Value → Shared → Prop} (N : News h₀ L s.heap news) (hm : (t, listOf vs.toArray n) ∈ news) (hb : (b, listOf us.toArray n2) ∈ news) (hi : IntsAre vs ns) (hj : IntsAre us ms) (hu : A.units + 64 < cLine)
    (h : Q (.bool (!decide (ns = ms))) s) : wpAny (model prog w) A (compareOp .NotEq (.ref t) (.ref b)) Q E s :=
  ne_intsK ⟨_, (N _ hm).1, rfl, n, rfl⟩ hi ⟨_, (N _ hb).1, rfl, n2, rfl⟩ hj hu h
end
end

section
def Tr.len : Tr → Nat
  | .nil => 0
  | .cons _ r => r.len + 1
def Tr.wx : Tr → Nat → Nat
  | .nil, x => x
  | .cons b r, x => (2 * r.wx x + 1) * 2 ^ b.worth
def Tr.app : Tr → Tr → Tr
  | .nil, u => u
  | .cons b r, u => .cons b (r.app u)
theorem Tr.wx_zero : ∀ t : Tr, t.wx 0 = t.worth
  | .nil => rfl
  | .cons b r => by rw [Tr.wx, Tr.worth, r.wx_zero]
theorem Tr.wx_app : ∀ (t u : Tr) (x : Nat), (t.app u).wx x = t.wx (u.wx x)
  | .nil, _, _ => rfl
  | .cons b r, u, x => by rw [Tr.app, Tr.wx, Tr.wx, r.wx_app u x]
theorem Tr.worth_app (t u : Tr) : (t.app u).worth = t.wx u.worth := by rw [← Tr.wx_zero, Tr.wx_app, Tr.wx_zero]
theorem Tr.wx_ge : ∀ (t : Tr) (x : Nat), x ≤ t.wx x
  | .nil, x => Nat.le_refl x
  | .cons b r, x => by
    rw [Tr.wx]
    have h := r.wx_ge x
    have h2 : 0 < 2 ^ b.worth := Nat.two_pow_pos _
    have h3 : 2 * r.wx x + 1 ≤ (2 * r.wx x + 1) * 2 ^ b.worth := Nat.le_mul_of_pos_right _ h2
    omega
theorem Tr.two_pow_len : ∀ t : Tr, 2 ^ t.len ≤ t.worth + 1
  | .nil => Nat.le_refl 1
  | .cons b r => by
    rw [Tr.len, Tr.worth, Nat.pow_succ]
    have h := r.two_pow_len
    have h2 : 0 < 2 ^ b.worth := Nat.two_pow_pos _
    have h3 : 2 * r.worth + 1 ≤ (2 * r.worth + 1) * 2 ^ b.worth := Nat.le_mul_of_pos_right _ h2
    omega
theorem Tr.worth_pos (b r : Tr) : 2 ^ b.worth ≤ (Tr.cons b r).worth := by
  rw [Tr.worth]
  exact Nat.le_mul_of_pos_left _ (by omega)
theorem Tr.worth_ne {t : Tr} : t.worth = 0 ↔ t = .nil := by
  cases t with
  | nil => simp [Tr.worth]
  | cons b r =>
    have h := Tr.worth_pos b r
    have h2 : 0 < 2 ^ b.worth := Nat.two_pow_pos _
    constructor
    · intro e; omega
    · intro e; cases e
theorem Tr.len_lt (t : Tr) {B : Nat} (h : t.worth + 1 ≤ 2 ^ B) : t.len ≤ B := by
  have h1 := t.two_pow_len
  exact (Nat.pow_le_pow_iff_right (by decide : 1 < 2)).mp (Nat.le_trans h1 h)

theorem Items.length {n : List (Addr × Obj)} : ∀ {t : Tr} {vs : List Value}, Items n t vs → vs.length = t.len
  | .nil, _, h => by rw [show _ = [] from h]; rfl
  | .cons _ _, _, ⟨_, _, _, e, _, _, hr⟩ => by rw [e, List.length_cons, hr.length]; rfl
theorem Items.app {n : List (Addr × Obj)} : ∀ {t u : Tr} {vs us : List Value}, Items n t vs → Items n u us → Items n (t.app u) (vs ++ us)
  | .nil, _, _, _, h, h2 => by rw [show _ = [] from h]; exact h2
  | .cons _ _, _, _, _, ⟨a, ws, vs', e, m, hb, hr⟩, h2 => by subst e; exact ⟨a, ws, vs' ++ _, rfl, m, hb, hr.app h2⟩
theorem Items.nilIff {n : List (Addr × Obj)} {t : Tr} {vs : List Value} (h : Items n t vs) : vs = [] ↔ t = .nil := by
  cases t with
  | nil => exact ⟨fun _ => rfl, fun _ => h⟩
  | cons b r => obtain ⟨a, ws, vs', e, _⟩ := h; subst e; simp
theorem Items.tail {n : List (Addr × Obj)} {b r : Tr} {v : Value} {vs : List Value} (h : Items n (.cons b r) (v :: vs)) : TreeIn n v b ∧ Items n r vs := by
  obtain ⟨a, ws, vs', e, m, hb, hr⟩ := h
  cases e
  exact ⟨⟨a, ws, rfl, m, hb⟩, hr⟩
theorem Items.consI {n : List (Addr × Obj)} {b r : Tr} {v : Value} {vs : List Value} (h : TreeIn n v b) (h2 : Items n r vs) : Items n (.cons b r) (v :: vs) := by
  obtain ⟨a, ws, e, m, hb⟩ := h
  subst e
  exact ⟨a, ws, vs, rfl, m, hb, h2⟩
/-- a tree seen from its k-th branch on -/
theorem Items.at {n : List (Addr × Obj)} {u : Tr} {vs : List Value} {k : Nat} (h : Items n u (vs.drop k)) (hk : k < vs.length) : ∃ b r v, u = .cons b r ∧ vs[k]? = some v ∧ TreeIn n v b ∧ Items n r (vs.drop (k + 1)) := by
  rw [List.drop_eq_getElem_cons hk] at h
  cases u with
  | nil => cases (show _ = [] from h)
  | cons b r =>
    have q := Items.tail h
    exact ⟨b, r, vs[k], rfl, by simp [hk], q.1, q.2⟩
theorem Items.none_at {n : List (Addr × Obj)} {u : Tr} {vs : List Value} {k : Nat} (h : Items n u (vs.drop k)) (hk : vs.length ≤ k) : u = .nil := by
  rw [List.drop_of_length_le hk] at h
  exact (Items.nilIff h).mp rfl

/-- the power that a branch hangs under is within the worth -/
theorem more_end {b u' : Nat} (hb : 0 < b) : (2 * ((2 * u' + 1) * 2 ^ (b - 1)) + 1) = (2 * u' + 1) * 2 ^ b + 1 := by
  obtain ⟨c, rfl⟩ : ∃ c, b = c + 1 := ⟨b - 1, by omega⟩
  rw [Nat.add_sub_cancel, Nat.pow_succ, Nat.mul_comm (2 ^ c) 2, Nat.mul_left_comm]

theorem ix_ex {n i : Nat} (h : i < n) : ∃ j, n = j + 1 + i := ⟨n - 1 - i, by omega⟩
theorem ix_a {n i j : Nat} (h : n = j + 1 + i) : n - 1 - i = j := by omega
theorem ix_b {n i j : Nat} (h : n = j + 1 + i) : n - i = j + 1 := by omega
theorem ix_c {n i j : Nat} (h : n = j + 1 + i) : n - (i + 1) = j := by omega
theorem mid_eq {a b k : Nat} (h : b = a + k) : (a + b) / 2 = a + k / 2 := by
  first
    | (subst h; rw [← Nat.add_assoc, ← Nat.two_mul, Nat.add_comm (2 * a) k, Nat.add_mul_div_left _ _ (by decide), Nat.add_comm])
    | omega
theorem half_sum (k : Nat) : k = k / 2 + (k - k / 2) := (Nat.add_sub_cancel' (Nat.div_le_self k 2)).symm
theorem half_hi {a b k : Nat} (h : b = a + k) : b = a + k / 2 + (k - k / 2) := by rw [h, Nat.add_assoc, Nat.add_sub_cancel' (Nat.div_le_self k 2)]
theorem half_lt {k : Nat} (h : (0 : Int) < k) : ((k / 2 : Nat) : Int).toNat < (k : Int).toNat := by
  rw [Int.toNat_natCast, Int.toNat_natCast]; exact Nat.div_lt_self (Int.natCast_pos.mp h) (by decide)
theorem room_r {a r c : Nat} (h : a + (r + 1) < c) : a + 1 + r < c := by rw [Nat.add_assoc, Nat.add_comm 1 r]; exact h
theorem room_u {a r c : Nat} (h : a + (8 * (r + 1) + 8) < c) : a + 3 + (8 * r + 8) < c := by omega
theorem room_i {a d c : Nat} (h : a + (d + 1) + 1 < c) : a + 1 + d + 1 < c := by omega
theorem room_j {a d c : Nat} (h : a + 20 * (d + 1) + 20 < c) : a + 3 + 20 * d + 20 < c := by omega
end
set_option compiler.extract_closed false
local macro_rules | `(tactic| ksk_a1) => `(tactic| refine is_small ?_ (by decide))
local macro_rules | `(tactic| kspl_size) => `(tactic| ((fail_if_success (with_reducible show wpAny _ _ (exec (Stmt.While _ _ _ _) _) _ _ _)); (fail_if_success (with_reducible show wpAny _ _ (exec (Stmt.For _ _ _ _ _) _) _ _ _)); (fail_if_success (with_reducible show wpAny _ _ (pyIter _) _ _ _)); (first | (fail_if_success (with_reducible show wpAny _ _ (call (Value.ref _) _) _ _ _)) | ksk_a1)))
local macro_rules | `(tactic| kfm_lit) => `(tactic| ((try dsimp only); with_reducible first | refine Cuts.nextI (by assumption) ?_ | refine Cuts.retI (by assumption) ?_))
local macro_rules | `(tactic| kfm_num) => `(tactic| (kspl_size; (first | walk1 | (dsimp only; walk1) | kfm_lit)))
local macro_rules | `(tactic| k_steps) => `(tactic| repeat' kfm_num)
local macro_rules | `(tactic| walk_at "execs cons") => `(tactic| ((fail_if_success k_gentoks); (try dsimp only); (refine execs_cut ?_; intro _ _)))
local macro_rules | `(tactic| kfm_eq) => `(tactic| (intro D' h' F' N' l1; (try dsimp only); (try k_lt l1); (try k_sweep)))
local macro_rules | `(tactic| kfm_cat2) => `(tactic| ((case F => k_asm); (case N => k_asm); (case m => k_mem); (case s => with_unfolding_all rfl); (case g => intro _; with_unfolding_all rfl); (case z => assumption)))
local macro_rules | `(tactic| kfm_cat1) => `(tactic| ((case N => k_asm); (case m => k_mem); (case z => assumption); (case p => omega); (case x => first | assumption | exact rfl); (case s => with_unfolding_all rfl); (case g => intro _; with_unfolding_all rfl)))
local macro_rules | `(tactic| kbd_text) => `(tactic| (refine fits ?_; (try simp only [List.length_append, List.length_cons, List.length_nil, List.length_drop, List.length_flatten, List.map_replicate, List.sum_replicate_nat]); omega))
local macro_rules | `(tactic| kdb_fit) => `(tactic| ((case k3 => k_asm); (case k4 => k_asm); (case k5 => k_asm); (case k6 => k_is); (case k7 => k_is); (case k8 => ktr_room); (case k9 => exact BindsTo.of_eq rfl); (case c5 => decide); (case kB => exact locs rfl); (case c2 => exact rfl); (case c3 => exact rfl); (case c4 => exact rfl)))
local macro_rules | `(tactic| walk_at "call ref") => `(tactic| (ksk_a1; (refine wpAny_call ?_); k_dflt ktr_enter))
local macro_rules | `(tactic| ksk_show) => `(tactic| (k_here; (with_reducible show wpAny _ _ (subscriptTail _ _ (Value.ref _) (Value.int _ _)) _ _ _); (first | k_dflt (refine' rl_item ?N ?m ?z ?p ?x ?_ ?s ?g; kfm_cat1) | k_dflt (refine' r_item ?N ?m ?z ?p ?x ?_ ?s ?g; kfm_cat1)); (try dsimp only)))
local macro_rules | `(tactic| walk_at "subscriptTail") => `(tactic| ksk_show)
local macro_rules | `(tactic| walk_at "subscriptTail Name Constant ref int") => `(tactic| ksk_show)
local macro_rules | `(tactic| walk_at "subscriptTail Name Name ref int") => `(tactic| ksk_show)
local macro_rules | `(tactic| walk_at "call builtin:len") => `(tactic| (k_here; (with_reducible show wpAny _ _ (call (Value.builtin "len") [Value.ref _]) _ _ _); k_dflt (refine' r_len ?N ?m ?z ?_; (case N => k_asm); (case m => first | assumption | k_mem); (case z => assumption)); intro tk' tk''; (try dsimp only)))
local macro_rules | `(tactic| walk_at "compareOp Eq ref ref") => `(tactic| (k_here; (with_reducible show wpAny _ _ (compareOp CmpOp.Eq (Value.ref _) (Value.ref _)) _ _ _); k_dflt (refine' r_eq0 ?N ?m ?b ?u ?_; (case N => k_asm); (case m => k_mem); (case b => k_mem); (case u => first | k_units | ktr_units)); (try dsimp only)))
local macro_rules | `(tactic| walk_at "compareOp NotEq ref ref") => `(tactic| (k_here; (with_reducible show wpAny _ _ (compareOp CmpOp.NotEq (Value.ref _) (Value.ref _)) _ _ _); k_dflt (refine' r_ne0 ?N ?m ?b ?u ?_; (case N => k_asm); (case m => k_mem); (case b => k_mem); (case u => first | k_units | ktr_units)); (try dsimp only)))
local macro_rules | `(tactic| k_mem) => `(tactic| first | assumption | exact List.mem_cons_self | (refine List.mem_cons_of_mem _ ?_; k_mem))
local macro_rules | `(tactic| walk_at "subscriptTail Name Slice ref ref") => `(tactic| (k_here; (with_reducible show wpAny _ _ (subscriptTail _ (PySem.Expr.Slice (some _) none none _) (Value.ref _) (Value.ref _)) _ _ _); k_dflt (refine' r_slice ?F ?N ?m ?p ?q ?_ ?s ?g ?z; kfm_cat2; (case p => omega); (case q => omega)); kfm_eq))
local macro_rules | `(tactic| walk_at "subscriptTail Name Slice ref ref") => `(tactic| (k_here; (with_reducible show wpAny _ _ (subscriptTail _ (PySem.Expr.Slice none none (some _) _) (Value.ref _) (Value.ref _)) _ _ _); k_dflt (refine' r_rev ?F ?N ?m ?_ ?s ?g ?z; kfm_cat2); kfm_eq))
local macro_rules | `(tactic| walk_at "binaryOp Add ref ref") => `(tactic| (k_here; (with_reducible show wpAny _ _ (binaryOp Operator.Add (Value.ref _) (Value.ref _)) _ _ _); k_dflt (refine' r_add ?F ?N ?m ?b ?z ?_; (case F => k_asm); (case N => k_asm); (case m => k_mem); (case b => k_mem); (case z => kbd_text)); intro D' h' F' N'; (try dsimp only); (try k_sweep)))
local macro_rules | `(tactic| ktd_sub) => `(tactic| (intro q9 hq9; repeat' (first | assumption | exact List.mem_cons_self | refine List.mem_cons_of_mem _ ?_ | apply_assumption)))
local macro_rules | `(tactic| walk_at "call builtin:len") => `(tactic| (k_here; (with_reducible show wpAny _ _ (call (Value.builtin "len") [Value.ref _]) _ _ _); k_dflt (refine' rl_len ?N ?m ?z ?_; (case N => k_asm); (case m => k_mem); (case z => assumption)); intro tk' tk''; (try dsimp only)))
local macro_rules | `(tactic| walk_at "subscriptTail Name Slice ref ref") => `(tactic| (k_here; (with_reducible show wpAny _ _ (subscriptTail _ (PySem.Expr.Slice (some _) none none _) (Value.ref _) (Value.ref _)) _ _ _); k_dflt (refine' rl_slice ?F ?N ?m ?p ?q ?_ ?s ?g ?z; kfm_cat2; (case p => omega); (case q => omega)); kfm_eq))
local macro_rules | `(tactic| walk_at "subscriptTail Name Slice ref ref") => `(tactic| (k_here; (with_reducible show wpAny _ _ (subscriptTail _ (PySem.Expr.Slice none none (some _) _) (Value.ref _) (Value.ref _)) _ _ _); k_dflt (refine' rl_rev ?F ?N ?m ?_ ?s ?g ?z; kfm_cat2); kfm_eq))
local macro_rules | `(tactic| walk_at "binaryOp Add ref ref") => `(tactic| (k_here; (with_reducible show wpAny _ _ (binaryOp Operator.Add (Value.ref _) (Value.ref _)) _ _ _); k_dflt (refine' rl_add ?F ?N ?m ?b ?z ?_; (case F => k_asm); (case N => k_asm); (case m => k_mem); (case b => k_mem); (case z => kbd_text)); kfm_eq))
local macro_rules | `(tactic| walk_at "binaryOp Mult ref int") => `(tactic| (k_here; (with_reducible show wpAny _ _ (binaryOp Operator.Mult (Value.ref _) (Value.int _ _)) _ _ _); k_dflt (refine' rl_mul ?F ?N ?m ?p ?z ?c ?_; (case F => k_asm); (case N => k_asm); (case m => k_mem); (case p => first | assumption | omega); (case z => first | assumption | (simp only [List.length_cons, List.length_nil]; omega)); (case c => first | assumption | omega)); kfm_eq))
local macro_rules | `(tactic| walk_at "binaryOp LShift int int") => `(tactic| (k_here; (with_reducible refine lshift_int ?kbn ?kbs ?_); (case kbn => assumption); (case kbs => assumption)))
local macro_rules | `(tactic| ktr_enter) => `(tactic| (refine' code_def ?k1 ?k2 ?k3 ?k4 ?k5 ?kA ?kF ?kK ?k6 ?k7 ?k8 ?k9 ?kB ?_ ?c2 ?c3 ?c4 ?c5; (case kA => exact rfl); (case kF => exact rfl); (case kK => first | assumption | exact rfl); (case k1 => k_asm); (case k2 => k_asm); kdb_fit; k_whole; intro g' L' h' FG' F' N' B' X' T'; (try dsimp only); (try k_fold); (try (with_reducible refine tok_any ?_; intro t'))))
local macro_rules | `(tactic| ksk_a2) => `(tactic| with_reducible (first | exact Nat.lt_succ_self _ | assumption | exact And.left (by assumption) | exact And.left (And.right (by assumption)) | exact And.left (And.right (And.right (by assumption))) | exact And.left (And.right (And.right (And.right (by assumption)))) | exact And.left (And.right (And.right (And.right (And.right (by assumption))))) | exact And.left (And.right (And.right (And.right (And.right (And.right (by assumption)))))) | exact And.left (And.right (And.right (And.right (And.right (And.right (And.right (by assumption))))))) | exact And.left (And.right (And.right (And.right (And.right (And.right (And.right (And.right (by assumption)))))))) | exact And.left (And.right (And.right (And.right (And.right (And.right (And.right (And.right (And.right (by assumption)))))))))))
local macro_rules | `(tactic| ksk_a3) => `(tactic| (first | ksk_a2 | (refine Nat.lt_succ_of_lt ?_; ksk_a2) | (refine Nat.lt_succ_of_lt (Nat.lt_succ_of_lt ?_); ksk_a2) | (refine Nat.lt_succ_of_lt (Nat.lt_succ_of_lt (Nat.lt_succ_of_lt ?_)); ksk_a2)))
local macro_rules | `(tactic| k_ne) => `(tactic| (refine neN ?_; (try dsimp only); first | (refine Nat.ne_of_gt ?_; ksk_a3) | (refine Nat.ne_of_lt ?_; ksk_a3)))

section
def tw : Nat → Nat
  | 0 => 1
  | r + 1 => 2 ^ tw r
theorem tw_down {k n r : Nat} (h : 2 ^ k ≤ n) (hn : n < tw r) : ∃ r₀, r = r₀ + 1 ∧ k < tw r₀ := by
  cases r with
  | zero =>
    have h2 : 0 < 2 ^ k := Nat.two_pow_pos _
    simp only [tw] at hn
    omega
  | succ r₀ => exact ⟨r₀, rfl, (Nat.pow_lt_pow_iff_right (by decide : 1 < 2)).mp (Nat.lt_of_le_of_lt h hn)⟩
theorem tw_pos : ∀ r, 0 < tw r
  | 0 => Nat.one_pos
  | _ + 1 => Nat.two_pow_pos _
theorem tw_le {r : Nat} (hr : r ≤ 5) : tw r ≤ 2 ^ 65536 := by
  have : r = 0 ∨ r = 1 ∨ r = 2 ∨ r = 3 ∨ r = 4 ∨ r = 5 := (by decide : ∀ r ≤ 5, r = 0 ∨ r = 1 ∨ r = 2 ∨ r = 3 ∨ r = 4 ∨ r = 5) r hr
  rcases this with rfl | rfl | rfl | rfl | rfl | rfl
  · exact Nat.two_pow_pos _
  · exact Nat.pow_le_pow_right (by decide) (show 1 ≤ 65536 by decide)
  · exact Nat.pow_le_pow_right (by decide) (show 2 ≤ 65536 by decide)
  · exact Nat.pow_le_pow_right (by decide) (show 4 ≤ 65536 by decide)
  · exact Nat.pow_le_pow_right (by decide) (show 16 ≤ 65536 by decide)
  · exact Nat.le_refl _
theorem len_fits {t : Tr} {r : Nat} (hr : r ≤ 5) (h : t.worth < tw r) {n : List (Addr × Obj)} {ws : List Value} (hit : Items n t ws) : ws.length ≤ 65536 := by
  rw [hit.length]
  exact t.len_lt (Nat.le_trans h (tw_le hr))

section
variable {prog : Program} {w : World} {p : Program} {loose : List Str} {mean : ExcName → Option Value} {mg mb : Str → Option Value}

def MoreC (prog : Program) (w : World) (p : Program) (loose : List Str) (mean : ExcName → Option Value) (mg mb : Str → Option Value) (r : Nat) : Prop :=
  ∀ t : Tr, t.worth < tw r → Con prog w p loose mean mg mb 112 r (8 * r + 8) (fun news vs => ∃ v, vs = [v] ∧ TreeIn news v t) (fun news r => ∃ t', t'.worth = t.worth + 1 ∧ TreeIn news r t')
def LessC (prog : Program) (w : World) (p : Program) (loose : List Str) (mean : ExcName → Option Value) (mg mb : Str → Option Value) (r : Nat) : Prop :=
  ∀ t : Tr, t ≠ .nil → t.worth < tw r → Con prog w p loose mean mg mb 119 r (8 * r + 8) (fun news vs => ∃ v, vs = [v] ∧ TreeIn news v t) (fun news r => ∃ t', t'.worth + 1 = t.worth ∧ TreeIn news r t')

theorem more_k {t n k : Nat} (h : t + 1 = 2 ^ k * (n + 1)) (hn : 0 < n) : 2 ^ k ≤ t := by
  have h2 : 0 < 2 ^ k := Nat.two_pow_pos _
  have h3 : 2 ^ k * 2 ≤ 2 ^ k * (n + 1) := Nat.mul_le_mul_left _ (by omega)
  omega

theorem more_b {t k b u : Nat} (h : t + 1 = 2 ^ k * ((2 * u + 1) * 2 ^ b + 1)) : 2 ^ b ≤ t := by
  have h2 : 0 < 2 ^ k := Nat.two_pow_pos _
  have h3 : (2 * u + 1) * 2 ^ b + 1 ≤ 2 ^ k * ((2 * u + 1) * 2 ^ b + 1) := Nat.le_mul_of_pos_left _ h2
  have h4 : 2 ^ b ≤ (2 * u + 1) * 2 ^ b := Nat.le_mul_of_pos_left _ (by omega)
  omega
set_option maxRecDepth 100000 in
set_option maxHeartbeats 8000000 in
theorem more_step (r : Nat) (hr : r ≤ 5) (hM : ∀ r', r' < r → MoreC prog w p loose mean mg mb r') (hL : ∀ r', r' < r → LessC prog w p loose mean mg mb r') : MoreC prog w p loose mean mg mb r := by
  intro t ht
  unfold Con
  intro dp un gd cn cs a ccd cl outer A₀ base h₀ L m news s vs Q E B F X N T hk hR hd hu hret
  obtain ⟨v, rfl, ta, ws, rfl, htm, hit⟩ := hR
  have hsz0 : ws.length ≤ 65536 := len_fits hr ht hit
  have hsz : ws.length ≤ sizeLine := fits (by omega)
  refine wpAny_call ?_
  k_dflt ktr_enter
  k_steps
  rename Fr _ _ _ _ => F'
  rename News _ _ _ _ => N'
  refine while_my (fun (c : Nat × Value × Tok) => [("tree", .ref ta), ("run", c.2.1), ("k", .int c.1 c.2.2)])
    (fun c nx => (∀ q ∈ news, q ∈ nx) ∧ (∃ r : Tr, r.worth = c.1 ∧ TreeIn nx c.2.1 r) ∧ c.1 ≤ ws.length ∧ ∃ u : Tr, Items nx u (ws.drop c.1) ∧ t.worth + 1 = 2 ^ c.1 * (u.worth + 1)) (fun c => ws.length - c.1) (0, _, _) F' N'
    (.cons rfl (.cons rfl (.one rfl))) ?_ ?_
  · refine ⟨fun q hq => List.mem_cons_of_mem _ (List.mem_cons_of_mem _ hq), ⟨.nil, rfl, _, [], rfl, by k_mem, rfl⟩, Nat.zero_le _, t, ?_, by simp⟩
    exact hit.mono fun q hq => List.mem_cons_of_mem _ (List.mem_cons_of_mem _ hq)
  · clear F' N'
    rintro ⟨k, rv, kt⟩ u nx h tk ⟨hsub, ⟨rt, hrw, hrt⟩, hkl, ut, hut, hw⟩ F' N'
    have htm' := hsub _ htm
    dsimp only at F' hrw hrt hkl hut hw ⊢
    by_cases hlt : k < ws.length
    · obtain ⟨b, r', v, rfl, hv, hb, hr'⟩ := hut.at hlt
      obtain ⟨ab, wb, rfl, hbm, hbi⟩ := id hb
      have hpos : 0 < (Tr.cons b r').worth := Nat.lt_of_lt_of_le (Nat.two_pow_pos _) (Tr.worth_pos b r')
      k_steps
      · -- the next branch is empty: run one more
        rename_i hwb _ _
        have hbn : b = .nil := hbi.nilIff.mp (by simpa using hwb)
        subst hbn
        obtain ⟨r₀, rfl, hk0⟩ := tw_down (more_k hw hpos) ht
        refine con_use (hM r₀ (by omega) rt (by omega)) (by assumption) (by assumption) (by assumption) (by assumption) (by assumption) rfl ⟨rv, rfl, ?_⟩ ?_ ?_ ?_
        · exact hrt.mono fun q hq => List.mem_cons_of_mem _ hq
        · dsimp only; first | exact room_r hd | exact room_u hu | omega
        · dsimp only; first | exact room_r hd | exact room_u hu | omega
        · rintro r1 nx1 h1 tk1 F1 N1 hs1 ⟨rt1, hrw1, hrt1⟩
          k_steps
          refine WPost.nextI (c' := (k + 1, r1, _)) (by assumption) (by assumption) (.cons rfl (.cons rfl (.one rfl))) ⟨?_, ⟨rt1, by omega, hrt1.mono fun q hq => List.mem_cons_of_mem _ hq⟩, hlt, r', ?_, ?_⟩ ?_
          · exact fun q hq => List.mem_cons_of_mem _ (hs1 _ (List.mem_cons_of_mem _ (hsub _ hq)))
          · exact hr'.mono fun q hq => List.mem_cons_of_mem _ (hs1 _ (List.mem_cons_of_mem _ hq))
          · rw [hw, Tr.worth, Tr.worth, Nat.pow_succ, Nat.mul_assoc]; congr 1; omega
          · dsimp only; first | exact Nat.sub_lt_sub_left hlt (Nat.lt_succ_self _) | omega
      · omega
      · -- the next branch is not empty: it goes one less
        have hwb : ¬ wb = [] := by assumption
        have hbn : b ≠ .nil := fun e => hwb (hbi.nilIff.mpr e)
        have hb0 : 0 < b.worth := Nat.pos_of_ne_zero fun e => hbn (Tr.worth_ne.mp e)
        obtain ⟨r₀, rfl, hb1⟩ := tw_down (more_b hw) ht
        refine con_use (hL r₀ (by omega) b hbn hb1) (by assumption) (by assumption) (by assumption) (by assumption) (by assumption) rfl ⟨_, rfl, ?_⟩ ?_ ?_ ?_
        · exact hb.mono fun q hq => List.mem_cons_of_mem _ hq
        · dsimp only; first | exact room_r hd | exact room_u hu | omega
        · dsimp only; first | exact room_r hd | exact room_u hu | omega
        · rintro r1 nx1 h1 tk1 F1 N1 hs1 ⟨b1, hbw1, hbt1⟩
          have htm1 := hs1 _ (List.mem_cons_of_mem _ htm')
          have hbw1' : b.worth - 1 = b1.worth := by omega
          k_steps
          refine hret _ _ _ _ (by assumption) (by assumption) ?_ ⟨.cons rt (.cons b1 r'), ?_, _, _, rfl, List.mem_cons_self, ?_⟩
          · exact fun q hq => List.mem_cons_of_mem _ (List.mem_cons_of_mem _ (List.mem_cons_of_mem _ (hs1 _ (List.mem_cons_of_mem _ (hsub _ hq)))))
          · rw [hw, Tr.worth, Tr.worth, Tr.worth, hrw, ← hbw1', more_end hb0]; rw [Nat.mul_comm]
          · refine Items.consI (hrt.mono ?_) (Items.consI (hbt1.mono ?_) ?_)
            · exact fun q hq => List.mem_cons_of_mem _ (List.mem_cons_of_mem _ (List.mem_cons_of_mem _ (hs1 _ (List.mem_cons_of_mem _ hq))))
            · exact fun q hq => List.mem_cons_of_mem _ (List.mem_cons_of_mem _ (List.mem_cons_of_mem _ hq))
            · rw [show ((k : Int) + 1).toNat = k + 1 by omega]
              exact hr'.mono fun q hq => List.mem_cons_of_mem _ (List.mem_cons_of_mem _ (List.mem_cons_of_mem _ (hs1 _ (List.mem_cons_of_mem _ hq))))
    · have hu0 := hut.none_at (Nat.le_of_not_lt hlt)
      subst hu0
      have hke : k = ws.length := by omega
      k_steps
      · refine hret _ _ _ _ (by assumption) (by assumption) ?_ ⟨.cons rt .nil, ?_, _, _, rfl, List.mem_cons_self, ?_⟩
        · exact fun q hq => List.mem_cons_of_mem _ (hsub _ hq)
        · rw [hw]; simp [Tr.worth, hrw]
        · exact Items.consI (hrt.mono fun q hq => List.mem_cons_of_mem _ hq) rfl
      · omega
end
end

section
def rep : Nat → Tr
  | 0 => .nil
  | j + 1 => .cons .nil (rep j)
theorem rep_len : ∀ j, (rep j).len = j
  | 0 => rfl
  | j + 1 => by rw [rep, Tr.len, rep_len j]
theorem rep_snoc : ∀ j, (rep j).app (.cons .nil .nil) = rep (j + 1)
  | 0 => rfl
  | j + 1 => by rw [rep, Tr.app, rep_snoc j]; rfl
theorem rep_wx (x : Nat) : ∀ j, (rep j).wx x + 1 = 2 ^ j * (x + 1)
  | 0 => by rw [rep, Tr.wx, Nat.pow_zero, Nat.one_mul]
  | j + 1 => by
    rw [rep, Tr.wx, Nat.pow_succ, Nat.mul_comm (2 ^ j) 2, Nat.mul_assoc, ← rep_wx x j]
    simp only [Tr.worth, Nat.pow_zero, Nat.mul_one]
    omega
theorem rep_worth (j : Nat) : (rep j).worth + 1 = 2 ^ j := by
  have h := rep_wx 0 j
  rw [Tr.wx_zero] at h
  simpa using h

section
variable {prog : Program} {w : World} {p : Program} {loose : List Str} {mean : ExcName → Option Value} {mg mb : Str → Option Value}

theorem exp_fits {b n r : Nat} (hr : r ≤ 5) (h : 2 ^ b ≤ n) (hn : n < tw r) : b ≤ 65536 :=
  Nat.le_of_lt ((Nat.pow_lt_pow_iff_right (by decide : 1 < 2)).mp (Nat.lt_of_le_of_lt h (Nat.lt_of_lt_of_le hn (tw_le hr))))

set_option maxRecDepth 100000 in
set_option maxHeartbeats 8000000 in
theorem less_step (r : Nat) (hr : r ≤ 5) (hM : ∀ r', r' < r → MoreC prog w p loose mean mg mb r') (hL : ∀ r', r' < r → LessC prog w p loose mean mg mb r') : LessC prog w p loose mean mg mb r := by
  intro t htn ht
  unfold Con
  intro dp un gd cn cs a ccd cl outer A₀ base h₀ L m news s vs Q E B F X N T hk hR hd hu hret
  obtain ⟨v, rfl, ta, ws, rfl, htm, hit⟩ := hR
  have hsz0 : ws.length ≤ 65536 := len_fits hr ht hit
  have hsz : ws.length ≤ sizeLine := fits (by omega)
  cases t with
  | nil => exact absurd rfl htn
  | cons b r' =>
  have hbw := Tr.worth_pos b r'
  have hb6 : b.worth ≤ 65536 := exp_fits hr hbw ht
  have hlen : ws.length = r'.len + 1 := hit.length
  obtain ⟨_, _, v0, hcons, hv0, hb0, hr0⟩ := Items.at (k := 0) (u := .cons b r') (vs := ws) hit (by omega)
  cases hcons
  refine wpAny_call ?_
  k_dflt ktr_enter
  k_steps
  rename Fr _ _ _ _ => F'
  rename News _ _ _ _ => N'
  refine while_my (fun (c : Nat × Value × Value) => [("tree", .ref ta), ("run", c.2.1), ("left", c.2.2)])
    (fun c nx => (∀ q ∈ news, q ∈ nx) ∧ c.1 ≤ b.worth ∧ TreeIn nx c.2.1 (rep (b.worth - c.1)) ∧ ∃ lt : Tr, lt.worth = c.1 ∧ TreeIn nx c.2.2 lt) (fun c => c.1) (b.worth, _, _) F' N'
    (.cons rfl (.cons rfl (.one rfl))) ?_ ?_
  · dsimp only
    rw [Nat.sub_self]
    exact ⟨by ktd_sub, Nat.le_refl _, ⟨_, [], rfl, by k_mem, rfl⟩, b, rfl, hb0.mono (by ktd_sub)⟩
  · clear F' N'
    rintro ⟨k, rv, lv⟩ u nx h tk ⟨hsub, hkb, hrt, lt, hlw, hlt⟩ F' N'
    have htm' := hsub _ htm
    dsimp only at F' hkb hrt hlw hlt ⊢
    obtain ⟨ra, rws, rfl, hram, hrai⟩ := id hrt
    obtain ⟨la, lws, rfl, hlam, hlai⟩ := id hlt
    have hrl : rws.length ≤ 65536 := by rw [hrai.length, rep_len]; omega
    have hit1 : r' ≠ .nil → ∃ b1 r1 v1, r' = .cons b1 r1 ∧ ws[1]? = some v1 ∧ TreeIn news v1 b1 ∧ Items news r1 (ws.drop 2) := fun e => by
      have e2 : ws ≠ [] ∧ 1 < ws.length := by
        cases r' with
        | nil => exact absurd rfl e
        | cons _ _ => rw [Tr.len] at hlen; exact ⟨by intro e; rw [e] at hlen; simp at hlen, by omega⟩
      exact hr0.at e2.2
    k_steps
    · -- one less of what is left, one branch more
      rename lws ≠ [] => hne
      have hln : lt ≠ .nil := fun e => hne (hlai.nilIff.mpr e)
      have hl0 : 0 < lt.worth := Nat.pos_of_ne_zero fun e => hln (Tr.worth_ne.mp e)
      obtain ⟨r₀, rfl, hb1⟩ := tw_down hbw ht
      refine con_use (hL r₀ (by omega) lt hln (by omega)) (by assumption) (by assumption) (by assumption) (by assumption) (by assumption) rfl ⟨_, rfl, ?_⟩ ?_ ?_ ?_
      · exact hlt.mono (by ktd_sub)
      · dsimp only; first | exact room_r hd | exact room_u hu | omega
      · dsimp only; first | exact room_r hd | exact room_u hu | omega
      · rintro r1 nx1 h1 tk1 F1 N1 hs1 ⟨l1, hlw1, hlt1⟩
        k_steps
        refine WPost.nextI (c' := (l1.worth, _, r1)) (by assumption) (by assumption) (.cons rfl (.cons rfl (.one rfl))) ⟨by ktd_sub, by dsimp only; omega, ?_, l1, rfl, hlt1.mono (by ktd_sub)⟩ (by dsimp only; omega)
        dsimp only
        have ek : k = l1.worth + 1 := by omega
        rw [show b.worth - l1.worth = (b.worth - k) + 1 by rw [ek, ← Nat.sub_sub, Nat.sub_add_cancel (by omega)], ← rep_snoc]
        refine ⟨_, _, rfl, List.mem_cons_of_mem _ (hs1 _ List.mem_cons_self), Items.app (hrai.mono (by ktd_sub)) (Items.consI ⟨_, [], rfl, ?_, rfl⟩ rfl)⟩
        exact List.mem_cons_of_mem _ (hs1 _ (by k_mem))
    · -- one branch alone
      rename ¬ (lws ≠ []) => hnn
      have hl0 : lt = .nil := hlai.nilIff.mp (Decidable.not_not.mp hnn)
      subst hl0
      have hr0' : r' = .nil := by
        cases r' with
        | nil => rfl
        | cons _ _ => rw [Tr.len] at hlen; omega
      subst hr0'
      refine hret _ _ _ _ (by assumption) (by assumption) (by ktd_sub) ⟨_, ?_, hrt.mono (by ktd_sub)⟩
      rw [rep_worth, ← hlw]
      simp [Tr.worth]
    · rename ¬ (lws ≠ []) => hnn
      rename _ ≠ _ => hl1
      have hl0 : lt = .nil := hlai.nilIff.mp (Decidable.not_not.mp hnn)
      subst hl0
      obtain ⟨b1, r1, v1, rfl, hv1, hb1, hr1⟩ := hit1 fun e => by subst e; rw [Tr.len] at hlen; omega
      have hbw1 : 2 ^ b1.worth ≤ (b.cons (b1.cons r1)).worth := by
        have h1 := Tr.worth_pos b1 r1
        have h2 : 0 < 2 ^ b.worth := Nat.two_pow_pos _
        have h3 : 2 * (b1.cons r1).worth + 1 ≤ (2 * (b1.cons r1).worth + 1) * 2 ^ b.worth := Nat.le_mul_of_pos_right _ h2
        rw [Tr.worth]; omega
      k_steps
      obtain ⟨r₀, rfl, hb2⟩ := tw_down hbw1 ht
      refine con_use (hM r₀ (by omega) b1 hb2) (by assumption) (by assumption) (by assumption) (by assumption) (by assumption) rfl ⟨_, rfl, ?_⟩ ?_ ?_ ?_
      · exact hb1.mono (by ktd_sub)
      · dsimp only; first | exact room_r hd | exact room_u hu | omega
      · dsimp only; first | exact room_r hd | exact room_u hu | omega
      · rintro m1 nx1 h1 tk1 F1 N1 hs1 ⟨b2, hbw2, hbt2⟩
        have htm1 := hs1 _ (List.mem_cons_of_mem _ htm')
        have hram1 := hs1 _ (List.mem_cons_of_mem _ hram)
        k_steps
        have hk0 : k = 0 := by rw [← hlw]; rfl
        subst hk0
        refine hret _ _ _ _ (by assumption) (by assumption) (by ktd_sub) ⟨(rep b.worth).app (.cons b2 r1), ?_, _, _, rfl, List.mem_cons_self, ?_⟩
        · rw [Tr.worth_app, rep_wx, Tr.worth, Tr.worth, Tr.worth, hbw2, Nat.pow_succ, Nat.mul_comm (2 ^ b.worth), ← Nat.mul_assoc, Nat.mul_comm _ 2]
        · rw [List.append_assoc]
          exact Items.app (hrai.mono (by ktd_sub)) (Items.consI (hbt2.mono (by ktd_sub)) (hr1.mono (by ktd_sub)))

theorem more_less_ok : ∀ r, r ≤ 5 → MoreC prog w p loose mean mg mb r ∧ LessC prog w p loose mean mg mb r := by
  intro r
  induction r using Nat.strongRecOn with
  | ind r ih =>
    intro hr
    exact ⟨more_step r hr (fun r' h => (ih r' h (by omega)).1) (fun r' h => (ih r' h (by omega)).2), less_step r hr (fun r' h => (ih r' h (by omega)).1) (fun r' h => (ih r' h (by omega)).2)⟩
theorem tw5 : tw 5 = 2 ^ 65536 := by
  show 2 ^ tw 4 = _
  congr 1
/-- one more -/
theorem more_ok (t : Tr) (ht : t.worth < 2 ^ 65536) : Con prog w p loose mean mg mb 112 5 48 (fun news vs => ∃ v, vs = [v] ∧ TreeIn news v t) (fun news r => ∃ t', t'.worth = t.worth + 1 ∧ TreeIn news r t') :=
  (more_less_ok 5 (Nat.le_refl _)).1 t (tw5 ▸ ht)
/-- one less -/
theorem less_ok (t : Tr) (h0 : t ≠ .nil) (ht : t.worth < 2 ^ 65536) : Con prog w p loose mean mg mb 119 5 48 (fun news vs => ∃ v, vs = [v] ∧ TreeIn news v t) (fun news r => ∃ t', t'.worth + 1 = t.worth ∧ TreeIn news r t') :=
  (more_less_ok 5 (Nat.le_refl _)).2 t h0 (tw5 ▸ ht)
end
end

section
def Tr.drop : Tr → Nat → Tr
  | t, 0 => t
  | .nil, _ + 1 => .nil
  | .cons _ r, k + 1 => r.drop k
theorem Items.drop {n : List (Addr × Obj)} : ∀ {t : Tr} {vs : List Value} (k : Nat), Items n t vs → Items n (t.drop k) (vs.drop k)
  | _, _, 0, h => by rw [List.drop_zero]; cases ‹Tr› <;> exact h
  | .nil, _, _ + 1, h => by rw [show _ = [] from h]; exact (List.drop_nil : List.drop _ ([] : List Value) = [])
  | .cons _ _, _, k + 1, ⟨_, _, _, e, _, _, hr⟩ => by rw [e, List.drop_succ_cons, Tr.drop]; exact hr.drop k
theorem Tr.drop_zero (t : Tr) : t.drop 0 = t := by cases t <;> rfl
theorem Tr.drop_at : ∀ {t : Tr} {k : Nat}, k < t.len → ∃ b, t.drop k = .cons b (t.drop (k + 1))
  | .nil, _, h => absurd h (Nat.not_lt_zero _)
  | .cons b r, 0, _ => ⟨b, by rw [Tr.drop, Tr.drop, r.drop_zero]⟩
  | .cons _ r, k + 1, h => by
    obtain ⟨b, e⟩ := Tr.drop_at (t := r) (k := k) (Nat.lt_of_succ_lt_succ h)
    exact ⟨b, by rw [Tr.drop, Tr.drop]; exact e⟩
theorem Tr.drop_all : ∀ {t : Tr} {k : Nat}, t.len ≤ k → t.drop k = .nil
  | .nil, 0, _ => rfl
  | .nil, _ + 1, _ => rfl
  | .cons _ _, 0, h => absurd h (Nat.not_succ_le_zero _)
  | .cons _ r, k + 1, h => Tr.drop_all (t := r) (Nat.le_of_succ_le_succ h)
theorem Tr.drop_le : ∀ (t : Tr) (k : Nat), (t.drop k).worth ≤ t.worth
  | t, 0 => by rw [t.drop_zero]; exact Nat.le_refl _
  | .nil, _ + 1 => Nat.le_refl _
  | .cons b r, k + 1 => by
    have h := r.drop_le k
    rw [Tr.drop, Tr.worth]
    have h2 : 0 < 2 ^ b.worth := Nat.two_pow_pos _
    have h3 : 2 * r.worth + 1 ≤ (2 * r.worth + 1) * 2 ^ b.worth := Nat.le_mul_of_pos_right _ h2
    omega

theorem bits_nat {n k : Nat} (h : n < 2 ^ k) : Builtin.Int.intBits (n : Int) ≤ k := intBits_le_iff.mpr (by simpa using h)
theorem mulok {a b : Int} (ha : Builtin.Int.intBits a ≤ 1000000) (hb : Builtin.Int.intBits b ≤ 1000000) : IntMulOk a b := by
  unfold IntMulOk
  have e : (2 : Nat) ^ 27 = 134217728 := by decide
  have : Builtin.Int.intTooBig (Builtin.Int.intBits a + Builtin.Int.intBits b) = false := by
    unfold Builtin.Int.intTooBig bitsLine
    rw [e]
    simp only [decide_eq_false_iff_not]
    omega
  simp [this]

section
variable {prog : Program} {w : World} {p : Program} {loose : List Str} {mean : ExcName → Option Value} {mg mb : Str → Option Value}

def WorthC (prog : Program) (w : World) (p : Program) (loose : List Str) (mean : ExcName → Option Value) (mg mb : Str → Option Value) (r : Nat) : Prop :=
  ∀ t : Tr, t.worth < tw r → Con prog w p loose mean mg mb 133 r (8 * r + 8) (fun news vs => ∃ v, vs = [v] ∧ TreeIn news v t) (fun _ r => ∃ tk, r = .int t.worth tk)

set_option maxRecDepth 100000 in
set_option maxHeartbeats 8000000 in
theorem worth_step (r : Nat) (hr : r ≤ 5) (hW : ∀ r', r' < r → WorthC prog w p loose mean mg mb r') : WorthC prog w p loose mean mg mb r := by
  intro t ht
  unfold Con
  intro dp un gd cn cs a ccd cl outer A₀ base h₀ L m news s vs Q E B F X N T hk hR hd hu hret
  obtain ⟨v, rfl, ta, ws, rfl, htm, hit⟩ := hR
  have hsz0 : ws.length ≤ 65536 := len_fits hr ht hit
  have hsz : ws.length ≤ sizeLine := fits (by omega)
  refine wpAny_call ?_
  k_dflt ktr_enter
  k_steps
  rename Fr _ _ _ _ => F'
  rename News _ _ _ _ => N'
  (with_unfolding_all refine' For_invVF F' ?k1 ?k2 ?_; (case k1 => exact rfl); (case k2 => exact rfl); k_whole)
  k_steps
  rename_i D h9 F' N' hD
  refine iter_tuple_my (vs := ws.reverse) (fun (c : Int × Tok) => [("worth", .int c.1 c.2)])
    (fun i c nx => (∀ q ∈ (D, tupObj ws.reverse) :: news, q ∈ nx) ∧ c.1 = ((t.drop (ws.length - i)).worth : Int)) (0, _) rfl (fun i c nx h => h.1 _ List.mem_cons_self) F' N' (.one rfl)
    ⟨fun q hq => hq, by rw [Nat.sub_zero, Tr.drop_all (Nat.le_of_eq hit.length.symm)]; rfl⟩ ?_ ?_
  · clear F' N'
    rintro i v ⟨x, xt⟩ u nx h tk I oI hi hv ⟨hsub, hx⟩ hoff hcls F' N'
    dsimp only at F' hx ⊢
    rw [List.length_reverse] at hi
    obtain ⟨k, hk1⟩ : ∃ k, ws.length = k + 1 + i := ix_ex hi
    have hkl : k < ws.length := by omega
    obtain ⟨b, hbk⟩ := Tr.drop_at (t := t) (k := k) (by rw [← hit.length]; exact hkl)
    have hv' : ws[k]? = some v := by
      rw [List.getElem?_reverse hi, show ws.length - 1 - i = k from ix_a hk1] at hv; exact hv
    have hitk := hit.drop k
    rw [hbk] at hitk
    obtain ⟨_, _, _, e1, e2, hb, _⟩ := hitk.at hkl
    cases e1
    rw [hv'] at e2
    cases e2
    rw [show ws.length - i = k + 1 from ix_b hk1] at hx
    have hdw : (t.drop k).worth = (2 * (t.drop (k + 1)).worth + 1) * 2 ^ b.worth := by rw [hbk, Tr.worth]
    have hle : (t.drop k).worth ≤ t.worth := t.drop_le k
    have hbp : 2 ^ b.worth ≤ t.worth := by
      have := Tr.worth_pos b (t.drop (k + 1))
      rw [← hbk] at this; omega
    have hb6 : b.worth ≤ 65536 := exp_fits hr hbp ht
    k_steps
    obtain ⟨r₀, rfl, hb1⟩ := tw_down hbp ht
    refine con_use (hW r₀ (by omega) b hb1) (by assumption) (by assumption) (by assumption) (by assumption) (by assumption) rfl ⟨_, rfl, ?_⟩ ?_ ?_ ?_
    · exact hb.mono (by ktd_sub)
    · dsimp only; first | exact room_r hd | exact room_u hu | omega
    · dsimp only; first | exact room_r hd | exact room_u hu | omega
    · rintro r1 nx1 h1 tk1 F1 N1 hs1 ⟨t1, rfl⟩
      have hx6 : x.natAbs < 2 ^ 65536 := by
        rw [hx]
        have h1 := t.drop_le (k + 1)
        have h2 := tw_le hr
        rw [Int.natAbs_natCast]; exact Nat.lt_of_le_of_lt h1 (Nat.lt_of_lt_of_le ht h2)
      have hmok : IntMulOk (2 * x + 1) (2 ^ (Int.toNat (b.worth : Int))) := by
        refine mulok (intBits_le_iff.mpr ?_) (intBits_le_iff.mpr ?_)
        · refine Nat.lt_of_lt_of_le (m := 2 ^ 65538) ?_ (Nat.pow_le_pow_right (by decide) (by decide))
          rw [Nat.pow_succ, Nat.pow_succ]
          generalize 2 ^ 65536 = B6 at hx6 ⊢
          omega
        · rw [Int.toNat_natCast, Int.natAbs_pow]
          exact Nat.pow_lt_pow_right (by decide) (by omega)
      k_steps
      rename News _ _ _ nx1 => N2
      refine FPost.nextI (c' := (_, _)) (by assumption) (fun q hq => N2 q (hs1 q hq)) hoff (.one rfl) ⟨hsub, ?_⟩
      rw [show ws.length - (i + 1) = k from ix_c hk1, hdw, hx]
      simp
  · rintro ⟨x, xt⟩ u nx h tk ⟨hsub, hx⟩ F' N'
    dsimp only at F' hx ⊢
    rw [List.length_reverse, Nat.sub_self, Tr.drop_zero] at hx
    subst hx
    k_steps
    exact hret _ _ _ _ (by assumption) (by assumption) (by ktd_sub) ⟨_, rfl⟩

theorem worth_all : ∀ r, r ≤ 5 → WorthC prog w p loose mean mg mb r := by
  intro r
  induction r using Nat.strongRecOn with
  | ind r ih => exact fun hr => worth_step r hr fun r' h => ih r' h (by omega)
/-- a tree's worth -/
theorem worth_ok (t : Tr) (ht : t.worth < 2 ^ 65536) : Con prog w p loose mean mg mb 133 5 48 (fun news vs => ∃ v, vs = [v] ∧ TreeIn news v t) (fun _ r => ∃ tk, r = .int t.worth tk) :=
  worth_all 5 (Nat.le_refl _) t (tw5 ▸ ht)
end
end

section
theorem Tr.wx_mono : ∀ (t : Tr) {x y : Nat}, x ≤ y → t.wx x ≤ t.wx y
  | .nil, _, _, h => h
  | .cons b r, _, _, h => by
    rw [Tr.wx, Tr.wx]
    have := r.wx_mono h
    exact Nat.mul_le_mul_right _ (by omega)
theorem Tr.len_wx (t : Tr) (x : Nat) : 2 ^ t.len ≤ t.wx x + 1 := by
  have h1 := t.two_pow_len
  have h2 := t.wx_mono (Nat.zero_le x)
  rw [t.wx_zero] at h2
  omega

theorem fdivN (k d : Nat) : (k : Int).fdiv (d : Int) = ((k / d : Nat) : Int) := by rw [Int.fdiv_eq_ediv_of_nonneg _ (by omega)]; rfl
theorem fmodN (k d : Nat) : (k : Int).fmod (d : Int) = ((k % d : Nat) : Int) := by rw [Int.fmod_eq_emod_of_nonneg _ (by omega)]; rfl
theorem fdiv2 (k : Nat) : (k : Int).fdiv 2 = ((k / 2 : Nat) : Int) := fdivN k 2
theorem fmod2 (k : Nat) : (k : Int).fmod 2 = ((k % 2 : Nat) : Int) := fmodN k 2

section
variable {prog : Program} {w : World} {p : Program} {loose : List Str} {mean : ExcName → Option Value} {mg mb : Str → Option Value}

def TreeC (prog : Program) (w : World) (p : Program) (loose : List Str) (mean : ExcName → Option Value) (mg mb : Str → Option Value) (r : Nat) : Prop :=
  ∀ n : Nat, n < tw r → Con prog w p loose mean mg mb 126 r (8 * r + 8) (fun _ vs => ∃ tk, vs = [.int n tk]) (fun nx r => ∃ t, t.worth = n ∧ TreeIn nx r t)

set_option maxRecDepth 100000 in
set_option maxHeartbeats 8000000 in
theorem tree_step (r : Nat) (hr : r ≤ 5) (hT : ∀ r', r' < r → TreeC prog w p loose mean mg mb r') : TreeC prog w p loose mean mg mb r := by
  intro n hn
  unfold Con
  intro dp un gd cn cs a ccd cl outer A₀ base h₀ L m news s vs Q E B F X N T hk hR hd hu hret
  obtain ⟨tk, rfl⟩ := hR
  refine wpAny_call ?_
  k_dflt ktr_enter
  k_steps
  rename Fr _ _ _ _ => F'
  rename News _ _ _ _ => N'
  refine while_my (fun (c : Int × Tok × Int × Tok × Value) => [("worth", .int c.1 c.2.1), ("gap", .int c.2.2.1 c.2.2.2.1), ("tree", c.2.2.2.2)])
    (fun c nx => (∀ q ∈ news, q ∈ nx) ∧ ∃ (k g : Nat) (t : Tr), c.1 = k ∧ c.2.2.1 = g ∧ TreeIn nx c.2.2.2.2 t ∧ t.wx (k * 2 ^ g) = n) (fun c => c.1.toNat) (_, _, _, _, _) F' N'
    (.cons rfl (.cons rfl (.one rfl))) ?_ ?_
  · exact ⟨by ktd_sub, n, 0, .nil, rfl, rfl, ⟨_, [], rfl, by k_mem, rfl⟩, by rw [Nat.pow_zero, Nat.mul_one]; rfl⟩
  · clear F' N'
    rintro ⟨x, xt, y, yt, tv⟩ u nx h tk ⟨hsub, k, g, t, hxk, hyg, htt, hw⟩ F' N'
    dsimp only at F' hxk hyg htt hw ⊢
    subst hxk hyg
    obtain ⟨ta, ws, rfl, htm, hit⟩ := id htt
    have hsz0 : ws.length ≤ 65536 := by
      have h1 := t.len_wx (k * 2 ^ g)
      rw [hw, ← hit.length] at h1
      exact (Nat.pow_le_pow_iff_right (by decide : 1 < 2)).mp (Nat.le_trans h1 (Nat.le_trans hn (tw_le hr)))
    have hg1 : 0 < k → 2 ^ g ≤ n := fun h => by
      have h1 := t.wx_ge (k * 2 ^ g)
      have h2 : 2 ^ g ≤ k * 2 ^ g := Nat.le_mul_of_pos_left _ h
      omega
    k_steps
    · rename 0 < (k : Int) => hk0
      rename Int.fmod _ _ = _ => hodd
      rw [fmod2] at hodd
      obtain ⟨r₀, rfl, hb1⟩ := tw_down (hg1 (by omega)) hn
      refine con_use (hT r₀ (by omega) g hb1) (by assumption) (by assumption) (by assumption) (by assumption) (by assumption) rfl ⟨_, rfl⟩ ?_ ?_ ?_
      · dsimp only; first | exact room_r hd | exact room_u hu | omega
      · dsimp only; first | exact room_r hd | exact room_u hu | omega
      · rintro r1 nx1 h1 tk1 F1 N1 hs1 ⟨b, hbw, hbt⟩
        have htm1 := hs1 _ htm
        k_steps
        refine WPost.nextI (c' := (_, _, _, _, _)) (by assumption) (by assumption) (.cons rfl (.cons rfl (.one rfl))) ⟨by ktd_sub, k / 2, 0, t.app (.cons b .nil), fdiv2 k, rfl, ?_, ?_⟩ ?_
        · exact ⟨_, _, rfl, List.mem_cons_of_mem _ List.mem_cons_self, Items.app (hit.mono (by ktd_sub)) (Items.consI (hbt.mono (by ktd_sub)) rfl)⟩
        · rw [Tr.wx_app, Tr.wx, Tr.wx, hbw, Nat.pow_zero, Nat.mul_one, ← hw, show 2 * (k / 2) + 1 = k by omega]
        · show ((k : Int).fdiv 2).toNat < (k : Int).toNat
          rw [fdiv2]; exact half_lt (by omega)
    · rename 0 < (k : Int) => hk0
      rename Int.fmod _ _ ≠ _ => hev
      rw [fmod2] at hev
      refine WPost.nextI (c' := (_, _, _, _, _)) (by assumption) (by assumption) (.cons rfl (.cons rfl (.one rfl))) ⟨by ktd_sub, k / 2, g + 1, t, fdiv2 k, rfl, htt, ?_⟩ ?_
      · rw [← hw, Nat.pow_succ, Nat.mul_comm (2 ^ g) 2, ← Nat.mul_assoc, show k / 2 * 2 = k by omega]
      · show ((k : Int).fdiv 2).toNat < (k : Int).toNat
        rw [fdiv2]; exact half_lt (by omega)
    · rename ¬ 0 < (k : Int) => hk0
      obtain rfl : k = 0 := by omega
      rw [Nat.zero_mul, Tr.wx_zero] at hw
      exact hret _ _ _ _ (by assumption) (by assumption) (by ktd_sub) ⟨t, hw, htt⟩

theorem tree_all : ∀ r, r ≤ 5 → TreeC prog w p loose mean mg mb r := by
  intro r
  induction r using Nat.strongRecOn with
  | ind r ih => exact fun hr => tree_step r hr fun r' h => ih r' h (by omega)
/-- the tree of a number -/
theorem tree_ok (n : Nat) (hn : n < 2 ^ 65536) : Con prog w p loose mean mg mb 126 5 48 (fun _ vs => ∃ tk, vs = [.int n tk]) (fun nx r => ∃ t, t.worth = n ∧ TreeIn nx r t) :=
  tree_all 5 (Nat.le_refl _) n (tw5 ▸ hn)
end
end

section
/-- one number read off octets, behind a start of its own -/
def dec : Nat → List Nat → Option (Nat × List Nat)
  | _, [] => none
  | a, b :: l => if b / 64 % 2 = 1 then dec (a * 64 + b % 64) l else some (a * 64 + b % 64, l)
/-- the octets tell these numbers and no more -/
def Rd : List Nat → List Nat → Prop
  | [], oc => oc = []
  | n :: ws, oc => ∃ oc', dec 0 oc = some (n, oc') ∧ Rd ws oc'
theorem dec_pad {r : List Nat} {n : Nat} {oc : List Nat} (k : Nat) (h : dec 0 oc = some (n, r)) : dec 0 (List.replicate (k % 2) 64 ++ oc) = some (n, r) := by
  have : k % 2 = 0 ∨ k % 2 = 1 := by omega
  rcases this with e | e <;> rw [e]
  · exact h
  · show dec 0 (64 :: oc) = _
    rw [dec]; simpa using h
def Tr.worths : Tr → List Nat
  | .nil => []
  | .cons b r => b.worth :: r.worths
theorem Tr.worths_length : ∀ t : Tr, t.worths.length = t.len
  | .nil => rfl
  | .cons _ r => by rw [Tr.worths, List.length_cons, r.worths_length]; rfl
theorem Tr.worths_drop : ∀ (t : Tr) (k : Nat), (t.drop k).worths = t.worths.drop k
  | t, 0 => by rw [t.drop_zero, List.drop_zero]
  | .nil, _ + 1 => rfl
  | .cons _ r, k + 1 => by rw [Tr.drop, Tr.worths, List.drop_succ_cons, r.worths_drop k]

/-- ints that are these naturals -/
abbrev NatsAre (vs : List Value) (ns : List Nat) : Prop := IntsAre vs (List.map (fun n : Nat => (n : Int)) ns)

theorem NatsAre.length {vs : List Value} {ns : List Nat} (h : NatsAre vs ns) : vs.length = ns.length := by rw [IntsAre.length h, List.length_map]
theorem NatsAre.append {vs us : List Value} {ns ms : List Nat} (h : NatsAre vs ns) (h2 : NatsAre us ms) : NatsAre (vs ++ us) (ns ++ ms) := by
  show IntsAre _ _
  rw [List.map_append]; exact IntsAre.append h h2
theorem NatsAre.one (n : Nat) {x : Int} (t : Tok) (h : x = n) : NatsAre [.int x t] [n] := by subst h; exact .cons _ _ .nil
theorem NatsAre.rep (n : Nat) (x : Int) (t : Tok) (h : x = n) : ∀ k, NatsAre (List.replicate k [Value.int x t]).flatten (List.replicate k n)
  | 0 => .nil
  | k + 1 => by
    rw [List.replicate_succ, List.flatten_cons, List.replicate_succ]
    exact NatsAre.append (ns := [n]) (.one n t h) (NatsAre.rep n x t h k)
theorem news_ne {h₀ h : Heap} {L a b : Addr} {o o' : Obj} {nx : List (Addr × Obj)} (N : News h₀ L h nx) (h1 : (a, o) ∈ nx) (h2 : (b, o') ∈ nx) (hc : o.cls ≠ o'.cls) : a ≠ b := by
  intro e
  subst e
  have x := (N _ h1).1
  have y := (N _ h2).1
  exact hc (congrArg Obj.cls (Option.some.inj (x.symm.trans y)))
theorem fdiv64 (l : Nat) : (l : Int).fdiv 64 = ((l / 64 : Nat) : Int) := fdivN l 64
theorem fmod64 (l : Nat) : (l : Int).fmod 64 = ((l % 64 : Nat) : Int) := fmodN l 64
theorem figv (l : Nat) : (64 : Int) + ((l : Int).fdiv 64).fmod 64 = ((64 + l / 64 % 64 : Nat) : Int) := by rw [fdiv64, fmod64]; rfl
theorem news_pick {h₀ h : Heap} {L : Addr} {q0 i : Addr × Obj} {rest nx : List (Addr × Obj)} (N : News h₀ L h (q0 :: rest)) (hs : ∀ q ∈ i :: nx, q ∈ rest) : News h₀ L h (i :: q0 :: nx) := fun q hq => by
  rcases List.mem_cons.mp hq with rfl | hq
  · exact N _ (List.mem_cons_of_mem _ (hs _ List.mem_cons_self))
  · rcases List.mem_cons.mp hq with rfl | hq
    · exact N _ List.mem_cons_self
    · exact N _ (List.mem_cons_of_mem _ (hs _ (List.mem_cons_of_mem _ hq)))
theorem Rd.cons {n : Nat} {ws oc oc' : List Nat} (h : dec 0 oc = some (n, oc')) (h2 : Rd ws oc') : Rd (n :: ws) oc := ⟨oc', h, h2⟩

section
variable {prog : Program} {w : World} {p : Program} {loose : List Str} {mean : ExcName → Option Value} {mg mb : Str → Option Value}

set_option maxRecDepth 100000 in
set_option maxHeartbeats 8000000 in
theorem file_ok (t : Tr) (hl : t.len ≤ 2000) (hb : ∀ n ∈ t.worths, n < 2 ^ 2000) : Con prog w p loose mean mg mb 140 7 80 (fun news vs => ∃ v, vs = [v] ∧ TreeIn news v t)
    (fun nx r => ∃ a vs e oc, r = .ref a ∧ (a, listOf vs.toArray e) ∈ nx ∧ NatsAre vs oc ∧ Rd t.worths oc ∧ oc.length ≤ 5000000) := by
  unfold Con
  intro dp un gd cn cs a ccd cl outer A₀ base h₀ L m news s vs Q E B F X N T hk hR hd hu hret
  obtain ⟨v, rfl, ta, ws, rfl, htm, hit⟩ := hR
  have hsz0 : ws.length ≤ 2000 := by rw [hit.length]; exact hl
  have hsz : ws.length ≤ sizeLine := fits (by omega)
  refine wpAny_call ?_
  k_dflt ktr_enter
  k_steps
  rename Fr _ _ _ _ => F'
  rename News _ _ _ _ => N'
  (with_unfolding_all refine' For_invVF F' ?k1 ?k2 ?_; (case k1 => exact rfl); (case k2 => exact rfl); k_whole)
  k_steps
  rename IsRange _ _ _ _ _ _ _ _ => hrg
  rename News _ _ _ ((_, W.listOf #[] 0) :: news) => N2
  refine iter_range_my (n := ws.length) (fun (c : Addr × List Value × Nat × List Nat) => [("tree", .ref ta), ("octets", .ref c.1)])
    (fun i c nx => (∀ q ∈ news, q ∈ nx) ∧ (c.1, listOf c.2.1.toArray c.2.2.1) ∈ nx ∧ NatsAre c.2.1 c.2.2.2 ∧ c.2.2.2.length ≤ i * 2010 ∧ ∀ rest ws', Rd ws' rest → Rd (t.worths.take i ++ ws') (c.2.2.2 ++ rest)) (_, [], 0, []) rfl hrg ?_ ?_ (by assumption) N2 (.cons rfl (.one rfl)) ?_ ?_ ?_
  · exact small_one (by omega) (by omega) (by omega) (by omega)
  · rw [rangeSize_nat]; omega
  · exact ⟨by ktd_sub, List.mem_cons_self, .nil, Nat.zero_le _, fun rest ws' h => h⟩
  · rintro i kt ⟨oa, ovs, oe, oc⟩ u nx h tk I oI hi ⟨hsub, hom, hon, hol, hrd⟩ hoff hcls F' N'
    dsimp only at F' hom hon hol hrd ⊢
    have htm' := hsub _ htm
    obtain ⟨b, hbk⟩ := Tr.drop_at (t := t) (k := i) (by rw [← hit.length]; exact hi)
    have hitk := hit.drop i
    rw [hbk] at hitk
    obtain ⟨_, _, v, e1, hv0, hb1, _⟩ := hitk.at hi
    cases e1
    have hv : ws[(0 + (i : Int)).toNat]? = some v := by rw [show (0 + (i : Int)).toNat = i by omega]; exact hv0
    have hbw : t.worths[i]? = some b.worth := by
      have := t.worths_drop i
      rw [hbk, Tr.worths] at this
      have h2 := congrArg (fun l => l[0]?) this
      simpa using h2.symm
    have hb2 : b.worth < 2 ^ 2000 := hb _ (List.mem_of_getElem? hbw)
    k_steps
    refine con_use (worth_ok b (Nat.lt_of_lt_of_le hb2 (Nat.pow_le_pow_right (by decide) (by decide)))) (by assumption) (by assumption) (by assumption) (by assumption) (by assumption) rfl ⟨_, rfl, ?_⟩ ?_ ?_ ?_
    · exact hb1.mono (by ktd_sub)
    · dsimp only; omega
    · dsimp only; omega
    · rintro r1 nx1 h1 tk1 F1 N1 hs1 ⟨t1, rfl⟩
      k_steps
      rename News _ _ _ ((_, W.listOf #[Value.int _ _] 0) :: nx1) => N3
      refine while_my (fun (c : Int × Tok × Addr × List Value × Nat × List Nat) => [("tree", .ref ta), ("octets", .ref oa), ("k", .int (0 + (i : Int)) kt), ("left", .int c.1 c.2.1), ("figures", .ref c.2.2.1)])
        (fun c nx' => (∀ q ∈ nx1, q ∈ nx') ∧ (c.2.2.1, listOf c.2.2.2.1.toArray c.2.2.2.2.1) ∈ nx' ∧ NatsAre c.2.2.2.1 c.2.2.2.2.2 ∧ ∃ l mm : Nat, c.1 = l ∧ (∀ rest, dec (l / 64) (c.2.2.2.2.2 ++ rest) = some (b.worth, rest)) ∧ l < 2 ^ mm ∧ c.2.2.2.2.2.length + mm ≤ 2001)
        (fun c => c.1.toNat) (_, _, _, [.int _ _], 0, [b.worth % 64]) (by assumption) N3 (.cons rfl (.cons rfl (.cons rfl (.cons rfl (.one rfl)))))
        ⟨by ktd_sub, List.mem_cons_self, .one _ _ (fmodN b.worth 64), b.worth, 2000, rfl, fun rest => ?_, hb2, by simp⟩ ?_
      · show dec (b.worth / 64) (b.worth % 64 :: rest) = _
        rw [dec, if_neg (by rw [Nat.div_eq_of_lt (Nat.mod_lt _ (by decide))]; decide)]
        congr 2
        first
          | (rw [Nat.mod_mod]; exact Nat.div_add_mod' _ _)
          | omega
      · rintro ⟨x, xt, fa, fvs, fe, fc⟩ u2 nx2 h2 tk2 ⟨hs2, hfm, hfn, l, mm, hx, hdec, hlm, hfl⟩ F2 N4
        dsimp only at F2 hfm hfn hx hdec hfl ⊢
        subst hx
        have hovl : ovs.length ≤ 4100000 := by rw [hon.length]; omega
        have hfvl : fvs.length ≤ 2001 := by rw [hfn.length]; omega
        have hc0 : 0 ≤ Int.fmod (0 + (i : Int)) 2 := by rw [Int.zero_add, fmod2]; omega
        have hc1 : Int.fmod (0 + (i : Int)) 2 ≤ 1 := by rw [Int.zero_add, fmod2]; omega
        have hom2 := hs2 _ (hs1 _ (List.mem_cons_of_mem _ hom))
        k_steps
        · -- one figure more
          rename (64 : Int) ≤ _ => h64
          refine WPost.nextI (c' := (_, _, _, _, _, (64 + l / 64 % 64) :: fc)) (by assumption) (by assumption) (.cons rfl (.cons rfl (.cons rfl (.cons rfl (.one rfl)))))
            ⟨by ktd_sub, List.mem_cons_self, NatsAre.append (ns := [_]) (.one _ _ (figv l)) hfn, l / 64, mm - 1, fdiv64 l, fun rest => ?_, ?_, ?_⟩ ?_
          · show dec (l / 64 / 64) ((64 + l / 64 % 64) :: (fc ++ rest)) = _
            rw [dec, if_pos (by first | (rw [Nat.add_div_left _ (by decide), Nat.div_eq_of_lt (Nat.mod_lt _ (by decide))]; done) | omega), show l / 64 / 64 * 64 + (64 + l / 64 % 64) % 64 = l / 64 by first | (rw [Nat.add_mod_left, Nat.mod_mod]; exact Nat.div_add_mod' _ _) | omega]
            exact hdec rest
          · have hm7 : 7 ≤ mm := by
              by_cases hm : 7 ≤ mm
              · exact hm
              · have := Nat.pow_le_pow_right (show 0 < 2 by decide) (show mm ≤ 6 by omega)
                omega
            obtain ⟨m0, rfl⟩ : ∃ m0, mm = m0 + 1 := ⟨mm - 1, by omega⟩
            rw [Nat.pow_succ] at hlm
            rw [Nat.add_sub_cancel]
            omega
          · have hm7 : 1 ≤ mm := by
              by_cases hm : 1 ≤ mm
              · exact hm
              · have : mm = 0 := by omega
                subst this
                omega
            dsimp only
            rw [List.length_cons]; omega
          · show ((l : Int).fdiv 64).toNat < (l : Int).toNat
            rw [fdiv64, Int.toNat_natCast, Int.toNat_natCast]; exact Nat.div_lt_self (by omega) (by decide)
        · -- the worth is written
          rename ¬ (64 : Int) ≤ _ => h64
          have hdec0 : ∀ rest, dec 0 (fc ++ rest) = some (b.worth, rest) := fun rest => by
            have := hdec rest
            rwa [show l / 64 = 0 by omega] at this
          have hck : (Int.fmod (0 + (i : Int)) 2).toNat = i % 2 := by rw [Int.zero_add, fmod2]; rfl
          rename News _ _ _ ((_, W.listOf (_ ++ _ ++ fvs).toArray 0) :: _) => N5
          refine FPost.nextI (c' := (_, _, _, oc ++ List.replicate (i % 2) 64 ++ fc)) (by assumption) (news_pick (nx := nx) N5 (by ktd_sub)) ?_ (.cons rfl (.one rfl)) ⟨by ktd_sub, List.mem_cons_self, ?_, ?_, ?_⟩
          · intro q hq
            rcases List.mem_cons.mp hq with rfl | hq
            · refine news_ne N5 List.mem_cons_self (List.mem_cons_of_mem _ (List.mem_cons_of_mem _ (List.mem_cons_of_mem _ (List.mem_cons_of_mem _ (hs2 _ (hs1 _ List.mem_cons_self)))))) ?_
              rw [hcls]; simp
            · exact hoff q hq
          · rw [hck]
            exact (hon.append (.rep 64 64 _ rfl _)).append hfn
          · dsimp only
            rw [List.length_append, List.length_append, List.length_replicate]
            omega
          · intro rest ws' hr'
            have ht1 : t.worths.take (i + 1) = t.worths.take i ++ [b.worth] := by
              rw [List.take_add_one, hbw]; rfl
            rw [ht1, List.append_assoc, List.append_assoc, List.append_assoc]
            exact hrd _ _ (Rd.cons (dec_pad i (hdec0 rest)) hr')
  · rintro ⟨oa, ovs, oe, oc⟩ u nx h tk ⟨hsub, hom, hon, hol, hrd⟩ F' N'
    dsimp only at F' hom hon hol hrd ⊢
    k_steps
    refine hret _ _ _ _ (by assumption) (by assumption) (by ktd_sub) ⟨_, _, _, oc, rfl, hom, hon, ?_, by omega⟩
    have := hrd [] [] rfl
    rwa [List.append_nil, List.append_nil, List.take_of_length_le (by rw [t.worths_length, hit.length]; exact Nat.le_refl _)] at this
end
end

section
def made : List Nat → Nat
  | [] => 0
  | g :: r => (2 * made r + 1) * 2 ^ g
theorem made_worths : ∀ t : Tr, made t.worths = t.worth
  | .nil => rfl
  | .cons b r => by rw [Tr.worths, made, made_worths r, Tr.worth]
theorem made_drop_le : ∀ (l : List Nat) (k : Nat), made (l.drop k) ≤ made l
  | l, 0 => by rw [List.drop_zero]; exact Nat.le_refl _
  | [], _ + 1 => Nat.le_refl _
  | g :: r, k + 1 => by
    rw [List.drop_succ_cons, made]
    have h := made_drop_le r k
    have h2 : 0 < 2 ^ g := Nat.two_pow_pos _
    have h3 : 2 * made r + 1 ≤ (2 * made r + 1) * 2 ^ g := Nat.le_mul_of_pos_right _ h2
    omega
theorem NatsAre.get {vs : List Value} {ns : List Nat} (h : NatsAre vs ns) {k : Nat} {v : Value} (hv : vs[k]? = some v) : ∃ n t, ns[k]? = some n ∧ v = .int n t := by
  have hk : k < ns.length := by rw [← h.length]; exact (List.getElem?_eq_some_iff.mp hv).1
  obtain ⟨t, ht⟩ := IntsAre.get h k (ns[k] : Int) (by simp [hk])
  rw [hv] at ht
  exact ⟨ns[k], t, by simp [hk], Option.some.inj ht⟩
theorem shlok {a n : Int} {k : Nat} (ha : a.natAbs < 2 ^ k) (hk : k ≤ 1000000) (hn : n ≤ 1000000) : (Builtin.Int.intBits a : Int) + n ≤ 2 ^ 27 := kbm_shl (m := k) (intBits_le_iff.mpr ha) hn (by omega)

section
variable {prog : Program} {w : World} {p : Program} {loose : List Str} {mean : ExcName → Option Value} {mg mb : Str → Option Value}

set_option maxRecDepth 100000 in
set_option maxHeartbeats 8000000 in
theorem made_ok (ns : List Nat) (hb : made ns < 2 ^ 2000) (hlen : ns.length ≤ 1000000) : Con prog w p loose mean mg mb 154 3 40 (fun news vs => ∃ a us e, vs = [.ref a] ∧ (a, listOf us.toArray e) ∈ news ∧ NatsAre us ns)
    (fun _ r => ∃ tk, r = .int (made ns) tk) := by
  unfold Con
  intro dp un gd cn cs a ccd cl outer A₀ base h₀ L m news s vs Q E B F X N T hk hR hd hu hret
  obtain ⟨ga, us, e, rfl, hgm, hgn⟩ := hR
  have hsz0 : us.length ≤ 1000000 := by rw [hgn.length]; exact hlen
  have hsz : us.length ≤ sizeLine := fits (by omega)
  refine wpAny_call ?_
  k_dflt ktr_enter
  k_steps
  rename Fr _ _ _ _ => F'
  rename News _ _ _ _ => N'
  (with_unfolding_all refine' For_invVF F' ?k1 ?k2 ?_; (case k1 => exact rfl); (case k2 => exact rfl); k_whole)
  k_steps
  rename_i D h9 F' N' hD
  refine iter_list_my (vs := us.reverse) (n := 0) (fun (c : Int × Tok) => [("number", .int c.1 c.2)])
    (fun i c nx => (∀ q ∈ (D, listOf us.reverse.toArray 0) :: news, q ∈ nx) ∧ c.1 = (made (ns.drop (us.length - i)) : Int)) (0, _) rfl (fun i c nx h => h.1 _ List.mem_cons_self) F' N' (.one rfl)
    ⟨fun q hq => hq, by rw [Nat.sub_zero, hgn.length, List.drop_of_length_le (Nat.le_refl _)]; rfl⟩ ?_ ?_
  · clear F' N'
    rintro i v ⟨x, xt⟩ u nx h tk I oI hi hv ⟨hsub, hx⟩ hoff hcls F' N'
    dsimp only [envOf] at F' N'
    dsimp only at hx ⊢
    rw [List.length_reverse] at hi
    obtain ⟨k, hk1⟩ : ∃ k, us.length = k + 1 + i := ix_ex hi
    have hkl : k < us.length := by omega
    have hv' : us[k]? = some v := by
      rw [List.getElem?_reverse hi, show us.length - 1 - i = k from ix_a hk1] at hv; exact hv
    obtain ⟨g, gt, hg, rfl⟩ := hgn.get hv'
    rw [show us.length - i = k + 1 from ix_b hk1] at hx
    have hdk : ns.drop k = g :: ns.drop (k + 1) := by
      obtain ⟨h1, h2⟩ := List.getElem?_eq_some_iff.mp hg
      rw [List.drop_eq_getElem_cons h1, h2]
    have hmk : made (ns.drop k) = (2 * made (ns.drop (k + 1)) + 1) * 2 ^ g := by rw [hdk, made]
    have hle := made_drop_le ns k
    have hle1 := made_drop_le ns (k + 1)
    have hg2 : 2 ^ g < 2 ^ 2000 := by
      have : 2 ^ g ≤ (2 * made (ns.drop (k + 1)) + 1) * 2 ^ g := Nat.le_mul_of_pos_left _ (by omega)
      omega
    have hg3 : g < 2000 := (Nat.pow_lt_pow_iff_right (by decide : 1 < 2)).mp hg2
    have hg0 : (0 : Int) ≤ (g : Int) := by omega
    have hsh : (Builtin.Int.intBits (x + x + 1) : Int) + (g : Int) ≤ 2 ^ 27 := by
      refine shlok (k := 2002) ?_ (by omega) (by omega)
      rw [Nat.pow_succ, Nat.pow_succ]; omega
    k_steps
    refine FPost.nextI (c' := (_, _)) (by assumption) (by assumption) hoff (.one rfl) ⟨hsub, ?_⟩
    rw [show us.length - (i + 1) = k from ix_c hk1, hmk, hx, show (made (ns.drop (k + 1)) : Int) + made (ns.drop (k + 1)) + 1 = ((2 * made (ns.drop (k + 1)) + 1 : Nat) : Int) by omega]
    simp
  · rintro ⟨x, xt⟩ u nx h tk ⟨hsub, hx⟩ F' N'
    dsimp only [envOf] at F' N'
    dsimp only at hx ⊢
    rw [List.length_reverse, Nat.sub_self, List.drop_zero] at hx
    subst hx
    k_steps
    exact hret _ _ _ _ (by assumption) (by assumption) (by ktd_sub) ⟨_, rfl⟩
end
end

section
abbrev itObj (l : Addr) (i : Nat) : Obj := { cls := .type "list_iterator", data := .fields #[.ref l, .int i 0] }
section
variable {prog : Program} {w : World} {A : Around} {E : Value → Shared → Prop} {s : Shared} {h₀ : Heap} {L l I : Addr} {m : Str → Option Value} {news : List (Addr × Obj)}

theorem news_upd1 {o o' : Obj} {h' : Heap} (F : Fr h₀ L s.heap m) (N : News h₀ L s.heap ((I, o) :: news)) (hoff : ∀ p ∈ news, p.1 ≠ I) (hs : Heap.SameBut I s.heap h') (ho : h'.get? I = some o') : Fr h₀ L h' m ∧ News h₀ L h' ((I, o') :: news) := by
  have z := N _ List.mem_cons_self
  exact ⟨F.change hs z.2.1 z.2.2, News.setIn (own := []) N (fun _ h => nomatch h) hoff hs ho⟩

theorem r_iter {vs : List Value} {n : Nat} {Q : Value → Shared → Prop} (F : Fr h₀ L s.heap m) (N : News h₀ L s.heap news) (hm : (l, listOf vs.toArray n) ∈ news)
    (h : ∀ D h', Fr h₀ L h' m → News h₀ L h' ((D, itObj l 0) :: news) → (∀ p ∈ news, p.1 < D) → Q (.ref D) { s with heap := h' }) :
    wpAny (model prog w) A (call (.builtin "iter") [.ref l]) Q E s := by
  refine Calls.call_function_entry (by decide +kernel) (by decide +kernel) kdk_entry_iter (kdk_args_iter _) ?_
  unfold Builtin.«iter»
  refine wpAny_bind (m := someArgs "iter" 1 2 _) (wpAny_of_eq (a := [Value.ref l]) (by first | rfl | kernel_rfl!) ?_)
  show wpAny _ _ (pyIter (.ref l) >>= _) _ _ _
  refine wpAny_bind (wpAny_pyIter_list ⟨_, (N _ hm).1, rfl, n, rfl⟩ ?_)
  exact wpAny_pure ⟨_, rfl, h _ _ (F.push _) (News.push F N _ rfl) fun q hq => Heap.lt_size (N q hq).1⟩

theorem r_append {vs : List Value} {n : Nat} {x : Value} {Q : Value → Shared → Prop} (F : Fr h₀ L s.heap m) (N : News h₀ L s.heap ((l, listOf vs.toArray n) :: news)) (hoff : ∀ p ∈ news, p.1 ≠ l) (hz : vs.length ≤ sizeLine)
    (h : ∀ h', Fr h₀ L h' m → News h₀ L h' ((l, listOf (vs ++ [x]).toArray (n + 1)) :: news) → Q .none { s with heap := h' }) :
    wpAny (model prog w) A (call (.builtin "list.append") [.ref l, x]) Q E s := by
  refine append_K F N (.head hoff) (fun h' F' N' => h h' F' ?_) (by rw [List.size_toArray]; exact hz)
  have e : vs.toArray.push x = (vs ++ [x]).toArray := by simp
  rw [← e]; exact N'

theorem special_item {i : Nat} {vs : List Value} {n : Nat} {x : Value} {Q : Option Value → Shared → Prop} (hit : s.heap.get? I = some (itObj l i)) (hl : s.heap.get? l = some (listOf vs.toArray n)) (hx : vs[i]? = some x)
    (hQ : ∀ h', h'.get? I = some (itObj l (i + 1)) → Heap.SameBut I s.heap h' → Q (some x) { s with heap := h' }) :
    wpAny (model prog w) A (callSpecial? (.ref I) (Str.ofString "__next__")) Q E s := by
  have hT : s.TypeIs (.ref I) "list_iterator" := ⟨_, hit, rfl⟩
  refine wpAny_callSpecial?_slot (name := Str.ofString "__next__") hT slot_listiter_next
    (wpAny_call_entry slot_listiter_next hT entry_listiter_next ?_ (args_listiter_next _))
  show wpAny _ _ (field (.ref I) 0 >>= _) _ _ s
  refine wpAny_bind (wpAny_field hit rfl (x := .ref l) rfl ?_)
  show wpAny _ _ (if (Value.ref l == Value.none) = true then _ else _) _ _ s
  rw [if_neg (show ¬ ((Value.ref l == Value.none) = true) from Bool.false_ne_true)]
  show wpAny _ _ (field (.ref I) 1 >>= _) _ _ s
  refine wpAny_bind (wpAny_field hit rfl (x := .int i 0) rfl ?_)
  show wpAny _ _ (seqItems? (.ref l) >>= _) _ _ s
  refine wpAny_bind (wpAny_seqItems hl rfl ?_)
  have hx' : vs.toArray[i]? = some x := by simpa using hx
  simp only [Int.toNat_natCast, hx']
  refine wpAny_bind (wpAny_setField hit rfl (by simp) (wpAny_pure ⟨x, rfl, hQ _ ?_ (Heap.SameBut.update ..)⟩))
  rw [Heap.get?_update_self _ hit rfl]
  simp [Obj.mapFields, rawInt]

theorem special_end {i : Nat} {vs : List Value} {n : Nat} {Q : Option Value → Shared → Prop} (hh : A.handled = none) (hit : s.heap.get? I = some (itObj l i)) (hl : s.heap.get? l = some (listOf vs.toArray n)) (hx : vs[i]? = none)
    (hE : ∀ h₁ h' e, Heap.SameBut I s.heap h₁ → (∃ o, h₁.get? I = some o) → Heap.MadeExc h₁ h' e "StopIteration" [] → E (.ref e) { s with heap := h' }) :
    wpAny (model prog w) A (callSpecial? (.ref I) (Str.ofString "__next__")) Q E s := by
  have hT : s.TypeIs (.ref I) "list_iterator" := ⟨_, hit, rfl⟩
  refine wpAny_callSpecial?_slot (name := Str.ofString "__next__") hT slot_listiter_next
    (wpAny_call_entry slot_listiter_next hT entry_listiter_next ?_ (args_listiter_next _))
  show wpAny _ _ (field (.ref I) 0 >>= _) _ _ s
  refine wpAny_bind (wpAny_field hit rfl (x := .ref l) rfl ?_)
  show wpAny _ _ (if (Value.ref l == Value.none) = true then _ else _) _ _ s
  rw [if_neg (show ¬ ((Value.ref l == Value.none) = true) from Bool.false_ne_true)]
  show wpAny _ _ (field (.ref I) 1 >>= _) _ _ s
  refine wpAny_bind (wpAny_field hit rfl (x := .int i 0) rfl ?_)
  show wpAny _ _ (seqItems? (.ref l) >>= _) _ _ s
  refine wpAny_bind (wpAny_seqItems hl rfl ?_)
  have hx' : vs.toArray[i]? = none := by simpa using hx
  simp only [Int.toNat_natCast, hx']
  refine wpAny_bind (wpAny_rule (wpAny_bind (wpAny_setField hit rfl (by simp) ?_)))
  show wpAny _ _ (newExc (.type "StopIteration") [] >>= _) _ _ _
  refine wpAny_bind ?_
  simp only [newExc, newTuple]
  refine wpAny_bind (wpAny_newObj_type ?_ (by size_fits))
  refine wpAny_bind (m := firstArgMember _ _) (wpAny_of_eq (a := Value.none) (by first | rfl | (simp only [firstArgMember]; rfl)) ?_)
  refine wpAny_newObj_type ?_ (by size_fits)
  simp only [raiseNew]
  refine wpAny_bind (wpAny_handled ?_)
  first | rw [show A.in1.handled = none from hh] | rw [hh]
  refine wpAny_bind (wpAny_pure (wpAny_throw ?_))
  refine hE (s.heap.update I (Obj.mapFields (·.setIfInBounds 0 .none))) _ _ (Heap.SameBut.update ..) ⟨_, Heap.get?_update_self _ hit rfl⟩ ⟨?_, ?_, ?_⟩
  · exact fun b o e => Heap.get?_push_of_some _ (Heap.get?_push_of_some _ e)
  · exact Heap.get?_none_of_le (by rw [Heap.size_push]; exact Nat.le_succ _)
  · refine ⟨(s.heap.update I (Obj.mapFields (·.setIfInBounds 0 .none))).objs.size, ?_, Heap.get?_none_of_le (Nat.le_refl _), ?_⟩
    · exact Heap.get?_push_size _ rfl
    · exact Heap.get?_push_of_some _ (Heap.get?_push_size _ rfl)

theorem r_next {i : Nat} {vs : List Value} {n : Nat} {x : Value} {Q : Value → Shared → Prop} (F : Fr h₀ L s.heap m) (N : News h₀ L s.heap ((I, itObj l i) :: news)) (hoff : ∀ p ∈ news, p.1 ≠ I) (hm : (l, listOf vs.toArray n) ∈ news) (hx : vs[i]? = some x)
    (h : ∀ h', Fr h₀ L h' m → News h₀ L h' ((I, itObj l (i + 1)) :: news) → Q x { s with heap := h' }) :
    wpAny (model prog w) A (call (.builtin "next") [.ref I]) Q E s := by
  have hI := (N _ List.mem_cons_self).1
  refine Calls.call_function_entry (by decide +kernel) (by decide +kernel) kdk_entry_next (kdk_args_next _) ?_
  unfold Builtin.«next»
  refine wpAny_bind (m := someArgs "next" 1 2 _) (wpAny_of_eq (a := [Value.ref I]) (by first | rfl | kernel_rfl!) ?_)
  dsimp only
  refine wpAny_bind (wpAny_specialOf (T := "list_iterator") (name := Str.ofString "__next__") ⟨_, hI, rfl⟩ slot_listiter_next.lookup ?_)
  refine wpAny_ite_split (fun hab => absurd hab (by decide)) (fun _ => ?_)
  refine wpAny_bind (special_item hI (N _ (List.mem_cons_of_mem _ hm)).1 hx fun h' hit' hs => ?_)
  obtain ⟨F', N'⟩ := news_upd1 F N hoff hs hit'
  exact wpAny_pure ⟨_, rfl, h h' F' N'⟩

theorem r_next_end {i : Nat} {vs : List Value} {n : Nat} {Q : Value → Shared → Prop} (hh : A.handled = none) (F : Fr h₀ L s.heap m) (N : News h₀ L s.heap ((I, itObj l i) :: news)) (hoff : ∀ p ∈ news, p.1 ≠ I) (hm : (l, listOf vs.toArray n) ∈ news) (hx : vs[i]? = none)
    (h : ∀ h₁ h' e, Fr h₀ L h₁ m → News h₀ L h₁ news → Heap.MadeExc h₁ h' e "StopIteration" [] → E (.ref e) { s with heap := h' }) :
    wpAny (model prog w) A (call (.builtin "next") [.ref I]) Q E s := by
  have hI := (N _ List.mem_cons_self).1
  refine Calls.call_function_entry (by decide +kernel) (by decide +kernel) kdk_entry_next (kdk_args_next _) ?_
  unfold Builtin.«next»
  refine wpAny_bind (m := someArgs "next" 1 2 _) (wpAny_of_eq (a := [Value.ref I]) (by first | rfl | kernel_rfl!) ?_)
  dsimp only
  refine wpAny_bind (wpAny_specialOf (T := "list_iterator") (name := Str.ofString "__next__") ⟨_, hI, rfl⟩ slot_listiter_next.lookup ?_)
  refine wpAny_ite_split (fun hab => absurd hab (by decide)) (fun _ => ?_)
  refine wpAny_bind (special_end hh hI (N _ (List.mem_cons_of_mem _ hm)).1 hx fun h₁ h' e hs ⟨o, ho⟩ hx' => ?_)
  obtain ⟨F', N'⟩ := news_upd1 F N hoff hs ho
  exact h h₁ h' e F' (fun q hq => N' q (List.mem_cons_of_mem _ hq)) hx'
end
end

section
theorem bitOr_nat (m n : Nat) : Builtin.bitOr (m : Int) (n : Int) = ((m ||| n : Nat) : Int) := by
  have e : ∀ k : Nat, Builtin.bitNot (Builtin.bitNot (k : Int)) = (k : Int) := fun k => by unfold Builtin.bitNot; omega
  have h1 : ¬ (0 ≤ Builtin.bitNot (m : Int)) := by unfold Builtin.bitNot; omega
  have h2 : ¬ (0 ≤ Builtin.bitNot (n : Int)) := by unfold Builtin.bitNot; omega
  unfold Builtin.bitOr
  show Builtin.bitNot (Builtin.bitAnd (Builtin.bitNot (m : Int)) (Builtin.bitNot (n : Int))) = _
  have h3 : Builtin.bitAnd (Builtin.bitNot (m : Int)) (Builtin.bitNot (n : Int)) = Builtin.bitNot (((Builtin.bitNot (Builtin.bitNot (m : Int))).toNat ||| (Builtin.bitNot (Builtin.bitNot (n : Int))).toNat : Nat) : Int) := by
    unfold Builtin.bitAnd
    rw [decide_eq_false h1, decide_eq_false h2]
  rw [h3, e, e, e, Int.toNat_natCast, Int.toNat_natCast]
theorem and63 (b : Nat) : Builtin.bitAnd (b : Int) 63 = ((b % 64 : Nat) : Int) := by rw [bitAnd_m6]; rfl
theorem and64 (b : Nat) : Builtin.bitAnd (b : Int) 64 = ((b / 64 % 2 * 64 : Nat) : Int) := by
  have h := kbt_bit (b : Int) 6
  rw [show (2 : Int) ^ 6 = 64 by decide] at h
  rw [h]; rfl
theorem or_fig (v b : Nat) : Builtin.bitOr ((v : Int) * 2 ^ (6 : Int).toNat) ((b % 64 : Nat) : Int) = ((v * 64 + b % 64 : Nat) : Int) := by
  have e : ((v : Int) * 2 ^ (6 : Int).toNat) = ((v * 64 : Nat) : Int) := by
    rw [show (6 : Int).toNat = 6 by rfl, show (2 : Int) ^ 6 = 64 by decide]; omega
  rw [e, bitOr_nat]
  have h := Nat.two_pow_add_eq_or_of_lt (i := 6) (b := b % 64) (by omega) v
  rw [show 2 ^ 6 = 64 by decide, Nat.mul_comm] at h
  rw [h]
theorem dec_ge : ∀ {l : List Nat} {a n : Nat} {r : List Nat}, dec a l = some (n, r) → a ≤ n
  | [], _, _, _, h => by rw [dec] at h; cases h
  | b :: l, a, n, r, h => by
    rw [dec] at h
    split at h
    · have := dec_ge h; omega
    · cases h; omega

section
variable {prog : Program} {w : World} {p : Program} {loose : List Str} {mean : ExcName → Option Value} {mg mb : Str → Option Value}

set_option maxRecDepth 100000 in
set_option maxHeartbeats 8000000 in
theorem parse_val {dp un : Nat} {gd : Option (List Code)} {cn : Str} {cs : Scope} {a : Addr} {ccd : Value} {cl : List (Str × Addr)} {outer : List Env} {A₀ : Around} {base h₀ : Heap} {L : Addr} {m : Str → Option Value} {nx : List (Addr × Obj)} {s : Shared}
    {Q E : Value → Shared → Prop} {I l : Addr} {i e n : Nat} {vs : List Value} {oc r : List Nat} (B : Below A₀ base outer h₀) (F : Fr h₀ L s.heap m) (X : (Mine.hd.heap_39 w.params).In h₀) (N : News h₀ L s.heap ((I, itObj l i) :: nx)) (T : Top p loose mean mg mb h₀) (hk : cs.kind = .function)
    (hoff : ∀ p ∈ nx, p.1 ≠ I) (hm : (l, listOf vs.toArray e) ∈ nx) (hn : NatsAre vs oc) (hb : n < 2 ^ 2000) (hdec : dec 0 (oc.drop i) = some (n, r)) (hd : dp + 2 < recursionLimit) (hu : un + 20 < cLine)
    (ret : ∀ j tk h' tk', i < j → j ≤ oc.length → oc.drop j = r → Fr h₀ L h' m → News h₀ L h' ((I, itObj l j) :: nx) → Q (.int n tk) { s with heap := h', toks := tk' }) :
    wpAny (model prog w) (ktrTop dp un gd cn cs L a ccd cl outer) (call (.ref 21) [.ref I]) Q E s := by
  have at_ : ∀ {k : Nat} {v : Nat} , dec v (oc.drop k) = some (n, r) → ∃ b bt, oc[k]? = some b ∧ vs[k]? = some (.int (b : Int) bt) ∧ k < oc.length ∧ (if b / 64 % 2 = 1 then dec (v * 64 + b % 64) (oc.drop (k + 1)) = some (n, r) else v * 64 + b % 64 = n ∧ oc.drop (k + 1) = r) := fun {k v} h => by
    have hk : k < oc.length := by
      by_cases hk : k < oc.length
      · exact hk
      · rw [List.drop_of_length_le (by omega)] at h; cases h
    rw [List.drop_eq_getElem_cons hk, dec] at h
    obtain ⟨bt, hbt⟩ := IntsAre.get hn k (oc[k] : Int) (by simp [hk])
    refine ⟨oc[k], bt, by simp [hk], hbt, hk, ?_⟩
    split at h
    · rename_i h1; rw [if_pos h1]; exact h
    · rename_i h1; rw [if_neg h1]; cases h; exact ⟨rfl, rfl⟩
  obtain ⟨b0, bt0, hb0, hv0, hk0, hs0⟩ := at_ hdec
  refine wpAny_call ?_
  k_dflt ktr_enter
  k_steps
  refine r_next (by assumption) (by assumption) hoff hm hv0 ?_
  intro h1 F1 N1
  k_steps
  rename Fr _ _ _ _ => F2
  rename News _ _ _ ((I, itObj l (i + 1)) :: nx) => N2
  refine while_my (fun (c : Nat × Int × Tok × Int × Tok) => [("iterator", .ref I), ("b", .int c.2.1 c.2.2.1), ("val", .int c.2.2.2.1 c.2.2.2.2)])
    (fun c nx' => nx' = (I, itObj l c.1) :: nx ∧ i < c.1 ∧ c.1 ≤ oc.length ∧ ∃ bb v : Nat, c.2.1 = bb ∧ c.2.2.2.1 = v ∧ (if bb / 64 % 2 = 1 then dec v (oc.drop c.1) = some (n, r) else v = n ∧ oc.drop c.1 = r)) (fun c => oc.length - c.1) (i + 1, _, _, _, _) F2 N2
    (.cons rfl (.cons rfl (.one rfl))) ⟨rfl, Nat.lt_succ_self _, hk0, b0, b0 % 64, rfl, and63 b0, by simpa using hs0⟩ ?_
  clear F2 N2
  rintro ⟨j, bx, bt, vx, vt⟩ u nx1 h tk ⟨rfl, hij, hjl, bb, v, hbx, hvx, hst⟩ F' N'
  dsimp only at F' N' hij hjl hbx hvx hst ⊢
  subst hbx hvx
  k_steps
  · -- one octet more
    rename Builtin.bitAnd _ 64 ≠ 0 => h64
    rw [and64] at h64
    have hfl : bb / 64 % 2 = 1 := by omega
    rw [if_pos hfl] at hst
    obtain ⟨b1, bt1, hb1, hv1, hk1, hs1⟩ := at_ hst
    have hvn := dec_ge hst
    refine ilshift_int (by decide) (shlok (k := 2000) (by rw [Int.natAbs_natCast]; omega) (by omega) (by omega)) ?_
    k_steps
    refine r_next (by assumption) (by assumption) hoff hm hv1 ?_
    intro h1 F1 N1
    k_steps
    rename Fr _ _ _ _ => F2
    rename News _ _ _ ((I, itObj l (j + 1)) :: nx) => N2
    refine WPost.nextI (c' := (j + 1, _, _, _, _)) F2 N2 (.cons rfl (.cons rfl (.one rfl))) ⟨rfl, by dsimp only; omega, by dsimp only; omega, b1, v * 64 + b1 % 64, rfl, ?_, hs1⟩ (by dsimp only; first | exact Nat.sub_lt_sub_left (by assumption) (Nat.lt_succ_self _) | omega)
    dsimp only
    rw [and63]; exact or_fig v b1
  · -- the last octet
    rename Builtin.bitAnd _ 64 = 0 => h64
    rw [and64] at h64
    have hfl : ¬ bb / 64 % 2 = 1 := by omega
    rw [if_neg hfl] at hst
    obtain ⟨rfl, hr⟩ := hst
    exact ret j _ _ _ hij hjl hr (by assumption) (by assumption)

set_option maxRecDepth 100000 in
set_option maxHeartbeats 8000000 in
theorem parse_end {dp un : Nat} {gd : Option (List Code)} {cn : Str} {cs : Scope} {a : Addr} {ccd : Value} {cl : List (Str × Addr)} {outer : List Env} {A₀ : Around} {base h₀ : Heap} {L : Addr} {m : Str → Option Value} {nx : List (Addr × Obj)} {s : Shared}
    {Q E : Value → Shared → Prop} {I l : Addr} {i e : Nat} {vs : List Value} (B : Below A₀ base outer h₀) (F : Fr h₀ L s.heap m) (X : (Mine.hd.heap_39 w.params).In h₀) (N : News h₀ L s.heap ((I, itObj l i) :: nx)) (T : Top p loose mean mg mb h₀) (hk : cs.kind = .function)
    (hoff : ∀ p ∈ nx, p.1 ≠ I) (hm : (l, listOf vs.toArray e) ∈ nx) (hx : vs[i]? = none) (hd : dp + 2 < recursionLimit) (hu : un + 20 < cLine)
    (raised : ∀ e t h' tk' G, Fr h₀ L G m → RaisedS base G (envX cn cs L a ccd cl :: outer) e (.type "StopIteration") t [] nx h' → G.UpToSlots h' → E (.ref e) { s with heap := h', toks := tk' }) :
    wpAny (model prog w) (ktrTop dp un gd cn cs L a ccd cl outer) (call (.ref 21) [.ref I]) Q E s := by
  refine wpAny_call ?_
  k_dflt ktr_enter
  k_steps
  refine r_next_end rfl (by assumption) (by assumption) hoff hm hx ?_
  intro h1 h2 e1 F1 N1 hx1
  rename Fr h₀ L _ m => FG
  rename Below (ktrTop dp un gd cn cs L a ccd cl outer) _ _ _ => BG
  refine leave_raiseS BG (Heap.MadeExc.of hx1) F1 N1 ?_
  intro h3 t1 R1 _ U1
  exact raised _ _ _ _ _ FG R1 U1
end
end

section
/-- a contract of a def that catches within: the frames below may be told of the raise -/
def ConS (prog : Program) (w : World) (p : Program) (loose : List Str) (mean : ExcName → Option Value) (mg mb : Str → Option Value) (f : Addr) (D U : Nat)
    (Pre : List (Addr × Obj) → List Value → Prop) (Post : List (Addr × Obj) → Value → Prop) : Prop :=
  ∀ (dp un : Nat) (gd : Option (List Code)) (cn : Str) (cs : Scope) (a : Addr) (ccd : Value) (outer : List Env) (A₀ : Around) (base h₀ : Heap) (L : Addr) (m : Str → Option Value) (news : List (Addr × Obj)) (s : Shared) (vs : List Value)
    (Q E : Value → Shared → Prop),
    Below A₀ base outer h₀ → Fr h₀ L s.heap m → (Mine.hd.heap_39 w.params).In h₀ → News h₀ L s.heap news → Top p loose mean mg mb h₀ → (Mine.hd.heap_39 w.params).In base → Top p loose mean mg mb base → KtsDicts (outer.filterMap (·.frame)) h₀ →
    cs.kind = .function → Pre news vs → dp + D < recursionLimit → un + U < cLine →
    (∀ r nx h' tk' h₁, KtsTurn (outer.filterMap (·.frame)) h₀ h₁ → Fr h₁ L h' m → News h₁ L h' nx → Below A₀ base outer h₁ → (Mine.hd.heap_39 w.params).In h₁ → Top p loose mean mg mb h₁ → KtsDicts (outer.filterMap (·.frame)) h₁ →
      (∀ q ∈ news, q ∈ nx) → Post nx r → Q r { s with heap := h', toks := tk' }) →
    wpAny (model prog w) (ktrTop dp un gd cn cs L a ccd [] outer) (call (.ref f) vs) Q E s

section
variable {prog : Program} {w : World} {p : Program} {loose : List Str} {mean : ExcName → Option Value} {mg mb : Str → Option Value}

set_option maxRecDepth 100000 in
set_option maxHeartbeats 8000000 in
theorem read_ok (ns : List Nat) (oc : List Nat) (hrd : Rd ns oc) (hb : ∀ n ∈ ns, n < 2 ^ 2000) (hol : oc.length ≤ 5000000) : ConS prog w p loose mean mg mb 147 5 60 (fun news vs => ∃ a us e, vs = [.ref a] ∧ (a, listOf us.toArray e) ∈ news ∧ NatsAre us oc)
    (fun nx r => ∃ a us e, r = .ref a ∧ (a, listOf us.toArray e) ∈ nx ∧ NatsAre us ns ∧ us.length ≤ 5000000) := by
  unfold ConS
  intro dp un gd cn cs a ccd outer A₀ base h₀ L m news s vs Q E B F X N T XB TB D hk hR hd hu hret
  obtain ⟨oa, us, e, rfl, hom, hon⟩ := hR
  refine wpAny_call ?_
  k_dflt (refine' code_defS ?k1 ?k2 ?k3 ?k4 ?k5 ?XB ?TB ?D ?T0 ?kA ?k6 ?k7 ?k8 ?k9 ?kB ?_ ?cK ?c2 ?c3 ?c4 ?c5; (case kA => exact rfl); (case k2 => k_asm); (case k1 => k_asm); (case XB => assumption); (case TB => assumption); (case D => assumption); (case T0 => exact KtsTurn.refl); kdb_fit; (case cK => first | assumption | exact rfl); k_whole; intro g' L' h' FG' F' N' B' X' T' D'; (try dsimp only); (try k_fold); (try (with_reducible refine tok_any ?_; intro t')))
  k_steps
  refine r_iter (by assumption) (by assumption) hom ?_
  intro I hI F1 N1 hl1
  k_steps
  rename_i ga _ hga _ F2 N2 _ _
  have hgaI : ga ≠ I := fun e => absurd hga.1 (by rw [e]; exact Nat.lt_irrefl _)
  have hoffI : ∀ p ∈ news, p.1 ≠ I := fun p hp e => absurd (hl1 p hp) (by rw [e]; exact Nat.lt_irrefl _)
  have hoffG : ∀ p ∈ news, p.1 ≠ ga := fun p hp e => by
    have h3 := hl1 p hp
    rw [e] at h3
    exact absurd (Nat.lt_trans h3 hga.1) (Nat.lt_irrefl _)
  refine while_my (fun (c : Nat × List Value × Nat × List Nat) => [("iterator", .ref I), ("gaps", .ref ga)])
    (fun c nx' => nx' = (ga, listOf c.2.1.toArray c.2.2.1) :: (I, itObj oa c.1) :: news ∧ c.1 ≤ oc.length ∧ c.2.1.length ≤ c.1 ∧ ∃ dn, NatsAre c.2.1 dn ∧ ns = dn ++ c.2.2.2 ∧ Rd c.2.2.2 (oc.drop c.1)) (fun c => oc.length - c.1) (0, [], 0, ns) F2 N2
    (.cons rfl (.one rfl)) ⟨rfl, Nat.zero_le _, Nat.le_refl _, [], .nil, rfl, by rw [List.drop_zero]; exact hrd⟩ ?_
  clear F2 N2
  rintro ⟨j, gs, ge, rest⟩ u nx1 h tk ⟨rfl, hjl, hgl, dn, hdn, hns, hrest⟩ F' N'
  dsimp only at F' N' hjl hgl hdn hns hrest ⊢
  k_steps
  cases rest with
  | nil =>
    have hx : us[j]? = none := by
      have : oc.drop j = [] := hrest
      have h2 : oc.length ≤ j := by simpa using this
      rw [List.getElem?_eq_none_iff, hon.length]; exact h2
    refine parse_end (nx := (ga, W.listOf gs.toArray ge) :: news) (by assumption) F' (by assumption) (i := j) (fun q hq => N' q (by rcases List.mem_cons.mp hq with rfl | hq; exact List.mem_cons_of_mem _ List.mem_cons_self; rcases List.mem_cons.mp hq with rfl | hq; exact List.mem_cons_self; exact List.mem_cons_of_mem _ (List.mem_cons_of_mem _ hq))) (by assumption) rfl ?_ (List.mem_cons_of_mem _ hom) hx ?_ ?_ ?_
    · intro q hq
      rcases List.mem_cons.mp hq with rfl | hq
      · exact hgaI
      · exact hoffI q hq
    · dsimp only; omega
    · dsimp only; omega
    · intro e1 t1 h1 tk1 G1 FG1 R1 U1
      rename KtsDicts (List.filterMap (fun x => x.frame) (envOf cn cs L a ccd :: outer)) _ => D1
      rename Below (ktrTop dp un gd cn cs L a ccd [] outer) _ _ _ => B1
      refine caught_S0 (T' := "StopIteration") R1 FG1 B1 U1 XB TB D1 KtsTurn.refl (by k_is) PyProof.Rows.Boot.«StopIteration» (by decide) (by rw [isSubtype_type]; kernel_rfl) (by rw [isSubtype_type]; kernel_rfl) (by rw [isSubtype_type]; kernel_rfl) ?_
      intro h' g' n₂ T' F2 N₂ G' N2 K' X' P' D'
      k_steps
      refine WPost.retI ?_
      refine Cuts.retI (by assumption) ?_
      show qk (.ret (.ref ga)) _
      dsimp only [qk]
      refine leaveS_r F2 N2 T' fun h₀' T1 F3 N3 B3 X3 T3 D3 => ?_
      exact hret _ _ _ _ _ T1 F3 N3 B3 X3 T3 D3 (by ktd_sub) ⟨_, _, _, rfl, List.mem_cons_self, by rw [hns, List.append_nil]; exact hdn, by omega⟩
  | cons n rest =>
    obtain ⟨r, hdec, hr⟩ := hrest
    refine parse_val (nx := (ga, W.listOf gs.toArray ge) :: news) (by assumption) F' (by assumption) (i := j) (fun q hq => N' q (by rcases List.mem_cons.mp hq with rfl | hq; exact List.mem_cons_of_mem _ List.mem_cons_self; rcases List.mem_cons.mp hq with rfl | hq; exact List.mem_cons_self; exact List.mem_cons_of_mem _ (List.mem_cons_of_mem _ hq))) (by assumption) rfl ?_ (List.mem_cons_of_mem _ hom) hon (hb n (by rw [hns]; simp)) hdec ?_ ?_ ?_
    · intro q hq
      rcases List.mem_cons.mp hq with rfl | hq
      · exact hgaI
      · exact hoffI q hq
    · dsimp only; omega
    · dsimp only; omega
    · intro j2 tk2 h2 tk3 hj2 hj2l hdr F2 N2
      k_steps
      rename News _ _ _ ((I, itObj oa j2) :: _) => N2
      rename Fr _ _ _ _ => F2
      have N3 : News _ _ _ ((ga, W.listOf (gs ++ [Value.int (n : Int) tk2]).toArray (ge + 1)) :: (I, itObj oa j2) :: news) := fun q hq => N2 q (by
        rcases List.mem_cons.mp hq with rfl | hq
        · rw [show (gs ++ [Value.int (n : Int) tk2]).toArray = gs.toArray.push (Value.int (n : Int) tk2) by simp]
          exact List.mem_cons_of_mem _ List.mem_cons_self
        rcases List.mem_cons.mp hq with rfl | hq; exact List.mem_cons_self; exact List.mem_cons_of_mem _ (List.mem_cons_of_mem _ hq))
      refine WPost.nextI (c' := (j2, gs ++ [.int n tk2], ge + 1, rest)) F2 N3 (.cons rfl (.one rfl)) ⟨rfl, hj2l, by simp only [List.length_append, List.length_cons, List.length_nil]; omega, dn ++ [n], hdn.append (.one n tk2 rfl), by rw [hns, List.append_assoc]; rfl, by rw [hdr]; exact hr⟩ (by dsimp only; first | exact Nat.sub_lt_sub_left (Nat.lt_of_lt_of_le hj2 hj2l) hj2 | omega)
end
end

section
section
variable {prog : Program} {w : World} {p : Program} {loose : List Str} {mean : ExcName → Option Value} {mg mb : Str → Option Value}

set_option maxRecDepth 100000 in
set_option maxHeartbeats 8000000 in
theorem div2_ok (x y n : Nat) (hx : x < 2 ^ 4000) (hy : 0 < y) (hy2 : y < 2 ^ 4000) : Con prog w p loose mean mg mb 28 1 20 (fun _ vs => ∃ ta tb tn, vs = [.int x ta, .int y tb, .int n tn])
    (fun nx r => ∃ a ta tb, r = .ref a ∧ (a, tupObj [.int ((x / y : Nat) : Int) ta, .int ((x % y : Nat) : Int) tb]) ∈ nx) := by
  unfold Con
  intro dp un gd cn cs a ccd cl outer A₀ base h₀ L m news s vs Q E B F X N T hk hR hd hu hret
  obtain ⟨ta, tb, tn, rfl⟩ := hR
  have hbl : ((Builtin.Int.intBits (x : Int) : Nat) : Int) - (n : Int) ≤ 4000 := by
    have := (intBits_le_iff (m := 4000) (x := (x : Int))).mpr (by rw [Int.natAbs_natCast]; exact hx)
    omega
  have hB0 : (y : Int) ≠ 0 := by omega
  have hpl : Builtin.divisionGoesByPylong (x : Int) (y : Int) = false := by
    refine PyProof.noPylong_of_log2 ?_
    rw [Int.natAbs_natCast]
    have := (Nat.log2_lt (Nat.pos_iff_ne_zero.mp hy)).mpr hy2
    omega
  refine wpAny_call ?_
  k_dflt ktr_enter
  k_steps
  refine divmod_N (by assumption) (by assumption) hB0 (fun h' F1 N1 => ?_) (.inl hpl)
  rw [fdivN, fmodN] at N1
  k_steps
  exact hret _ _ _ _ (by assumption) (by assumption) (by ktd_sub) ⟨_, _, _, rfl, List.mem_cons_self⟩
end
end

section
theorem far {nx : List (Addr × Obj)} {a d : Addr} (h : ∀ p ∈ nx, p.1 < a) (hd : @LE.le Nat _ a d) : ∀ p ∈ nx, p.1 ≠ d := fun p hp e => absurd (h p hp) (by rw [e]; exact Nat.not_lt.mpr hd)
local macro_rules | `(tactic| k_all) => `(tactic| first | assumption | (refine far (by assumption) ?_; omega))
local macro_rules | `(tactic| k_all) => `(tactic| first | exact List.forall_mem_nil _ | (refine' List.forall_mem_cons.mpr ⟨?a, ?b⟩; (case a => k_ne); (case b => k_all)))


def defIn : List Stmt → Option (Str × Arguments × List Stmt × Scope)
  | [] => none
  | .FunctionDef name params body _ _ _ scope _ _ _ :: _ => some (name, params, body, scope)
  | _ :: r => defIn r
def defObj (o : Obj) : Option (Str × Arguments × List Stmt × Scope) := match o with
  | ⟨_, _, .func fd, _⟩ => (match fd.body with | .stmts b => defIn b | _ => none)
  | _ => none
/-- the def in the body of the def at f -/
def DefOf (K : Frag) (f : Addr) (r : Str × Arguments × List Stmt × Scope) : Prop := ∃ o, K.lookup f = some o ∧ defObj o = some r
theorem DefOf.eq {K : Frag} {f : Addr} {r : Str × Arguments × List Stmt × Scope} {o : Obj} (h : K.lookup f = some o) (x : DefOf K f r) : defObj o = some r := by
  obtain ⟨o', h', e⟩ := x
  rw [h] at h'; cases h'; exact e
theorem DefOf.of {K : Frag} {f : Addr} {r : Str × Arguments × List Stmt × Scope} {o : Obj} (h : K.lookup f = some o) (e : defObj o = some r) : DefOf K f r := ⟨o, h, e⟩

theorem and_hi (x s : Nat) : x &&& (x / 2 ^ s * 2 ^ s) = x / 2 ^ s * 2 ^ s := by
  apply Nat.eq_of_testBit_eq
  intro i
  rw [Nat.testBit_and, Nat.testBit_mul_two_pow, Nat.testBit_div_two_pow]
  by_cases h : s ≤ i
  · simp only [h, decide_true, Bool.true_and]
    rw [show i - s + s = i by omega, Bool.and_self]
  · simp [h]
theorem xor_hi (x s : Nat) : Builtin.bitXor (x : Int) ((x / 2 ^ s * 2 ^ s : Nat) : Int) = ((x % 2 ^ s : Nat) : Int) := by
  rw [bitXor_and, bitAnd_pp (by omega) (by omega), Int.toNat_natCast, Int.toNat_natCast, and_hi]
  have := Nat.div_add_mod' x (2 ^ s)
  omega
theorem dig_low {x a b s : Nat} (h : a + b ≤ s) : x % 2 ^ s / 2 ^ a % 2 ^ b = x / 2 ^ a % 2 ^ b := by
  obtain ⟨c, rfl⟩ : ∃ c, s = a + (b + c) := ⟨s - a - b, by omega⟩
  rw [Nat.pow_add 2 a, Nat.mod_mul_right_div_self, Nat.mod_mod_of_dvd _ ⟨2 ^ c, by rw [Nat.pow_add]⟩]
theorem dig_high {x s c : Nat} : x / 2 ^ s / 2 ^ c = x / 2 ^ (s + c) := by rw [Nat.pow_add, Nat.div_div_eq_div_mul]

section
variable {prog : Program} {w : World} {p : Program} {loose : List Str} {mean : ExcName → Option Value} {mg mb : Str → Option Value}

local macro_rules | `(tactic| k_steps) => `(tactic| repeat' ((fail_if_success (with_reducible show wpAny _ _ (call (Value.ref _) _) _ _ _)); kfm_num))

set_option maxRecDepth 100000 in
set_option maxHeartbeats 8000000 in
theorem inner42 {name qual : Str} {params : Arguments} {body : List Stmt} {scope : Scope} (hb : DefOf (Mine.hd.heap_39 w.params) 42 (name, params, body, scope)) {n : Nat} (hn : 0 < n) (hn2 : n ≤ 3000) : ∀ (d k : Nat), 0 < k → k ≤ 2 ^ d → d ≤ 12 → ∀
    {dp un : Nat} {gd : Option (List Code)} {cn : Str} {cs : Scope} {a : Addr} {ccd : Value} {cl : List (Str × Addr)} {outer : List Env} {A₀ : Around} {base h₀ : Heap} {L : Addr} {m : Str → Option Value} {nx : List (Addr × Obj)} {s : Shared}
    {Q E : Value → Shared → Prop} {x Lo Hi : Nat} {tx t1 t2 tn tv : Tok} {D f c cN cI cA : Addr} {oN oI oA oc : Obj} {doc nm ctv : Value} {cvs : Array Value} {ws : List Value} {ds : List Nat} {e : Nat} (B : Below A₀ base outer h₀) (F : Fr h₀ L s.heap m) (X : (Mine.hd.heap_39 w.params).In h₀)
    (N : News h₀ L s.heap ((D, listOf ws.toArray e) :: nx)) (T : Top p loose mean mg mb h₀) (hk : cs.kind = .function) (hoff : ∀ p ∈ nx, p.1 ≠ D)
    (hf : (f, fnMade name qual params body scope [("n", cN), ("inner", cI), ("a_digits", cA)] doc nm c ctv) ∈ nx) (hc : (c, oc) ∈ nx) (hcd : oc.data = .fields cvs) (hcv : cvs[1]? = some (.str qual tv))
    (hN : (cN, oN) ∈ nx) (hNd : oN.data = .cell (some (.int n tn))) (hI : (cI, oI) ∈ nx) (hId : oI.data = .cell (some (.ref f))) (hA : (cA, oA) ∈ nx) (hAd : oA.data = .cell (some (.ref D)))
    (hds : NatsAre ws ds) (hHi : Hi = Lo + k) (hlen : Hi ≤ ds.length) (hle : ds.length ≤ 100000) (hx : x < 2 ^ (n * k)) (hk2 : n * k ≤ 60000) (hd : dp + d + 1 < recursionLimit) (hu : un + 20 * d + 20 < cLine)
    (hret : ∀ h' tk' ws' e' ds', Fr h₀ L h' m → News h₀ L h' ((D, listOf ws'.toArray e') :: nx) → NatsAre ws' ds' → ds'.length = ds.length → (∀ i, ds'[i]? = if Lo ≤ i ∧ i < Hi then some (x / 2 ^ (n * (i - Lo)) % 2 ^ n) else ds[i]?) → Q .none { s with heap := h', toks := tk' }),
    wpAny (model prog w) (ktrTop dp un gd cn cs L a ccd cl outer) (call (.ref f) [.int x tx, .int Lo t1, .int Hi t2]) Q E s := by
  have hb := hb.eq (by k_is)
  dsimp only [defObj, defIn] at hb
  cases hb
  intro d
  induction d using Nat.strongRecOn with
  | ind d ih =>
    intro k hk0 hkd hd12 dp un gd cn cs a ccd cl outer A₀ base h₀ L m nx s Q E x Lo Hi tx t1 t2 tn tv D f c cN cI cA oN oI oA oc doc nm ctv cvs ws ds e B F X N T hk hoff hf hc hcd hcv hN hNd hI hId hA hAd hds hHi hlen hle hx hk2 hd hu hret
    have hmid : ((Lo : Int) + (Hi : Int)).fdiv (2 ^ Int.toNat 1) = ((Lo + k / 2 : Nat) : Int) := by
      show ((Lo : Int) + (Hi : Int)).fdiv 2 = _
      rw [show (Lo : Int) + (Hi : Int) = ((Lo + Hi : Nat) : Int) by omega, fdiv2]
      congr 1; exact mid_eq hHi
    have hsh : (((Lo : Int) + (Hi : Int)).fdiv (2 ^ Int.toNat 1) - (Lo : Int)) * (n : Int) = ((k / 2 * n : Nat) : Int) := by
      rw [hmid, show ((Lo + k / 2 : Nat) : Int) - (Lo : Int) = ((k / 2 : Nat) : Int) by omega, Int.natCast_mul]
    have hs0 : 0 ≤ (((Lo : Int) + (Hi : Int)).fdiv (2 ^ Int.toNat 1) - (Lo : Int)) * (n : Int) := by rw [hsh]; omega
    have hkn : k / 2 * n ≤ n * k := by rw [Nat.mul_comm n k]; exact Nat.mul_le_mul_right _ (Nat.div_le_self _ _)
    have hup : (x : Int).fdiv (2 ^ ((((Lo : Int) + (Hi : Int)).fdiv (2 ^ Int.toNat 1) - (Lo : Int)) * (n : Int)).toNat) = ((x / 2 ^ (k / 2 * n) : Nat) : Int) := by
      rw [hsh, Int.toNat_natCast, show (2 : Int) ^ (k / 2 * n) = ((2 ^ (k / 2 * n) : Nat) : Int) by rw [Int.natCast_pow]; rfl, fdivN]
    have hlo : Builtin.bitXor (x : Int) ((x : Int).fdiv (2 ^ ((((Lo : Int) + (Hi : Int)).fdiv (2 ^ Int.toNat 1) - (Lo : Int)) * (n : Int)).toNat) * 2 ^ ((((Lo : Int) + (Hi : Int)).fdiv (2 ^ Int.toNat 1) - (Lo : Int)) * (n : Int)).toNat) = ((x % 2 ^ (k / 2 * n) : Nat) : Int) := by
      rw [hup, hsh, Int.toNat_natCast, show (2 : Int) ^ (k / 2 * n) = ((2 ^ (k / 2 * n) : Nat) : Int) by rw [Int.natCast_pow]; rfl, ← Int.natCast_mul, xor_hi]
    have hsl : ((Builtin.Int.intBits ((x : Int).fdiv (2 ^ ((((Lo : Int) + (Hi : Int)).fdiv (2 ^ Int.toNat 1) - (Lo : Int)) * (n : Int)).toNat)) : Nat) : Int) + (((Lo : Int) + (Hi : Int)).fdiv (2 ^ Int.toNat 1) - (Lo : Int)) * (n : Int) ≤ 2 ^ 27 := by
      refine shlok (k := 60000) ?_ (by omega) (by rw [hsh]; omega)
      rw [hup, Int.natAbs_natCast]
      exact Nat.lt_of_le_of_lt (Nat.div_le_self _ _) (Nat.lt_of_lt_of_le hx (Nat.pow_le_pow_right (by decide) hk2))
    refine wpAny_call ?_
    have C9 : CodeHd h₀ 41 37 := codeHd_of_K X (by kernel_rfl)
    refine' code_nest ?k1 ?k2 ?k3 ?k4 ?k5 ?kA ?kF ?kK ?k6 ?k7 ?k8 ?k9 ?kB ?_ ?c2 ?c3 ?c4 ?c5; (case kA => exact rfl); (case kF => exact rfl); (case kK => first | assumption | exact rfl); (case k1 => k_asm); (case k2 => k_asm); (case k3 => k_asm); (case k4 => k_asm); (case k5 => k_asm); (case k6 => exact List.mem_cons_of_mem _ hf); (case k7 => exact codeRec_news N (List.mem_cons_of_mem _ hc) hcd hcv); (case k8 => ktr_room); (case k9 => exact BindsTo.of_eq rfl); (case c5 => decide); (case kB => exact locs rfl); (case c2 => exact rfl); (case c3 => exact rfl); (case c4 => exact rfl)
    k_whole; intro g' L' h' FG' F' N' B' X' T'; (try dsimp only); (try k_fold)
    have C37 : CodeHd g' 41 37 := codeHd_of_K X' (by kernel_rfl)
    k_steps
    · -- one figure
      rename (Lo : Int) + 1 = (Hi : Int) => h1
      rename IntsAre _ (List.set _ _ _) => hi1
      have hk1 : k = 1 := by clear hmid; omega
      subst hk1
      refine hret _ _ _ _ (ds.set Lo x) (by assumption) (by assumption) ?_ (List.length_set ..) fun i => ?_
      · rw [Int.toNat_natCast] at hi1 ⊢
        show IntsAre _ _
        rw [List.map_set]; exact hi1
      · rw [List.getElem?_set]
        by_cases hi : Lo = i
        · subst hi
          rw [if_pos rfl, if_pos (by clear hmid; omega), if_pos (by clear hmid; omega), Nat.sub_self, Nat.mul_zero, Nat.pow_zero, Nat.div_one, Nat.mod_eq_of_lt (by rwa [Nat.mul_one] at hx)]
        · rw [if_neg hi, if_neg (by clear hmid; omega)]
    · -- two halves
      rename (Lo : Int) + 1 ≠ (Hi : Int) => h1
      rename Fr g' L' _ _ => F2
      rename News g' L' _ _ => N2
      obtain ⟨d, rfl⟩ : ∃ d', d = d' + 1 := by
        cases d with
        | zero => exfalso; rw [Nat.pow_zero] at hkd; omega
        | succ d => exact ⟨d, rfl⟩
      rw [Nat.pow_succ] at hkd
      rw [hlo, hmid]
      refine ih d (by clear hmid; omega) (k / 2) (by clear hmid; omega) (by clear hmid; omega) (by clear hmid; omega) B' F2 X' N2 T' rfl hoff hf hc hcd hcv hN hNd hI hId hA hAd hds rfl (by clear hmid; omega) hle (by rw [Nat.mul_comm]; exact Nat.mod_lt _ (Nat.two_pow_pos _)) (by rw [Nat.mul_comm]; omega) (by dsimp only; first | exact room_i hd | exact room_j hu | omega) (by dsimp only; first | exact room_i hd | exact room_j hu | omega) ?_
      intro h2 tk2 ws2 e2 ds2 F3 N3 hds2 hl2 hg2
      k_steps
      rename Fr g' L' _ _ => F4
      rename News g' L' _ _ => N4
      rw [hup, hmid]
      have hkk : n * k = n * (k / 2) + n * (k - k / 2) := by rw [← Nat.mul_add]; congr 1; exact half_sum k
      refine ih d (by clear hmid; omega) (k - k / 2) (by clear hmid; omega) (by clear hmid; omega) (by clear hmid; omega) B' F4 X' N4 T' rfl hoff hf hc hcd hcv hN hNd hI hId hA hAd hds2 (half_hi hHi) (by clear hmid; omega) (by clear hmid; omega) ?_ (by clear hmid; omega) (by dsimp only; first | exact room_i hd | exact room_j hu | omega) (by dsimp only; first | exact room_i hd | exact room_j hu | omega) ?_
      · refine Nat.div_lt_of_lt_mul ?_
        rw [Nat.mul_comm (k / 2) n, ← Nat.pow_add, ← hkk]; exact hx
      intro h5 tk5 ws5 e5 ds5 F5 N5 hds5 hl5 hg5
      k_steps
      refine hret _ _ _ _ ds5 (by assumption) (by assumption) hds5 (by clear hmid; omega) fun i => ?_
      rw [hg5 i]
      by_cases hi : Lo + k / 2 ≤ i ∧ i < Hi
      · rw [if_pos hi, if_pos ⟨by clear hmid; omega, hi.2⟩, dig_high]
        congr 4
        obtain ⟨j, rfl⟩ : ∃ j, i = Lo + k / 2 + j := ⟨i - (Lo + k / 2), by clear hmid; omega⟩
        rw [show Lo + k / 2 + j - (Lo + k / 2) = j by clear hmid; omega, show Lo + k / 2 + j - Lo = k / 2 + j by clear hmid; omega, Nat.mul_add, Nat.mul_comm n (k / 2)]
      · rw [if_neg hi, hg2 i]
        by_cases hi2 : Lo ≤ i ∧ i < Lo + k / 2
        · rw [if_pos hi2, if_pos ⟨hi2.1, by clear hmid; omega⟩, dig_low]
          have : n * (i - Lo + 1) ≤ n * (k / 2) := Nat.mul_le_mul_left _ (by clear hmid; omega)
          rw [Nat.mul_add, Nat.mul_one, Nat.mul_comm n (k / 2)] at this
          exact this
        · rw [if_neg hi2, if_neg (by clear hmid; omega)]
end
end
local macro_rules | `(tactic| k_all) => `(tactic| first | assumption | (refine far (by assumption) ?_; omega))
local macro_rules | `(tactic| k_all) => `(tactic| first | exact List.forall_mem_nil _ | (refine' List.forall_mem_cons.mpr ⟨?a, ?b⟩; (case a => k_ne); (case b => k_all)))

section
/-- what a table of a def's code holds: nothing yet, or the one def's code -/
def Tab (line col : Nat) (q : Str) (ps : Array Value) (nx : List (Addr × Obj)) : Prop :=
  ps = #[] ∨ ∃ c oc vs t, ps = #[rawInt line, rawInt col, .ref c] ∧ (c, oc) ∈ nx ∧ oc.data = .fields vs ∧ vs[1]? = some (.str q t)
theorem Tab.mono {line col : Nat} {q : Str} {ps : Array Value} {nx nx' : List (Addr × Obj)} (h : Tab line col q ps nx) (k : ∀ e ∈ nx, e ∈ nx') : Tab line col q ps nx' := by
  rcases h with h | ⟨c, oc, vs, t, h1, h2, h3⟩
  · exact .inl h
  · exact .inr ⟨c, oc, vs, t, h1, k _ h2, h3⟩
def Tabs (ps qs : Array Value) (nx : List (Addr × Obj)) : Prop :=
  Tab 41 4 (Str.ofString "_int2digits.<locals>.inner") ps nx ∧ Tab 56 4 (Str.ofString "_digits2int.<locals>.inner") qs nx ∧ (∀ p ∈ nx, p.1 ≠ 37) ∧ (∀ p ∈ nx, p.1 ≠ 44)
/-- a contract of a def that comes to the defs that make a def: the tables at the ledger's head may grow -/
def ConT (prog : Program) (w : World) (p : Program) (loose : List Str) (mean : ExcName → Option Value) (mg mb : Str → Option Value) (f : Addr) (D U : Nat)
    (Pre : List (Addr × Obj) → List Value → Prop) (Post : List (Addr × Obj) → Value → Prop) : Prop :=
  ∀ (dp un : Nat) (gd : Option (List Code)) (cn : Str) (cs : Scope) (a : Addr) (ccd : Value) (cl : List (Str × Addr)) (outer : List Env) (A₀ : Around) (base h₀ : Heap) (L : Addr) (m : Str → Option Value) (ps qs : Array Value) (nx : List (Addr × Obj)) (s : Shared) (vs : List Value)
    (Q E : Value → Shared → Prop),
    Below A₀ base outer h₀ → Fr h₀ L s.heap m → (Mine.hd.heap_39 w.params).In h₀ → News h₀ L s.heap ((37, tabObj ps) :: (44, tabObj qs) :: nx) → Top p loose mean mg mb h₀ → Tabs ps qs nx →
    cs.kind = .function → Pre nx vs → dp + D < recursionLimit → un + U < cLine →
    (∀ r ps' qs' nx' h' tk', Fr h₀ L h' m → News h₀ L h' ((37, tabObj ps') :: (44, tabObj qs') :: nx') → Tabs ps' qs' nx' → (∀ e ∈ nx, e ∈ nx') → Post nx' r → Q r { s with heap := h', toks := tk' }) →
    wpAny (model prog w) (ktrTop dp un gd cn cs L a ccd cl outer) (call (.ref f) vs) Q E s

theorem conT_use {prog : Program} {w : World} {p : Program} {loose : List Str} {mean : ExcName → Option Value} {mg mb : Str → Option Value} {f : Addr} {D U : Nat}
    {Pre : List (Addr × Obj) → List Value → Prop} {Post : List (Addr × Obj) → Value → Prop} (C : ConT prog w p loose mean mg mb f D U Pre Post)
    {dp un : Nat} {gd : Option (List Code)} {cn : Str} {cs : Scope} {a : Addr} {ccd : Value} {cl : List (Str × Addr)} {outer : List Env} {A₀ : Around} {base h₀ : Heap} {L : Addr} {m : Str → Option Value} {ps qs : Array Value} {nx : List (Addr × Obj)} {s : Shared} {vs : List Value}
    {Q E : Value → Shared → Prop} (B : Below A₀ base outer h₀) (F : Fr h₀ L s.heap m) (X : (Mine.hd.heap_39 w.params).In h₀) (N : News h₀ L s.heap ((37, tabObj ps) :: (44, tabObj qs) :: nx)) (T : Top p loose mean mg mb h₀) (hT : Tabs ps qs nx) (hk : cs.kind = .function) (hp : Pre nx vs)
    (hd : dp + D < recursionLimit) (hu : un + U < cLine)
    (ret : ∀ r ps' qs' nx' h' tk', Fr h₀ L h' m → News h₀ L h' ((37, tabObj ps') :: (44, tabObj qs') :: nx') → Tabs ps' qs' nx' → (∀ e ∈ nx, e ∈ nx') → Post nx' r → Q r { s with heap := h', toks := tk' }) :
    wpAny (model prog w) (ktrTop dp un gd cn cs L a ccd cl outer) (call (.ref f) vs) Q E s := C _ _ _ _ _ _ _ _ _ _ _ _ _ _ _ _ _ _ _ _ _ B F X N T hT hk hp hd hu ret

theorem news_third {h₀ h : Heap} {L : Addr} {a b c : Addr × Obj} {r : List (Addr × Obj)} (N : News h₀ L h (a :: b :: c :: r)) : News h₀ L h (c :: a :: b :: r) := fun q hq => N q (by
  simp only [List.mem_cons] at hq ⊢
  rcases hq with h | h | h | h
  · exact .inr (.inr (.inl h))
  · exact .inl h
  · exact .inr (.inl h)
  · exact .inr (.inr (.inr h)))
theorem nsub {h₀ h : Heap} {L : Addr} {l l' : List (Addr × Obj)} (N : News h₀ L h l) (hs : ∀ q ∈ l', q ∈ l) : News h₀ L h l' := fun q hq => N q (hs q hq)
theorem news_a {h₀ h : Heap} {L : Addr} {d f c l i a n t u : Addr × Obj} {r : List (Addr × Obj)} (N : News h₀ L h (d :: f :: c :: l :: i :: a :: n :: t :: u :: r)) : News h₀ L h (t :: u :: c :: d :: r) :=
  nsub N (by intro q hq; simp only [List.mem_cons] at hq ⊢; rcases hq with h | h | h | h | h <;> simp [h])
theorem news_b {h₀ h : Heap} {L : Addr} {d f l i a n t u : Addr × Obj} {r : List (Addr × Obj)} (N : News h₀ L h (d :: f :: l :: i :: a :: n :: t :: u :: r)) : News h₀ L h (t :: u :: d :: r) :=
  nsub N (by intro q hq; simp only [List.mem_cons] at hq ⊢; rcases hq with h | h | h | h <;> simp [h])
theorem figs_zero {k n : Nat} : ∀ i, i < (List.replicate k 0).length → (List.replicate k 0)[i]? = some (0 / 2 ^ (n * i) % 2 ^ n) := fun i hi => by
  rw [List.length_replicate] at hi
  rw [List.getElem?_replicate, if_pos hi, Nat.zero_div, Nat.zero_mod]
theorem news_second {h₀ h : Heap} {L : Addr} {a c : Addr × Obj} {r : List (Addr × Obj)} (N : News h₀ L h (a :: c :: r)) : News h₀ L h (c :: a :: r) := fun q hq => N q (by
  simp only [List.mem_cons] at hq ⊢
  rcases hq with h | h | h
  · exact .inr (.inl h)
  · exact .inl h
  · exact .inr (.inr h))

section
variable {prog : Program} {w : World} {p : Program} {loose : List Str} {mean : ExcName → Option Value} {mg mb : Str → Option Value}

local macro_rules | `(tactic| k_steps) => `(tactic| repeat' ((fail_if_success (with_reducible show wpAny _ _ (call (Value.ref _) _) _ _ _)); kfm_num))

set_option maxRecDepth 100000 in
set_option maxHeartbeats 8000000 in
theorem i2d_ok (x n : Nat) (hx : x < 2 ^ 3000) (hn : 0 < n) (hn2 : n ≤ 3000) : ConT prog w p loose mean mg mb 42 16 400 (fun _ vs => ∃ tx tn, vs = [.int x tx, .int n tn])
    (fun nx r => ∃ a us e ds, r = .ref a ∧ (a, listOf us.toArray e) ∈ nx ∧ NatsAre us ds ∧ ds.length ≤ 3000 ∧ (∀ i, i < ds.length → ds[i]? = some (x / 2 ^ (n * i) % 2 ^ n)) ∧ x < 2 ^ (n * ds.length) ∧ n * ds.length ≤ 6000) := by
  unfold ConT
  intro dp un gd cn cs a ccd cl outer A₀ base h₀ L m ps qs nx s vs Q E B F X N T hT hk hR hd hu hret
  obtain ⟨tx, tn, rfl⟩ := hR
  obtain ⟨t37, t44, h37, h44⟩ := hT
  have hn0 : (n : Int) ≠ 0 := by omega
  have hpl : Builtin.divisionGoesByPylong (((Builtin.Int.intBits (x : Int) : Nat) : Int) + (n : Int) - 1) (n : Int) = false := by
    refine PyProof.noPylong_of_log2 ?_
    rw [Int.natAbs_natCast]
    have := (Nat.log2_lt (Nat.pos_iff_ne_zero.mp hn)).mpr (Nat.lt_of_le_of_lt hn2 (by decide : 3000 < 2 ^ 13))
    omega
  generalize hbe : Builtin.Int.intBits (x : Int) = b at hpl
  have hb1 : x < 2 ^ b := by
    have := (intBits_le_iff (m := b) (x := (x : Int))).mp (by omega)
    rwa [Int.natAbs_natCast] at this
  have hb2 : b ≤ 3000 := by
    have := (intBits_le_iff (m := 3000) (x := (x : Int))).mpr (by rw [Int.natAbs_natCast]; exact hx)
    omega
  have hke : ((b : Int) + n - 1).fdiv n = (((b + n - 1) / n : Nat) : Int) := by
    rw [← fdivN]; congr 1; omega
  have hk1 : b ≤ n * ((b + n - 1) / n) := by
    have h1 := Nat.div_add_mod (b + n - 1) n
    have h2 := Nat.mod_lt (b + n - 1) hn
    omega
  have hk3 : n * ((b + n - 1) / n) ≤ 6000 := by
    have h1 := Nat.div_add_mod (b + n - 1) n
    omega
  have hk2 : (b + n - 1) / n ≤ 3000 := by
    refine Nat.div_le_of_le_mul ?_
    rcases Nat.eq_zero_or_pos b with h | h
    · omega
    · have : n + b ≤ n * b + 1 := by
        obtain ⟨n', rfl⟩ : ∃ n', n = n' + 1 := ⟨n - 1, by omega⟩
        obtain ⟨b', rfl⟩ : ∃ b', b = b' + 1 := ⟨b - 1, by omega⟩
        rw [Nat.add_mul, Nat.mul_add]; omega
      have h3 : n * b ≤ n * 3000 := Nat.mul_le_mul_left _ hb2
      omega
  generalize (b + n - 1) / n = k at hke hk1 hk2 hk3
  have hxk : x < 2 ^ (n * k) := Nat.lt_of_lt_of_le hb1 (Nat.pow_le_pow_right (by decide) hk1)
  refine wpAny_call ?_
  refine' code_defC ?k1 ?k2 ?k3 ?k4 ?k5 ?kA ?kF ?kK ?k6 ?k7 ?k8 ?k9 ?kB ?kD ?_ ?c2 ?c3 ?c4; (case kA => exact rfl); (case kF => exact rfl); (case kK => first | assumption | exact rfl); (case k1 => k_asm); (case k2 => k_asm); (case k3 => k_asm); (case k4 => k_asm); (case k5 => k_asm); (case k6 => k_is); (case k7 => k_is); (case k8 => ktr_room); (case k9 => exact BindsTo.of_eq rfl); (case kB => exact rfl); (case kD => decide +kernel); (case c2 => exact rfl); (case c3 => exact rfl); (case c4 => exact rfl)
  k_whole; intro g' L' h' tk' cells' FG' F' N' Y' B' X' T' l1; have hnx := (List.forall_mem_cons.mp (List.forall_mem_cons.mp l1).2).2; (try k_lt l1); k_cells Y'; (try simp only [List.cons_append, List.nil_append] at N'); (try dsimp only); (try k_lift B'); (try k_fold)
  have C37 : CodeHd g' 41 37 := codeHd_of_K X' (by kernel_rfl)
  have hzl : ((List.replicate ((k : Nat) : Int).toNat [Value.int 0 tk']).flatten).length ≤ sizeLine := fits (by simp; omega)
  k_steps
  rw [hbe, hke]
  rcases t37 with rfl | ⟨c9, oc9, vs9, tq9, rfl, hc9, hd9, hv9⟩
  · k_steps
    · rename News g' L' _ (_ :: _) => N2
      rename Fr g' L' _ _ => F2
      have hx0 : x ≠ 0 := by omega
      have hk0 : 0 < k := by
        rcases Nat.eq_zero_or_pos k with h | h
        · rw [h, Nat.mul_zero, Nat.pow_zero] at hxk; omega
        · exact h
      have N3 := news_third N2
      refine' inner42 (Lo := 0) (ds := List.replicate k 0) ?yb hn hn2 12 k (by omega) (by omega) (by omega) (by assumption) F2 X' N3 (by assumption) rfl ?yoff ?yf ?yc ?ycd ?ycv ?yN ?yNd ?yI ?yId ?yA ?yAd ?yds ?yHi ?ylen ?yle hxk (by omega) ?yd ?yu ?_
      (case yf => k_mem); (case yc => k_mem); (case ycd => assumption); (case ycv => assumption); (case yN => k_mem); (case yNd => assumption); (case yI => k_mem); (case yId => assumption); (case yA => k_mem); (case yAd => assumption)
      (case yb => exact DefOf.of (by k_is) rfl); (case yoff => k_all); (case yds => (rw [Int.toNat_natCast]; exact NatsAre.rep 0 0 _ rfl k)); (case yHi => simp); (case ylen => simp); (case yle => (rw [List.length_replicate]; omega)); (case yd => (dsimp only; omega)); (case yu => (dsimp only; omega))
      intro h2 tk2 ws2 e2 ds2 F3 N4 hds2 hl2 hg2
      k_steps
      rename News h₀ L _ _ => N5
      exact hret _ _ _ _ _ _ (by assumption) (news_a N5) ⟨.inr ⟨_, _, _, _, rfl, List.mem_cons_self, by assumption, by assumption⟩, t44.mono (by ktd_sub), by k_all, by k_all⟩ (by ktd_sub)
        ⟨_, _, _, ds2, rfl, List.mem_cons_of_mem _ List.mem_cons_self, hds2, by rw [hl2, List.length_replicate]; exact hk2, fun i hi => by rw [hg2 i, if_pos ⟨Nat.zero_le _, by rw [hl2] at hi; simpa using hi⟩, Nat.sub_zero], by rw [hl2, List.length_replicate]; exact hxk, by rw [hl2, List.length_replicate]; exact hk3⟩
    · rename News h₀ L _ _ => N5
      have hx0 : x = 0 := by omega
      subst hx0
      rw [Int.toNat_natCast] at N5
      exact hret _ _ _ _ _ _ (by assumption) (news_a (news_third N5)) ⟨.inr ⟨_, _, _, _, rfl, List.mem_cons_self, by assumption, by assumption⟩, t44.mono (by ktd_sub), by k_all, by k_all⟩ (by ktd_sub)
        ⟨_, _, _, List.replicate k 0, rfl, List.mem_cons_of_mem _ List.mem_cons_self, NatsAre.rep 0 0 _ rfl k, by rw [List.length_replicate]; exact hk2, figs_zero, by rw [List.length_replicate]; exact hxk, by rw [List.length_replicate]; exact hk3⟩
  · k_steps
    · rename News g' L' _ (_ :: _) => N2
      rename Fr g' L' _ _ => F2
      have hx0 : x ≠ 0 := by omega
      have hk0 : 0 < k := by
        rcases Nat.eq_zero_or_pos k with h | h
        · rw [h, Nat.mul_zero, Nat.pow_zero] at hxk; omega
        · exact h
      have N3 := news_second N2
      refine' inner42 (Lo := 0) (ds := List.replicate k 0) ?yb hn hn2 12 k (by omega) (by omega) (by omega) (by assumption) F2 X' N3 (by assumption) rfl ?yoff ?yf ?yc ?ycd ?ycv ?yN ?yNd ?yI ?yId ?yA ?yAd ?yds ?yHi ?ylen ?yle hxk (by omega) ?yd ?yu ?_
      (case yf => k_mem); (case yc => k_mem); (case ycd => assumption); (case ycv => assumption); (case yN => k_mem); (case yNd => assumption); (case yI => k_mem); (case yId => assumption); (case yA => k_mem); (case yAd => assumption)
      (case yb => exact DefOf.of (by k_is) rfl); (case yoff => k_all); (case yds => (rw [Int.toNat_natCast]; exact NatsAre.rep 0 0 _ rfl k)); (case yHi => simp); (case ylen => simp); (case yle => (rw [List.length_replicate]; omega)); (case yd => (dsimp only; omega)); (case yu => (dsimp only; omega))
      intro h2 tk2 ws2 e2 ds2 F3 N4 hds2 hl2 hg2
      k_steps
      rename News h₀ L _ _ => N5
      exact hret _ _ _ _ _ _ (by assumption) (news_b N5) ⟨.inr ⟨_, _, _, _, rfl, List.mem_cons_of_mem _ hc9, hd9, hv9⟩, t44.mono (by ktd_sub), by k_all, by k_all⟩ (by ktd_sub)
        ⟨_, _, _, ds2, rfl, List.mem_cons_self, hds2, by rw [hl2, List.length_replicate]; exact hk2, fun i hi => by rw [hg2 i, if_pos ⟨Nat.zero_le _, by rw [hl2] at hi; simpa using hi⟩, Nat.sub_zero], by rw [hl2, List.length_replicate]; exact hxk, by rw [hl2, List.length_replicate]; exact hk3⟩
    · rename News h₀ L _ _ => N5
      have hx0 : x = 0 := by omega
      subst hx0
      rw [Int.toNat_natCast] at N5
      exact hret _ _ _ _ _ _ (by assumption) (news_b (news_second N5)) ⟨.inr ⟨_, _, _, _, rfl, List.mem_cons_of_mem _ hc9, hd9, hv9⟩, t44.mono (by ktd_sub), by k_all, by k_all⟩ (by ktd_sub)
        ⟨_, _, _, List.replicate k 0, rfl, List.mem_cons_self, NatsAre.rep 0 0 _ rfl k, by rw [List.length_replicate]; exact hk2, figs_zero, by rw [List.length_replicate]; exact hxk, by rw [List.length_replicate]; exact hk3⟩
end
end

section
/-- what the figures make, the lowest one first -/
def figs (n : Nat) : List Nat → Nat
  | [] => 0
  | d :: r => d + 2 ^ n * figs n r
theorem figs_app (n : Nat) : ∀ (l r : List Nat), figs n (l ++ r) = figs n l + 2 ^ (n * l.length) * figs n r
  | [], r => by rw [List.nil_append, figs, List.length_nil, Nat.mul_zero, Nat.pow_zero]; omega
  | d :: l, r => by
    rw [List.cons_append, figs, figs, figs_app n l r, List.length_cons, Nat.mul_add n, Nat.mul_one, Nat.pow_add, Nat.mul_add, ← Nat.mul_assoc, Nat.mul_comm (2 ^ n) (2 ^ (n * l.length))]
    omega
theorem figs_cut (n : Nat) (ds : List Nat) {Lo i j : Nat} (h : Lo + i ≤ ds.length) : figs n ((ds.drop Lo).take (i + j)) = figs n ((ds.drop Lo).take i) + 2 ^ (n * i) * figs n ((ds.drop (Lo + i)).take j) := by
  rw [List.take_add, figs_app, List.length_take, List.length_drop, List.drop_drop, Nat.min_eq_left (by omega)]
theorem figs_one (n : Nat) (ds : List Nat) {Lo d : Nat} (h : ds[Lo]? = some d) : figs n ((ds.drop Lo).take 1) = d := by
  obtain ⟨h1, h2⟩ := List.getElem?_eq_some_iff.mp h
  rw [List.drop_eq_getElem_cons h1, List.take_succ_cons, List.take_zero, figs, figs, h2]
  omega

section
variable {prog : Program} {w : World} {p : Program} {loose : List Str} {mean : ExcName → Option Value} {mg mb : Str → Option Value}

local macro_rules | `(tactic| k_steps) => `(tactic| repeat' ((fail_if_success (with_reducible show wpAny _ _ (call (Value.ref _) _) _ _ _)); kfm_num))

set_option maxRecDepth 100000 in
set_option maxHeartbeats 8000000 in
theorem inner49 {name qual : Str} {params : Arguments} {body : List Stmt} {scope : Scope} (hb : DefOf (Mine.hd.heap_39 w.params) 49 (name, params, body, scope)) {n : Nat} (hn : 0 < n) (hn2 : n ≤ 3000) : ∀ (d k : Nat), 0 < k → k ≤ 2 ^ d → d ≤ 12 → ∀
    {dp un : Nat} {gd : Option (List Code)} {cn : Str} {cs : Scope} {a : Addr} {ccd : Value} {cl : List (Str × Addr)} {outer : List Env} {A₀ : Around} {base h₀ : Heap} {L : Addr} {m : Str → Option Value} {nx : List (Addr × Obj)} {s : Shared}
    {Q E : Value → Shared → Prop} {Lo Hi : Nat} {t1 t2 tn tv : Tok} {D f c cN cI cA : Addr} {oN oI oA oc : Obj} {doc nm ctv : Value} {cvs : Array Value} {ws : List Value} {ds : List Nat} {e : Nat} (B : Below A₀ base outer h₀) (F : Fr h₀ L s.heap m) (X : (Mine.hd.heap_39 w.params).In h₀)
    (N : News h₀ L s.heap nx) (T : Top p loose mean mg mb h₀) (hk : cs.kind = .function)
    (hf : (f, fnMade name qual params body scope [("n", cN), ("inner", cI), ("digits", cA)] doc nm c ctv) ∈ nx) (hc : (c, oc) ∈ nx) (hcd : oc.data = .fields cvs) (hcv : cvs[1]? = some (.str qual tv))
    (hN : (cN, oN) ∈ nx) (hNd : oN.data = .cell (some (.int n tn))) (hI : (cI, oI) ∈ nx) (hId : oI.data = .cell (some (.ref f))) (hA : (cA, oA) ∈ nx) (hAd : oA.data = .cell (some (.ref D))) (hD : (D, listOf ws.toArray e) ∈ nx)
    (hds : NatsAre ws ds) (hHi : Hi = Lo + k) (hlen : Hi ≤ ds.length) (hle : ds.length ≤ 100000) (hv : figs n ((ds.drop Lo).take k) < 2 ^ 4000) (hk2 : n * k ≤ 60000) (hd : dp + d + 1 < recursionLimit) (hu : un + 20 * d + 20 < cLine)
    (hret : ∀ h' tk' t, Fr h₀ L h' m → News h₀ L h' nx → Q (.int (figs n ((ds.drop Lo).take k) : Nat) t) { s with heap := h', toks := tk' }),
    wpAny (model prog w) (ktrTop dp un gd cn cs L a ccd cl outer) (call (.ref f) [.int Lo t1, .int Hi t2]) Q E s := by
  have hb := hb.eq (by k_is)
  dsimp only [defObj, defIn] at hb
  cases hb
  intro d
  induction d using Nat.strongRecOn with
  | ind d ih =>
    intro k hk0 hkd hd12 dp un gd cn cs a ccd cl outer A₀ base h₀ L m nx s Q E Lo Hi t1 t2 tn tv D f c cN cI cA oN oI oA oc doc nm ctv cvs ws ds e B F X N T hk hf hc hcd hcv hN hNd hI hId hA hAd hD hds hHi hlen hle hv hk2 hd hu hret
    have hmid : ((Lo : Int) + (Hi : Int)).fdiv (2 ^ Int.toNat 1) = ((Lo + k / 2 : Nat) : Int) := by
      show ((Lo : Int) + (Hi : Int)).fdiv 2 = _
      rw [show (Lo : Int) + (Hi : Int) = ((Lo + Hi : Nat) : Int) by omega, fdiv2]
      congr 1; exact mid_eq hHi
    have hsh : (((Lo : Int) + (Hi : Int)).fdiv (2 ^ Int.toNat 1) - (Lo : Int)) * (n : Int) = ((k / 2 * n : Nat) : Int) := by
      rw [hmid, show ((Lo + k / 2 : Nat) : Int) - (Lo : Int) = ((k / 2 : Nat) : Int) by omega, Int.natCast_mul]
    have hs0 : 0 ≤ (((Lo : Int) + (Hi : Int)).fdiv (2 ^ Int.toNat 1) - (Lo : Int)) * (n : Int) := by rw [hsh]; omega
    have hkn : k / 2 * n ≤ n * k := by rw [Nat.mul_comm n k]; exact Nat.mul_le_mul_right _ (Nat.div_le_self _ _)
    have hcut : figs n ((ds.drop Lo).take k) = figs n ((ds.drop Lo).take (k / 2)) + 2 ^ (n * (k / 2)) * figs n ((ds.drop (Lo + k / 2)).take (k - k / 2)) := by
      rw [← figs_cut n ds (by omega)]; congr 2; first | exact half_sum k | omega
    have hv1 : figs n ((ds.drop (Lo + k / 2)).take (k - k / 2)) < 2 ^ 4000 := by
      have h1 : 1 * figs n ((ds.drop (Lo + k / 2)).take (k - k / 2)) ≤ 2 ^ (n * (k / 2)) * figs n ((ds.drop (Lo + k / 2)).take (k - k / 2)) := Nat.mul_le_mul_right _ (Nat.two_pow_pos _)
      omega
    have hv2 : figs n ((ds.drop Lo).take (k / 2)) < 2 ^ 4000 := by omega
    have hsl : ((Builtin.Int.intBits ((figs n ((ds.drop (Lo + k / 2)).take (k - k / 2)) : Nat) : Int) : Nat) : Int) + (((Lo : Int) + (Hi : Int)).fdiv (2 ^ Int.toNat 1) - (Lo : Int)) * (n : Int) ≤ 2 ^ 27 := by
      refine shlok (k := 4000) ?_ (by omega) (by rw [hsh]; omega)
      rw [Int.natAbs_natCast]; exact hv1
    have hzl : ws.length ≤ sizeLine := fits (by rw [hds.length]; omega)
    obtain ⟨d0, hd0⟩ : ∃ d0, ds[Lo]? = some d0 := ⟨ds[Lo]'(by omega), by simp⟩
    obtain ⟨dt, hitem⟩ : ∃ dt, ws[(Lo : Int).toNat]? = some (.int (d0 : Int) dt) := by
      obtain ⟨dt, h⟩ := IntsAre.get hds Lo (d0 : Int) (by rw [List.getElem?_map, hd0]; rfl)
      exact ⟨dt, by rw [Int.toNat_natCast]; exact h⟩
    refine wpAny_call ?_
    refine' code_nest ?k1 ?k2 ?k3 ?k4 ?k5 ?kA ?kF ?kK ?k6 ?k7 ?k8 ?k9 ?kB ?_ ?c2 ?c3 ?c4 ?c5; (case kA => exact rfl); (case kF => exact rfl); (case kK => first | assumption | exact rfl); (case k1 => k_asm); (case k2 => k_asm); (case k3 => k_asm); (case k4 => k_asm); (case k5 => k_asm); (case k6 => exact hf); (case k7 => exact codeRec_news N hc hcd hcv); (case k8 => ktr_room); (case k9 => exact BindsTo.of_eq rfl); (case c5 => decide); (case kB => exact locs rfl); (case c2 => exact rfl); (case c3 => exact rfl); (case c4 => exact rfl)
    k_whole; intro g' L' h' FG' F' N' B' X' T'; (try dsimp only); (try k_fold)
    have C44 : CodeHd g' 48 44 := codeHd_of_K X' (by kernel_rfl)
    k_steps
    · -- one figure
      rename (Lo : Int) + 1 = (Hi : Int) => h1
      have hk1 : k = 1 := by clear hmid; omega
      subst hk1
      rw [figs_one n ds hd0] at hret
      exact hret _ _ _ (by assumption) (by assumption)
    · -- two halves
      rename (Lo : Int) + 1 ≠ (Hi : Int) => h1
      rename Fr g' L' _ _ => F2
      rename News g' L' _ _ => N2
      obtain ⟨d, rfl⟩ : ∃ d', d = d' + 1 := by
        cases d with
        | zero => exfalso; rw [Nat.pow_zero] at hkd; omega
        | succ d => exact ⟨d, rfl⟩
      rw [Nat.pow_succ] at hkd
      have hkk : n * k = n * (k / 2) + n * (k - k / 2) := by rw [← Nat.mul_add]; congr 1; exact half_sum k
      rw [hmid]
      refine ih d (by clear hmid; omega) (k - k / 2) (by clear hmid; omega) (by clear hmid; omega) (by clear hmid; omega) B' F2 X' N2 T' rfl hf hc hcd hcv hN hNd hI hId hA hAd hD hds (half_hi hHi) (by clear hmid; omega) hle hv1 (by clear hmid; omega) (by dsimp only; first | exact room_i hd | exact room_j hu | omega) (by dsimp only; first | exact room_i hd | exact room_j hu | omega) ?_
      intro h2 tk2 tt2 F3 N3
      k_steps
      rename Fr g' L' _ _ => F4
      rename News g' L' _ _ => N4
      rw [hmid]
      refine ih d (by clear hmid; omega) (k / 2) (by clear hmid; omega) (by clear hmid; omega) (by clear hmid; omega) B' F4 X' N4 T' rfl hf hc hcd hcv hN hNd hI hId hA hAd hD hds rfl (by clear hmid; omega) hle hv2 (by clear hmid; omega) (by dsimp only; first | exact room_i hd | exact room_j hu | omega) (by dsimp only; first | exact room_i hd | exact room_j hu | omega) ?_
      intro h5 tk5 tt5 F5 N5
      k_steps
      have hfin : ((figs n ((ds.drop (Lo + k / 2)).take (k - k / 2)) : Nat) : Int) * 2 ^ ((((Lo + k / 2 : Nat) : Int) - (Lo : Int)) * (n : Int)).toNat + ((figs n ((ds.drop Lo).take (k / 2)) : Nat) : Int) = ((figs n ((ds.drop Lo).take k) : Nat) : Int) := by
        rw [← hmid, hsh, Int.toNat_natCast, hcut, show (2 : Int) ^ (k / 2 * n) = ((2 ^ (k / 2 * n) : Nat) : Int) by rw [Int.natCast_pow]; rfl, ← Int.natCast_mul, ← Int.natCast_add, Nat.mul_comm (k / 2) n, Nat.mul_comm (figs n _) (2 ^ _), Nat.add_comm]
      rw [hfin]
      exact hret _ _ _ (by assumption) (by assumption)

theorem news_c {h₀ h : Heap} {L : Addr} {f c i n d t u : Addr × Obj} {r : List (Addr × Obj)} (N : News h₀ L h (f :: c :: i :: n :: d :: t :: u :: r)) : News h₀ L h (t :: u :: c :: r) :=
  nsub N (by intro q hq; simp only [List.mem_cons] at hq ⊢; rcases hq with h | h | h | h <;> simp [h])
theorem news_d {h₀ h : Heap} {L : Addr} {f i n d t u : Addr × Obj} {r : List (Addr × Obj)} (N : News h₀ L h (f :: i :: n :: d :: t :: u :: r)) : News h₀ L h (t :: u :: r) :=
  nsub N (by intro q hq; simp only [List.mem_cons] at hq ⊢; rcases hq with h | h | h <;> simp [h])

set_option maxRecDepth 100000 in
set_option maxHeartbeats 8000000 in
theorem d2i_ok (n : Nat) (ds : List Nat) (hn : 0 < n) (hn2 : n ≤ 3000) (hl : ds.length ≤ 4000) (hk2 : n * ds.length ≤ 60000) (hv : figs n ds < 2 ^ 4000) : ConT prog w p loose mean mg mb 49 16 400 (fun nx vs => ∃ a us e tn, vs = [.ref a, .int n tn] ∧ (a, listOf us.toArray e) ∈ nx ∧ NatsAre us ds)
    (fun nx r => ∃ t, r = .int (figs n ds : Nat) t) := by
  unfold ConT
  intro dp un gd cn cs a ccd cl outer A₀ base h₀ L m ps qs nx s vs Q E B F X N T hT hk hR hd hu hret
  obtain ⟨oa, us, e, tn, rfl, hom, hon⟩ := hR
  obtain ⟨t37, t44, h37, h44⟩ := hT
  have hul : us.length = ds.length := hon.length
  have hzl : us.length ≤ sizeLine := fits (by omega)
  refine wpAny_call ?_
  refine' code_defC ?k1 ?k2 ?k3 ?k4 ?k5 ?kA ?kF ?kK ?k6 ?k7 ?k8 ?k9 ?kB ?kD ?_ ?c2 ?c3 ?c4; (case kA => exact rfl); (case kF => exact rfl); (case kK => first | assumption | exact rfl); (case k1 => k_asm); (case k2 => k_asm); (case k3 => k_asm); (case k4 => k_asm); (case k5 => k_asm); (case k6 => k_is); (case k7 => k_is); (case k8 => ktr_room); (case k9 => exact BindsTo.of_eq rfl); (case kB => exact rfl); (case kD => decide +kernel); (case c2 => exact rfl); (case c3 => exact rfl); (case c4 => exact rfl)
  k_whole; intro g' L' h' tk' cells' FG' F' N' Y' B' X' T' l1; have hnx := (List.forall_mem_cons.mp (List.forall_mem_cons.mp l1).2).2; (try k_lt l1); k_cells Y'; (try simp only [List.cons_append, List.nil_append] at N'); (try dsimp only); (try k_lift B'); (try k_fold)
  have C44 : CodeHd g' 48 44 := codeHd_of_K X' (by kernel_rfl)
  rcases t44 with rfl | ⟨c9, oc9, vs9, tq9, rfl, hc9, hd9, hv9⟩
  · k_steps
    rename News g' L' _ (_ :: _) => N1
    refine wpAny_truthy_list (items := us.toArray) (PySem.IsL.isList (n := e) (N1 (oa, W.listOf us.toArray e) (by k_mem)).1) (by rw [List.size_toArray]; omega) ?_
    by_cases he : us = []
    · subst he
      obtain rfl : ds = [] := List.length_eq_zero_iff.mp hul.symm
      refine ite_neg (by decide) ?_
      k_steps
      rename News h₀ L _ _ => N5
      exact hret _ _ _ _ _ _ (by assumption) (news_c N5) ⟨t37.mono (by ktd_sub), .inr ⟨_, _, _, _, rfl, List.mem_cons_self, by assumption, by assumption⟩, by k_all, by k_all⟩ (by ktd_sub) ⟨_, rfl⟩
    · have hpos : 0 < us.length := List.length_pos_iff.mpr he
      refine ite_pos (by simp [he]) ?_
      k_steps
      rename News g' L' _ (_ :: _) => N2
      rename Fr g' L' _ _ => F2
      refine' inner49 (Lo := 0) (n := n) (ds := ds) ?yb hn hn2 12 us.length (by omega) (by omega) (by omega) (by assumption) F2 X' N2 (by assumption) rfl ?yf ?yc ?ycd ?ycv ?yN ?yNd ?yI ?yId ?yA ?yAd ?yD hon ?yHi ?ylen ?yle ?yv ?yk ?yd ?yu ?_
      (case yf => k_mem); (case yc => k_mem); (case ycd => assumption); (case ycv => assumption); (case yN => k_mem); (case yNd => assumption); (case yI => k_mem); (case yId => assumption); (case yA => k_mem); (case yAd => assumption); (case yD => k_mem)
      (case yb => exact DefOf.of (by k_is) rfl); (case yHi => omega); (case ylen => omega); (case yle => omega); (case yv => (rw [List.drop_zero, hul, List.take_length]; exact hv)); (case yk => (rw [hul]; exact hk2)); (case yd => (dsimp only; omega)); (case yu => (dsimp only; omega))
      intro h5 tk5 tt5 F5 N5
      rw [List.drop_zero, hul, List.take_length]
      k_steps
      rename News h₀ L _ _ => N5
      exact hret _ _ _ _ _ _ (by assumption) (news_c N5) ⟨t37.mono (by ktd_sub), .inr ⟨_, _, _, _, rfl, List.mem_cons_self, by assumption, by assumption⟩, by k_all, by k_all⟩ (by ktd_sub) ⟨_, rfl⟩
  · k_steps
    rename News g' L' _ (_ :: _) => N1
    refine wpAny_truthy_list (items := us.toArray) (PySem.IsL.isList (n := e) (N1 (oa, W.listOf us.toArray e) (by k_mem)).1) (by rw [List.size_toArray]; omega) ?_
    by_cases he : us = []
    · subst he
      obtain rfl : ds = [] := List.length_eq_zero_iff.mp hul.symm
      refine ite_neg (by decide) ?_
      k_steps
      rename News h₀ L _ _ => N5
      exact hret _ _ _ _ _ _ (by assumption) (news_d N5) ⟨t37, .inr ⟨_, _, _, _, rfl, hc9, hd9, hv9⟩, by k_all, by k_all⟩ (by ktd_sub) ⟨_, rfl⟩
    · have hpos : 0 < us.length := List.length_pos_iff.mpr he
      refine ite_pos (by simp [he]) ?_
      k_steps
      rename News g' L' _ (_ :: _) => N2
      rename Fr g' L' _ _ => F2
      refine' inner49 (Lo := 0) (n := n) (ds := ds) ?yb hn hn2 12 us.length (by omega) (by omega) (by omega) (by assumption) F2 X' N2 (by assumption) rfl ?yf ?yc ?ycd ?ycv ?yN ?yNd ?yI ?yId ?yA ?yAd ?yD hon ?yHi ?ylen ?yle ?yv ?yk ?yd ?yu ?_
      (case yf => k_mem); (case yc => k_mem); (case ycd => assumption); (case ycv => assumption); (case yN => k_mem); (case yNd => assumption); (case yI => k_mem); (case yId => assumption); (case yA => k_mem); (case yAd => assumption); (case yD => k_mem)
      (case yb => exact DefOf.of (by k_is) rfl); (case yHi => omega); (case ylen => omega); (case yle => omega); (case yv => (rw [List.drop_zero, hul, List.take_length]; exact hv)); (case yk => (rw [hul]; exact hk2)); (case yd => (dsimp only; omega)); (case yu => (dsimp only; omega))
      intro h5 tk5 tt5 F5 N5
      rw [List.drop_zero, hul, List.take_length]
      k_steps
      rename News h₀ L _ _ => N5
      exact hret _ _ _ _ _ _ (by assumption) (news_d N5) ⟨t37, .inr ⟨_, _, _, _, rfl, hc9, hd9, hv9⟩, by k_all, by k_all⟩ (by ktd_sub) ⟨_, rfl⟩
end
end

section
theorem allLt_to {d : Nat} : ∀ {l : List (Addr × Obj)}, AllLt d l → ∀ p ∈ l, p.1 < d
  | [], _, _, h => nomatch h
  | _ :: _, h, _, hp => by
    rcases List.mem_cons.mp hp with rfl | hp
    · exact h.1
    · exact allLt_to h.2 _ hp

theorem tabs_tup {h₀ h : Heap} {L D : Addr} {vs : List Value} {ps qs : Array Value} {nx : List (Addr × Obj)} (N : News h₀ L h ((D, tupObj vs) :: (37, tabObj ps) :: (44, tabObj qs) :: nx)) (hT : Tabs ps qs nx) :
    News h₀ L h ((37, tabObj ps) :: (44, tabObj qs) :: (D, tupObj vs) :: nx) ∧ Tabs ps qs ((D, tupObj vs) :: nx) := by
  have h1 : D ≠ 37 := news_ne N (o := tupObj vs) (o' := tabObj ps) List.mem_cons_self (List.mem_cons_of_mem _ List.mem_cons_self) (fun e => Value.noConfusion e)
  have h2 : D ≠ 44 := news_ne N (o := tupObj vs) (o' := tabObj qs) List.mem_cons_self (List.mem_cons_of_mem _ (List.mem_cons_of_mem _ List.mem_cons_self)) (fun e => Value.noConfusion e)
  refine ⟨nsub N (by intro q hq; simp only [List.mem_cons] at hq ⊢; rcases hq with h | h | h | h <;> simp [h]), hT.1.mono (fun q hq => List.mem_cons_of_mem _ hq), hT.2.1.mono (fun q hq => List.mem_cons_of_mem _ hq), List.forall_mem_cons.mpr ⟨h1, hT.2.2.1⟩, List.forall_mem_cons.mpr ⟨h2, hT.2.2.2⟩⟩

section
variable {prog : Program} {w : World} {p : Program} {loose : List Str} {mean : ExcName → Option Value} {mg mb : Str → Option Value}

set_option maxRecDepth 100000 in
set_option maxHeartbeats 8000000 in
theorem dmp_ok (x y : Nat) (hx : x < 2 ^ 1500) (hy : 0 < y) (hy2 : y < 2 ^ 1500) : ConT prog w p loose mean mg mb 56 20 600 (fun _ vs => ∃ tx ty, vs = [.int x tx, .int y ty])
    (fun nx r => ∃ a ta tb, r = .ref a ∧ (a, tupObj [.int ((x / y : Nat) : Int) ta, .int ((x % y : Nat) : Int) tb]) ∈ nx) := by
  unfold ConT
  intro dp un gd cn cs a ccd cl outer A₀ base h₀ L m ps qs nx s vs Q E B F X N T hT hk hR hd hu hret
  obtain ⟨tx, ty, rfl⟩ := hR
  have h45 : (2 : Nat) ^ 1500 ≤ 2 ^ 3000 := Nat.pow_le_pow_right (by decide) (by decide)
  obtain ⟨n, hn⟩ : ∃ n, Builtin.Int.intBits (y : Int) = n := ⟨_, rfl⟩
  have hn1 : y < 2 ^ n := by
    have := (intBits_le_iff (m := n) (x := (y : Int))).mp (by omega)
    rwa [Int.natAbs_natCast] at this
  have hn2 : n ≤ 1500 := by
    have := (intBits_le_iff (m := 1500) (x := (y : Int))).mpr (by rw [Int.natAbs_natCast]; exact hy2)
    omega
  have hn0 : 0 < n := by
    rcases Nat.eq_zero_or_pos n with h | h
    · rw [h] at hn1; omega
    · exact h
  refine wpAny_call ?_
  k_dflt ktr_enter
  k_steps
  rw [hn]
  rename Fr _ _ _ _ => F2
  rw [hn] at F2
  rename News _ _ _ _ => N2
  refine conT_use (i2d_ok x n (by omega) hn0 (by omega)) (by assumption) F2 (by assumption) N2 (by assumption) hT rfl ⟨_, _, rfl⟩ (by dsimp only; first | exact room1 hd rfl | omega) (by dsimp only; first | exact room3 hu rfl | omega) ?_
  rintro r1 ps1 qs1 nx1 h1 tk1 F3 N3 hT1 hs1 ⟨da, us, ue, ds, rfl, hdm, hus, hl, hget, hxl, hnl⟩
  k_steps
  rename Fr _ _ _ _ => F4
  (with_unfolding_all refine' For_invVF F4 ?k1 ?k2 ?_; (case k1 => exact rfl); (case k2 => exact rfl); k_whole)
  k_steps
  rename News _ _ _ ((_, W.listOf #[] 0) :: (37, tabObj ps1) :: (44, tabObj qs1) :: nx1) => N4
  rename_i qa _ _ _ _ _
  rename _ ∧ _ ∧ AllLt qa nx1 => hqa
  refine krv_reversed F4 N4 (vs := us) (PySem.IsL.isList (n := ue) (N4 (da, W.listOf us.toArray ue) (List.mem_cons_of_mem _ (List.mem_cons_of_mem _ (List.mem_cons_of_mem _ hdm)))).1) ?_
  intro I h6 F5 N5 hI
  have hul : us.length = ds.length := hus.length
  have hqnx : ∀ p ∈ nx1, p.1 ≠ qa := far (allLt_to hqa.2.2) (Nat.le_refl _)
  refine iter_rev_my (l := da) (D := I) (vs := us) (n := ue) (fun (c : Nat × Tok × List Value × Nat × Tok) => [("n", .int n c.2.2.2.2), ("b", .int y ty), ("r", .int c.1 c.2.1), ("q_digits", .ref qa)])
    (fun i c nx' => nx' = (qa, W.listOf c.2.2.1.toArray c.2.2.2.1) :: (37, tabObj ps1) :: (44, tabObj qs1) :: nx1 ∧ c.2.2.1.length = i ∧ c.1 = x / 2 ^ (n * (us.length - i)) % y ∧ ∃ Qs, NatsAre c.2.2.1 Qs ∧ figs n Qs.reverse = x / 2 ^ (n * (us.length - i)) / y) (0, _, [], 0, _) rfl
    (fun i c nx' h => by rw [h.1]; exact List.mem_cons_of_mem _ (List.mem_cons_of_mem _ (List.mem_cons_of_mem _ hdm))) F5 N5 (fun p hp e => by have := hI p hp; rw [e] at this; exact absurd this (Nat.lt_irrefl _)) (.cons rfl (.cons rfl (.cons rfl (.one rfl)))) ⟨rfl, rfl, ?_, [], .nil, ?_⟩ ?_ ?_
  · rw [Nat.sub_zero, hul, Nat.div_eq_of_lt hxl, Nat.zero_mod]
  · rw [Nat.sub_zero, hul, Nat.div_eq_of_lt hxl, Nat.zero_div]; rfl
  · clear F5 N5
    rintro i v ⟨r, rt, gs, ge, nt⟩ u nx' h7 tk7 oI hi hv ⟨rfl, hgl, hr, Qs, hQs, hfQ⟩ hoff hcls F' N'
    dsimp only [envOf] at F' N'
    dsimp only at hgl hr hfQ hQs ⊢
    have hil : us.length - 1 - i < ds.length := by omega
    obtain ⟨j, hj⟩ : ∃ j, us.length = j + 1 + i := ix_ex hi
    rw [show us.length - 1 - i = j from ix_a hj] at hv hil
    obtain ⟨d, dt, hd1, rfl⟩ := hus.get hv
    rw [hget j hil] at hd1
    obtain rfl := Option.some.inj hd1
    rw [show us.length - i = j + 1 from ix_b hj] at hr hfQ
    have hry : r < y := by rw [hr]; exact Nat.mod_lt _ hy
    have hsh : (Builtin.Int.intBits ((r : Nat) : Int) : Int) + (n : Int) ≤ 2 ^ 27 := by
      refine shlok (k := 1500) ?_ (by omega) (by omega)
      rw [Int.natAbs_natCast]; omega
    have hn9 : 0 ≤ (n : Int) := by omega
    have hdl : x / 2 ^ (n * j) % 2 ^ n < 2 ^ n := Nat.mod_lt _ (Nat.two_pow_pos _)
    have hbig : r * 2 ^ n + x / 2 ^ (n * j) % 2 ^ n < 2 ^ 4000 := by
      have h1 : (r + 1) * 2 ^ n ≤ 2 ^ 1500 * 2 ^ 1500 := Nat.mul_le_mul (by omega) (Nat.pow_le_pow_right (by decide) hn2)
      rw [← Nat.pow_add, Nat.add_mul, Nat.one_mul] at h1
      have h2 : (2 : Nat) ^ (1500 + 1500) ≤ 2 ^ 4000 := Nat.pow_le_pow_right (by decide) (by decide)
      omega
    have hval : (r : Int) * 2 ^ (n : Int).toNat + ((x / 2 ^ (n * j) % 2 ^ n : Nat) : Int) = ((r * 2 ^ n + x / 2 ^ (n * j) % 2 ^ n : Nat) : Int) := by
      rw [Int.toNat_natCast, Int.natCast_add, Int.natCast_mul, Int.natCast_pow]; rfl
    -- the quotient so far, one figure further
    have hx2 : x / 2 ^ (n * j) = 2 ^ n * (x / 2 ^ (n * (j + 1))) + x / 2 ^ (n * j) % 2 ^ n := by
      rw [Nat.mul_add n j 1, Nat.mul_one, Nat.pow_add, ← Nat.div_div_eq_div_mul, Nat.div_add_mod]
    have hxy : x / 2 ^ (n * j) = y * (2 ^ n * (x / 2 ^ (n * (j + 1)) / y)) + (r * 2 ^ n + x / 2 ^ (n * j) % 2 ^ n) := by
      have h3 := Nat.div_add_mod (x / 2 ^ (n * (j + 1))) y
      rw [← hr] at h3
      have h4 : 2 ^ n * (y * (x / 2 ^ (n * (j + 1)) / y) + r) = 2 ^ n * (x / 2 ^ (n * (j + 1))) := by rw [h3]
      rw [Nat.mul_add, Nat.mul_left_comm] at h4
      rw [Nat.mul_comm r (2 ^ n)]
      omega
    have hq2 : x / 2 ^ (n * j) / y = 2 ^ n * (x / 2 ^ (n * (j + 1)) / y) + (r * 2 ^ n + x / 2 ^ (n * j) % 2 ^ n) / y := by
      conv => lhs; rw [hxy]
      rw [Nat.mul_add_div hy]
    have hr2 : x / 2 ^ (n * j) % y = (r * 2 ^ n + x / 2 ^ (n * j) % 2 ^ n) % y := by
      conv => lhs; rw [hxy]
      rw [Nat.mul_add_mod]
    generalize r * 2 ^ n + x / 2 ^ (n * j) % 2 ^ n = z at hbig hval hq2 hr2
    k_steps
    rw [hval]
    refine con_use (div2_ok z y n hbig hy (by omega)) (by assumption) (by assumption) (by assumption) (by assumption) (by assumption) rfl ⟨_, _, _, rfl⟩ (by dsimp only; first | exact room1 hd rfl | omega) (by dsimp only; first | exact room3 hu rfl | omega) ?_
    rintro r2 nx2 h8 tk8 F7 N7 hs7 ⟨ta, u1, u2, rfl, htm⟩
    have N8 : News _ _ _ ((ta, tupObj [.int ((z / y : Nat) : Int) u1, .int ((z % y : Nat) : Int) u2]) :: (I, oI) :: (qa, W.listOf gs.toArray ge) :: (37, tabObj ps1) :: (44, tabObj qs1) :: nx1) := fun q hq => by
      rcases List.mem_cons.mp hq with rfl | hq
      · exact N7 _ htm
      · exact N7 _ (hs7 _ hq)
    clear N7
    have hqt : ta ≠ qa := news_ne N8 (o := tupObj _) (o' := W.listOf gs.toArray ge) List.mem_cons_self (List.mem_cons_of_mem _ (List.mem_cons_of_mem _ List.mem_cons_self)) (fun e => absurd (Value.type.inj e) (by decide))
    dsimp only [tupObj] at N8
    k_steps
    rename Fr _ _ _ _ => F9
    rename News _ _ _ _ => N9
    refine r_append (news := (I, oI) :: (37, tabObj ps1) :: (44, tabObj qs1) :: nx1) (vs := gs) (n := ge) F9 (nsub N9 (by intro q hq; simp only [List.mem_cons] at hq ⊢; rcases hq with h | h | h <;> simp [h])) ?_ (fits (by omega)) ?_
    · refine List.forall_mem_cons.mpr ⟨fun e => hoff _ List.mem_cons_self e.symm, List.forall_mem_cons.mpr ⟨fun e => absurd (hqa.1 : (37 : Nat) < qa) (by rw [← e]; exact Nat.lt_irrefl _), List.forall_mem_cons.mpr ⟨fun e => absurd (hqa.2.1 : (44 : Nat) < qa) (by rw [← e]; exact Nat.lt_irrefl _), hqnx⟩⟩⟩
    intro h9 F10 N10
    k_steps
    refine FPost.nextI (c' := (z % y, u2, gs ++ [.int ((z / y : Nat) : Int) u1], ge + 1, nt)) F10 (news_second N10) (fun q hq => ?_) (.cons rfl (.cons rfl (.cons rfl (.one rfl)))) ⟨rfl, ?_, ?_, Qs ++ [z / y], hQs.append (.one _ _ rfl), ?_⟩
    · rcases List.mem_cons.mp hq with rfl | hq
      · exact hoff (qa, W.listOf gs.toArray ge) List.mem_cons_self
      · exact hoff q (List.mem_cons_of_mem _ hq)
    · simp only [List.length_append, List.length_cons, List.length_nil]; omega
    · rw [show us.length - (i + 1) = j from ix_c hj]; exact hr2.symm
    · rw [show us.length - (i + 1) = j from ix_c hj, hq2, List.reverse_append, List.reverse_singleton, List.singleton_append, figs, hfQ, Nat.add_comm]
  · rintro ⟨r, rt, gs, ge, nt⟩ u nx' h7 tk7 ⟨rfl, hgl, hr, Qs, hQs, hfQ⟩ F' N'
    dsimp only [envOf] at F' N'
    dsimp only at hgl hr hfQ hQs ⊢
    rw [Nat.sub_self, Nat.mul_zero, Nat.pow_zero, Nat.div_one] at hr hfQ
    k_steps
    dsimp only
    have hQl : Qs.length = ds.length := by rw [← hQs.length, hgl, hul]
    have h37q : (37 : Nat) ≠ qa := by have := hqa.1; omega
    have h44q : (44 : Nat) ≠ qa := by have := hqa.2.1; omega
    refine reverse_head (its := gs.toArray) (n := ge) F' N' ?_ (fun h8 F8 N8 => ?_) (fits (by rw [List.size_toArray]; omega))
    · exact List.forall_mem_cons.mpr ⟨h37q, List.forall_mem_cons.mpr ⟨h44q, hqnx⟩⟩
    have N9 : News _ _ _ ((37, tabObj ps1) :: (44, tabObj qs1) :: (qa, W.listOf gs.reverse.toArray ge) :: nx1) := nsub N8 (by
      intro q hq; simp only [List.mem_cons] at hq ⊢; rcases hq with h | h | h | h <;> simp [h])
    clear N8
    have hrevQ : NatsAre gs.reverse Qs.reverse := by
      show IntsAre _ _
      rw [List.map_reverse]; exact IntsAre.reverse hQs
    have hT9 : Tabs ps1 qs1 ((qa, W.listOf gs.reverse.toArray ge) :: nx1) :=
      ⟨hT1.1.mono (fun q hq => List.mem_cons_of_mem _ hq), hT1.2.1.mono (fun q hq => List.mem_cons_of_mem _ hq), List.forall_mem_cons.mpr ⟨fun e => h37q e.symm, hT1.2.2.1⟩, List.forall_mem_cons.mpr ⟨fun e => h44q e.symm, hT1.2.2.2⟩⟩
    k_steps
    rename Fr _ _ _ _ => F10
    rename News _ _ _ _ => N10
    refine conT_use (d2i_ok n Qs.reverse hn0 (by omega) (by rw [List.length_reverse]; omega) (by rw [List.length_reverse, hQl]; omega) ?_) (by assumption) F10 (by assumption) N10 (by assumption) hT9 rfl ⟨qa, gs.reverse, ge, nt, rfl, List.mem_cons_self, hrevQ⟩ (by dsimp only; first | exact room1 hd rfl | omega) (by dsimp only; first | exact room3 hu rfl | omega) ?_
    · rw [hfQ]
      have h1 : x / y ≤ x := Nat.div_le_self _ _
      have h2 : (2 : Nat) ^ 1500 ≤ 2 ^ 4000 := Nat.pow_le_pow_right (by decide) (by decide)
      omega
    rintro r2 ps2 qs2 nx2 h11 tk11 F11 N11 hT2 hs2 ⟨qt, rfl⟩
    rw [hfQ]
    subst hr
    k_steps
    rename News h₀ L _ _ => N12
    obtain ⟨N13, hT13⟩ := tabs_tup (vs := [_, _]) N12 hT2
    exact hret _ _ _ _ _ _ (by assumption) N13 hT13 (fun q hq => List.mem_cons_of_mem _ (hs2 _ (List.mem_cons_of_mem _ (hs1 q hq)))) ⟨_, _, _, rfl, List.mem_cons_self⟩
end
end

section
theorem news_with {h₀ h : Heap} {L : Addr} {e : Addr × Obj} {l : List (Addr × Obj)} (N : News h₀ L h l) (he : e ∈ l) : News h₀ L h (e :: l) := fun q hq => by
  rcases List.mem_cons.mp hq with rfl | hq
  · exact N _ he
  · exact N _ hq
theorem news_drop2 {h₀ h : Heap} {L : Addr} {a b : Addr × Obj} {l : List (Addr × Obj)} (N : News h₀ L h (a :: b :: l)) : News h₀ L h (a :: l) :=
  nsub N (by intro q hq; simp only [List.mem_cons] at hq ⊢; rcases hq with h | h <;> simp [h])

section
variable {prog : Program} {w : World} {p : Program} {loose : List Str} {mean : ExcName → Option Value} {mg mb : Str → Option Value}

set_option maxRecDepth 100000 in
set_option maxHeartbeats 8000000 in
theorem idm_pos (x y : Nat) (hx : x < 2 ^ 1500) (hy : 0 < y) (hy2 : y < 2 ^ 1500) : ConT prog w p loose mean mg mb 63 22 700 (fun _ vs => ∃ tx ty, vs = [.int x tx, .int y ty])
    (fun nx r => ∃ a ta tb, r = .ref a ∧ (a, tupObj [.int ((x / y : Nat) : Int) ta, .int ((x % y : Nat) : Int) tb]) ∈ nx) := by
  unfold ConT
  intro dp un gd cn cs a ccd cl outer A₀ base h₀ L m ps qs nx s vs Q E B F X N T hT hk hR hd hu hret
  obtain ⟨tx, ty, rfl⟩ := hR
  have hy0 : (y : Int) ≠ 0 := by omega
  have hy1 : ¬ (y : Int) < 0 := by omega
  have hx1 : ¬ (x : Int) < 0 := by omega
  refine wpAny_call ?_
  k_dflt ktr_enter
  k_steps
  · exfalso; omega
  rename Fr _ _ _ _ => F2
  rename News _ _ _ _ => N2
  refine conT_use (dmp_ok x y hx hy hy2) (by assumption) F2 (by assumption) N2 (by assumption) hT rfl ⟨_, _, rfl⟩ (by dsimp only; first | exact room1 hd rfl | omega) (by dsimp only; first | exact room3 hu rfl | omega) ?_
  rintro r1 ps1 qs1 nx1 h1 tk1 F3 N3 hT1 hs1 ⟨ta, u1, u2, rfl, htm⟩
  k_steps
  exact hret _ _ _ _ _ _ (by assumption) (by assumption) hT1 hs1 ⟨_, _, _, rfl, htm⟩

set_option maxRecDepth 100000 in
set_option maxHeartbeats 8000000 in
theorem idm_neg1 (x y : Nat) (hx : x < 2 ^ 1500) (hy : 0 < y) (hy2 : y < 2 ^ 1500) : ConT prog w p loose mean mg mb 63 23 800 (fun _ vs => ∃ (a b : Int) (tx ty : Tok), vs = [.int a tx, .int b ty] ∧ a = -((x : Int) + 1) ∧ b = y)
    (fun nx r => ∃ a ta tb, r = .ref a ∧ (a, tupObj [.int (-((x / y : Nat) : Int) - 1) ta, .int ((y : Int) - ((x % y : Nat) : Int) - 1) tb]) ∈ nx) := by
  unfold ConT
  intro dp un gd cn cs a ccd cl outer A₀ base h₀ L m ps qs nx s vs Q E B F X N T hT hk hR hd hu hret
  obtain ⟨va, _, tx, ty, rfl, ha, rfl⟩ := hR
  have hy0 : (y : Int) ≠ 0 := by omega
  have hy1 : ¬ (y : Int) < 0 := by omega
  have hx1 : va < 0 := by omega
  have hnot : Builtin.bitNot va = (x : Int) := by unfold Builtin.bitNot; omega
  have e1 : ∀ k : Int, Builtin.bitNot k = -k - 1 := fun k => by unfold Builtin.bitNot; omega
  refine wpAny_call ?_
  k_dflt ktr_enter
  k_steps
  · exfalso; omega
  rw [hnot]
  rename Fr _ _ _ _ => F2
  rename News _ _ _ _ => N2
  refine conT_use (idm_pos x y hx hy hy2) (by assumption) F2 (by assumption) N2 (by assumption) hT rfl ⟨_, _, rfl⟩ (by dsimp only; first | exact room1 hd rfl | omega) (by dsimp only; first | exact room3 hu rfl | omega) ?_
  rintro r1 ps1 qs1 nx1 h1 tk1 F3 N3 hT1 hs1 ⟨ta, u1, u2, rfl, htm⟩
  have N4 := news_with N3 (List.mem_cons_of_mem _ (List.mem_cons_of_mem _ htm))
  clear N3
  dsimp only [tupObj] at N4
  k_steps
  rename News h₀ L _ _ => N12
  have N13 := news_drop2 N12
  rw [e1, e1, show (y : Int) + (-((x % y : Nat) : Int) - 1) = (y : Int) - ((x % y : Nat) : Int) - 1 by omega] at N13
  obtain ⟨N14, hT14⟩ := tabs_tup (vs := [_, _]) N13 hT1
  exact hret _ _ _ _ _ _ (by assumption) N14 hT14 (fun q hq => List.mem_cons_of_mem _ (hs1 q hq)) ⟨_, _, _, rfl, List.mem_cons_self⟩

set_option maxRecDepth 100000 in
set_option maxHeartbeats 8000000 in
theorem idm_neg2 (x y : Nat) (hx : x < 2 ^ 1500) (hy : 0 < y) (hy2 : y < 2 ^ 1500) : ConT prog w p loose mean mg mb 63 24 900 (fun _ vs => ∃ (a b : Int) (tx ty : Tok), vs = [.int a tx, .int b ty] ∧ a = (x : Int) + 1 ∧ b = -(y : Int))
    (fun nx r => ∃ a ta tb, r = .ref a ∧ (a, tupObj [.int (-((x / y : Nat) : Int) - 1) ta, .int (((x % y : Nat) : Int) + 1 - (y : Int)) tb]) ∈ nx) := by
  unfold ConT
  intro dp un gd cn cs a ccd cl outer A₀ base h₀ L m ps qs nx s vs Q E B F X N T hT hk hR hd hu hret
  obtain ⟨va, vb, tx, ty, rfl, ha, hb⟩ := hR
  have hy0 : vb ≠ 0 := by omega
  have hy1 : vb < 0 := by omega
  refine wpAny_call ?_
  k_dflt ktr_enter
  k_steps
  · exfalso; omega
  rename Fr _ _ _ _ => F2
  rename News _ _ _ _ => N2
  refine conT_use (idm_neg1 x y hx hy hy2) (by assumption) F2 (by assumption) N2 (by assumption) hT rfl ⟨_, _, _, _, rfl, by omega, by omega⟩ (by dsimp only; first | exact room1 hd rfl | omega) (by dsimp only; first | exact room3 hu rfl | omega) ?_
  rintro r1 ps1 qs1 nx1 h1 tk1 F3 N3 hT1 hs1 ⟨ta, u1, u2, rfl, htm⟩
  have N4 := news_with N3 (List.mem_cons_of_mem _ (List.mem_cons_of_mem _ htm))
  clear N3
  dsimp only [tupObj] at N4
  k_steps
  rename News h₀ L _ _ => N12
  have N13 := news_drop2 N12
  rw [show -((y : Int) - ((x % y : Nat) : Int) - 1) = ((x % y : Nat) : Int) + 1 - (y : Int) by omega] at N13
  obtain ⟨N14, hT14⟩ := tabs_tup (vs := [_, _]) N13 hT1
  exact hret _ _ _ _ _ _ (by assumption) N14 hT14 (fun q hq => List.mem_cons_of_mem _ (hs1 q hq)) ⟨_, _, _, rfl, List.mem_cons_self⟩
end
end

section
section
variable {prog : Program} {w : World} {A : Around} {E : Value → Shared → Prop} {s : Shared} {env : Env}
/-- here the walk stops -/
def Stop (P : Prop) : Prop := P
theorem raise_zero {x : Str} {np pos : Pos} {Q : Flow → Shared → Prop} (hh : A.handled = none)
    (hx : wpAny (model prog w) A (eval (.Name x np) env) (fun v s₁ => v = .type "ZeroDivisionError" ∧ s₁ = s) E s)
    (h : ∀ h' e, Heap.MadeExc s.heap h' e "ZeroDivisionError" [] → Stop (E (.ref e) { s with heap := h' })) :
    wpAny (model prog w) A (exec (.Raise (some (.Name x np)) none pos) env) Q E s := by
  have hself : isSubtype (.type "ZeroDivisionError") (.type "ZeroDivisionError") = pure true := by rw [isSubtype_type]; kernel_rfl
  show wpAny (model prog w) A (do standAt pos; raiseStmt env (some (do let v ← eval (.Name x np) env; standAt pos; pure v)) none) Q E s
  refine wpAny_bind (wpAny_standAt ?_)
  unfold raiseStmt
  dsimp only
  refine wpAny_bind (wpAny_bind (wpAny_mono hx (fun v s₁ h₁ => wpAny_bind (wpAny_standAt (wpAny_pure ?_))) fun _ _ e => e))
  obtain ⟨rfl, hs₁⟩ := h₁
  subst s₁
  refine wpAny_bind (wpAny_pure ?_)
  dsimp only
  refine wpAny_bind (wpAny_holding ?_)
  unfold excFromValue isExcClass
  refine wpAny_bind (wpAny_bind (wpAny_pure ?_))
  simp only [if_true]
  rw [PySem.F.excRaise_ZeroDivisionError.isExc]
  refine wpAny_pure ?_
  simp only [if_true]
  refine wpAny_bind (wpAny_call_exc (rest := []) PySem.F.excCall_ZeroDivisionError fun h' e hn => ?_)
  obtain ⟨t, he, _⟩ := hn.there
  have hT : ({ s with heap := h' } : Shared).TypeIs (.ref e) "ZeroDivisionError" := (show ∃ o, h'.get? e = some o ∧ o.cls = .type "ZeroDivisionError" from ⟨_, he, rfl⟩)
  refine wpAny_bind (wpAny_isInstance hT PySem.F.excRaise_ZeroDivisionError.isExc ?_)
  simp only [Bool.not_true, Bool.false_eq_true, if_false]
  refine wpAny_pure ?_
  first | (refine wpAny_bind (m := isType (.type "ZeroDivisionError")) (wpAny_pure ?_)) | (refine wpAny_bind (wpAny_pure ?_))
  first | (rw [if_pos rfl]) | (simp only [if_true]) | dsimp only
  refine wpAny_bind (wpAny_holding ?_)
  unfold raisedFor
  first | (simp only [Bool.false_eq_true, if_false]) | (rw [if_neg (by decide)]) | skip
  first | (refine wpAny_bind (wpAny_typeOf hT ?_)) | (refine wpAny_bind ?_; refine wpAny_bind (wpAny_typeOf hT ?_))
  refine wpAny_bind (call_issubclass (issubclass_self excClass_ZeroDivisionError hself) ?_)
  first | (refine wpAny_bind (wpAny_truthy_bool ?_)) | (refine wpAny_truthy_bool ?_) | (dsimp only [wants]; first | (refine wpAny_bind (wpAny_truthy_bool ?_)) | (refine wpAny_truthy_bool ?_))
  first | (rw [if_pos rfl]) | (simp only [if_true]) | skip
  refine wpAny_pure ?_
  unfold setFlight raiseNew
  refine wpAny_bind (wpAny_bind (wpAny_field (i := 1) (x := Value.none) he rfl rfl ?_))
  rw [if_neg (by decide)]
  refine wpAny_pure (wpAny_bind (wpAny_handled ?_))
  rw [hh]
  first
    | exact wpAny_throw (h h' e hn)
    | exact wpAny_bind (wpAny_pure (wpAny_throw (h h' e hn)))
end
local macro_rules | `(tactic| walk_at "exec Raise some none") => `(tactic| ((with_reducible show wpAny _ _ (exec (Stmt.Raise (some (Expr.Name ("ZeroDivisionError" : Str) _)) none _) _) _ _ _); (with_reducible rename Fr _ _ _ _ => kF); k_dflt (refine' raise_zero ?hh ?hx ?_; (case hh => rfl); (case hx => (refine' name_B kF ?k1 ?k2 ?k3 ?k4 ?k5 ?_; (case k1 => k_asm); (case k2 => k_asm); (case k3 => k_is); (case k4 => boot_by_name); (case k5 => decide); exact ⟨rfl, rfl⟩)))))

section
variable {prog : Program} {w : World} {p : Program} {loose : List Str} {mean : ExcName → Option Value} {mg mb : Str → Option Value}

set_option maxRecDepth 100000 in
set_option maxHeartbeats 8000000 in
theorem idm_zero {dp un : Nat} {gd : Option (List Code)} {cn : Str} {cs : Scope} {a : Addr} {ccd : Value} {cl : List (Str × Addr)} {outer : List Env} {A₀ : Around} {base h₀ : Heap} {L : Addr} {m : Str → Option Value} {nx : List (Addr × Obj)} {s : Shared}
    {Q E : Value → Shared → Prop} {x y : Int} {tx ty : Tok} (B : Below A₀ base outer h₀) (F : Fr h₀ L s.heap m) (X : (Mine.hd.heap_39 w.params).In h₀) (N : News h₀ L s.heap nx) (T : Top p loose mean mg mb h₀) (hk : cs.kind = .function)
    (hy : y = 0) (hd : dp + 2 < recursionLimit) (hu : un + 20 < cLine)
    (raised : ∀ e t h' tk' G, Fr h₀ L G m → RaisedS base G (envX cn cs L a ccd cl :: outer) e (.type "ZeroDivisionError") t [] nx h' → G.UpToSlots h' → E (.ref e) { s with heap := h', toks := tk' }) :
    wpAny (model prog w) (ktrTop dp un gd cn cs L a ccd cl outer) (call (.ref 63) [.int x tx, .int y ty]) Q E s := by
  refine wpAny_call ?_
  k_dflt ktr_enter
  k_steps
  · unfold Stop
    rename Heap.MadeExc _ _ _ _ _ => hx1
    rename Fr _ _ _ (fun y => _) => F1
    rename News _ _ _ nx => N1
    rename Fr h₀ L _ m => FG
    rename Below (ktrTop dp un gd cn cs L a ccd cl outer) _ _ _ => BG
    refine leave_raiseS BG (Heap.MadeExc.of hx1) F1 N1 ?_
    intro h3 t1 R1 _ U1
    exact raised _ _ _ _ _ FG R1 U1
  · exfalso; omega
end
end

section
theorem low_bit (g m : Nat) : Builtin.bitAnd ((2 ^ g * (2 * m + 1) : Nat) : Int) (-((2 ^ g * (2 * m + 1) : Nat) : Int)) = ((2 ^ g : Nat) : Int) := by
  have h := kbt_low g (m : Int)
  rw [show ((2 ^ g * (2 * m + 1) : Nat) : Int) = 2 ^ g * (2 * (m : Int) + 1) by rw [Int.natCast_mul, Int.natCast_pow]; rfl, h, Int.natCast_pow]; rfl
theorem part_div (g m : Nat) : (2 ^ g * (2 * m + 1) - 1) / 2 ^ (g + 1) = m ∧ (2 ^ g * (2 * m + 1) - 1) % 2 ^ (g + 1) = 2 ^ g - 1 := by
  have h1 := Nat.two_pow_pos g
  have h2 : 2 ^ g * (2 * m + 1) - 1 = 2 ^ (g + 1) * m + (2 ^ g - 1) := by
    have : 2 ^ g * (2 * m + 1) = 2 ^ (g + 1) * m + 2 ^ g := by rw [Nat.pow_succ, Nat.mul_add, Nat.mul_one, Nat.mul_assoc]
    rw [this]; exact Nat.add_sub_assoc h1 _
  have h3 : 2 ^ g - 1 < 2 ^ (g + 1) := by rw [Nat.pow_succ]; omega
  rw [h2, Nat.mul_add_div (Nat.two_pow_pos _), Nat.div_eq_of_lt h3, Nat.mul_add_mod, Nat.mod_eq_of_lt h3]
  exact ⟨by omega, rfl⟩

section
variable {prog : Program} {w : World} {p : Program} {loose : List Str} {mean : ExcName → Option Value} {mg mb : Str → Option Value}

set_option maxRecDepth 100000 in
set_option maxHeartbeats 8000000 in
theorem parted_ok (g m : Nat) (hb : 2 ^ g * (2 * m + 1) < 2 ^ 1400) : ConT prog w p loose mean mg mb 161 26 1000 (fun _ vs => ∃ (v : Int) (t : Tok), vs = [.int v t] ∧ v = (2 ^ g * (2 * m + 1) : Nat))
    (fun nx r => ∃ a t1 t2 t3, r = .ref a ∧ (a, tupObj [.int ((2 ^ g : Nat) : Int) t1, .int (-((2 ^ g : Nat) : Int)) t2, .int (m : Int) t3]) ∈ nx) := by
  unfold ConT
  intro dp un gd cn cs a ccd cl outer A₀ base h₀ L m₀ ps qs nx s vs Q E B F X N T hT hk hR hd hu hret
  obtain ⟨v, tx, rfl, hv⟩ := hR
  have hlow := low_bit g m
  obtain ⟨hq, hr⟩ := part_div g m
  have hgp := Nat.two_pow_pos g
  have hle : 2 ^ g ≤ 2 ^ g * (2 * m + 1) := Nat.le_mul_of_pos_right _ (by omega)
  have hps : 2 ^ (g + 1) = 2 ^ g + 2 ^ g := by rw [Nat.pow_succ]; omega
  have h15 : (2 : Nat) ^ 1500 = 2 ^ 1400 * 2 ^ 100 := by rw [← Nat.pow_add]
  have h16 : (2 : Nat) ^ 1400 * 2 ≤ 2 ^ 1400 * 2 ^ 100 := Nat.mul_le_mul_left _ (by decide)
  rw [← hv] at hlow
  refine wpAny_call ?_
  k_dflt ktr_enter
  k_steps
  rw [hlow]
  rename Fr _ _ _ _ => F2
  rename News _ _ _ _ => N2
  rw [hlow] at F2
  refine conT_use (idm_neg2 (2 ^ g * (2 * m + 1) - 1) (2 ^ (g + 1)) (by omega) (Nat.two_pow_pos _) (by omega)) (by assumption) F2 (by assumption) N2 (by assumption) hT rfl ⟨_, _, _, _, rfl, by omega, by omega⟩ (by dsimp only; first | exact room1 hd rfl | omega) (by dsimp only; first | exact room3 hu rfl | omega) ?_
  rintro r1 ps1 qs1 nx1 h1 tk1 F3 N3 hT1 hs1 ⟨ta, u1, u2, rfl, htm⟩
  rw [hq, hr, show ((2 ^ g - 1 : Nat) : Int) + 1 - ((2 ^ (g + 1) : Nat) : Int) = -((2 ^ g : Nat) : Int) by omega] at htm
  have N4 := news_with N3 (List.mem_cons_of_mem _ (List.mem_cons_of_mem _ htm))
  clear N3
  dsimp only [tupObj] at N4
  k_steps
  rename News h₀ L _ _ => N12
  have N13 := news_drop2 N12
  rw [show Builtin.bitNot (-(m : Int) - 1) = (m : Int) by unfold Builtin.bitNot; omega] at N13
  obtain ⟨N14, hT14⟩ := tabs_tup (vs := [_, _, _]) N13 hT1
  exact hret _ _ _ _ _ _ (by assumption) N14 hT14 (fun q hq => List.mem_cons_of_mem _ (hs1 q hq)) ⟨_, _, _, _, rfl, List.mem_cons_self⟩
end
end

section
section
variable {prog : Program} {w : World} {p : Program} {loose : List Str} {mean : ExcName → Option Value} {mg mb : Str → Option Value}

set_option maxRecDepth 100000 in
set_option maxHeartbeats 8000000 in
theorem parted_zero {dp un : Nat} {gd : Option (List Code)} {cn : Str} {cs : Scope} {a : Addr} {ccd : Value} {cl : List (Str × Addr)} {outer : List Env} {A₀ : Around} {base h₀ : Heap} {L : Addr} {m : Str → Option Value} {nx : List (Addr × Obj)} {s : Shared}
    {Q E : Value → Shared → Prop} {v : Int} {tv : Tok} (B : Below A₀ base outer h₀) (F : Fr h₀ L s.heap m) (X : (Mine.hd.heap_39 w.params).In h₀) (N : News h₀ L s.heap nx) (T : Top p loose mean mg mb h₀) (hk : cs.kind = .function)
    (hv : v = 0) (hd : dp + 4 < recursionLimit) (hu : un + 60 < cLine)
    (raised : ∀ e t h' tk' G, Fr h₀ L G m → RaisedS base G (envX cn cs L a ccd cl :: outer) e (.type "ZeroDivisionError") t [] nx h' → G.UpToSlots h' → E (.ref e) { s with heap := h', toks := tk' }) :
    wpAny (model prog w) (ktrTop dp un gd cn cs L a ccd cl outer) (call (.ref 161) [.int v tv]) Q E s := by
  have hlow : Builtin.bitAnd v (-v) = 0 := by rw [hv]; decide
  refine wpAny_call ?_
  k_dflt ktr_enter
  k_steps
  rw [hlow]
  rename Fr _ _ _ _ => F2
  rename News _ _ _ _ => N2
  rename Fr h₀ L _ m => FG
  rename Below (ktrTop dp un gd cn cs L a ccd cl outer) _ _ _ => BG
  refine idm_zero BG F2 (by assumption) N2 (by assumption) rfl (by decide) (by dsimp only; first | exact room1 hd rfl | omega) (by dsimp only; first | exact room3 hu rfl | omega) ?_
  intro e t h' tk' G FG2 R1 U1
  refine leave_onS BG FG2 R1 U1 ?_
  intro h3 R2 _ U2
  exact raised _ _ _ _ _ FG R2 U2
end
end

section
theorem conS_use {prog : Program} {w : World} {p : Program} {loose : List Str} {mean : ExcName → Option Value} {mg mb : Str → Option Value} {f : Addr} {D U : Nat}
    {Pre : List (Addr × Obj) → List Value → Prop} {Post : List (Addr × Obj) → Value → Prop} (C : ConS prog w p loose mean mg mb f D U Pre Post)
    {dp un : Nat} {gd : Option (List Code)} {cn : Str} {cs : Scope} {a : Addr} {ccd : Value} {outer : List Env} {A₀ : Around} {base h₀ : Heap} {L : Addr} {m : Str → Option Value} {news : List (Addr × Obj)} {s : Shared} {vs : List Value}
    {Q E : Value → Shared → Prop} (B : Below A₀ base outer h₀) (F : Fr h₀ L s.heap m) (X : (Mine.hd.heap_39 w.params).In h₀) (N : News h₀ L s.heap news) (T : Top p loose mean mg mb h₀) (XB : (Mine.hd.heap_39 w.params).In base) (TB : Top p loose mean mg mb base) (Dk : KtsDicts (outer.filterMap (·.frame)) h₀)
    (hk : cs.kind = .function) (hp : Pre news vs) (hd : dp + D < recursionLimit) (hu : un + U < cLine)
    (ret : ∀ r nx h' tk' h₁, KtsTurn (outer.filterMap (·.frame)) h₀ h₁ → Fr h₁ L h' m → News h₁ L h' nx → Below A₀ base outer h₁ → (Mine.hd.heap_39 w.params).In h₁ → Top p loose mean mg mb h₁ → KtsDicts (outer.filterMap (·.frame)) h₁ →
      (∀ q ∈ news, q ∈ nx) → Post nx r → Q r { s with heap := h', toks := tk' }) :
    wpAny (model prog w) (ktrTop dp un gd cn cs L a ccd [] outer) (call (.ref f) vs) Q E s := C _ _ _ _ _ _ _ _ _ _ _ _ _ _ _ _ _ _ B F X N T XB TB Dk hk hp hd hu ret

theorem worths_le : ∀ (t : Tr) (n : Nat), n ∈ t.worths → n ≤ t.worth
  | .cons b r, n, h => by
    have h1 : b.worth < 2 ^ b.worth := Nat.lt_two_pow_self
    have h2 : 2 ^ b.worth ≤ (2 * r.worth + 1) * 2 ^ b.worth := Nat.le_mul_of_pos_left _ (by omega)
    have h3 : 2 * r.worth + 1 ≤ (2 * r.worth + 1) * 2 ^ b.worth := Nat.le_mul_of_pos_right _ (Nat.two_pow_pos _)
    rw [Tr.worth]
    rcases List.mem_cons.mp h with rfl | h
    · omega
    · have := worths_le r n h; omega

section
local macro_rules | `(tactic| k_steps) => `(tactic| repeat' ((fail_if_success (with_reducible show wpAny _ _ (compareOp CmpOp.NotEq (Value.ref _) (Value.ref _)) _ _ _)); kfm_num))
variable {prog : Program} {w : World} {p : Program} {loose : List Str} {mean : ExcName → Option Value} {mg mb : Str → Option Value}

set_option maxRecDepth 100000 in
set_option maxHeartbeats 8000000 in
theorem agree_ok (t : Tr) (ht : t.worth < 2 ^ 1000) {dp un : Nat} {gd : Option (List Code)} {cn : Str} {cs : Scope} {a : Addr} {ccd : Value} {outer : List Env} {A₀ : Around} {base h₀ : Heap} {L : Addr} {m : Str → Option Value} {ps qs : Array Value} {nx : List (Addr × Obj)} {s : Shared} {number : Int} {tk : Tok} {tv : Value}
    {Q E : Value → Shared → Prop} (B : Below A₀ base outer h₀) (F : Fr h₀ L s.heap m) (X : (Mine.hd.heap_39 w.params).In h₀) (N : News h₀ L s.heap ((37, tabObj ps) :: (44, tabObj qs) :: nx)) (T : Top p loose mean mg mb h₀) (XB : (Mine.hd.heap_39 w.params).In base) (TB : Top p loose mean mg mb base) (D : KtsDicts (outer.filterMap (·.frame)) h₀)
    (hT : Tabs ps qs nx) (hk : cs.kind = .function) (hn : number = t.worth) (htr : TreeIn nx tv t) (hd : dp + 40 < recursionLimit) (hu : un + 2000 < cLine)
    (hret : ∀ ps' qs' nx' h' tk' h₁, KtsTurn (outer.filterMap (·.frame)) h₀ h₁ → Fr h₁ L h' m → News h₁ L h' ((37, tabObj ps') :: (44, tabObj qs') :: nx') → Tabs ps' qs' nx' → Below A₀ base outer h₁ → (Mine.hd.heap_39 w.params).In h₁ → Top p loose mean mg mb h₁ → KtsDicts (outer.filterMap (·.frame)) h₁ →
      (∀ q ∈ nx, q ∈ nx') → Q (.bool true) { s with heap := h', toks := tk' }) :
    wpAny (model prog w) (ktrTop dp un gd cn cs L a ccd [] outer) (call (.ref 168) [.int number tk, tv]) Q E s := by
  obtain ⟨ta, ws, rfl, htm, hit⟩ := id htr
  refine wpAny_call ?_
  k_dflt (refine' code_defS ?k1 ?k2 ?k3 ?k4 ?k5 ?XB ?TB ?D ?T0 ?kA ?k6 ?k7 ?k8 ?k9 ?kB ?_ ?cK ?c2 ?c3 ?c4 ?c5; (case kA => exact rfl); (case k2 => k_asm); (case k1 => k_asm); (case XB => assumption); (case TB => assumption); (case D => assumption); (case T0 => exact KtsTurn.refl); kdb_fit; (case cK => first | assumption | exact rfl); k_whole; intro g' L' h' FG' F' N' B' X' T' D'; (try dsimp only); (try k_fold); (try (with_reducible refine tok_any ?_; intro t')))
  k_steps
  refine con_use (more_ok t (Nat.lt_of_lt_of_le ht (Nat.pow_le_pow_right (by decide) (by decide)))) (by assumption) (by assumption) (by assumption) (by assumption) (by assumption) rfl ⟨_, rfl, TreeIn.mono (fun q hq => List.mem_cons_of_mem _ (List.mem_cons_of_mem _ hq)) htr⟩ (by dsimp only; first | exact room1 hd rfl | omega) (by dsimp only; first | exact room3 hu rfl | omega) ?_
  rintro r1 nx1 h1 tk1 F1 N1 hs1 ⟨t', htw', htr'⟩
  obtain ⟨tb, ws', rfl, htm', hit'⟩ := id htr'
  k_steps
  rename News _ _ _ ((_, { cls := Value.type "tuple", data := Data.seq #[Value.ref ta, Value.ref tb] }) :: nx1) => N2
  have h12 : (2 : Nat) ^ 1000 < 2 ^ 2000 := Nat.pow_lt_pow_right (by decide) (by decide)
  have h13 : (2 : Nat) ^ 1000 + 2 ^ 1000 ≤ 2 ^ 2000 := by
    have h : (2 : Nat) ^ 1001 ≤ 2 ^ 2000 := Nat.pow_le_pow_right (by decide) (by decide)
    have h2 : (2 : Nat) ^ 1001 = 2 ^ 1000 * 2 := by rw [← Nat.pow_succ]
    omega
  refine con_use (file_ok (.cons t (.cons t' .nil)) (by simp [Tr.len]) (fun n hn => by
      rcases List.mem_cons.mp hn with rfl | hn
      · omega
      · obtain rfl := List.mem_singleton.mp hn
        omega)) (by assumption) (by assumption) (by assumption) N2 (by assumption) rfl ⟨_, rfl, _, [_, _], rfl, List.mem_cons_self, Items.consI ((TreeIn.mono (fun q hq => List.mem_cons_of_mem _ (hs1 q (List.mem_cons_of_mem _ (List.mem_cons_of_mem _ hq)))) htr)) (Items.consI (htr'.mono (fun q hq => List.mem_cons_of_mem _ hq)) rfl)⟩ (by dsimp only; first | exact room1 hd rfl | omega) (by dsimp only; first | exact room3 hu rfl | omega) ?_
  rintro r2 nx2 h2 tk2 F3 N3 hs2 ⟨oa, us, ue, oc, rfl, hom, hon, hrd, hol⟩
  k_steps
  rename KtsDicts (List.filterMap (fun x => x.frame) (envOf cn cs L a ccd :: outer)) _ => D1
  rename Below (ktrTop dp un gd cn cs L a ccd [] outer) _ _ _ => B1
  rename Frag.In _ _ => X1
  rename Top p loose mean mg mb _ => T1
  rename Fr _ _ _ _ => F4
  rename News _ _ _ nx2 => N4
  refine conS_use (read_ok _ oc hrd (fun n hn => by
      rcases List.mem_cons.mp hn with rfl | hn
      · omega
      · obtain rfl := List.mem_singleton.mp hn
        omega) hol) B1 F4 X1 N4 T1 XB TB D1 rfl ⟨_, _, _, rfl, hom, hon⟩ (by dsimp only; first | exact room1 hd rfl | omega) (by dsimp only; first | exact room3 hu rfl | omega) ?_
  rintro r3 nx3 h3 tk3 g3 T3 F5 N5 B5 X5 P5 D5 hs3 ⟨la, ls, le, rfl, hlm, hln, hll⟩
  k_steps
  rename News _ _ _ ((_, W.listOf #[Value.int number _, Value.int (number + 1) _] 0) :: nx3) => N6
  refine rl_ne (us := [_, _]) N6 (List.mem_cons_of_mem _ hlm) List.mem_cons_self hln (IntsAre.cons _ _ (IntsAre.cons _ _ .nil)) (by first | k_units | ktr_units) ?_
  rw [decide_eq_true (show (List.map (fun n : Nat => (n : Int)) (Tr.cons t (Tr.cons t' Tr.nil)).worths) = [number, number + 1] by
    simp only [Tr.worths, List.map_cons, List.map_nil, htw', hn]; rfl)]
  k_steps
  rename Fr _ _ _ _ => F7
  have N7 : News _ _ _ ((37, tabObj ps) :: (44, tabObj qs) :: nx) := nsub N6 (fun q hq => List.mem_cons_of_mem _ (hs3 q (hs2 q (List.mem_cons_of_mem _ (hs1 q hq)))))
  have hlen : t.len ≤ 2000 := by
    have h1 := t.two_pow_len
    have h2 : (2 : Nat) ^ t.len < 2 ^ 1001 := by rw [Nat.pow_succ]; omega
    have := (Nat.pow_lt_pow_iff_right (by decide : 1 < 2)).mp h2
    omega
  have hwb : ∀ n ∈ t.worths, n < 2 ^ 2000 := fun n hn => by have := worths_le t n hn; omega
  refine con_use (file_ok t hlen hwb) B5 F7 X5 N7 P5 rfl ⟨_, rfl, TreeIn.mono (fun q hq => List.mem_cons_of_mem _ (List.mem_cons_of_mem _ hq)) htr⟩ (by dsimp only; first | exact room1 hd rfl | omega) (by dsimp only; first | exact room3 hu rfl | omega) ?_
  clear hom hon hrd hol hlm hln hll hs2 hs3 N6 F7 N7 htm' hit' htr' hs1
  rintro r4 nx4 h4 tk4 F8 N8 hs4 ⟨oa, us, ue, oc, rfl, hom, hon, hrd, hol⟩
  k_steps
  refine conS_use (read_ok _ oc hrd hwb hol) B5 F8 X5 N8 P5 XB TB D5 rfl ⟨_, _, _, rfl, hom, hon⟩ (by dsimp only; first | exact room1 hd rfl | omega) (by dsimp only; first | exact room3 hu rfl | omega) ?_
  rintro r5 nx5 h5 tk5 g5 T5 F9 N9 B6 X6 P6 D6 hs5 ⟨ga, gs, ge, rfl, hgm, hgn, hgl⟩
  have hga37 : ga ≠ 37 := news_ne N9 (o := W.listOf gs.toArray ge) (o' := tabObj ps) hgm (hs5 _ (hs4 _ List.mem_cons_self)) (fun e => Value.noConfusion e)
  have hga44 : ga ≠ 44 := news_ne N9 (o := W.listOf gs.toArray ge) (o' := tabObj qs) hgm (hs5 _ (hs4 _ (List.mem_cons_of_mem _ List.mem_cons_self))) (fun e => Value.noConfusion e)
  have N10 : News _ _ _ ((37, tabObj ps) :: (44, tabObj qs) :: (ga, W.listOf gs.toArray ge) :: nx) := nsub N9 (fun q hq => by
    simp only [List.mem_cons] at hq
    rcases hq with rfl | rfl | rfl | hq
    · exact hs5 _ (hs4 _ List.mem_cons_self)
    · exact hs5 _ (hs4 _ (List.mem_cons_of_mem _ List.mem_cons_self))
    · exact hgm
    · exact hs5 _ (hs4 _ (List.mem_cons_of_mem _ (List.mem_cons_of_mem _ hq))))
  have hT5 : Tabs ps qs ((ga, W.listOf gs.toArray ge) :: nx) :=
    ⟨hT.1.mono (fun q hq => List.mem_cons_of_mem _ hq), hT.2.1.mono (fun q hq => List.mem_cons_of_mem _ hq), List.forall_mem_cons.mpr ⟨hga37, hT.2.2.1⟩, List.forall_mem_cons.mpr ⟨hga44, hT.2.2.2⟩⟩
  have TT := T3.trans T5
  clear N9 hs5 hs4 hgm hom hon hrd hol F8 N8
  have hgz : gs.length = t.len := by rw [hgn.length, t.worths_length]
  have hmw : ((made t.worths : Nat) : Int) = number := by rw [made_worths, hn]
  have hne0 : ¬ ((made t.worths : Nat) : Int) ≠ number := fun h => h hmw
  k_steps
  rename Fr g5 _ _ _ => F11
  rename News g5 _ _ _ => N11
  refine con_use (made_ok t.worths (by rw [made_worths]; omega) (by rw [t.worths_length]; omega)) B6 F11 X6 N11 P6 rfl ⟨_, _, _, rfl, List.mem_cons_of_mem _ (List.mem_cons_of_mem _ List.mem_cons_self), hgn⟩ (by dsimp only; first | exact room1 hd rfl | omega) (by dsimp only; first | exact room3 hu rfl | omega) ?_
  rintro r6 nx6 h6 tk6 F12 N12 hs6 ⟨mt, rfl⟩
  have N13 := nsub N12 hs6
  clear N12 hs6
  k_steps
  · exfalso; omega
  cases t with
  | nil =>
    have hgs : gs = [] := List.length_eq_zero_iff.mp hgz
    subst hgs
    refine parted_zero B6 F12 X6 N13 P6 rfl hn (by dsimp only; first | exact room1 hd rfl | omega) (by dsimp only; first | exact room3 hu rfl | omega) ?_
    intro e9 t9 h9 tk9 G9 FG9 R9 U9
    refine caught_S0 (T' := "ZeroDivisionError") R9 FG9 B6 U9 XB TB D6 TT (by k_is) PyProof.Rows.Boot.«ZeroDivisionError» (by decide) PySem.F.isExc_ZeroDivisionError PySem.F.notTuple_ZeroDivisionError (by rw [isSubtype_type]; kernel_rfl) ?_
    intro h' g' n₂ T' F2 N₂ G' N2 K' X' P' D'
    k_steps
    rename News _ L _ _ => N20
    exact hret ps qs ((ga, W.listOf #[] ge) :: nx) _ _ _ (by assumption) (by assumption) (nsub N20 (fun q hq => List.mem_cons_of_mem _ hq)) hT5 (by assumption) (by assumption) (by assumption) (by assumption) (fun q hq => List.mem_cons_of_mem _ hq)
  | cons b r =>
    have hbr : number = ((2 ^ b.worth * (2 * r.worth + 1) : Nat) : Int) := by rw [hn, Tr.worth, Nat.mul_comm]
    refine conT_use (parted_ok b.worth r.worth ?_) B6 F12 X6 N13 P6 hT5 rfl ⟨_, _, rfl, hbr⟩ (by dsimp only; first | exact room1 hd rfl | omega) (by dsimp only; first | exact room3 hu rfl | omega) ?_
    · have h1 : 2 ^ b.worth * (2 * r.worth + 1) = (Tr.cons b r).worth := by rw [Tr.worth, Nat.mul_comm]
      rw [h1]
      exact Nat.lt_of_lt_of_le ht (Nat.pow_le_pow_right (by decide) (by decide))
    rintro r7 ps7 qs7 nx7 h7 tk7 F14 N14 hT7 hs7 ⟨ta7, u1, u2, u3, rfl, htm7⟩
    have N15 := news_with N14 (List.mem_cons_of_mem _ (List.mem_cons_of_mem _ htm7))
    clear N14
    dsimp only [tupObj] at N15
    have hgm7 : (ga, W.listOf gs.toArray ge) ∈ nx7 := hs7 _ List.mem_cons_self
    have hbl : b.worth < 1000 := by
      have h1 : 2 ^ b.worth ≤ (2 * r.worth + 1) * 2 ^ b.worth := Nat.le_mul_of_pos_left _ (by omega)
      rw [Tr.worth] at ht
      exact (Nat.pow_lt_pow_iff_right (by decide : 1 < 2)).mp (Nat.lt_of_le_of_lt h1 ht)
    have hzl : gs.length ≤ sizeLine := fits (by omega)
    obtain ⟨gt, hitem⟩ : ∃ gt, gs[(0 : Int).toNat]? = some (.int ((b.worth : Nat) : Int) gt) := IntsAre.get hgn 0 ((b.worth : Nat) : Int) rfl
    have hls : ((Builtin.Int.intBits 1 : Nat) : Int) + ((b.worth : Nat) : Int) ≤ 2 ^ 27 := shlok (k := 2) (by decide) (by omega) (by omega)
    have hb0 : 0 ≤ ((b.worth : Nat) : Int) := by omega
    have hle1 : ((2 ^ b.worth : Nat) : Int) = 1 * 2 ^ ((b.worth : Nat) : Int).toNat := by rw [Int.toNat_natCast, Int.one_mul, Int.natCast_pow]; rfl
    have hg1 : 1 ≤ gs.length := by rw [hgz]; show 1 ≤ r.len + 1; omega
    k_steps
    rename News g5 _ _ ((_, W.listOf #[] 0) :: _) => N16
    refine rl_ne (us := []) N16 (by k_mem) List.mem_cons_self hgn .nil (by first | k_units | ktr_units) ?_
    rw [decide_eq_false (by intro h; cases h)]
    have hgd : NatsAre (gs.drop (1 : Int).toNat) r.worths := by
      have h := hgn
      cases gs with
      | nil => cases h
      | cons v gs' => cases h with | cons _ _ h => exact h
    have hrw : r.worth < 2 ^ 2000 := by
      have h1 : 2 * r.worth + 1 ≤ (2 * r.worth + 1) * 2 ^ b.worth := Nat.le_mul_of_pos_right _ (Nat.two_pow_pos _)
      rw [Tr.worth] at ht
      omega
    have hrl : r.len ≤ 1000000 := by
      have : (Tr.cons b r).len = r.len + 1 := rfl
      omega
    clear h12 h13 hwb hlen htm hit N F X
    k_steps
    · rename Fr g5 _ _ _ => F17
      rename News g5 _ _ _ => N17
      refine con_use (made_ok r.worths (by rw [made_worths]; exact hrw) (by rw [r.worths_length]; exact hrl)) B6 F17 X6 N17 P6 rfl ⟨_, _, _, rfl, List.mem_cons_self, hgd⟩ (by dsimp only; first | exact room1 hd rfl | omega) (by dsimp only; first | exact room3 hu rfl | omega) ?_
      rintro r8 nx8 h8 tk8 F18 N18 hs8 ⟨mt8, rfl⟩
      have N19 := nsub N18 (fun q hq => hs8 q (List.mem_cons_of_mem _ hq))
      clear N18
      have hmr : ((r.worth : Nat) : Int) = ((made r.worths : Nat) : Int) := by rw [made_worths]
      k_steps
      rw [← hmr, beq_self_eq_true]
      rename News _ L _ _ => N20
      exact hret ps7 qs7 nx7 _ _ _ (by assumption) (by assumption) (nsub N20 (fun q hq => List.mem_cons_of_mem _ (List.mem_cons_of_mem _ hq))) hT7 (by assumption) (by assumption) (by assumption) (by assumption) (fun q hq => hs7 q (List.mem_cons_of_mem _ hq))
    · exfalso; omega
    · exfalso; omega
end
end

section
section
variable {prog : Program} {w : World} {A : Around} {E : Value → Shared → Prop} {Q : Flow → Shared → Prop} {s : Shared} {env : Env} {h₀ : Heap} {L : Addr}
theorem loop_my2 {σ : Type} {x : Str} {body : List Stmt} {I : Addr} {R : Obj → Prop} {fp : List Addr} {n : Nat} {P : Nat → Value → Prop} {St : Nat → Heap → Prop} {m₀ : Str → Option Value} {nx₀ : List (Addr × Obj)}
    (W : Walks prog w A I fp [I] n P St) (hIf : I ∈ fp) (hLf : env.locals ∉ fp) (hI₀ : h₀.get? I = none) (hStI : ∀ i h, St i h → ∃ o, h.get? I = some o ∧ R o)
    (ps : σ → List (Str × Value)) (Inv : Nat → σ → List (Addr × Obj) → Prop) (c₀ : σ)
    (fx : List (Addr × Obj)) (hfx : ∀ i c nx, Inv i c nx → ∀ q ∈ fx, q ∈ nx) (hfp : ∀ b ∈ fp, b ≠ I → (∃ o, (b, o) ∈ fx) ∨ ∃ o, h₀.get? b = some o) (hnw : ∀ p ∈ nx₀, p.1 ≠ I) (hst : St 0 s.heap)
    (F : Fr h₀ env.locals s.heap m₀) (N : News h₀ env.locals s.heap nx₀) (hk : Ag m₀ (ps c₀)) (hI : Inv 0 c₀ nx₀)
    (turn : ∀ i v c u nx h tk oI, i < n → P i v → Inv i c nx → (∀ p ∈ nx, p.1 ≠ I) → R oI → Fr h₀ env.locals h (fun y => if y = x then some v else kstB u (ps c) y) → News h₀ env.locals h ((I, oI) :: nx) →
      wpAny (model prog w) A (execs body env) (FPost h₀ env.locals ps Inv I oI i Q s) E { s with heap := h, toks := tk })
    (done : ∀ c u nx h tk, Inv n c nx → Fr h₀ env.locals h (kstB u (ps c)) → News h₀ env.locals h nx → Q .next { s with heap := h, toks := tk }) :
    LoopAtV prog w A h₀ env x body Q E (.ref I) s := by
  let J : Nat → (Str → Option Value) → List (Addr × Obj) → Prop := fun i m nx => ∃ c, (∀ p ∈ ps c, m p.1 = some p.2) ∧ Inv i c nx
  refine ⟨I, fp, [I], n, P, St, m₀, nx₀, J, rfl, W, hLf, ?_, ?_, hst, F, N, ⟨c₀, hk, hI⟩, ?_, ?_⟩
  · intro b hb; rw [List.mem_singleton.mp hb]; exact hI₀
  · intro p hp hm; exact hnw p hp (List.mem_singleton.mp hm)
  · rintro i v m₁ nx₁ s₁ own ⟨hh', tk', rfl⟩ hin hP ⟨c, h1, hI₁⟩ hoff h5 h6 h7 hs F₁ N₁
    obtain ⟨oI, hoI, hcI⟩ := hStI _ _ hs
    have ow : ∀ q ∈ own, q = (I, oI) ∨ q ∈ fx := fun q hq => by
      have a := N₁ q (List.mem_append.mpr (.inl hq))
      rcases Decidable.em (q.1 = I) with e | e
      · left
        have c := a.1; rw [e] at c
        exact Prod.ext e (Option.some.inj (c.symm.trans hoI))
      · rcases hfp q.1 (h5 q hq) e with ⟨o, h⟩ | ⟨o, ho⟩
        · have b := (N₁ _ (List.mem_append.mpr (.inr (hfx i c nx₁ hI₁ _ h)))).1
          have : q = (q.1, o) := Prod.ext rfl (Option.some.inj (a.1.symm.trans b))
          exact .inr (this ▸ h)
        · rw [a.2.2] at ho; cases ho
    have NI : News h₀ env.locals hh' ((I, oI) :: nx₁) := fun q hq => by
      rcases List.mem_cons.mp hq with rfl | hq
      · exact N₁ _ (List.mem_append.mpr (.inl (h7 I hIf hI₀ oI hoI)))
      · exact N₁ q (List.mem_append.mpr (.inr hq))
    have e : (fun y => if y = x then some v else m₁ y) = fun y => if y = x then some v else kstB m₁ (ps c) y := by rw [kst_all h1]
    rw [e] at F₁
    refine wpAny_mono (turn i v c m₁ nx₁ hh' tk' oI hin hP hI₁ (fun p hp e => hoff p hp (List.mem_singleton.mpr e)) hcI F₁ NI) (fun f s₂ p => ?_) fun _ _ x => x
    have fin : FEnd h₀ env.locals ps Inv I oI i s s₂ → LoopStepU h₀ env.locals [I] own (J (i + 1)) { s with heap := hh', toks := tk' } .next s₂ := by
      rintro ⟨c', h', tk, m', nx', rfl, F', N', hn, h2, hI'⟩
      refine ⟨rfl, h', tk, m', nx', rfl, F', fun q hq => ?_, fun q hq hm => hn q hq (List.mem_singleton.mp hm), c', h2, hI'⟩
      rcases List.mem_append.mp hq with hq | hq
      · rcases ow q hq with rfl | _
        · exact N' _ (.head _)
        · exact N' q (List.mem_cons_of_mem _ (hfx (i + 1) c' nx' hI' q ‹_›))
      · exact N' q (List.mem_cons_of_mem _ hq)
    cases f with
    | ret v => exact .ret p
    | brk => exact .brk p
    | next => exact .next (fin p)
    | cont => exact .cont (fin p)
  · rintro h' tk m' nx' F' N' _ ⟨c, h1, hI'⟩
    exact done c m' nx' h' tk hI' (by rw [kst_all h1]; exact F') N'

theorem iter_list_my2 {σ : Type} {l : Addr} {vs : List Value} {n : Nat} {m₀ : Str → Option Value} {nx₀ : List (Addr × Obj)} (ps : σ → List (Str × Value)) (Inv : Nat → σ → List (Addr × Obj) → Prop) (c₀ : σ)
    (hh : A.handled = none) (hfx : ∀ i c nx, Inv i c nx → (l, listOf vs.toArray n) ∈ nx)
    (F : Fr h₀ env.locals s.heap m₀) (N : News h₀ env.locals s.heap nx₀) (hk : Ag m₀ (ps c₀)) (hI : Inv 0 c₀ nx₀)
    (turn : ∀ i v c u nx h tk I oI, i < vs.length → vs[i]? = some v → Inv i c nx → (∀ p ∈ nx, p.1 ≠ I) → (oI.cls = .type "list_iterator" ∧ ∃ j, oI.data = .fields #[.ref l, .int j 0]) → Fr h₀ env.locals h (fun y => if y = x then some v else kstB u (ps c) y) → News h₀ env.locals h ((I, oI) :: nx) →
      wpAny (model prog w) A (execs body env) (FPost h₀ env.locals ps Inv I oI i Q s) E { s with heap := h, toks := tk })
    (done : ∀ c u nx h tk, Inv vs.length c nx → Fr h₀ env.locals h (kstB u (ps c)) → News h₀ env.locals h nx → Q .next { s with heap := h, toks := tk }) :
    wpAny (model prog w) A (pyIter (.ref l)) (fun it s₂ => LoopAtV prog w A h₀ env x body Q E it s₂) E s := by
  have hm := hfx _ _ _ hI
  have hl : s.heap.IsList l vs.toArray := ⟨_, (N _ hm).1, rfl, n, rfl⟩
  have hlt := Heap.lt_size (N _ hm).1
  refine wpAny_pyIter_list hl ?_
  have W := Walks.list (prog := prog) (w := w) hh s.heap.objs.size l (Nat.ne_of_lt hlt) vs.toArray
  rw [List.size_toArray] at W
  refine loop_my2 (R := fun o => o.cls = .type "list_iterator" ∧ ∃ j, o.data = .fields #[.ref l, .int j 0]) W (List.mem_cons_self) ?_ (next_is_new F) (fun i h st => by obtain ⟨o, ho, hc, hd⟩ := st.1; exact ⟨o, ho, hc, _, hd⟩) ps Inv c₀ [(l, listOf vs.toArray n)] (fun i c nx h q hq => by rw [List.mem_singleton.mp hq]; exact hfx i c nx h) ?_ (fun p hp e => absurd (Heap.lt_size (N p hp).1) (e ▸ Nat.lt_irrefl _))
    ⟨⟨_, Heap.get?_push_size _ rfl, rfl, rfl⟩, hl.at fun o e => Heap.get?_push_of_some _ e⟩ (F.push _) (fun p hp => ⟨Heap.get?_push_of_some _ (N p hp).1, (N p hp).2⟩) hk hI (fun i v c u nx h tk oI hi hP => turn i v c u nx h tk _ oI hi (by simpa using hP)) done
  · intro hmm
    rcases List.mem_cons.mp hmm with e | hmm
    · exact absurd F.ns.lt (e ▸ Nat.lt_irrefl _)
    · exact (N _ hm).2.1 (List.mem_singleton.mp hmm).symm
  · intro b hb hne
    rcases List.mem_cons.mp hb with e | hb
    · exact absurd e hne
    · rw [List.mem_singleton.mp hb]; exact .inl ⟨_, List.mem_singleton.mpr rfl⟩
end
end

section
/-- the ground of a frame with none below it: a turn of it leaves it as it was -/
theorem turn_back {g g' : Heap} (T : KtsTurn [] g g') {L : Addr} {h : Heap} {m : Str → Option Value} {nx : List (Addr × Obj)} (F : Fr g' L h m) (N : News g' L h nx) : Fr g L h m ∧ News g L h nx :=
  ⟨⟨F.ns, fun b o e => F.keep b o (T.other b o e (fun h => nomatch h)), by rw [← T.size]; exact F.above⟩, fun q hq => ⟨(N q hq).1, (N q hq).2.1, by
    cases e : g.get? q.1 with
    | none => rfl
    | some o => have := T.other _ _ e (fun h => nomatch h); rw [(N q hq).2.2] at this; cases this⟩⟩

theorem Items.mono' {n n' : List (Addr × Obj)} (hs : ∀ a ws, (a, tupObj ws) ∈ n → (a, tupObj ws) ∈ n') : ∀ {t : Tr} {vs : List Value}, Items n t vs → Items n' t vs
  | .nil, _, h => h
  | .cons _ _, _, ⟨a, ws, vs', e, m, hb, hr⟩ => ⟨a, ws, vs', e, hs _ _ m, hb.mono' hs, hr.mono' hs⟩
theorem TreeIn.mono' {n n' : List (Addr × Obj)} (hs : ∀ a ws, (a, tupObj ws) ∈ n → (a, tupObj ws) ∈ n') {t : Tr} {v : Value} : TreeIn n v t → TreeIn n' v t
  | ⟨a, ws, e, m, h⟩ => ⟨a, ws, e, hs _ _ m, h.mono' hs⟩

def ItLike (l : Addr) (o : Obj) : Prop := o.cls = .type "list_iterator" ∧ ∃ j, o.data = .fields #[.ref l, .int j 0]

theorem tab_off {h₀ h : Heap} {L I l : Addr} {oI : Obj} {line col : Nat} {q : Str} {ps : Array Value} {nx : List (Addr × Obj)} (N : News h₀ L h nx) (hI : (I, oI) ∈ nx) (hi : ItLike l oI) (T : Tab line col q ps nx) : Tab line col q ps (nx.filter fun p => decide (p.1 ≠ I)) := by
  rcases T with h | ⟨c, oc, vs, t, h1, h2, h3, h4⟩
  · exact .inl h
  · refine .inr ⟨c, oc, vs, t, h1, List.mem_filter.mpr ⟨h2, ?_⟩, h3, h4⟩
    refine decide_eq_true fun e => ?_
    have a := (N _ h2).1
    have b := (N _ hI).1
    dsimp only at a b e
    rw [e, b] at a
    obtain rfl := Option.some.inj a
    obtain ⟨_, j, hj⟩ := hi
    rw [hj] at h3
    obtain rfl := (Data.fields.inj h3).symm
    cases h4

theorem law_end {h₀ h : Heap} {L I l : Addr} {oI : Obj} {ps qs : Array Value} {nx : List (Addr × Obj)} (N : News h₀ L h ((37, tabObj ps) :: (44, tabObj qs) :: nx)) (hT : Tabs ps qs nx) (hI : (I, oI) ∈ nx) (hi : ItLike l oI) :
    News h₀ L h ((I, oI) :: (37, tabObj ps) :: (44, tabObj qs) :: nx.filter fun p => decide (p.1 ≠ I)) ∧ Tabs ps qs (nx.filter fun p => decide (p.1 ≠ I)) ∧ (∀ p ∈ (37, tabObj ps) :: (44, tabObj qs) :: nx.filter fun p => decide (p.1 ≠ I), p.1 ≠ I) := by
  have N' : News h₀ L h nx := fun q hq => N q (List.mem_cons_of_mem _ (List.mem_cons_of_mem _ hq))
  refine ⟨nsub N fun q hq => ?_, ⟨tab_off N' hI hi hT.1, tab_off N' hI hi hT.2.1, fun p hp => hT.2.2.1 p (List.mem_filter.mp hp).1, fun p hp => hT.2.2.2 p (List.mem_filter.mp hp).1⟩, ?_⟩
  · simp only [List.mem_cons] at hq ⊢
    rcases hq with rfl | rfl | rfl | hq
    · exact .inr (.inr hI)
    · exact .inl rfl
    · exact .inr (.inl rfl)
    · exact .inr (.inr (List.mem_filter.mp hq).1)
  · refine List.forall_mem_cons.mpr ⟨fun e => hT.2.2.1 _ hI e.symm, List.forall_mem_cons.mpr ⟨fun e => hT.2.2.2 _ hI e.symm, fun p hp => of_decide_eq_true (List.mem_filter.mp hp).2⟩⟩

theorem law_start {h₀ h : Heap} {L LD D4 : Addr} {x2 x3 x4 x5 x6 : Addr × Obj} {lws : List Value} (N : News h₀ L h [(LD, listOf lws.toArray 0), x2, x3, x4, x5, x6, (D4, tupObj []), (44, tabObj #[]), (37, tabObj #[])]) :
    News h₀ L h [(37, tabObj #[]), (44, tabObj #[]), (LD, listOf lws.toArray 0), (D4, tupObj [])] ∧ Tabs #[] #[] [(LD, listOf lws.toArray 0), (D4, tupObj [])] := by
  have a1 : LD ≠ 37 := news_ne N (o := listOf lws.toArray 0) (o' := tabObj #[]) (by simp) (by simp) (fun e => Value.noConfusion e)
  have a2 : LD ≠ 44 := news_ne N (o := listOf lws.toArray 0) (o' := tabObj #[]) (by simp) (by simp) (fun e => Value.noConfusion e)
  have a3 : D4 ≠ 37 := news_ne N (o := tupObj []) (o' := tabObj #[]) (by simp) (by simp) (fun e => Value.noConfusion e)
  have a4 : D4 ≠ 44 := news_ne N (o := tupObj []) (o' := tabObj #[]) (by simp) (by simp) (fun e => Value.noConfusion e)
  refine ⟨nsub N (by intro q hq; simp only [List.mem_cons] at hq ⊢; rcases hq with h | h | h | h | h <;> simp_all), .inl rfl, .inl rfl, ?_, ?_⟩
  · intro p hp; simp only [List.mem_cons] at hp; rcases hp with rfl | rfl | hp
    · exact a1
    · exact a3
    · cases hp
  · intro p hp; simp only [List.mem_cons] at hp; rcases hp with rfl | rfl | hp
    · exact a2
    · exact a4
    · cases hp
theorem ints_at {vs : List Value} {ns : List Int} (h : IntsAre vs ns) {k : Nat} {v : Value} (hv : vs[k]? = some v) : ∃ n t, v = .int n t := by
  have hk : k < ns.length := by rw [← h.length]; exact (List.getElem?_eq_some_iff.mp hv).1
  obtain ⟨t, ht⟩ := IntsAre.get h k ns[k] (by simp [hk])
  rw [hv] at ht
  exact ⟨_, t, Option.some.inj ht⟩

def LawInv (D : Addr) (vs : List Value) (i : Nat) (c : Int × Tok × Value) (nx : List (Addr × Obj)) : Prop :=
  ∃ ps qs rest t, nx = (37, tabObj ps) :: (44, tabObj qs) :: rest ∧ Tabs ps qs rest ∧ (D, listOf vs.toArray 0) ∈ rest ∧ TreeIn rest c.2.2 t ∧ c.1 = (t.worth : Int) ∧ t.worth < 2 ^ (67 * i)

theorem law_ready {h₀ h : Heap} {L I LD : Addr} {oI : Obj} {lws : List Value} {ps qs : Array Value} {rest nx1 : List (Addr × Obj)} {tv : Value} {t : Tr} (N1 : News h₀ L h nx1) (hs : ∀ q ∈ (I, oI) :: (37, tabObj ps) :: (44, tabObj qs) :: rest, q ∈ nx1) (hT : Tabs ps qs rest)
    (h37I : (37 : Addr) ≠ I) (h44I : (44 : Addr) ≠ I) (hLD : (LD, listOf lws.toArray 0) ∈ rest) (htr : TreeIn nx1 tv t) :
    ∃ rest1, News h₀ L h ((37, tabObj ps) :: (44, tabObj qs) :: rest1) ∧ Tabs ps qs rest1 ∧ (I, oI) ∈ rest1 ∧ (LD, listOf lws.toArray 0) ∈ rest1 ∧ TreeIn rest1 tv t := by
  have hr : ∀ q ∈ rest, q ∈ nx1 := fun q hq => hs q (List.mem_cons_of_mem _ (List.mem_cons_of_mem _ (List.mem_cons_of_mem _ hq)))
  have h37 : (37, tabObj ps) ∈ nx1 := hs _ (List.mem_cons_of_mem _ List.mem_cons_self)
  have h44 : (44, tabObj qs) ∈ nx1 := hs _ (List.mem_cons_of_mem _ (List.mem_cons_of_mem _ List.mem_cons_self))
  have keep : ∀ q : Addr × Obj, q ∈ nx1 → q.1 ≠ 37 → q.1 ≠ 44 → q ∈ nx1.filter (fun p => decide (p.1 ≠ 37 ∧ p.1 ≠ 44)) := fun q hq a b => List.mem_filter.mpr ⟨hq, decide_eq_true ⟨a, b⟩⟩
  have kr : ∀ q ∈ rest, q ∈ nx1.filter (fun p => decide (p.1 ≠ 37 ∧ p.1 ≠ 44)) := fun q hq => keep q (hr q hq) (hT.2.2.1 q hq) (hT.2.2.2 q hq)
  refine ⟨nx1.filter (fun p => decide (p.1 ≠ 37 ∧ p.1 ≠ 44)), fun q hq => ?_, ⟨hT.1.mono kr, hT.2.1.mono kr, fun p hp => (of_decide_eq_true (List.mem_filter.mp hp).2).1, fun p hp => (of_decide_eq_true (List.mem_filter.mp hp).2).2⟩, keep _ (hs _ List.mem_cons_self) ?_ ?_, kr _ hLD, htr.mono' fun a ws hm => keep _ hm ?_ ?_⟩
  · simp only [List.mem_cons] at hq
    rcases hq with rfl | rfl | hq
    · exact N1 _ h37
    · exact N1 _ h44
    · exact N1 _ (List.mem_filter.mp hq).1
  · exact fun e => h37I e.symm
  · exact fun e => h44I e.symm
  · exact news_ne N1 (o := tupObj ws) (o' := tabObj ps) hm h37 (fun e => Value.noConfusion e)
  · exact news_ne N1 (o := tupObj ws) (o' := tabObj qs) hm h44 (fun e => Value.noConfusion e)

theorem law_fin {h₀ h : Heap} {L I LD l : Addr} {oI : Obj} {lws : List Value} {ps qs : Array Value} {nx : List (Addr × Obj)} {tv : Value} {t : Tr} {num : Int} {i : Nat} (N : News h₀ L h ((37, tabObj ps) :: (44, tabObj qs) :: nx)) (hT : Tabs ps qs nx) (hi : ItLike l oI) (hI : (I, oI) ∈ nx)
    (hLD : (LD, listOf lws.toArray 0) ∈ nx) (htr : TreeIn nx tv t) (hn : num = (t.worth : Int)) (hb : t.worth < 2 ^ (67 * (i + 1))) :
    News h₀ L h ((I, oI) :: (37, tabObj ps) :: (44, tabObj qs) :: nx.filter fun p => decide (p.1 ≠ I)) ∧ (∀ p ∈ (37, tabObj ps) :: (44, tabObj qs) :: nx.filter fun p => decide (p.1 ≠ I), p.1 ≠ I) ∧
      ∀ tk : Tok, LawInv LD lws (i + 1) (num, tk, tv) ((37, tabObj ps) :: (44, tabObj qs) :: nx.filter fun p => decide (p.1 ≠ I)) := by
  obtain ⟨N1, hT1, ho⟩ := law_end N hT hI hi
  have N' : News h₀ L h nx := fun q hq => N q (List.mem_cons_of_mem _ (List.mem_cons_of_mem _ hq))
  refine ⟨N1, ho, fun tk => ⟨ps, qs, _, t, rfl, hT1, List.mem_filter.mpr ⟨hLD, decide_eq_true ?_⟩, htr.mono' fun a ws hm => List.mem_filter.mpr ⟨hm, decide_eq_true ?_⟩, hn, hb⟩⟩
  · refine news_ne N' (o := listOf lws.toArray 0) (o' := oI) hLD hI fun e => ?_
    rw [hi.1] at e
    exact absurd (Value.type.inj e) (by decide)
  · refine news_ne N' (o := tupObj ws) (o' := oI) hm hI fun e => ?_
    rw [hi.1] at e
    exact absurd (Value.type.inj e) (by decide)
theorem bound_up {n m i : Nat} (h : n < 2 ^ (67 * i)) (hm : m ≤ 2 * (n + 1) * 2 ^ 65) : m < 2 ^ (67 * (i + 1)) := by
  have h1 : 2 ^ (67 * (i + 1)) = 2 ^ (67 * i) * 2 ^ 67 := by rw [Nat.mul_add, Nat.pow_add]
  have h2 : (2 : Nat) ^ 67 = 147573952589676412928 := by decide
  have h3 : (2 : Nat) ^ 65 = 36893488147419103232 := by decide
  rw [h3] at hm
  rw [h1, h2]
  omega
theorem grown (t b : Nat) (num : Int) (h : num = (t : Int)) : (num + num + 1) * 2 ^ b = (((2 * t + 1) * 2 ^ b : Nat) : Int) := by
  subst h
  rw [Int.natCast_mul, Int.natCast_pow, show ((2 * t + 1 : Nat) : Int) = (t : Int) + t + 1 by omega]; rfl

theorem Items.first {n : List (Addr × Obj)} {b r : Tr} {vs : List Value} (h : Items n (.cons b r) vs) : 1 ≤ vs.length ∧ (∃ v, vs[(0 : Int).toNat]? = some v ∧ TreeIn n v b) ∧ Items n r (vs.drop 1) := by
  obtain ⟨a, ws, vs', rfl, m, hb, hr⟩ := h
  exact ⟨by rw [List.length_cons]; omega, ⟨_, rfl, a, ws, rfl, m, hb⟩, hr⟩

/-- the end of a turn: what stands once the deed is done and the two are to agree -/
structure LawTail (g : Heap) (L I LD : Addr) (oI : Obj) (lws : List Value) (i : Nat) (Q : Flow → Shared → Prop) (s : Shared) : Prop where
  out : ∀ (num : Int) (nt : Tok) (tv : Value) (t : Tr) (h : Heap) (tk : Nat) (m : Str → Option Value) (ps qs : Array Value) (rest : List (Addr × Obj)), Fr g L h m → News g L h ((37, tabObj ps) :: (44, tabObj qs) :: rest) → Tabs ps qs rest →
    (I, oI) ∈ rest → (LD, listOf lws.toArray 0) ∈ rest → TreeIn rest tv t → num = (t.worth : Int) → t.worth < 2 ^ (67 * (i + 1)) → Ag m [("number", .int num nt), ("tree", tv)] →
    Q .next { s with heap := h, toks := tk }
section
variable {g : Heap} {L I LD : Addr} {oI : Obj} {lws : List Value} {i : Nat} {Q : Flow → Shared → Prop} {s : Shared}
theorem law_cut {M : Model} {A : Around} {env : Env} {st : Stmt} {rest : List Stmt} {Q : Flow → Shared → Prop} {E : Value → Shared → Prop} {h : Heap} {m : Str → Option Value} (_ : Fr g L h m)
    (main : ∀ Q1, LawTail g L I LD oI lws i Q1 s → wpAny M A (exec st env) Q1 E s) (key : ∀ Q1, Cuts M A env rest Q E Q1 → LawTail g L I LD oI lws i Q1 s) :
    wpAny M A (execs (st :: rest) env) Q E s := execs_cut fun Q1 c1 => main Q1 (key Q1 c1)
theorem LawTail.use (key : LawTail g L I LD oI lws i Q s) {num : Int} {nt : Tok} {tv : Value} {t : Tr} {h : Heap} {tk : Nat} {m : Str → Option Value} {ps qs : Array Value} {rest : List (Addr × Obj)} (F : Fr g L h m) (N : News g L h ((37, tabObj ps) :: (44, tabObj qs) :: rest)) (hT : Tabs ps qs rest)
    (hI : (I, oI) ∈ rest) (hLD : (LD, listOf lws.toArray 0) ∈ rest) (htr : TreeIn rest tv t) (hn : num = (t.worth : Int)) (hb : t.worth < 2 ^ (67 * (i + 1))) (ha : Ag m [("number", .int num nt), ("tree", tv)]) :
    Q .next { s with heap := h, toks := tk } := key.out _ _ _ _ _ _ _ _ _ _ F N hT hI hLD htr hn hb ha
theorem turn_cut {M : Model} {A : Around} {t : Sem Flow} {E : Value → Shared → Prop} (h : ∀ (Q0 : Flow → Shared → Prop) (E0 : Value → Shared → Prop), (∀ f s', Q f s' → Q0 f s') → wpAny M A t Q0 E0 s) : wpAny M A t Q E s := h Q E fun _ _ x => x
end
end

section
local macro_rules | `(tactic| walk_at "eval Name") => `(tactic| (k_here; k_dflt (refine' ld ?k1 ?k2 ?_; (case k1 => k_asm); (case k2 => first | exact rfl | assumption); k_whole)))
local macro_rules | `(tactic| walk_at "callWith ref") => `(tactic| (k_here; k_dflt (first | (refine' callWith_K ?k1 ?k2 ?_; (case k1 => k_asm); (case k2 => k_is); k_whole) | (refine' callWith_K0 ?k1 ?k2 ?_; (case k1 => k_in); (case k2 => k_is); k_whole))))
local macro_rules | `(tactic| walk_at "subscriptTail Call Name cons nil Constant ref int") => `(tactic| (k_here; k_dflt (refine kba_turn (value' := PySem.Expr.Name (PySem.Str.ofString "_") ⟨0, 0, 0, 0⟩) (fun _ => rfl) ?_)))
set_option maxRecDepth 100000 in
set_option maxHeartbeats 8000000 in
theorem law_all : PySem.Challenge.rw_un0008_01.Holds := by
  refine Mine.hd ?_
  w_strict (
    k_go0
    (all_goals try k_fold)
    refine enter_cut fun Q9 E9 c9 p9 => ?_
    k_steps
    rename Fr _ _ _ _ => F1
    (with_unfolding_all refine' For_invVF F1 ?k1 ?k2 ?_; (case k1 => exact rfl); (case k2 => exact rfl); k_whole)
    k_steps
    rename News _ _ _ ((_, W.listOf (List.toArray _) 0) :: _) => N2
    rename Fr _ _ _ _ => F2
    rename IntsAre _ ([17, 7, 0] ++ _ ++ [0, 1]) => hI
    rename Below callerA _ _ _ => B2
    rename Frag.In _ (ghostOf _ _) => X2
    rename Top _ _ _ _ _ (ghostOf _ _) => T2
    rename_i LD lws lh _
    obtain ⟨N3, hT3⟩ := law_start (LD := LD) (lws := lws) N2
    refine iter_list_my2 (l := LD) (vs := lws) (n := 0) (fun (c : Int × Tok × Value) => [("number", .int c.1 c.2.1), ("tree", c.2.2)]) (LawInv LD lws) (_, _, _) rfl ?_ F2 N3 (.cons rfl (.one rfl)) ?_ ?_ ?_
    · rintro i c nx ⟨ps, qs, rest, t, rfl, hT, hLD, _⟩
      exact List.mem_cons_of_mem _ (List.mem_cons_of_mem _ hLD)
    · exact ⟨#[], #[], _, .nil, rfl, hT3, List.mem_cons_self, ⟨_, [], rfl, List.mem_cons_of_mem _ List.mem_cons_self, rfl⟩, rfl, by decide⟩
    · rintro i v ⟨num, nt, tv⟩ u nx h tk I oI hi hv ⟨ps, qs, rest, t, rfl, hT, hLD, htr, hnum, hbt⟩ hoff hcls F' N'
      dsimp only [envOf] at F' N'
      refine turn_cut fun Q0 E0 c0 => ?_
      dsimp only at hnum htr ⊢
      obtain ⟨d, dt, rfl⟩ := ints_at hI hv
      obtain ⟨ta, ws, rfl, htm, hit⟩ := id htr
      have hlw : lws.length ≤ 10 := by
        rw [hI.length]
        simp only [List.length_append, List.length_cons, List.length_nil, List.length_take]
        omega
      have hb7 : 2 ^ (67 * i) ≤ 2 ^ 670 := Nat.pow_le_pow_right (by decide) (by omega)
      obtain ⟨k, hk⟩ : ∃ k : Nat, (d.fdiv 5).fmod 9 = (k : Int) := by
        have := Int.fmod_nonneg_of_pos (d.fdiv 5) (show (0 : Int) < 9 by decide)
        exact ⟨((d.fdiv 5).fmod 9).toNat, by omega⟩
      have hk9 : k < 9 := by
        have := Int.fmod_lt_of_pos (d.fdiv 5) (show (0 : Int) < 9 by decide)
        omega
      have hnat : num.natAbs < 2 ^ 670 := by rw [hnum, Int.natAbs_natCast]; omega
      have hsh1 : ((Builtin.Int.intBits (num + num + 1) : Nat) : Int) + (d.fdiv 5).fmod 9 ≤ 2 ^ 27 := by
        refine shlok (k := 672) ?_ (by decide) (by omega)
        rw [Nat.pow_succ, Nat.pow_succ]; omega
      have hsh2 : ((Builtin.Int.intBits (num + num + 1) : Nat) : Int) + 65 ≤ 2 ^ 27 := by
        refine shlok (k := 672) ?_ (by decide) (by decide)
        rw [Nat.pow_succ, Nat.pow_succ]; omega
      have hk0 : 0 ≤ (d.fdiv 5).fmod 9 := by omega
      have hwl : ws.length ≤ 670 := by
        have h1 := t.two_pow_len
        have h2 : 2 ^ t.len < 2 ^ 671 := by rw [Nat.pow_succ]; omega
        have h3 := (Nat.pow_lt_pow_iff_right (by decide : 1 < 2)).mp h2
        rw [hit.length]; omega
      have hwz : ws.length ≤ sizeLine := fits (by omega)
      have h65 : (0 : Int) ≤ 65 := by decide
      have h670 : (2 : Nat) ^ 670 ≤ 2 ^ 1000 := Nat.pow_le_pow_right (by decide) (by decide)
      have hb8 : 2 ^ (67 * (i + 1)) ≤ 2 ^ 1000 := Nat.pow_le_pow_right (by decide) (by omega)
      have h37I : (37 : Addr) ≠ I := hoff _ List.mem_cons_self
      have h44I : (44 : Addr) ≠ I := hoff _ (List.mem_cons_of_mem _ List.mem_cons_self)
      have hbig : t.worth < 2 ^ 65536 := Nat.lt_of_lt_of_le hbt (Nat.pow_le_pow_right (by decide) (by omega))
      refine' law_cut F' (I := I) (LD := LD) (oI := oI) (lws := lws) (i := i) (fun Q1 key => ?main) (fun Q1 c1 => ?key)
      case main =>
        k_steps
        · -- one more
          rename News _ _ _ _ => NX0
          rename Fr _ _ _ _ => FX0
          refine con_use (more_ok t hbig) B2 FX0 X2 NX0 T2 rfl ⟨_, rfl, htr.mono (by ktd_sub)⟩ (by decide) (by decide) ?_
          rintro r1 nx1 h1 tk1 F1 N1 hsX ⟨t', htw, htrX⟩
          clear NX0 FX0
          k_steps
          rename News _ _ _ _ => NX
          have hbX : t'.worth < 2 ^ (67 * (i + 1)) := bound_up hbt (by clear hbig; omega)
          have hnX : num + 1 = (t'.worth : Int) := by omega
          obtain ⟨rest1, N3, hT3, hI3, hL3, htr3⟩ := law_ready (I := I) (oI := oI) (LD := LD) (lws := lws) (tv := _) NX (by ktd_sub) hT h37I h44I hLD (htrX.mono (by ktd_sub))
          exact key.use (by assumption) N3 hT3 hI3 hL3 htr3 hnX hbX (.cons rfl (.one rfl))
        · -- a branch of 65 ahead
          rename News _ _ _ _ => NX0
          rename Fr _ _ _ _ => FX0
          refine con_use (tree_ok 65 (Nat.lt_of_lt_of_le (by decide : 65 < 2 ^ 7) (Nat.pow_le_pow_right (by decide) (by decide)))) B2 FX0 X2 NX0 T2 rfl ⟨_, rfl⟩ (by decide) (by decide) ?_
          rintro r1 nx1 h1 tk1 F1 N1 hsX ⟨t1, htw, htr1⟩
          clear NX0 FX0
          have hta1 : (ta, tupObj ws) ∈ nx1 := hsX _ (by k_mem)
          k_steps
          rename News _ _ _ _ => NX
          have hbX : (Tr.cons t1 t).worth < 2 ^ (67 * (i + 1)) := bound_up hbt (by rw [Tr.worth, htw]; omega)
          have hnX : (num + num + 1) * 2 ^ Int.toNat 65 = ((Tr.cons t1 t).worth : Int) := by rw [Tr.worth, htw]; exact grown t.worth 65 num hnum
          obtain ⟨rest1, N3, hT3, hI3, hL3, htr3⟩ := law_ready (I := I) (oI := oI) (LD := LD) (lws := lws) (tv := _) NX (by ktd_sub) hT h37I h44I hLD (⟨_, [r1] ++ ws, rfl, by k_mem, Items.consI (htr1.mono (by ktd_sub)) (hit.mono (by ktd_sub))⟩)
          exact key.use (by assumption) N3 hT3 hI3 hL3 htr3 hnX hbX (.cons rfl (.one rfl))
        · -- a branch of v ahead
          rw [hk]
          rename News _ _ _ _ => NX0
          rename Fr _ _ _ _ => FX0
          refine con_use (tree_ok k (Nat.lt_of_lt_of_le (by omega : k < 2 ^ 7) (Nat.pow_le_pow_right (by decide) (by decide)))) B2 FX0 X2 NX0 T2 rfl ⟨_, rfl⟩ (by decide) (by decide) ?_
          rintro r1 nx1 h1 tk1 F1 N1 hsX ⟨t1, htw, htr1⟩
          clear NX0 FX0
          have hta1 : (ta, tupObj ws) ∈ nx1 := hsX _ (by k_mem)
          k_steps
          rename News _ _ _ _ => NX
          have hbX : (Tr.cons t1 t).worth < 2 ^ (67 * (i + 1)) := bound_up hbt (by rw [Tr.worth, htw]; exact Nat.mul_le_mul (by omega) (Nat.pow_le_pow_right (by decide) (by omega)))
          have hnX : (num + num + 1) * 2 ^ ((k : Nat) : Int).toNat = ((Tr.cons t1 t).worth : Int) := by rw [Int.toNat_natCast, Tr.worth, htw]; exact grown t.worth k num hnum
          obtain ⟨rest1, N3, hT3, hI3, hL3, htr3⟩ := law_ready (I := I) (oI := oI) (LD := LD) (lws := lws) (tv := _) NX (by ktd_sub) hT h37I h44I hLD (⟨_, [r1] ++ ws, rfl, by k_mem, Items.consI (htr1.mono (by ktd_sub)) (hit.mono (by ktd_sub))⟩)
          exact key.use (by assumption) N3 hT3 hI3 hL3 htr3 hnX hbX (.cons rfl (.one rfl))
        · -- one less
          have hne : t ≠ .nil := by
            rintro rfl
            have h0 : num = 0 := hnum
            subst h0
            rename (0 : Int) < Int.fmod 0 _ => hlt
            simp at hlt
          rename News _ _ _ _ => NX0
          rename Fr _ _ _ _ => FX0
          refine con_use (less_ok t hne hbig) B2 FX0 X2 NX0 T2 rfl ⟨_, rfl, htr.mono (by ktd_sub)⟩ (by decide) (by decide) ?_
          rintro r1 nx1 h1 tk1 F1 N1 hsX ⟨t', htw, htrX⟩
          clear NX0 FX0
          k_steps
          rename News _ _ _ _ => NX
          have hbX : t'.worth < 2 ^ (67 * (i + 1)) := bound_up hbt (by clear hbig; omega)
          have hnX : num - 1 = (t'.worth : Int) := by omega
          obtain ⟨rest1, N3, hT3, hI3, hL3, htr3⟩ := law_ready (I := I) (oI := oI) (LD := LD) (lws := lws) (tv := _) NX (by ktd_sub) hT h37I h44I hLD (htrX.mono (by ktd_sub))
          exact key.use (by assumption) N3 hT3 hI3 hL3 htr3 hnX hbX (.cons rfl (.one rfl))
        · -- nothing
          have htrX := htr
          rename News _ _ _ _ => NX
          have hbX : t.worth < 2 ^ (67 * (i + 1)) := bound_up hbt (by clear hbig; omega)
          have hnX : num = (t.worth : Int) := hnum
          obtain ⟨rest1, N3, hT3, hI3, hL3, htr3⟩ := law_ready (I := I) (oI := oI) (LD := LD) (lws := lws) (tv := _) NX (by ktd_sub) hT h37I h44I hLD (htrX.mono (by ktd_sub))
          exact key.use (by assumption) N3 hT3 hI3 hL3 htr3 hnX hbX (.cons rfl (.one rfl))
        · -- the first branch off
          rename News _ _ _ _ => NX0
          rename Fr _ _ _ _ => FX0
          rename ws ≠ [] => hws
          cases t with
          | nil => exact absurd (show ws = [] from hit) hws
          | cons b r =>
          obtain ⟨rest0, N0, hT0, hI0, hL0, htr0⟩ := law_ready (I := I) (oI := oI) (LD := LD) (lws := lws) (tv := .ref ta) NX0 (by ktd_sub) hT h37I h44I hLD (htr.mono (by ktd_sub))
          obtain ⟨_, ws3, e3, htm3, hit3⟩ := id htr0
          cases e3
          have hl3 : ws3.length ≤ 670 := by rw [hit3.length, ← hit.length]; exact hwl
          obtain ⟨hl1, _, hit4⟩ := Items.first hit3
          refine conT_use (parted_ok b.worth r.worth ?_) B2 FX0 X2 N0 T2 hT0 rfl ⟨_, _, rfl, by rw [hnum, Tr.worth, Nat.mul_comm]⟩ (by decide) (by decide) ?_
          · rw [Nat.mul_comm]
            exact Nat.lt_of_lt_of_le hbt (Nat.pow_le_pow_right (by decide) (by omega))
          rintro r7 ps7 qs7 nx7 h7 tk7 F14 N14 hT7 hs7 ⟨ta7, u1, u2, u3, rfl, htm7⟩
          clear NX0 FX0 N0
          have hz3 : [Value.int ((2 ^ b.worth : Nat) : Int) u1, Value.int (-((2 ^ b.worth : Nat) : Int)) u2, Value.int (r.worth : Int) u3].length ≤ sizeLine := fits (by simp)
          have hz4 : ws3.length ≤ sizeLine := fits (Nat.le_trans hl3 (by decide))
          have hta7 := hs7 _ htm3
          have hI7 : (I, oI) ∈ nx7 := hs7 _ hI0
          have hrb : r.worth ≤ (Tr.cons b r).worth := by
            have h1 : 2 * r.worth + 1 ≤ (2 * r.worth + 1) * 2 ^ b.worth := Nat.le_mul_of_pos_right _ (Nat.two_pow_pos _)
            rw [Tr.worth]; omega
          k_steps
          rename News _ _ _ _ => NX
          have hbX : r.worth < 2 ^ (67 * (i + 1)) := bound_up hbt (by clear hbig; omega)
          have hnX : ((r.worth : Nat) : Int) = (r.worth : Int) := rfl
          obtain ⟨rest1, N3, hT3, hI3, hL3, htr3⟩ := law_ready (I := I) (oI := oI) (LD := LD) (lws := lws) (tv := _) NX (fun q hq => by rcases List.mem_cons.mp hq with rfl | hq <;> k_mem) hT7 h37I h44I (hs7 _ hL0) (⟨_, ws3.drop 1, rfl, by k_mem, hit4.mono (by ktd_sub)⟩)
          exact key.use (by assumption) N3 hT3 hI3 hL3 htr3 hnX hbX (.cons rfl (.one rfl))
        · -- the first branch in its place
          rename News _ _ _ _ => NX0
          rename Fr _ _ _ _ => FX0
          rename ws ≠ [] => hws
          cases t with
          | nil => exact absurd (show ws = [] from hit) hws
          | cons b r =>
          obtain ⟨hl1, ⟨v1, hv1, htr1⟩, _⟩ := Items.first hit
          have hlen : (Tr.cons b r).len ≤ 2000 := by rw [← hit.length]; omega
          have hwb : ∀ n ∈ (Tr.cons b r).worths, n < 2 ^ 2000 := fun n hn => Nat.lt_of_le_of_lt (worths_le _ n hn) (Nat.lt_of_lt_of_le hbt (Nat.pow_le_pow_right (by decide) (by omega)))
          have hbb : b.worth ≤ (Tr.cons b r).worth := Nat.le_of_lt (Nat.lt_of_lt_of_le Nat.lt_two_pow_self (Tr.worth_pos b r))
          refine con_use (file_ok (Tr.cons b r) hlen hwb) B2 FX0 X2 NX0 T2 rfl ⟨_, rfl, htr.mono (by ktd_sub)⟩ (by decide) (by decide) ?_
          rintro r4 nx4 h4 tk4 F8 N8 hs4 ⟨oa, us, ue, oc, rfl, hom, hon, hrd, hol⟩
          clear NX0 FX0
          k_steps
          refine conS_use (read_ok _ oc hrd hwb hol) B2 (by assumption) X2 (by assumption) T2 X2 T2 ktsDicts_nil rfl ⟨_, _, _, rfl, hom, hon⟩ (by decide) (by decide) ?_
          rintro r5 nx5 h5 tk5 g5 T5 F9 N9 B6 X6 P6 D6 hs5 ⟨ga, gs, ge, rfl, hgm, hgn, hgl⟩
          obtain ⟨F10, N10⟩ := turn_back T5 F9 N9
          clear F9 N9 B6 X6 P6 D6 T5 F8 N8
          obtain ⟨tz, htz⟩ := IntsAre.get hgn 0 (b.worth : Int) rfl
          have htz' : gs[(0 : Int).toNat]? = some (.int (b.worth : Int) tz) := htz
          have hzl : gs.length ≤ sizeLine := fits (by omega)
          have hta9 : (ta, tupObj ws) ∈ nx5 := hs5 _ (hs4 _ (by k_mem))
          have hv9 := hv1
          have hwz9 := hwz
          have hzl9 := hzl
          k_steps
          rename News _ _ _ _ => NX
          have hbX : b.worth < 2 ^ (67 * (i + 1)) := bound_up hbt (by clear hbig; omega)
          have hnX : ((b.worth : Nat) : Int) = (b.worth : Int) := rfl
          obtain ⟨rest1, N3, hT3, hI3, hL3, htr3⟩ := law_ready (I := I) (oI := oI) (LD := LD) (lws := lws) (tv := _) NX (by ktd_sub) hT h37I h44I hLD (htr1.mono (by ktd_sub))
          exact key.use (by assumption) N3 hT3 hI3 hL3 htr3 hnX hbX (.cons rfl (.one rfl))
        · -- nought stays
          have htrX := htr
          rename News _ _ _ _ => NX
          have hbX : t.worth < 2 ^ (67 * (i + 1)) := bound_up hbt (by clear hbig; omega)
          have hnX : num = (t.worth : Int) := hnum
          obtain ⟨rest1, N3, hT3, hI3, hL3, htr3⟩ := law_ready (I := I) (oI := oI) (LD := LD) (lws := lws) (tv := _) NX (by ktd_sub) hT h37I h44I hLD (htrX.mono (by ktd_sub))
          exact key.use (by assumption) N3 hT3 hI3 hL3 htr3 hnX hbX (.cons rfl (.one rfl))
      case key =>
        refine ⟨?_⟩
        intro num9 nt9 tv9 t9 h8 tk8 m8 ps8 qs8 rest1 F8 N8 hT8 hI8 hL8 htr8 hnX hbX hag
        have hna := hag _ List.mem_cons_self
        have hnb := hag _ (List.mem_cons_of_mem _ List.mem_cons_self)
        dsimp only at hna hnb
        refine Cuts.nextI c1 ?_
        k_steps
        refine agree_ok t9 (Nat.lt_of_lt_of_le hbX hb8) B2 F8 X2 N8 T2 X2 T2 ktsDicts_nil hT8 rfl hnX htr8 (by decide) (by decide) ?_
        intro ps9 qs9 nx9 h9 tk9 g9 TT F9 N9 hT9 _ _ _ _ hs9
        obtain ⟨F10, N10⟩ := turn_back TT F9 N9
        clear F9 N9 TT N8 F8
        obtain ⟨N11, hoff11, hinv⟩ := law_fin (i := i) N10 hT9 hcls (hs9 _ hI8) (hs9 _ hL8) (htr8.mono hs9) hnX hbX
        clear N10
        k_steps
        refine c0 _ _ ?_
        exact FPost.nextI (c' := (_, _, _)) (by assumption) (by assumption) hoff11 hag (hinv _)
    · rintro c u nx h tk ⟨ps, qs, rest, t, rfl, hT, hLD, _⟩ F' N'
      dsimp only [envOf] at F' N'
      k_steps
      refine c9 _ _ ?_
      dsimp only
      k_steps
      close_w)
end
end Mine

theorem PySem.Challenge.cw_un0008_01_holds : PySem.Challenge.rw_un0008_01.Holds := by
  exact Mine.law_all
