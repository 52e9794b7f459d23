import PyProof.Rows.All
import Wide.All
import OpenK.AllK
import Wide.FinOn
import PySem.Challenge.RW_pe0091_01
open PySem PySem.W PyProof.Rows
set_option Elab.async false
set_option compiler.extract_closed false
section
open PySem PySem.W PyProof.Rows
namespace Mine
set_option maxRecDepth 100000 in
set_option maxHeartbeats 8000000 in
open_top hd for PySem.Challenge.rw_pe0091_01
end Mine
end
section
open PySem PySem.W PyProof.Rows
namespace Mine

/-- a floor under the tokens: whatever is made from here on bears a token not below it -/
structure Floor (T : Nat) : Prop where
  pos : 0 < T

theorem gen_toks {α : Type} {M : Model} {A : Around} {t : Sem α} {Q : α → Shared → Prop} {E : Value → Shared → Prop} {hp : Heap} {g : Array GenState} {d : Drawn} {os : OsState} {n k T : Nat}
    (_F : Floor T) (hn : T ≤ n + k) (h : ∀ tk, T ≤ tk → wpAny M A t Q E ⟨hp, g, d, tk, os⟩) : wpAny M A t Q E ⟨hp, g, d, n + k, os⟩ := h _ hn

/-- what a contract hands on: the frame and the ledger as they were, the answer -/
abbrev Ret (h₀ : Heap) (L : Addr) (m : Str → Option Value) (news : List (Addr × Obj)) (s : Shared) (Q : Value → Shared → Prop) (R : Tok → Value) : Prop :=
  ∀ (t : Tok) (h' : Heap) (tk' : Nat), s.toks ≤ tk' → Fr h₀ L h' m → News h₀ L h' news → Q (R t) { s with heap := h', toks := tk' }
abbrev Claim (prog : Program) (w : World) (K : Frag) (p : Program) (loose : List Str) (mean : ExcName → Option Value) (mg mb : Str → Option Value) (f : Addr) (news : List (Addr × Obj)) (pre : Shared → Prop) (vs : List Value) (R : Tok → Value) : Prop :=
  ∀ (dp un : Nat) (gd : Option (List Code)) (cn : Str) (cs : Scope) (a : Addr) (ccd : Value) (cl : List (Str × Addr)) (outer : List Env) (A₀ : Around) (base h₀ : Heap) (L : Addr) (m : Str → Option Value) (s : Shared) (Q E : Value → Shared → Prop),
    Below A₀ base outer h₀ → Fr h₀ L s.heap m → K.In h₀ → News h₀ L s.heap news → Top p loose mean mg mb h₀ → cs.kind = .function →
    pre s → dp + 30 < recursionLimit → un + 300 < cLine → Ret h₀ L m news s Q R →
      wpAny (model prog w) (ktrTop dp un gd cn cs L a ccd cl outer) (call (.ref f) vs) Q E s

theorem sub_less {n i : Nat} (h : i < n) : n + 1 - (i + 1) < n + 1 - i := by
  rw [Nat.add_sub_add_right, Nat.succ_sub (Nat.le_of_lt h)]
  exact Nat.lt_succ_self _
theorem fr_same {x : Str} {v : Option Value} {m' m : Str → Option Value} (h : ∀ z, z ≠ x → m' z = m z) : (fun y => if y = x then v else m' y) = fun y => if y = x then v else m y :=
  funext fun y => if e : y = x then (if_pos e).trans (if_pos e).symm else ((if_neg e).trans (h y e)).trans (if_neg e).symm
theorem fr_same2 {x y : Str} {v u : Option Value} {m' m : Str → Option Value} (h : ∀ z, z ≠ x → z ≠ y → m' z = m z) :
    (fun z => if z = y then v else if z = x then u else m' z) = fun z => if z = y then v else if z = x then u else m z :=
  funext fun z => by
    by_cases h1 : z = y
    · exact (if_pos h1).trans (if_pos h1).symm
    · refine (if_neg h1).trans (Eq.trans ?_ (if_neg h1).symm)
      by_cases h2 : z = x
      · exact (if_pos h2).trans (if_pos h2).symm
      · exact (if_neg h2).trans ((h z h2 h1).trans (if_neg h2).symm)
/-- a loop's state between two turns -/
inductive WalkJ {σ : Type} (s : Shared) (h₀ : Heap) (L : Addr) (T n : Nat) (St : Nat → Heap → Prop) (Hm : σ → (Str → Option Value) → Prop) (Λ : σ → List (Addr × Obj)) (J : Nat → σ → Prop) : Nat → Shared → Prop where
  | mk {h' : Heap} {tk : Nat} {m' : Str → Option Value} {st : σ} {i : Nat} (hT : T ≤ tk) (hst : St i h') (F : Fr h₀ L h' m') (N : News h₀ L h' (Λ st)) (hm : Hm st m') (hJ : J i st) (hi : i ≤ n) :
      WalkJ s h₀ L T n St Hm Λ J (n + 1 - i) { s with heap := h', toks := tk }
theorem noE {α : Type} {M : Model} {A : Around} {t : Sem α} {Q : α → Shared → Prop} {E : Value → Shared → Prop} {s : Shared} (h : wpAny M A t Q (fun _ _ => False) s) : wpAny M A t Q E s :=
  wpAny_mono h (fun _ _ x => x) fun _ _ x => x.elim

/-- the loop at its iterator: here the walk stands still -/
def LoopHere (M : Model) (A : Around) (target : Expr) (body orelse : List Stmt) (env : Env) (Q : Flow → Shared → Prop) (E : Value → Shared → Prop) (it : Value) (s : Shared) : Prop :=
  codeAny M A (.forLoop target it body orelse env) (fun r s' => match r with | .ok f => Q f s' | .error e => cameBackBy M A env E e s') s

theorem For_here {M : Model} {A : Around} {E : Value → Shared → Prop} {s : Shared} {env : Env} {target iter : Expr} {body orelse : List Stmt} {pos : Pos} {Q : Flow → Shared → Prop} {T : Nat} (_hF : Floor T) (hT : T ≤ s.toks)
    (h : wpAny M A (eval iter env) (fun x s₁ => T ≤ s₁.toks → wpAny M A (pyIter x) (fun it s₂ => LoopHere M A target body orelse env Q E it s₂) E s₁) (fun _ _ => False) s)
    (hs : ∀ x, foldedSetIterable iter env x = pure x := by intro _; rfl) :
    wpAny M A (exec (.For target iter body orelse pos) env) Q E s := wpAny_For (wpAny_mono (wpAny_toks_of hT h) (fun _ _ x => x.2 x.1) fun _ _ x => x.2.elim) hs

/-- an iterator over a written number of values; the tokens stay above the floor -/
structure WalksP (prog : Program) (w : World) (A : Around) (T : Nat) (I : Addr) (n : Nat) (P : Nat → Value → Prop) (St : Nat → Heap → Prop) : Prop where
  live : ∀ i h, St i h → ∃ o, h.get? I = some o
  item : ∀ i (s : Shared) (Q : Option Value → Shared → Prop) (E : Value → Shared → Prop), i < n → T ≤ s.toks → St i s.heap →
    (∀ v h' tk, T ≤ tk → P i v → St (i + 1) h' → (∀ b o, b ≠ I → s.heap.get? b = some o → h'.get? b = some o) → Q (some v) { s with heap := h', toks := tk }) → wpAny (model prog w) A (pyNext (.ref I)) Q E s
  done : ∀ (s : Shared) (Q : Option Value → Shared → Prop) (E : Value → Shared → Prop), T ≤ s.toks → St n s.heap →
    (∀ h' tk, T ≤ tk → (∀ b o, b ≠ I → s.heap.get? b = some o → h'.get? b = some o) → Q none { s with heap := h', toks := tk }) → wpAny (model prog w) A (pyNext (.ref I)) Q E s

theorem WalksP.of {prog : Program} {w : World} {A : Around} {T : Nat} {I : Addr} {fp : List Addr} {n : Nat} {P : Nat → Value → Prop} {St : Nat → Heap → Prop} (W : Walks prog w A I fp [I] n P St) (hl : ∀ i h, St i h → ∃ o, h.get? I = some o) : WalksP prog w A T I n P St where
  live := hl
  item := fun i s Q E hi hT st hQ => wpAny_with_toks hT (W.item i s _ _ hi st fun v h' tk hP st' hk hle => hQ v h' tk hle hP st' fun b o hb e => hk b o (by simpa using hb) e)
  done := fun s Q E hT st hQ => wpAny_with_toks hT (W.done s _ _ st fun h' tk hk hle => hQ h' tk hle fun b o hb e => hk b o (by simpa using hb) e)

def SignP (T : Nat) (x : Str) (i : Nat) (v : Value) : Prop := ∃ c u, x.cps[i]? = some c ∧ v = .str ⟨#[c]⟩ u ∧ T ≤ u
theorem WalksP.strAscii {prog : Program} {w : World} {A : Around} {T : Nat} (hh : A.handled = none) (I : Addr) (x : Str) (t : Tok) :
    WalksP prog w A T I x.cps.size (SignP T x) (fun i h => h.IsStrIter I "str_ascii_iterator" x t i) where
  live := fun _ _ st => let ⟨o, ho, _⟩ := st; ⟨o, ho⟩
  item := fun i s Q E hi hT st hQ => by
    refine wpAny_pyNext_ascii_item st (c := x.cps[i]) (by simp [hi]) fun h' hit' hs' => ?_
    exact hQ _ h' (s.toks + 1) (Nat.le_succ_of_le hT) ⟨_, _, by simp [hi], rfl, hT⟩ hit' fun b o hb e => hs'.extBut b o hb e
  done := fun s Q E hT st hQ => wpAny_pyNext_ascii_end hh st (by simp) fun h' he' => hQ h' s.toks hT fun b o hb e => he' b o hb e
theorem WalksP.strWide {prog : Program} {w : World} {A : Around} {T : Nat} (hh : A.handled = none) (I : Addr) (x : Str) (t : Tok) :
    WalksP prog w A T I x.cps.size (SignP T x) (fun i h => h.IsStrIter I "str_iterator" x t i) where
  live := fun _ _ st => let ⟨o, ho, _⟩ := st; ⟨o, ho⟩
  item := fun i s Q E hi hT st hQ => by
    refine wpAny_pyNext_wide_item st (c := x.cps[i]) (by simp [hi]) fun h' hit' hs' => ?_
    exact hQ _ h' (s.toks + 1) (Nat.le_succ_of_le hT) ⟨_, _, by simp [hi], rfl, hT⟩ hit' fun b o hb e => hs'.extBut b o hb e
  done := fun s Q E hT st hQ => wpAny_pyNext_wide_end hh st (by simp) fun h' he' => hQ h' s.toks hT fun b o hb e => he' b o hb e

theorem pyIter_strP {prog : Program} {w : World} {A : Around} {E : Value → Shared → Prop} {s : Shared} {x : Str} {t : Tok} {T : Nat} {Q : Value → Shared → Prop}
    (hQ : ∀ (o : Obj) (St : Nat → Heap → Prop), (∀ A' : Around, A'.handled = none → WalksP prog w A' T s.heap.objs.size x.cps.size (SignP T x) St) → St 0 (s.heap.push o) → o.isFreed = false →
      (∀ i h h', St i h → (∀ o, h.get? s.heap.objs.size = some o → h'.get? s.heap.objs.size = some o) → St i h') →
      Q (.ref s.heap.objs.size) { s with heap := s.heap.push o }) : wpAny (model prog w) A (pyIter (.str x t)) Q E s := by
  cases ha : x.cps.all (· < 128)
  · exact wpAny_pyIter_wide ha (hQ _ _ (fun A' hA => WalksP.strWide hA _ x t) ⟨_, Heap.get?_push_size _ rfl, rfl, rfl⟩ rfl fun _ _ _ st k => let ⟨o, ho, r⟩ := st; ⟨o, k o ho, r⟩)
  · exact wpAny_pyIter_ascii ha (hQ _ _ (fun A' hA => WalksP.strAscii hA _ x t) ⟨_, Heap.get?_push_size _ rfl, rfl, rfl⟩ rfl fun _ _ _ st k => let ⟨o, ho, r⟩ := st; ⟨o, k o ho, r⟩)

section
variable {prog : Program} {w : World} {A : Around} {E : Value → Shared → Prop} {s : Shared} {env : Env} {h₀ : Heap} {body : List Stmt} {Q : Flow → Shared → Prop}

/-- a turn's end: the state's shape anew -/
def TurnEnd {σ : Type} (h₀ : Heap) (L : Addr) (x : Str) (M : σ → Str → Option Value) (Λ : σ → List (Addr × Obj)) (J : σ → Prop) (own : Addr × Obj) (s₁ s₂ : Shared) : Prop :=
  ∃ h' tk m' news' st, s₂ = { s₁ with heap := h', toks := tk } ∧ Fr h₀ L h' m' ∧ News h₀ L h' news' ∧ own ∈ news' ∧ (∀ p ∈ Λ st, p ∈ news') ∧ (∀ z, z ≠ x → m' z = M st z) ∧ J st
def TurnPost {σ : Type} (h₀ : Heap) (L : Addr) (x : Str) (M : σ → Str → Option Value) (Λ : σ → List (Addr × Obj)) (J : σ → Prop) (own : Addr × Obj) (s₁ : Shared) (Q : Flow → Shared → Prop) (f : Flow) (s₂ : Shared) : Prop :=
  match f with
  | .ret v => Q (.ret v) s₂
  | .brk => Q .next s₂
  | _ => TurnEnd h₀ L x M Λ J own s₁ s₂

theorem loop_walk {x : Str} {px : Pos} {T I n : Nat} {P : Nat → Value → Prop} {St : Nat → Heap → Prop} {m₀ : Str → Option Value} {news : List (Addr × Obj)} {σ : Type} (W : WalksP prog w A T I n P St)
    (M : σ → Str → Option Value) (Λ : σ → List (Addr × Obj)) (J : Nat → σ → Prop) (st₀ : σ)
    (hSt : ∀ i st h h', J i st → St i h → (∀ o, h.get? I = some o → h'.get? I = some o) → (∀ b o, h₀.get? b = some o → h'.get? b = some o) → News h₀ env.locals h' (Λ st) → St i h')
    (hx : env.kindOf x = some .local) (hp : (env.scope.kind == .class || (env.scope.kind == .module && env.locals != env.globals)) = false)
    (hT : T ≤ s.toks) (hI : h₀.get? I = none) (hIL : I ≠ env.locals) (hoff : ∀ i st, J i st → ∀ p ∈ Λ st, p.1 ≠ I)
    (F : Fr h₀ env.locals s.heap m₀) (N : News h₀ env.locals s.heap news) (hst : St 0 s.heap) (hm : ∀ z, z ≠ x → m₀ z = M st₀ z) (hl : ∀ p ∈ Λ st₀, p ∈ news) (hj : J 0 st₀)
    (turn : ∀ i v st h tk oI, T ≤ tk → i < n → P i v → J i st → Fr h₀ env.locals h (fun y => if y = x then some v else M st y) → News h₀ env.locals h ((I, oI) :: Λ st) →
      wpAny (model prog w) A (execs body env) (TurnPost h₀ env.locals x M Λ (J (i + 1)) (I, oI) { s with heap := h, toks := tk } Q) (fun _ _ => False) { s with heap := h, toks := tk })
    (done : ∀ st m₁ h tk, T ≤ tk → J n st → (∀ z, z ≠ x → m₁ z = M st z) → Fr h₀ env.locals h m₁ → News h₀ env.locals h (Λ st) → Q .next { s with heap := h, toks := tk }) :
    LoopHere (model prog w) A (.Name x px) body [] env Q E (.ref I) s := by
  refine codeAny_forLoop (WalkJ s h₀ env.locals T n St (fun st m' => ∀ z, z ≠ x → m' z = M st z) Λ J) ?_ (n + 1) (WalkJ.mk (h' := s.heap) (tk := s.toks) (i := 0) hT hst F (fun p hp => N p (hl p hp)) hm hj (Nat.zero_le _))
  rintro _ _ (@⟨h', tk, m', st, i, hT', hst', F', N', hm', hJ, hi⟩)
  have old : ∀ b o, h₀.get? b = some o → b ≠ I := fun b o e q => by rw [q, hI] at e; cases e
  have next : ∀ h₁ : Heap, (∀ b o, b ≠ I → h'.get? b = some o → h₁.get? b = some o) → Fr h₀ env.locals h₁ m' ∧ News h₀ env.locals h₁ (Λ st) := fun h₁ hk₁ =>
    ⟨⟨F'.ns.at' fun o e => hk₁ _ o (Ne.symm hIL) e, fun b o e => hk₁ b o (old b o e) (F'.keep b o e), F'.above⟩, fun p hp => ⟨hk₁ _ _ (hoff i st hJ p hp) (N' p hp).1, (N' p hp).2⟩⟩
  by_cases hlt : i < n
  · refine W.item i _ _ _ hlt hT' hst' fun v h₁ tk₁ hT₁ hP hst₁ hk₁ => ?_
    obtain ⟨F₁, N₁⟩ := next h₁ hk₁
    refine wpAny_assign_Name (wpAny_storeName_local hx F₁.ns (fun h₂ hn₂ hs₂ => ?_) hp)
    have F₂ := F₁.set hn₂ hs₂
    have N₂ := N₁.set hs₂
    obtain ⟨oI, hoI⟩ := W.live _ _ hst₁
    have hoI₂ : h₂.get? I = some oI := (hs₂.2 I hIL).trans hoI
    have NI : News h₀ env.locals h₂ ((I, oI) :: Λ st) := fun p hp => by
      rcases List.mem_cons.mp hp with rfl | hp
      · exact ⟨hoI₂, hIL, hI⟩
      · exact N₂ p hp
    rw [fr_same hm'] at F₂
    refine wpAny_mono (wpAny_toks_of (n := T) (Nat.le_succ_of_le hT₁) (turn i v st h₂ _ oI (Nat.le_succ_of_le hT₁) hlt hP hJ F₂ NI)) (fun f s₃ h₃ => ?_) fun _ _ e => e.2.elim
    obtain ⟨hT₃, h₃⟩ := h₃
    have fin : TurnEnd h₀ env.locals x M Λ (J (i + 1)) (I, oI) { s with heap := h₂, toks := tk₁ + 1 } s₃ → ∃ m, m < n + 1 - i ∧ WalkJ s h₀ env.locals T n St (fun st m' => ∀ z, z ≠ x → m' z = M st z) Λ J m s₃ := by
      rintro ⟨h₃', tk₃, m₂, news₂, st₂, rfl, F₃, N₃, hown, hsub, hm₂, hJ₃⟩
      have NL : News h₀ env.locals h₃' (Λ st₂) := fun p hp => N₃ p (hsub p hp)
      refine ⟨_, sub_less hlt, WalkJ.mk hT₃ (hSt (i + 1) st₂ h₁ h₃' hJ₃ hst₁ (fun o e => ?_) F₃.keep NL) F₃ NL hm₂ hJ₃ hlt⟩
      rw [hoI] at e; cases e
      exact (N₃ _ hown).1
    cases f with
    | ret v => exact h₃
    | brk => exact h₃
    | next => exact fin h₃
    | cont => exact fin h₃
  · obtain rfl : i = n := Nat.le_antisymm hi (Nat.le_of_not_lt hlt)
    refine W.done _ _ _ hT' hst' fun h₁ tk₁ hT₁ hk₁ => wpAny_execs_nil ?_
    obtain ⟨F₁, N₁⟩ := next h₁ hk₁
    exact done st m' h₁ tk₁ hT₁ hJ hm' F₁ N₁
end
end Mine
end
section
open PySem PySem.W PyProof.Rows
namespace Mine
/-- two addresses are told apart by one link of a chain of facts -/
inductive LtIn (a b : Nat) : Prop → Prop where
  | lt {r : Prop} : LtIn a b (a < b ∧ r)
  | gt {r : Prop} : LtIn a b (b < a ∧ r)
  | lt1 : LtIn a b (a < b)
  | gt1 : LtIn a b (b < a)
  | next {q r : Prop} (i : LtIn a b r) : LtIn a b (q ∧ r)
theorem LtIn.ne {a b : Nat} {C : Prop} (i : LtIn a b C) : C → a ≠ b := by
  induction i with
  | lt => exact fun h => Nat.ne_of_lt h.1
  | gt => exact fun h => Nat.ne_of_gt h.1
  | lt1 => exact fun h => Nat.ne_of_lt h
  | gt1 => exact fun h => Nat.ne_of_gt h
  | next _ ih => exact fun h => ih h.2
/-- one link of a chain of facts -/
inductive InC (p : Prop) : Prop → Prop where
  | here {r : Prop} : InC p (p ∧ r)
  | last : InC p p
  | next {q r : Prop} (i : InC p r) : InC p (q ∧ r)
theorem InC.get {p C : Prop} (i : InC p C) : C → p := by
  induction i with
  | here => exact fun h => h.1
  | last => exact id
  | next _ ih => exact fun h => ih h.2
theorem le_via {a b c : Nat} (h2 : b ≤ c) (h1 : a ≤ b) : a ≤ c := Nat.le_trans h1 h2
theorem room1 {dp k : Nat} (h : dp + (k + 2) < recursionLimit) : dp + 1 < recursionLimit := Nat.lt_of_le_of_lt (by omega) h
section
variable {prog : Program} {w : World} {A : Around} {E : Value → Shared → Prop} {s : Shared} {env : Env} {h₀ : Heap} {body : List Stmt} {Q : Flow → Shared → Prop}

/-- a loop over a text's signs that stores one int and leaves the ledger alone -/
theorem str_acc {x : Str} {px : Pos} {t : Str} {tk : Tok} {m₀ : Str → Option Value} {news : List (Addr × Obj)} {T : Nat} (y : Str) (J : Nat → Int → Prop) {a₀ : Int} {t₀ : Tok} (hF : Floor T)
    (hx : env.kindOf x = some .local) (hp : (env.scope.kind == .class || (env.scope.kind == .module && env.locals != env.globals)) = false)
    (hh : A.handled = none) (hT : T ≤ s.toks) (F : Fr h₀ env.locals s.heap m₀) (N : News h₀ env.locals s.heap news) (hy : m₀ y = some (.int a₀ t₀)) (hj : J 0 a₀)
    (turn : ∀ i c u a ta h tk I oI, T ≤ u → T ≤ tk → t.cps[i]? = some c → J i a → Fr h₀ env.locals h (fun z => if z = x then some (.str ⟨#[c]⟩ u) else if z = y then some (.int a ta) else m₀ z) → News h₀ env.locals h ((I, oI) :: news) →
      wpAny (model prog w) A (execs body env) (TurnPost h₀ env.locals x (fun (st : Int × Tok) z => if z = y then some (.int st.1 st.2) else m₀ z) (fun _ => news) (fun st => J (i + 1) st.1) (I, oI) { s with heap := h, toks := tk } Q) (fun _ _ => False) { s with heap := h, toks := tk })
    (done : ∀ (u : Str → Option Value) a ta h tk, T ≤ tk → J t.cps.size a → Fr h₀ env.locals h (fun z => if z = x then u z else if z = y then some (.int a ta) else m₀ z) → News h₀ env.locals h news → Q .next { s with heap := h, toks := tk }) :
    wpAny (model prog w) A (pyIter (.str t tk)) (fun it s₂ => LoopHere (model prog w) A (.Name x px) body [] env Q E it s₂) E s := by
  refine pyIter_strP (T := T) fun o St W hst hof hSt => ?_
  have hlt := F.ns.lt
  refine loop_walk (s := { s with heap := s.heap.push o }) (m₀ := m₀) (news := news) (W A hh) (fun (st : Int × Tok) z => if z = y then some (.int st.1 st.2) else m₀ z) (fun _ => news) (fun i st => J i st.1) (a₀, t₀)
    (fun i st h h' _ st' k _ _ => hSt i h h' st' k) hx hp hT (next_is_new F) (Nat.ne_of_gt hlt) (fun _ _ _ p hp => Nat.ne_of_lt (Heap.lt_size (N p hp).1)) (F.push o) (fun p hp => ⟨Heap.get?_push_of_some _ (N p hp).1, (N p hp).2⟩) hst ?_ (fun p hp => hp) hj ?_ ?_
  · intro z _
    by_cases h : z = y
    · subst h; simp [hy]
    · simp [h]
  · rintro i v st h tk oI hTk hi ⟨c, u, hc, rfl, hu⟩ hJ F' N'
    exact turn i c u st.1 st.2 h tk _ oI hu hTk hc hJ F' N'
  · intro st m₁ h tk hTk hJ hm F' N'
    refine done m₁ st.1 st.2 h tk hTk hJ ?_ N'
    have e : (fun z => if z = x then m₁ z else if z = y then some (Value.int st.1 st.2) else m₀ z) = m₁ := by
      funext z
      by_cases h1 : z = x
      · simp [h1]
      · simp only [if_neg h1]; exact (hm z h1).symm
    rw [e]; exact F'
theorem turn_acc {x y : Str} {L : Addr} {m₀ m' : Str → Option Value} {news : List (Addr × Obj)} {J : Int × Tok → Prop} {own : Addr × Obj} {s₁ : Shared} {h' : Heap} {tk : Nat} {a : Int} {ta : Tok}
    (F : Fr h₀ L h' m') (N : News h₀ L h' (own :: news)) (hy : m' y = some (.int a ta)) (hm : ∀ z, z ≠ x → z ≠ y → m' z = m₀ z) (hJ : J (a, ta)) :
    TurnEnd h₀ L x (fun (st : Int × Tok) z => if z = y then some (.int st.1 st.2) else m₀ z) (fun _ => news) J own s₁ { s₁ with heap := h', toks := tk } := by
  refine ⟨h', tk, m', _, (a, ta), rfl, F, N, .head _, fun p hp => .tail _ hp, fun z hz => ?_, hJ⟩
  by_cases h : z = y
  · subst h; simp [hy]
  · simp only [if_neg h]; exact hm z hz h
end
end Mine
end
section
open PySem PySem.W PyProof.Rows
namespace Mine
/-- a mark: from here on the tokens are not below T -/
structure Flo (T : Nat) : Prop where
  t : True
theorem gen_toksO {α : Type} {M : Model} {A : Around} {t : Sem α} {Q : α → Shared → Prop} {E : Value → Shared → Prop} {hp : Heap} {g : Array GenState} {d : Drawn} {os : OsState} {k T : Nat}
    (_F : Flo T) (h : ∀ tk, T ≤ tk → wpAny M A t Q E ⟨hp, g, d, tk, os⟩) : wpAny M A t Q E ⟨hp, g, d, T + k, os⟩ := h _ (Nat.le_add_right _ _)
section
local macro_rules | `(tactic| walk_at "execs cons") => `(tactic| (k_here; refine' gen_toksO ?fl ?_; (case fl => assumption); intro tk' htk'))
variable {w : World} {p : Program} {loose : List Str} {mean : ExcName → Option Value} {mg mb : Str → Option Value} {A A₀ : Around} {env : Env} {outer : List Env} {base h₀ : Heap} {L : Addr} {m : Str → Option Value} {news : List (Addr × Obj)} {s : Shared} {Q E : Value → Shared → Prop} {x y : Int} {t u : Tok}
set_option maxRecDepth 100000 in
set_option maxHeartbeats 8000000 in
theorem opc_and_ (B : Below A₀ base outer h₀) (F : Fr h₀ L s.heap m) (X : (hd.heap_39 w.params).In h₀) (N : News h₀ L s.heap news) (Tp : Top p loose mean mg mb h₀) (hA : A.frames = some (env :: outer)) (hf : env.frame = some L) (hke : env.scope.kind = .function) (hroom : A.depth < recursionLimit)
    (hret : ∀ t' h', s.toks ≤ t' → Fr h₀ L h' m → News h₀ L h' news → Q (.int (Builtin.bitAnd x y) t') { s with heap := h', toks := t' + 1 }) :
    wpAny (model PySem.Challenge.rw_pe0091_01.row.prog w) A (call (.ref 98) [.int x t, .int y u]) Q E s := by
  revert X; k_fill; intro X
  have hFl : Flo s.toks := ⟨trivial⟩
  refine wpAny_call ?_
  refine' code_def B F X N Tp hA hf hke ?k6 ?k7 hroom ?k9 ?kB ?_ ?c2 ?c3 ?c4 ?c5
  case k6 => k_is
  case k7 => k_is
  case k9 => exact BindsTo.of_eq rfl
  case c5 => decide
  case kB => exact locs rfl
  case c2 => exact rfl
  case c3 => exact rfl
  case c4 => exact rfl
  intro g₁ L₁ h₁ FG₁ F₁ N₁ B₁ X₁ T₁
  try k_fold
  refine noE ?_
  k_steps
  with_reducible rename Fr h₀ _ _ _ => Fz
  with_reducible rename News h₀ _ _ _ => Nz
  exact hret _ _ (by assumption) Fz Nz
set_option maxRecDepth 100000 in
set_option maxHeartbeats 8000000 in
theorem opc_add (B : Below A₀ base outer h₀) (F : Fr h₀ L s.heap m) (X : (hd.heap_39 w.params).In h₀) (N : News h₀ L s.heap news) (Tp : Top p loose mean mg mb h₀) (hA : A.frames = some (env :: outer)) (hf : env.frame = some L) (hke : env.scope.kind = .function) (hroom : A.depth < recursionLimit)
    (hret : ∀ t' h', s.toks ≤ t' → Fr h₀ L h' m → News h₀ L h' news → Q (.int (x + y) t') { s with heap := h', toks := t' + 1 }) :
    wpAny (model PySem.Challenge.rw_pe0091_01.row.prog w) A (call (.ref 91) [.int x t, .int y u]) Q E s := by
  revert X; k_fill; intro X
  have hFl : Flo s.toks := ⟨trivial⟩
  refine wpAny_call ?_
  refine' code_def B F X N Tp hA hf hke ?k6 ?k7 hroom ?k9 ?kB ?_ ?c2 ?c3 ?c4 ?c5
  case k6 => k_is
  case k7 => k_is
  case k9 => exact BindsTo.of_eq rfl
  case c5 => decide
  case kB => exact locs rfl
  case c2 => exact rfl
  case c3 => exact rfl
  case c4 => exact rfl
  intro g₁ L₁ h₁ FG₁ F₁ N₁ B₁ X₁ T₁
  try k_fold
  refine noE ?_
  k_steps
  with_reducible rename Fr h₀ _ _ _ => Fz
  with_reducible rename News h₀ _ _ _ => Nz
  exact hret _ _ (by assumption) Fz Nz
set_option maxRecDepth 100000 in
set_option maxHeartbeats 8000000 in
theorem opc_or_ (B : Below A₀ base outer h₀) (F : Fr h₀ L s.heap m) (X : (hd.heap_39 w.params).In h₀) (N : News h₀ L s.heap news) (Tp : Top p loose mean mg mb h₀) (hA : A.frames = some (env :: outer)) (hf : env.frame = some L) (hke : env.scope.kind = .function) (hroom : A.depth < recursionLimit)
    (hret : ∀ t' h', s.toks ≤ t' → Fr h₀ L h' m → News h₀ L h' news → Q (.int (Builtin.bitOr x y) t') { s with heap := h', toks := t' + 1 }) :
    wpAny (model PySem.Challenge.rw_pe0091_01.row.prog w) A (call (.ref 133) [.int x t, .int y u]) Q E s := by
  revert X; k_fill; intro X
  have hFl : Flo s.toks := ⟨trivial⟩
  refine wpAny_call ?_
  refine' code_def B F X N Tp hA hf hke ?k6 ?k7 hroom ?k9 ?kB ?_ ?c2 ?c3 ?c4 ?c5
  case k6 => k_is
  case k7 => k_is
  case k9 => exact BindsTo.of_eq rfl
  case c5 => decide
  case kB => exact locs rfl
  case c2 => exact rfl
  case c3 => exact rfl
  case c4 => exact rfl
  intro g₁ L₁ h₁ FG₁ F₁ N₁ B₁ X₁ T₁
  try k_fold
  refine noE ?_
  k_steps
  with_reducible rename Fr h₀ _ _ _ => Fz
  with_reducible rename News h₀ _ _ _ => Nz
  exact hret _ _ (by assumption) Fz Nz
set_option maxRecDepth 100000 in
set_option maxHeartbeats 8000000 in
theorem opc_sub (B : Below A₀ base outer h₀) (F : Fr h₀ L s.heap m) (X : (hd.heap_39 w.params).In h₀) (N : News h₀ L s.heap news) (Tp : Top p loose mean mg mb h₀) (hA : A.frames = some (env :: outer)) (hf : env.frame = some L) (hke : env.scope.kind = .function) (hroom : A.depth < recursionLimit)
    (hret : ∀ t' h', s.toks ≤ t' → Fr h₀ L h' m → News h₀ L h' news → Q (.int (x - y) t') { s with heap := h', toks := t' + 1 }) :
    wpAny (model PySem.Challenge.rw_pe0091_01.row.prog w) A (call (.ref 140) [.int x t, .int y u]) Q E s := by
  revert X; k_fill; intro X
  have hFl : Flo s.toks := ⟨trivial⟩
  refine wpAny_call ?_
  refine' code_def B F X N Tp hA hf hke ?k6 ?k7 hroom ?k9 ?kB ?_ ?c2 ?c3 ?c4 ?c5
  case k6 => k_is
  case k7 => k_is
  case k9 => exact BindsTo.of_eq rfl
  case c5 => decide
  case kB => exact locs rfl
  case c2 => exact rfl
  case c3 => exact rfl
  case c4 => exact rfl
  intro g₁ L₁ h₁ FG₁ F₁ N₁ B₁ X₁ T₁
  try k_fold
  refine noE ?_
  k_steps
  with_reducible rename Fr h₀ _ _ _ => Fz
  with_reducible rename News h₀ _ _ _ => Nz
  exact hret _ _ (by assumption) Fz Nz
set_option maxRecDepth 100000 in
set_option maxHeartbeats 8000000 in
theorem opc_xor (B : Below A₀ base outer h₀) (F : Fr h₀ L s.heap m) (X : (hd.heap_39 w.params).In h₀) (N : News h₀ L s.heap news) (Tp : Top p loose mean mg mb h₀) (hA : A.frames = some (env :: outer)) (hf : env.frame = some L) (hke : env.scope.kind = .function) (hroom : A.depth < recursionLimit)
    (hret : ∀ t' h', s.toks ≤ t' → Fr h₀ L h' m → News h₀ L h' news → Q (.int (Builtin.bitXor x y) t') { s with heap := h', toks := t' + 1 }) :
    wpAny (model PySem.Challenge.rw_pe0091_01.row.prog w) A (call (.ref 147) [.int x t, .int y u]) Q E s := by
  revert X; k_fill; intro X
  have hFl : Flo s.toks := ⟨trivial⟩
  refine wpAny_call ?_
  refine' code_def B F X N Tp hA hf hke ?k6 ?k7 hroom ?k9 ?kB ?_ ?c2 ?c3 ?c4 ?c5
  case k6 => k_is
  case k7 => k_is
  case k9 => exact BindsTo.of_eq rfl
  case c5 => decide
  case kB => exact locs rfl
  case c2 => exact rfl
  case c3 => exact rfl
  case c4 => exact rfl
  intro g₁ L₁ h₁ FG₁ F₁ N₁ B₁ X₁ T₁
  try k_fold
  refine noE ?_
  k_steps
  with_reducible rename Fr h₀ _ _ _ => Fz
  with_reducible rename News h₀ _ _ _ => Nz
  exact hret _ _ (by assumption) Fz Nz
set_option maxRecDepth 100000 in
set_option maxHeartbeats 8000000 in
theorem opc_lshift (hx : x.natAbs < 2 ^ 64) (hy : 0 ≤ y) (hy2 : y ≤ 1000000) (B : Below A₀ base outer h₀) (F : Fr h₀ L s.heap m) (X : (hd.heap_39 w.params).In h₀) (N : News h₀ L s.heap news) (Tp : Top p loose mean mg mb h₀) (hA : A.frames = some (env :: outer)) (hf : env.frame = some L) (hke : env.scope.kind = .function) (hroom : A.depth < recursionLimit)
    (hret : ∀ t' h', s.toks ≤ t' → Fr h₀ L h' m → News h₀ L h' news → Q (.int (x * 2 ^ y.toNat) t') { s with heap := h', toks := t' + 1 }) :
    wpAny (model PySem.Challenge.rw_pe0091_01.row.prog w) A (call (.ref 119) [.int x t, .int y u]) Q E s := by
  revert X; k_fill; intro X
  have hFl : Flo s.toks := ⟨trivial⟩
  refine wpAny_call ?_
  refine' code_def B F X N Tp hA hf hke ?k6 ?k7 hroom ?k9 ?kB ?_ ?c2 ?c3 ?c4 ?c5
  case k6 => k_is
  case k7 => k_is
  case k9 => exact BindsTo.of_eq rfl
  case c5 => decide
  case kB => exact locs rfl
  case c2 => exact rfl
  case c3 => exact rfl
  case c4 => exact rfl
  intro g₁ L₁ h₁ FG₁ F₁ N₁ B₁ X₁ T₁
  try k_fold
  refine noE ?_
  k_steps
  with_reducible rename Fr h₀ _ _ _ => Fz
  with_reducible rename News h₀ _ _ _ => Nz
  exact hret _ _ (by assumption) Fz Nz
set_option maxRecDepth 100000 in
set_option maxHeartbeats 8000000 in
theorem opc_floordiv (B : Below A₀ base outer h₀) (F : Fr h₀ L s.heap m) (X : (hd.heap_39 w.params).In h₀) (N : News h₀ L s.heap news) (Tp : Top p loose mean mg mb h₀) (hA : A.frames = some (env :: outer)) (hf : env.frame = some L) (hke : env.scope.kind = .function) (hroom : A.depth < recursionLimit)
    (hret : ∀ t' h', s.toks ≤ t' → Fr h₀ L h' m → News h₀ L h' news → Q (.int (Int.fdiv (1 * 2 ^ Int.toNat 33) 3) t') { s with heap := h', toks := t' + 1 }) :
    wpAny (model PySem.Challenge.rw_pe0091_01.row.prog w) A (call (.ref 105) [.int (1 * 2 ^ Int.toNat 33) t, .int 3 u]) Q E s := by
  revert X; k_fill; intro X
  have hFl : Flo s.toks := ⟨trivial⟩
  refine wpAny_call ?_
  refine' code_def B F X N Tp hA hf hke ?k6 ?k7 hroom ?k9 ?kB ?_ ?c2 ?c3 ?c4 ?c5
  case k6 => k_is
  case k7 => k_is
  case k9 => exact BindsTo.of_eq rfl
  case c5 => decide
  case kB => exact locs rfl
  case c2 => exact rfl
  case c3 => exact rfl
  case c4 => exact rfl
  intro g₁ L₁ h₁ FG₁ F₁ N₁ B₁ X₁ T₁
  try k_fold
  refine noE ?_
  k_steps
  with_reducible rename Fr h₀ _ _ _ => Fz
  with_reducible rename News h₀ _ _ _ => Nz
  exact hret _ _ (by assumption) Fz Nz
set_option maxRecDepth 100000 in
set_option maxHeartbeats 8000000 in
theorem opc_inv (B : Below A₀ base outer h₀) (F : Fr h₀ L s.heap m) (X : (hd.heap_39 w.params).In h₀) (N : News h₀ L s.heap news) (Tp : Top p loose mean mg mb h₀) (hA : A.frames = some (env :: outer)) (hf : env.frame = some L) (hke : env.scope.kind = .function) (hroom : A.depth < recursionLimit)
    (hret : ∀ t' h', s.toks ≤ t' → Fr h₀ L h' m → News h₀ L h' news → Q (.int (Builtin.bitNot x) t') { s with heap := h', toks := t' + 1 }) :
    wpAny (model PySem.Challenge.rw_pe0091_01.row.prog w) A (call (.ref 112) [.int x t]) Q E s := by
  revert X; k_fill; intro X
  have hFl : Flo s.toks := ⟨trivial⟩
  refine wpAny_call ?_
  refine' code_def B F X N Tp hA hf hke ?k6 ?k7 hroom ?k9 ?kB ?_ ?c2 ?c3 ?c4 ?c5
  case k6 => k_is
  case k7 => k_is
  case k9 => exact BindsTo.of_eq rfl
  case c5 => decide
  case kB => exact locs rfl
  case c2 => exact rfl
  case c3 => exact rfl
  case c4 => exact rfl
  intro g₁ L₁ h₁ FG₁ F₁ N₁ B₁ X₁ T₁
  try k_fold
  refine noE ?_
  k_steps
  with_reducible rename Fr h₀ _ _ _ => Fz
  with_reducible rename News h₀ _ _ _ => Nz
  exact hret _ _ (by assumption) Fz Nz
set_option maxRecDepth 100000 in
set_option maxHeartbeats 8000000 in
theorem opc_neg (B : Below A₀ base outer h₀) (F : Fr h₀ L s.heap m) (X : (hd.heap_39 w.params).In h₀) (N : News h₀ L s.heap news) (Tp : Top p loose mean mg mb h₀) (hA : A.frames = some (env :: outer)) (hf : env.frame = some L) (hke : env.scope.kind = .function) (hroom : A.depth < recursionLimit)
    (hret : ∀ t' h', s.toks ≤ t' → Fr h₀ L h' m → News h₀ L h' news → Q (.int (-x) t') { s with heap := h', toks := t' + 1 }) :
    wpAny (model PySem.Challenge.rw_pe0091_01.row.prog w) A (call (.ref 126) [.int x t]) Q E s := by
  revert X; k_fill; intro X
  have hFl : Flo s.toks := ⟨trivial⟩
  refine wpAny_call ?_
  refine' code_def B F X N Tp hA hf hke ?k6 ?k7 hroom ?k9 ?kB ?_ ?c2 ?c3 ?c4 ?c5
  case k6 => k_is
  case k7 => k_is
  case k9 => exact BindsTo.of_eq rfl
  case c5 => decide
  case kB => exact locs rfl
  case c2 => exact rfl
  case c3 => exact rfl
  case c4 => exact rfl
  intro g₁ L₁ h₁ FG₁ F₁ N₁ B₁ X₁ T₁
  try k_fold
  refine noE ?_
  k_steps
  with_reducible rename Fr h₀ _ _ _ => Fz
  with_reducible rename News h₀ _ _ _ => Nz
  exact hret _ _ (by assumption) Fz Nz
set_option maxRecDepth 100000 in
set_option maxHeartbeats 8000000 in
theorem opc_eq (B : Below A₀ base outer h₀) (F : Fr h₀ L s.heap m) (X : (hd.heap_39 w.params).In h₀) (N : News h₀ L s.heap news) (Tp : Top p loose mean mg mb h₀) (hA : A.frames = some (env :: outer)) (hf : env.frame = some L) (hke : env.scope.kind = .function) (hroom : A.depth < recursionLimit)
    (hret : ∀ t' h', s.toks ≤ t' → Fr h₀ L h' m → News h₀ L h' news → Q (.bool (x == y)) { s with heap := h', toks := t' }) :
    wpAny (model PySem.Challenge.rw_pe0091_01.row.prog w) A (call (.ref 70) [.int x t, .int y u]) Q E s := by
  revert X; k_fill; intro X
  have hFl : Flo s.toks := ⟨trivial⟩
  refine wpAny_call ?_
  refine' code_def B F X N Tp hA hf hke ?k6 ?k7 hroom ?k9 ?kB ?_ ?c2 ?c3 ?c4 ?c5
  case k6 => k_is
  case k7 => k_is
  case k9 => exact BindsTo.of_eq rfl
  case c5 => decide
  case kB => exact locs rfl
  case c2 => exact rfl
  case c3 => exact rfl
  case c4 => exact rfl
  intro g₁ L₁ h₁ FG₁ F₁ N₁ B₁ X₁ T₁
  try k_fold
  refine noE ?_
  k_steps
  with_reducible rename Fr h₀ _ _ _ => Fz
  with_reducible rename News h₀ _ _ _ => Nz
  exact hret _ _ (by assumption) Fz Nz
set_option maxRecDepth 100000 in
set_option maxHeartbeats 8000000 in
theorem opc_ne (B : Below A₀ base outer h₀) (F : Fr h₀ L s.heap m) (X : (hd.heap_39 w.params).In h₀) (N : News h₀ L s.heap news) (Tp : Top p loose mean mg mb h₀) (hA : A.frames = some (env :: outer)) (hf : env.frame = some L) (hke : env.scope.kind = .function) (hroom : A.depth < recursionLimit)
    (hret : ∀ t' h', s.toks ≤ t' → Fr h₀ L h' m → News h₀ L h' news → Q (.bool (x != y)) { s with heap := h', toks := t' }) :
    wpAny (model PySem.Challenge.rw_pe0091_01.row.prog w) A (call (.ref 77) [.int x t, .int y u]) Q E s := by
  revert X; k_fill; intro X
  have hFl : Flo s.toks := ⟨trivial⟩
  refine wpAny_call ?_
  refine' code_def B F X N Tp hA hf hke ?k6 ?k7 hroom ?k9 ?kB ?_ ?c2 ?c3 ?c4 ?c5
  case k6 => k_is
  case k7 => k_is
  case k9 => exact BindsTo.of_eq rfl
  case c5 => decide
  case kB => exact locs rfl
  case c2 => exact rfl
  case c3 => exact rfl
  case c4 => exact rfl
  intro g₁ L₁ h₁ FG₁ F₁ N₁ B₁ X₁ T₁
  try k_fold
  refine noE ?_
  k_steps
  with_reducible rename Fr h₀ _ _ _ => Fz
  with_reducible rename News h₀ _ _ _ => Nz
  exact hret _ _ (by assumption) Fz Nz
end
/-- what operator's defs of ints give -/
inductive Op2 : Str → Nat → Int → Int → Int → Prop where
  | and_ {x y : Int} : Op2 (Str.ofString "and_") 98 x y (Builtin.bitAnd x y)
  | add {x y : Int} : Op2 (Str.ofString "add") 91 x y (x + y)
  | or_ {x y : Int} : Op2 (Str.ofString "or_") 133 x y (Builtin.bitOr x y)
  | sub {x y : Int} : Op2 (Str.ofString "sub") 140 x y (x - y)
  | xor {x y : Int} : Op2 (Str.ofString "xor") 147 x y (Builtin.bitXor x y)
  | lshift {x y : Int} (hx : x.natAbs < 2 ^ 64) (hy : 0 ≤ y) (hy2 : y ≤ 1000000) : Op2 (Str.ofString "lshift") 119 x y (x * 2 ^ y.toNat)
  | floordiv : Op2 (Str.ofString "floordiv") 105 (1 * 2 ^ Int.toNat 33) 3 (Int.fdiv (1 * 2 ^ Int.toNat 33) 3)
inductive Op1 : Str → Nat → Int → Int → Prop where
  | inv {x : Int} : Op1 (Str.ofString "inv") 112 x (Builtin.bitNot x)
  | neg {x : Int} : Op1 (Str.ofString "neg") 126 x (-x)
inductive Cm2 : Str → Nat → Int → Int → Bool → Prop where
  | eq {x y : Int} : Cm2 (Str.ofString "eq") 70 x y (x == y)
  | ne {x y : Int} : Cm2 (Str.ofString "ne") 77 x y (x != y)
/-- an expression of local ints, written ints and operator's defs, and what it comes to; the mark tells whether the answer is new -/
inductive EvI (env : Env) (m : Str → Option Value) : PySem.Expr → Int → Bool → Prop where
  | name {x : Str} {pos : Pos} {v : Int} {t : Tok} (hv : m x = some (.int v t)) (hk : env.kindOf x = some .local) (hd : (x == Str.ofString "__debug__") = false) : EvI env m (.Name x pos) v false
  | const {k : Int} {n : Nat} {pos : Pos} : EvI env m (.Constant (.int k) n pos) k false
  | op2 {x : Str} {f : Nat} {e1 e2 : PySem.Expr} {p1 p2 : Pos} {a b v : Int} {c d : Bool} (h1 : EvI env m e1 a c) (h2 : EvI env m e2 b d) (O : Op2 x f a b v) (hk : env.kindOf x = some .globalImplicit) : EvI env m (.Call (.Name x p1) [e1, e2] [] p2) v true
  | op1 {x : Str} {f : Nat} {e1 : PySem.Expr} {p1 p2 : Pos} {a v : Int} {c : Bool} (h1 : EvI env m e1 a c) (O : Op1 x f a v) (hk : env.kindOf x = some .globalImplicit) : EvI env m (.Call (.Name x p1) [e1] [] p2) v true
section
variable {w : World} {p : Program} {loose : List Str} {mean : ExcName → Option Value} {mg mb : Str → Option Value} {A₀ : Around} {outer : List Env} {base h₀ : Heap} {L : Addr} {m : Str → Option Value} {news : List (Addr × Obj)} {A : Around} {cn : Str} {cs : Scope} {a : Addr} {ccd : Value} {cl : List (Str × Addr)}
theorem op2_call {x : Str} {f : Nat} {i j : Int} {v : Int} {t u : Tok} (O : Op2 x f i j v) (B : Below A₀ base outer h₀) (X : (hd.heap_39 w.params).In h₀) (Tp : Top p loose mean mg mb h₀) (hA : A.frames = some ((envX cn cs L a ccd cl) :: outer)) (hcs : cs.kind = .function) (hroom : A.depth < recursionLimit) {s : Shared} {Q E : Value → Shared → Prop} (F : Fr h₀ L s.heap m) (N : News h₀ L s.heap news)
    (hret : ∀ t' h', s.toks ≤ t' → Fr h₀ L h' m → News h₀ L h' news → Q (.int v t') { s with heap := h', toks := t' + 1 }) :
    wpAny (model PySem.Challenge.rw_pe0091_01.row.prog w) A (call (.ref f) [.int i t, .int j u]) Q E s := by
  cases O
  case and_ => exact opc_and_ B F X N Tp hA rfl hcs hroom hret
  case add => exact opc_add B F X N Tp hA rfl hcs hroom hret
  case or_ => exact opc_or_ B F X N Tp hA rfl hcs hroom hret
  case sub => exact opc_sub B F X N Tp hA rfl hcs hroom hret
  case xor => exact opc_xor B F X N Tp hA rfl hcs hroom hret
  case lshift hx hy hy2 => exact opc_lshift hx hy hy2 B F X N Tp hA rfl hcs hroom hret
  case floordiv => exact opc_floordiv B F X N Tp hA rfl hcs hroom hret
theorem op2_call_at {w : World} {x : Str} {f : Nat} {i j : Int} {v : Int} (O : Op2 x f i j v) : nsIn (hd.heap_39 w.params) mainGlobals x = some (some (.ref f)) ∧ keepIn (hd.heap_39 w.params) (.ref f) = true ∧ (x == Str.ofString "__debug__") = false := by
  cases O
  all_goals exact ⟨by k_is, by k_is, by decide⟩
theorem op1_call {x : Str} {f : Nat} {i j : Int} {v : Int} {t u : Tok} (O : Op1 x f i v) (B : Below A₀ base outer h₀) (X : (hd.heap_39 w.params).In h₀) (Tp : Top p loose mean mg mb h₀) (hA : A.frames = some ((envX cn cs L a ccd cl) :: outer)) (hcs : cs.kind = .function) (hroom : A.depth < recursionLimit) {s : Shared} {Q E : Value → Shared → Prop} (F : Fr h₀ L s.heap m) (N : News h₀ L s.heap news)
    (hret : ∀ t' h', s.toks ≤ t' → Fr h₀ L h' m → News h₀ L h' news → Q (.int v t') { s with heap := h', toks := t' + 1 }) :
    wpAny (model PySem.Challenge.rw_pe0091_01.row.prog w) A (call (.ref f) [.int i t]) Q E s := by
  cases O
  case inv => exact opc_inv B F X N Tp hA rfl hcs hroom hret
  case neg => exact opc_neg B F X N Tp hA rfl hcs hroom hret
theorem op1_call_at {w : World} {x : Str} {f : Nat} {i j : Int} {v : Int} (O : Op1 x f i v) : nsIn (hd.heap_39 w.params) mainGlobals x = some (some (.ref f)) ∧ keepIn (hd.heap_39 w.params) (.ref f) = true ∧ (x == Str.ofString "__debug__") = false := by
  cases O
  all_goals exact ⟨by k_is, by k_is, by decide⟩
theorem cm2_call {x : Str} {f : Nat} {i j : Int} {v : Bool} {t u : Tok} (O : Cm2 x f i j v) (B : Below A₀ base outer h₀) (X : (hd.heap_39 w.params).In h₀) (Tp : Top p loose mean mg mb h₀) (hA : A.frames = some ((envX cn cs L a ccd cl) :: outer)) (hcs : cs.kind = .function) (hroom : A.depth < recursionLimit) {s : Shared} {Q E : Value → Shared → Prop} (F : Fr h₀ L s.heap m) (N : News h₀ L s.heap news)
    (hret : ∀ t' h', s.toks ≤ t' → Fr h₀ L h' m → News h₀ L h' news → Q (.bool v) { s with heap := h', toks := t' }) :
    wpAny (model PySem.Challenge.rw_pe0091_01.row.prog w) A (call (.ref f) [.int i t, .int j u]) Q E s := by
  cases O
  case eq => exact opc_eq B F X N Tp hA rfl hcs hroom hret
  case ne => exact opc_ne B F X N Tp hA rfl hcs hroom hret
theorem cm2_call_at {w : World} {x : Str} {f : Nat} {i j : Int} {v : Bool} (O : Cm2 x f i j v) : nsIn (hd.heap_39 w.params) mainGlobals x = some (some (.ref f)) ∧ keepIn (hd.heap_39 w.params) (.ref f) = true ∧ (x == Str.ofString "__debug__") = false := by
  cases O
  all_goals exact ⟨by k_is, by k_is, by decide⟩
theorem EvI.plain {e : PySem.Expr} {v : Int} {b : Bool} {env : Env} (D : EvI env m e v b) (rest : List PySem.Expr) : starEach (e :: rest) env = (false, eval e env) :: starEach rest env := by cases D <;> rfl
theorem EvI.last {e : PySem.Expr} {v : Int} {b : Bool} {env : Env} (D : EvI env m e v b) (pos : Pos) : ((backTo pos (starEach [e] env)).any fun x => x.fst) = false := by cases D <;> rfl
theorem ev_here {e : PySem.Expr} {v : Int} {b : Bool} (D : EvI (envX cn cs L a ccd cl) m e v b) (B : Below A₀ base outer h₀) (X : (hd.heap_39 w.params).In h₀) (Tp : Top p loose mean mg mb h₀) (hA : A.frames = some ((envX cn cs L a ccd cl) :: outer)) (hcs : cs.kind = .function) (hroom : A.depth < recursionLimit) : ∀ {s : Shared} {Q E : Value → Shared → Prop} (F : Fr h₀ L s.heap m) (N : News h₀ L s.heap news)
    (_ : ∀ t tk' h', s.toks ≤ tk' → (b = true → s.toks ≤ t) → Fr h₀ L h' m → News h₀ L h' news → Q (.int v t) { s with heap := h', toks := tk' }),
    wpAny (model PySem.Challenge.rw_pe0091_01.row.prog w) A (eval e (envX cn cs L a ccd cl)) Q E s := by
  induction D with
  | name hv hk hd => exact fun F N hret => nameX_L F hv (hret _ _ _ (Nat.le_refl _) (fun q => nomatch q) F N) hcs hk hd
  | const => exact fun F N hret => wpAny_Constant_int (hret _ _ _ (Nat.le_succ _) (fun q => nomatch q) F N)
  | op2 h1 h2 O hk ih1 ih2 =>
    intro s Q E F N hret
    obtain ⟨e1, e2, e3⟩ := op2_call_at (w := w) O
    refine Call_ (nameX_K F X (topRead_of Tp) e1 (callWith_K X e2 (args_cons (ih1 F N fun t1 k1 g1 l1 _ F1 N1 => args_cons (ih2 F1 N1 fun t2 k2 g2 l2 _ F2 N2 => args_nil ⟨X.keeps F2.keep, ?_⟩) (h2.plain _)) (h1.plain _)) (h1.plain _) (h2.last _)) hcs hk e3)
    exact op2_call O B X Tp hA hcs hroom F2 N2 fun t' h' l' F' N' => hret _ _ _ (Nat.le_succ_of_le (Nat.le_trans l1 (Nat.le_trans l2 l'))) (fun _ => Nat.le_trans l1 (Nat.le_trans l2 l')) F' N'
  | op1 h1 O hk ih1 =>
    intro s Q E F N hret
    obtain ⟨e1, e2, e3⟩ := op1_call_at (w := w) (j := 0) O
    refine Call_ (nameX_K F X (topRead_of Tp) e1 (callWith_K X e2 (args_cons (ih1 F N fun t1 k1 g1 l1 _ F1 N1 => args_nil ⟨X.keeps F1.keep, ?_⟩) (h1.plain _)) (h1.plain _) rfl) hcs hk e3)
    exact op1_call (j := 0) (u := 0) O B X Tp hA hcs hroom F1 N1 fun t' h' l' F' N' => hret _ _ _ (Nat.le_succ_of_le (Nat.le_trans l1 l')) (fun _ => Nat.le_trans l1 l') F' N'
/-- the walk's line for a call of one of operator's defs -/
theorem ev_call {e : PySem.Expr} {v : Int} (D : EvI (envX cn cs L a ccd cl) m e v true) (B : Below A₀ base outer h₀) (X : (hd.heap_39 w.params).In h₀) (Tp : Top p loose mean mg mb h₀) (hA : A.frames = some ((envX cn cs L a ccd cl) :: outer)) (hcs : cs.kind = .function) (hroom : A.depth < recursionLimit) {Q E : Value → Shared → Prop} {hp : Heap} {g : Array GenState} {d : Drawn} {n : Nat} {os : OsState} (F : Fr h₀ L hp m) (N : News h₀ L hp news)
    (hret : ∀ t tk' h', n ≤ tk' → n ≤ t → Fr h₀ L h' m → News h₀ L h' news → Q (.int v t) ⟨h', g, d, tk', os⟩) :
    wpAny (model PySem.Challenge.rw_pe0091_01.row.prog w) A (eval e (envX cn cs L a ccd cl)) Q E ⟨hp, g, d, n, os⟩ := ev_here D B X Tp hA hcs hroom (s := ⟨hp, g, d, n, os⟩) F N fun t k h l q => hret t k h l (q rfl)
theorem cmp_call {x : Str} {f : Nat} {e1 e2 : PySem.Expr} {p1 p2 : Pos} {i j : Int} {v c c' : Bool} (h1 : EvI (envX cn cs L a ccd cl) m e1 i c) (h2 : EvI (envX cn cs L a ccd cl) m e2 j c') (O : Cm2 x f i j v) (hk : (envX cn cs L a ccd cl).kindOf x = some .globalImplicit)
    (B : Below A₀ base outer h₀) (X : (hd.heap_39 w.params).In h₀) (Tp : Top p loose mean mg mb h₀) (hA : A.frames = some ((envX cn cs L a ccd cl) :: outer)) (hcs : cs.kind = .function) (hroom : A.depth < recursionLimit) {Q E : Value → Shared → Prop} {hp : Heap} {g : Array GenState} {d : Drawn} {n : Nat} {os : OsState} (F : Fr h₀ L hp m) (N : News h₀ L hp news)
    (hret : ∀ tk' h', n ≤ tk' → Fr h₀ L h' m → News h₀ L h' news → Q (.bool v) ⟨h', g, d, tk', os⟩) :
    wpAny (model PySem.Challenge.rw_pe0091_01.row.prog w) A (eval (.Call (.Name x p1) [e1, e2] [] p2) (envX cn cs L a ccd cl)) Q E ⟨hp, g, d, n, os⟩ := by
  obtain ⟨q1, q2, q3⟩ := cm2_call_at (w := w) O
  refine Call_ (nameX_K F X (topRead_of Tp) q1 (callWith_K X q2 (args_cons (ev_here h1 B X Tp hA hcs hroom F N fun t1 k1 g1 l1 _ F1 N1 => args_cons (ev_here h2 B X Tp hA hcs hroom F1 N1 fun t2 k2 g2 l2 _ F2 N2 => args_nil ⟨X.keeps F2.keep, ?_⟩) (h2.plain _)) (h1.plain _)) (h1.plain _) (h2.last _)) hcs hk q3)
  exact cm2_call O B X Tp hA hcs hroom F2 N2 fun t' h' l' F' N' => hret _ _ (Nat.le_trans l1 (Nat.le_trans l2 l')) F' N'
/-- the line for a call of one of them whose arguments are walked by hand -/
theorem op_go {x : Str} {f : Nat} {i j v : Int} {t u : Tok} (O : Op2 x f i j v) (B : Below A₀ base outer h₀) (X : (hd.heap_39 w.params).In h₀) (Tp : Top p loose mean mg mb h₀) (hA : A.frames = some ((envX cn cs L a ccd cl) :: outer)) (hcs : cs.kind = .function) (hroom : A.depth < recursionLimit) {Q E : Value → Shared → Prop} {hp : Heap} {g : Array GenState} {d : Drawn} {n : Nat} {os : OsState} (F : Fr h₀ L hp m) (N : News h₀ L hp news)
    (hret : ∀ t' h', n ≤ t' → Fr h₀ L h' m → News h₀ L h' news → Q (.int v t') ⟨h', g, d, t' + 1, os⟩) :
    wpAny (model PySem.Challenge.rw_pe0091_01.row.prog w) A (call (.ref f) [.int i t, .int j u]) Q E ⟨hp, g, d, n, os⟩ := op2_call (s := ⟨hp, g, d, n, os⟩) O B X Tp hA hcs hroom F N hret
end
end Mine
end
section
open PySem PySem.W PyProof.Rows
namespace Mine
/-- the number whose figure at place i tells whether sign i is asked for -/
def maskN (b : Nat → Bool) : List Nat → Nat
  | [] => 0
  | c :: r => (if b c then 1 else 0) + 2 * maskN b r
def hasS (sg : Str) (c : Nat) : Bool := !(Builtin.Str.occurrences sg ⟨#[c]⟩ 0 sg.length 1).isEmpty
def maskZ (sg t : Str) : Int := (maskN (hasS sg) t.cps.toList : Nat)
theorem bitOr_sum (x y : Int) : Builtin.bitOr x y = x + y - Builtin.bitAnd x y := by
  have h := bitXor_and x y
  unfold Builtin.bitXor at h
  omega
theorem maskN_lt (b : Nat → Bool) : ∀ l : List Nat, maskN b l < 2 ^ l.length
  | [] => by simp [maskN]
  | c :: r => by
    have := maskN_lt b r
    simp only [maskN, List.length_cons, Nat.pow_succ]
    split <;> omega
theorem or_bit (a : Nat) (b : Bool) : Builtin.bitOr ((a : Int) * 2 ^ Int.toNat 1) (if b = true then 1 else 0) = (((if b then 1 else 0) + 2 * a : Nat) : Int) := by
  rw [bitOr_sum]
  cases b with
  | false =>
    simp only [Bool.false_eq_true, if_false]
    have : Builtin.bitAnd ((a : Int) * 2 ^ Int.toNat 1) 0 = 0 := by
      have := bitAnd_range ((a : Int) * 2 ^ Int.toNat 1) (y := 0) (by omega)
      omega
    rw [this]
    simp
    omega
  | true =>
    simp only [if_true]
    rw [bitAnd_m1]
    have : ((a : Int) * 2 ^ Int.toNat 1) = 2 * a := by simp; omega
    rw [this]
    omega
theorem rev_toList (t : Str) (u : Tok) : (Txt.sliceBy t none none (-1, u)).cps.toList = t.cps.toList.reverse := by
  rw [step_rev_list]
  apply List.ext_getElem
  · simp [Str.length]
  · intro i h1 h2
    simp only [List.length_map, List.length_range, Str.length] at h1
    simp only [List.getElem_map, List.getElem_range, Str.length, List.getElem_reverse, Array.length_toList, Array.getElem_toList, Array.getD]
    rw [dif_pos (by omega)]
    rfl
/-- the mask after i of the signs from behind -/
theorem mask_step {b : Nat → Bool} {l : List Nat} {i c : Nat} (h : l.reverse[i]? = some c) : maskN b ((l.reverse.take (i + 1)).reverse) = (if b c then 1 else 0) + 2 * maskN b ((l.reverse.take i).reverse) := by
  rw [List.take_add_one, h]
  simp [maskN]
end Mine
end
section
open PySem PySem.W PyProof.Rows
set_option maxRecDepth 100000
namespace Mine
section
variable {prog : Program} {w : World} {A : Around} {E : Value → Shared → Prop} {s : Shared} {a : Int} {t : Tok} {b : Bool} {Q : Value → Shared → Prop}
theorem refl_or : reflectedDiffers (.type "int") (.type "bool") "or" = pure true := by
  unfold reflectedDiffers
  show (typeLookup (.type "bool") (dunderR "or") >>= fun rb => typeLookup (.type "int") (dunderR "or") >>= fun ra => pure (rb.isSome && rb != ra)) = pure true
  rw [typeLookup_type, typeLookup_type, builtinLookup_eq_fast]; kernel_rfl
theorem call_int_or_bool {R : Result → Shared → Prop} (h : R (.ok (.ret (.int (Builtin.bitOr a (if b then 1 else 0)) s.toks))) { s with toks := s.toks + 1 }) :
    codeAny (model prog w) A (.builtin "int.__or__" ⟨[.int a t, .bool b], []⟩) R s := by
  refine codeAny_builtin entry_int_or ?_
  obtain ⟨hp, g, d, tk, os⟩ := s
  cases b <;> (wp_walk; exact h)
theorem ror_bool_int (h : Q (.int (Builtin.bitOr a (if b then 1 else 0)) s.toks) { s with toks := s.toks + 1 }) :
    wpAny (model prog w) A (call (.builtin "bool.__ror__") [.bool b, .int a t]) (fun v s' => (∃ i u, v = .int i u) ∧ Q v s') E s := by
  refine wpAny_call (codeAny_call_builtin F.slot_bool_ror.plain F.entry_bool_ror (F.slot_bool_ror.check _ _ _ _ _ _ _ _ rfl (F.args_bool_ror_2 _ _) ?_))
  obtain ⟨hp, g, d, tk, os⟩ := s
  wp_walk
  exact ⟨plainId_quiet (by decide +kernel) _, call_int_or_bool ⟨⟨_, _, rfl⟩, h⟩⟩
theorem ifF {α : Type} {M : Model} {A : Around} {Q : α → Shared → Prop} {E : Value → Shared → Prop} {s : Shared} {c : Prop} [Decidable c] {t e : Sem α} (hc : ¬ c) (h : wpAny M A e Q E s) : wpAny M A (if c then t else e) Q E s := by rw [if_neg hc]; exact h
theorem ifT {α : Type} {M : Model} {A : Around} {Q : α → Shared → Prop} {E : Value → Shared → Prop} {s : Shared} {c : Prop} [Decidable c] {t e : Sem α} (hc : c) (h : wpAny M A t Q E s) : wpAny M A (if c then t else e) Q E s := by rw [if_pos hc]; exact h
set_option maxHeartbeats 2000000 in
theorem or_int_bool (h : Q (.int (Builtin.bitOr a (if b then 1 else 0)) s.toks) { s with toks := s.toks + 1 }) : wpAny (model prog w) A (binaryOp .BitOr (.int a t) (.bool b)) Q E s := by
  have hne : ¬ (Value.type "int" == Value.type "bool") = true := by decide
  refine wpAny_holding (wpAny_bind ?_)
  delta binaryOp1
  dsimp only
  refine wpAny_bind (wpAny_typeOf (typeIs_int s a t) (wpAny_bind (wpAny_typeOf (typeIs_bool' s b) (wpAny_bind (wpAny_of_eq fills_int_or ?_)))))
  refine ifF hne (wpAny_bind (wpAny_of_eq F.fills_bool_or ?_))
  refine ifT rfl ?_
  refine wpAny_bind (wpAny_of_eq isSubtype_bool_int ?_)
  refine ifT rfl ?_
  refine wpAny_bind (wpAny_of_eq refl_or ?_)
  refine ifT rfl ?_
  refine wpAny_bind (wpAny_rule (wpAny_bind (wpAny_bind (wpAny_callSpecial?_slot (typeIs_bool' s b) F.slot_bool_ror (wpAny_mono (ror_bool_int (Q := Q) h) (fun v s₁ h₁ => ?_) fun _ _ x => x)))))
  obtain ⟨⟨i, u, rfl⟩, hq⟩ := h₁
  dsimp only; refine wpAny_pure ?_; dsimp only; refine wpAny_pure ?_; dsimp only; exact wpAny_pure hq
end
end Mine
end
section
open Mine PyProof.Rows.LCg
local macro_rules | `(tactic| k_room) => `(tactic| first | exact room1 (by with_reducible assumption) | ktr_room)
local macro_rules | `(tactic| k_all) => `(tactic| assumption)
local macro_rules | `(tactic| k_ne) => `(tactic| (refine neN ?_; (try dsimp only); first | (refine Nat.ne_of_lt ?_; with_reducible assumption) | (refine Nat.ne_of_gt ?_; with_reducible assumption) | skip; (repeat (with_reducible rename _ ∧ _ => hh; first | (refine LtIn.ne ?_ hh; (repeat (with_reducible constructor)); done) | clear hh)); done))
local macro_rules | `(tactic| walk_at "exec For") => `(tactic| (k_here; k_dflt (refine' For_here ?fl ?hn ?_; (case fl => assumption); (case hn => (dsimp only; omega)))))
local macro_rules | `(tactic| walk_at "execs cons") => `(tactic| (k_here; refine' gen_toks ?fl ?hn ?_; (case fl => assumption); (case hn => first | ((repeat (first | with_reducible assumption | refine Nat.le_trans ?_ (Nat.le_add_right _ _) | refine le_via (by with_reducible assumption) ?_)); done) | omega | (dsimp only; omega)); intro tk' htk'))
local macro_rules | `(tactic| walk_at "execs nil") => `(tactic| (k_here; refine' gen_toks ?fl ?hn ?_; (case fl => assumption); (case hn => first | ((repeat (first | with_reducible assumption | refine Nat.le_trans ?_ (Nat.le_add_right _ _) | refine le_via (by with_reducible assumption) ?_)); done) | omega | (dsimp only; omega)); intro tk' htk'))
local macro_rules | `(tactic| walk_at "binaryOp BitOr int bool") => `(tactic| (k_here; k_dflt (refine or_int_bool ?_)))
section
open PySem PySem.W PyProof.Rows
namespace Mine
theorem mask_inv {sg t : Str} {u : Tok} {i c : Nat} {a : Int} (hl : t.length ≤ 27) (hc : (Txt.sliceBy t none none (-1, u)).cps[i]? = some c)
    (hJ : a = (maskN (hasS sg) ((t.cps.toList.reverse.take i).reverse) : Nat) ∧ 0 ≤ a ∧ a < 2 ^ 40) :
    (Builtin.bitOr (a * 2 ^ Int.toNat 1) (if (!(Builtin.Str.occurrences sg ⟨#[c]⟩ 0 sg.length 1).isEmpty) = true then 1 else 0)) = (maskN (hasS sg) ((t.cps.toList.reverse.take (i + 1)).reverse) : Nat) ∧
    0 ≤ (Builtin.bitOr (a * 2 ^ Int.toNat 1) (if (!(Builtin.Str.occurrences sg ⟨#[c]⟩ 0 sg.length 1).isEmpty) = true then 1 else 0)) ∧
    (Builtin.bitOr (a * 2 ^ Int.toNat 1) (if (!(Builtin.Str.occurrences sg ⟨#[c]⟩ 0 sg.length 1).isEmpty) = true then 1 else 0)) < 2 ^ 40 := by
  obtain ⟨rfl, _, _⟩ := hJ
  have h1 : t.cps.toList.reverse[i]? = some c := by
    rw [← rev_toList t u, Array.getElem?_toList]; exact hc
  have e := or_bit (maskN (hasS sg) ((t.cps.toList.reverse.take i).reverse)) (hasS sg c)
  rw [← mask_step h1] at e
  have e' : (Builtin.bitOr (((maskN (hasS sg) ((t.cps.toList.reverse.take i).reverse) : Nat) : Int) * 2 ^ Int.toNat 1) (if (!(Builtin.Str.occurrences sg ⟨#[c]⟩ 0 sg.length 1).isEmpty) = true then 1 else 0)) = (maskN (hasS sg) ((t.cps.toList.reverse.take (i + 1)).reverse) : Nat) := e
  have h2 := maskN_lt (hasS sg) ((t.cps.toList.reverse.take (i + 1)).reverse)
  have h3 : ((t.cps.toList.reverse.take (i + 1)).reverse).length ≤ 27 := by
    simp only [List.length_reverse, List.length_take, Array.length_toList]
    unfold Str.length at hl
    omega
  have h4 := Nat.pow_le_pow_right (n := 2) (by omega) h3
  rw [e']
  refine ⟨rfl, by omega, ?_⟩
  have : (2 : Int) ^ 40 = ((2 ^ 40 : Nat) : Int) := by decide
  rw [this]
  have : (2 : Nat) ^ 27 < 2 ^ 40 := by decide
  omega
section
set_option maxRecDepth 100000 in
set_option maxHeartbeats 8000000 in
theorem mask_cb (w : World) (p : Program) (loose : List Str) (mean : ExcName → Option Value) (mg mb : Str → Option Value) (news : List (Addr × Obj)) (t sg : Str) (tk tk2 : Tok) : Claim PySem.Challenge.rw_pe0091_01.row.prog w (hd.heap_39 w.params) p loose mean mg mb 182 news (fun _ => t.length ≤ 27) [.str t tk, .str sg tk2] (fun t' => .int (maskZ sg t) t') := by
  k_fill
  dsimp only [Claim, Ret]
  intro dp un gd cn cs a ccd cl outer A₀ base h₀ L m s Q E B F X N Tp hcs hpre hdp hun hret
  refine wpAny_with_toks (n := _) (Nat.le_refl _) ?_
  refine wpAny_call ?_
  refine' code_def ?k1 ?k2 ?k3 ?k4 ?k5 ?kA ?kF ?kK ?k6 ?k7 ?k8 ?k9 ?kB ?_ ?c2 ?c3 ?c4 ?c5
  case kA => exact rfl
  case kF => exact rfl
  case kK => assumption
  case k1 => k_asm
  case k2 => k_asm
  case k3 => k_asm
  case k4 => k_asm
  case k5 => k_asm
  case k6 => k_is
  case k7 => k_is
  case k8 => ktr_room
  case k9 => exact BindsTo.of_eq rfl
  case c5 => decide
  case kB => exact locs rfl
  case c2 => exact rfl
  case c3 => exact rfl
  case c4 => exact rfl
  intro g₁ L₁ h₁ FG₁ F₁ N₁ B₁ X₁ T₁
  have hFl : Floor 1 := ⟨Nat.one_pos⟩
  refine gen_toks hFl (Nat.le_trans (Nat.le_of_ble_eq_true rfl : 1 ≤ 2) (Nat.le_add_left 2 _)) ?_
  intro tk₁ htk₁
  replace F₁ : Fr g₁ L₁ h₁ (fun y => List.lookup y [(Str.ofString "signs", Value.str sg tk2), (Str.ofString "text", Value.str t tk)]) := F₁
  try k_fold
  refine noE ?_
  k_steps
  refine' str_acc (Str.ofString "mask") (fun i a => a = (maskN (hasS sg) ((t.cps.toList.reverse.take i).reverse) : Nat) ∧ 0 ≤ a ∧ a < 2 ^ 40) ?fl ?hx ?hp ?hh ?hT ?F ?N ?hy ?hj ?turn ?done
  case fl => assumption
  case hx => exact rfl
  case hp => exact rfl
  case hh => exact rfl
  case hT => first | assumption | (dsimp only; omega)
  case F => k_asm
  case N => k_asm
  case hy => with_unfolding_all rfl
  case hj => simp [maskN]
  case turn =>
    intro i' c' u' a' ta' h' tk' I' oI' hu' htk' hc' hJ' F' N'
    have hb1 := hJ'.2.1
    have hb2 := hJ'.2.2
    k_steps
    refine turn_acc (by k_asm) (by k_asm) (by with_unfolding_all rfl) ?_ (mask_inv hpre hc' hJ')
    intro z h1 h2
    simp only [if_neg h1, if_neg h2]
  case done =>
    intro u' a' ta' h' tk' htk' hJ' F' N'
    k_steps
    have e : a' = maskZ sg t := by
      rw [hJ'.1, ← rev_toList t, ← Array.length_toList, List.take_length, rev_toList, List.reverse_reverse]; rfl
    subst e
    exact hret _ _ _ (by assumption) (by assumption) (by assumption)
end
end Mine
end
section
open PySem PySem.W PyProof.Rows
set_option maxRecDepth 100000
namespace Mine
theorem noneBooked_of {w : World} {h : Heap} (X : (hd.heap_39 w.params).In h) : NoneBooked h := by
  have e : h.get? 2 = some { cls := .none, data := .dict #[] } := X 2 _ (by rfl)
  refine ⟨fun _ => none, ⟨_, #[], 0, e, rfl, ?_, fun _ => rfl⟩, rfl⟩
  intro x hx; simp at hx
section
variable {prog : Program} {w : World} {A : Around} {E : Value → Shared → Prop} {s : Shared} {t u : Nat} {Q : Value → Shared → Prop}
theorem created_any {c : Bool} {R : Bool → Shared → Prop} (hb : NoneBooked s.heap) (ht : 0 < t) (hu : 0 < u) (htu : t = u → c = true) (h : ∀ b : Bool, (b = true → c = true) → R b s) :
    wpAny (model prog w) A (isSame.created c t u) R E s := by
  unfold isSame.created
  have h1 : (t == 0) = false := by simpa using Nat.ne_of_gt ht
  have h2 : (u == 0) = false := by simpa using Nat.ne_of_gt hu
  simp only [h1, h2, Bool.or_self, Bool.false_eq_true, if_false]
  by_cases e : t = u
  · have e' : (t == u) = true := by simpa using e
    simp only [e', if_true]
    exact wpAny_pure (h true fun _ => htu e)
  · have e' : (t == u) = false := by simpa using e
    simp only [e', Bool.false_eq_true, if_false]
    cases c with
    | false =>
      simp only [Bool.not_false, if_true]
      exact wpAny_pure (h false fun x => x)
    | true =>
      simp only [Bool.not_true, Bool.false_eq_true, if_false]
      refine wpAny_bind (wpAny_sharingNotTold_none hb ?_)
      simp only [Bool.false_eq_true, if_false]
      refine wpAny_bind (wpAny_sharingNotTold_none hb ?_)
      simp only [Bool.false_eq_true, if_false]
      refine wpAny_bind (wpAny_rule ?_)
      exact wpAny_bind (wpAny_askSetting (wpAny_pure (h _ fun _ => rfl)))
theorem is_str {p q : Str} (hb : NoneBooked s.heap) (ht : 0 < t) (hu : 0 < u) (htu : t = u → p = q) (h : ∀ b : Bool, (b = true → p = q) → Q (.bool b) s) :
    wpAny (model prog w) A (compareOp .Is (.str p t) (.str q u)) Q E s := by
  show wpAny (model prog w) A (do return .bool (← isSame (.str p t) (.str q u))) Q E s
  refine wpAny_bind ?_
  show wpAny (model prog w) A (isSame.created (p == q) t u) _ E s
  exact created_any hb ht hu (fun e => by simpa using htu e) fun b hb => wpAny_pure (h b fun x => by simpa using hb x)
theorem is_int {p q : Int} (hb : NoneBooked s.heap) (ht : 0 < t) (hu : 0 < u) (htu : t = u → p = q) (h : ∀ b : Bool, (b = true → p = q) → Q (.bool b) s) :
    wpAny (model prog w) A (compareOp .Is (.int p t) (.int q u)) Q E s := by
  show wpAny (model prog w) A (do return .bool (← isSame (.int p t) (.int q u))) Q E s
  refine wpAny_bind ?_
  show wpAny (model prog w) A (if p == q && smallInt p then isSame.cachedInt t u else isSame.created (p == q) t u) _ E s
  have h1 : (t == 0) = false := by simpa using Nat.ne_of_gt ht
  have h2 : (u == 0) = false := by simpa using Nat.ne_of_gt hu
  by_cases e : (p == q && smallInt p) = true
  · rw [if_pos e]
    simp only [isSame.cachedInt, h1, h2, Bool.or_self, Bool.false_eq_true, if_false]
    refine wpAny_bind (wpAny_rule (wpAny_pure (wpAny_pure (h true fun _ => ?_))))
    have := (Bool.and_eq_true_iff.mp e).1
    simpa using this
  · rw [if_neg e]
    exact created_any hb ht hu (fun e => by simpa using htu e) fun b hb => wpAny_pure (h b fun x => by simpa using hb x)
end
end Mine
end
section
open PySem PySem.W PyProof.Rows
namespace Mine
theorem count_yes {t : Str} {b c i : Nat} {a : Int} (hl : t.length ≤ 27) (hc : t.cps[i]? = some c) (e : c = b) (hJ : a = ((t.cps.toList.take i).countP (· == b) : Nat) ∧ 0 ≤ a ∧ a < 2 ^ 40) :
    a + 1 = ((t.cps.toList.take (i + 1)).countP (· == b) : Nat) ∧ 0 ≤ a + 1 ∧ a + 1 < 2 ^ 40 := by
  have h1 : t.cps.toList[i]? = some c := by rw [Array.getElem?_toList]; exact hc
  have h2 : (t.cps.toList.take i).countP (· == b) ≤ 27 := Nat.le_trans List.countP_le_length (by rw [List.length_take, Array.length_toList]; unfold Str.length at hl; omega)
  rw [List.take_add_one, h1]
  simp only [Option.toList_some, List.countP_append, List.countP_singleton, e, beq_self_eq_true, if_true]
  have h40 : (2 : Int) ^ 40 = 1099511627776 := by decide
  rw [h40] at hJ ⊢
  omega
theorem count_no {t : Str} {b c i : Nat} {a : Int} (hc : t.cps[i]? = some c) (e : c ≠ b) (hJ : a = ((t.cps.toList.take i).countP (· == b) : Nat) ∧ 0 ≤ a ∧ a < 2 ^ 40) :
    a = ((t.cps.toList.take (i + 1)).countP (· == b) : Nat) ∧ 0 ≤ a ∧ a < 2 ^ 40 := by
  have h1 : t.cps.toList[i]? = some c := by rw [Array.getElem?_toList]; exact hc
  rw [List.take_add_one, h1]
  have e' : (c == b) = false := by simpa using e
  simp only [Option.toList_some, List.countP_append, List.countP_singleton, e', Bool.false_eq_true, if_false, Nat.add_zero]
  exact hJ
theorem one_eq {c b : Nat} (h : (⟨#[c]⟩ : Str) = ⟨#[b]⟩) : c = b := by simpa using h
theorem one_ne {c b : Nat} (h : ((⟨#[c]⟩ : Str) == ⟨#[b]⟩) = false) : c ≠ b := by
  rintro rfl; simp at h
section
set_option maxRecDepth 100000 in
set_option maxHeartbeats 8000000 in
theorem count_cb (w : World) (p : Program) (loose : List Str) (mean : ExcName → Option Value) (mg mb : Str → Option Value) (news : List (Addr × Obj)) (t : Str) (b : Nat) (tk tk2 : Nat) : Claim PySem.Challenge.rw_pe0091_01.row.prog w (hd.heap_39 w.params) p loose mean mg mb 161 news (fun s => t.length ≤ 27 ∧ 0 < tk2 ∧ tk2 < s.toks) [.str t tk, .str ⟨#[b]⟩ tk2] (fun t' => .int ((t.cps.toList.countP (· == b) : Nat)) t') := by
  k_fill
  dsimp only [Claim, Ret]
  intro dp un gd cn cs a ccd cl outer A₀ base h₀ L m s Q E B F X N Tp hcs hpre hdp hun hret
  obtain ⟨hp1, hp2, hp3⟩ := hpre
  refine wpAny_with_toks (n := _) (Nat.le_refl _) ?_
  refine wpAny_call ?_
  refine' code_def ?k1 ?k2 ?k3 ?k4 ?k5 ?kA ?kF ?kK ?k6 ?k7 ?k8 ?k9 ?kB ?_ ?c2 ?c3 ?c4 ?c5
  case kA => exact rfl
  case kF => exact rfl
  case kK => assumption
  case k1 => k_asm
  case k2 => k_asm
  case k3 => k_asm
  case k4 => k_asm
  case k5 => k_asm
  case k6 => k_is
  case k7 => k_is
  case k8 => ktr_room
  case k9 => exact BindsTo.of_eq rfl
  case c5 => decide
  case kB => exact locs rfl
  case c2 => exact rfl
  case c3 => exact rfl
  case c4 => exact rfl
  intro g₁ L₁ h₁ FG₁ F₁ N₁ B₁ X₁ T₁
  have hFl : Floor (tk2 + 1) := ⟨Nat.succ_pos _⟩
  refine gen_toks hFl (Nat.le_trans hp3 (Nat.le_add_right _ _)) ?_
  intro tk₁ htk₁
  replace F₁ : Fr g₁ L₁ h₁ (fun y => List.lookup y [(Str.ofString "b", Value.str ⟨#[b]⟩ tk2), (Str.ofString "a", Value.str t tk)]) := F₁
  try k_fold
  refine noE ?_
  k_steps
  refine' str_acc (Str.ofString "count") (fun i a => a = ((t.cps.toList.take i).countP (· == b) : Nat) ∧ 0 ≤ a ∧ a < 2 ^ 40) ?fl ?hx ?hp ?hh ?hT ?F ?N ?hy ?hj ?turn ?done
  case fl => assumption
  case hx => exact rfl
  case hp => exact rfl
  case hh => exact rfl
  case hT => first | assumption | (dsimp only; omega)
  case F => k_asm
  case N => k_asm
  case hy => with_unfolding_all rfl
  case hj => simp
  case turn =>
    intro i' c' u' a' ta' h' tk' I' oI' hu' htk' hc' hJ' F' N'
    have hb1 := hJ'.2.1
    have hb2 := hJ'.2.2
    k_steps
    refine' is_str ?hb ?ht ?hu ?htu ?_
    case hb => exact noneBooked_of (by k_in)
    case ht => omega
    case hu => omega
    case htu => (intro e; exfalso; omega)
    intro b' hb'
    k_steps
    · refine turn_acc (by k_asm) (by k_asm) (by with_unfolding_all rfl) (by (intro z h1 h2; simp only [if_neg h1, if_neg h2])) (count_yes hp1 hc' (one_eq (hb' (by assumption))) hJ')
    · refine turn_acc (by k_asm) (by k_asm) (by with_unfolding_all rfl) (by (intro z h1 h2; simp only [if_neg h1, if_neg h2])) (count_yes hp1 hc' (one_eq (eq_of_beq (by assumption))) hJ')
    · refine turn_acc (by k_asm) (by k_asm) (by with_unfolding_all rfl) (by (intro z h1 h2; simp only [if_neg h1, if_neg h2])) (count_no hc' (one_ne (by assumption)) hJ')
  case done =>
    intro u' a' ta' h' tk' htk' hJ' F' N'
    k_steps
    have e : a' = ((t.cps.toList.countP (· == b) : Nat) : Int) := by
      rw [hJ'.1, ← Array.length_toList, List.take_length]
    subst e
    exact hret _ _ _ (by assumption) (by assumption) (by assumption)
end
end Mine
end
section
open PySem PySem.W PyProof.Rows
namespace Mine
section
variable {prog : Program} {w : World} {A : Around} {E : Value → Shared → Prop} {s : Shared} {env : Env} {h₀ : Heap} {body orelse : List Stmt} {Q : Flow → Shared → Prop}

def PairEnd (h₀ : Heap) (L : Addr) (xi xc : Str) (m : Str → Option Value) (need : List (Addr × Obj)) (J : Prop) (s₁ s₂ : Shared) : Prop :=
  ∃ h' tk m' news', s₂ = { s₁ with heap := h', toks := tk } ∧ Fr h₀ L h' m' ∧ News h₀ L h' news' ∧ (∀ p ∈ need, p ∈ news') ∧ (∀ z, z ≠ xi → z ≠ xc → m' z = m z) ∧ J
def PairPost (h₀ : Heap) (L : Addr) (xi xc : Str) (m : Str → Option Value) (need : List (Addr × Obj)) (J : Prop) (s₁ : Shared) (Q : Flow → Shared → Prop) (f : Flow) (s₂ : Shared) : Prop :=
  match f with
  | .ret v => Q (.ret v) s₂
  | .brk => Q .next s₂
  | _ => PairEnd h₀ L xi xc m need J s₁ s₂

/-- a loop over pairs that stores nothing and is left before the end -/
theorem loop_pair {xi xc : Str} {pk pv pt : Pos} {x1 : Nat} {I : Addr} {fp wr : List Addr} {n T : Nat} {Pt : Nat → Array Value → Prop} {St : Nat → Heap → Prop} {Mid : Nat → Addr → Heap → Prop}
    {P2 : Nat → Value → Value → Prop} {m : Str → Option Value} {news : List (Addr × Obj)} (hh : A.handled = none) (W : WalksT prog w A I fp wr n Pt St Mid) (h2 : ∀ i vals, Pt i vals → ∃ v0 v1, vals = #[v0, v1] ∧ P2 i v0 v1)
    (hxi : env.kindOf xi = some .local) (hxc : env.kindOf xc = some .local)
    (hp : (env.scope.kind == .class || (env.scope.kind == .module && env.locals != env.globals)) = false)
    (hLf : env.locals ∉ fp) (hwr : ∀ b ∈ wr, h₀.get? b = none) (hnw : ∀ p ∈ news, p.1 ∉ wr) (hT : T ≤ s.toks)
    (hst : St 0 s.heap) (F : Fr h₀ env.locals s.heap m) (N : News h₀ env.locals s.heap news)
    (J : Nat → Prop) (h0 : J 0)
    (step : ∀ i v0 v1 h tk own, T ≤ tk → i < n → P2 i v0 v1 → J i →
      Fr h₀ env.locals h (fun y => if y = xc then some v1 else if y = xi then some v0 else m y) → News h₀ env.locals h (own ++ news) →
      wpAny (model prog w) A (execs body env) (PairPost h₀ env.locals xi xc m (own ++ news) (J (i + 1)) { s with heap := h, toks := tk } Q) (fun _ _ => False) { s with heap := h, toks := tk })
    (hR : ¬ J n) :
    LoopHere (model prog w) A (.Tuple [.Name xi pk, .Name xc pv] x1 pt) body orelse env Q E (.ref I) s := by
  have hLw : env.locals ∉ wr := fun h => hLf (W.sub _ h)
  have old : ∀ b o, h₀.get? b = some o → b ∉ wr := fun b o e hb => by rw [hwr b hb] at e; cases e
  refine codeAny_forLoop_any (WalkJ s h₀ env.locals T n St (fun (_ : Unit) m' => ∀ z, z ≠ xi → z ≠ xc → m' z = m z) (fun _ => news) (fun i _ => J i)) ?_ (n + 1) (WalkJ.mk (h' := s.heap) (tk := s.toks) (i := 0) (st := ()) hT hst F N (fun _ _ _ => rfl) h0 (Nat.zero_le _))
  rintro _ _ (@⟨H, tk, m', _, i, hT', hst', F', N', hm', hJ, hi⟩)
  have next : ∀ h₁ : Heap, (∀ b o, b ∉ wr → H.get? b = some o → h₁.get? b = some o) → Fr h₀ env.locals h₁ m' ∧ News h₀ env.locals h₁ news := fun h₁ hk₁ =>
    ⟨⟨F'.ns.at' fun o e => hk₁ _ o hLw e, fun b o e => hk₁ b o (old b o e) (F'.keep b o e), F'.above⟩, fun p hp => ⟨hk₁ _ _ (hnw p hp) (N' p hp).1, (N' p hp).2⟩⟩
  by_cases hlt : i < n
  · refine wpAny_with_toks (n := T) hT' (W.item i _ _ _ hlt hst' fun T₁ vals h₁ tk₁ hPt _ hTp hMid hk₁ hTk₁ => ?_)
    obtain ⟨v0, v1, rfl, hP2⟩ := h2 i vals hPt
    refine W.go _ x1 pt i T₁ _ _ _ hMid fun h₂ hst₂ hk₂ => ?_
    have ht₂ : h₂.IsTuple T₁ #[v0, v1] := hTp.at fun o e => hk₂ T₁ o (W.apart i T₁ h₁ hMid) e
    refine wpAny_assign_Tuple hh ht₂ rfl rfl fun h₃ hx₃ => ?_
    replace hx₃ : Heap.ExtBut h₂.objs.size h₂ h₃ := hx₃
    have up₃ : ∀ b o, h₂.get? b = some o → h₃.get? b = some o := fun b o x => hx₃ b o (Nat.ne_of_lt (Heap.lt_size x)) x
    obtain ⟨F₃, N₃⟩ := next h₃ fun b o hb x => up₃ b o (hk₂ b o hb (hk₁ b o hb x))
    show wpAny _ A (do holding [v1] (assign (.Name xi pk) env v0); do holding [] (assign (.Name xc pv) env v1); pure ()) _ _ _
    refine wpAny_bind (wpAny_holding (wpAny_assign_Name (wpAny_storeName_local hxi F₃.ns (fun h₄ hn₄ hs₄ => ?_) hp)))
    replace hs₄ : Heap.SameBut env.locals h₃ h₄ := hs₄
    have F₄ := F₃.set hn₄ hs₄
    refine wpAny_bind (wpAny_holding (wpAny_assign_Name (wpAny_storeName_local hxc F₄.ns (fun h₅ hn₅ hs₅ => wpAny_pure ?_) hp)))
    replace hs₅ : Heap.SameBut env.locals h₄ h₅ := hs₅
    have F₅ := F₄.set hn₅ hs₅
    have N₅ : News h₀ env.locals h₅ news := (N₃.set hs₄).set hs₅
    have hst₅ : St (i + 1) h₅ := W.frame _ _ _ hst₂ fun b hb o e => hs₅.extBut b o (fun q => hLf (q ▸ hb)) (hs₄.extBut b o (fun q => hLf (q ▸ hb)) (up₃ b o e))
    replace F₅ : Fr h₀ env.locals h₅ (fun y => if y = xc then some v1 else if y = xi then some v0 else m' y) := F₅
    rw [fr_same2 hm'] at F₅
    refine wpAny_mono (wpAny_toks_of (n := T) ?_ (step i v0 v1 h₅ _ (ownOf h₀ fp h₅) ?_ hlt hP2 hJ F₅ ((news_ownOf hLf).append N₅))) (fun f s₃ h₆ => ?_) fun _ _ e => e.2.elim
    · exact Nat.le_succ_of_le (Nat.le_succ_of_le hTk₁)
    · exact Nat.le_succ_of_le (Nat.le_succ_of_le hTk₁)
    obtain ⟨hT₃, h₆⟩ := h₆
    have fin : PairEnd h₀ env.locals xi xc m (ownOf h₀ fp h₅ ++ news) (J (i + 1)) { s with heap := h₅, toks := tk₁ + 1 + 1 } s₃ →
        ∃ k, k < n + 1 - i ∧ WalkJ s h₀ env.locals T n St (fun (_ : Unit) m' => ∀ z, z ≠ xi → z ≠ xc → m' z = m z) (fun _ => news) (fun i _ => J i) k s₃ := by
      rintro ⟨h₆', tk₆, m₂, news₂, rfl, F₆, N₆, hsub, hm₂, hJ₆⟩
      refine ⟨_, sub_less hlt, WalkJ.mk (i := i + 1) (st := ()) hT₃ ?_ F₆ (fun p hp => N₆ p (hsub p (List.mem_append_right _ hp))) hm₂ hJ₆ hlt⟩
      refine W.frame _ _ _ hst₅ fun b hb o e => ?_
      cases hn : h₀.get? b with
      | some o₀ =>
        have : o₀ = o := by have q := F₅.keep b o₀ hn; rw [e] at q; exact (Option.some.inj q).symm
        exact this ▸ F₆.keep b o₀ hn
      | none => exact (N₆ _ (hsub _ (List.mem_append_left _ (mem_ownOf hb hn e)))).1
    cases f with
    | ret v => exact h₆
    | brk => exact h₆
    | next => exact fin h₆
    | cont => exact fin h₆
  · obtain rfl : i = n := Nat.le_antisymm hi (Nat.le_of_not_lt hlt)
    exact absurd hJ hR

theorem enum_loop {xi xc : Str} {pk pv pt : Pos} {x1 : Nat} {T : Nat} {m : Str → Option Value} {news : List (Addr × Obj)} {l : Addr} {vs : List Value} {ep : Nat} {E₁ E₂ : Value → Shared → Prop} (hh : A.handled = none)
    (hxi : env.kindOf xi = some .local) (hxc : env.kindOf xc = some .local)
    (hp : (env.scope.kind == .class || (env.scope.kind == .module && env.locals != env.globals)) = false)
    (hl₁ : (l, W.listOf vs.toArray ep) ∈ news) (F : Fr h₀ env.locals s.heap m) (N : News h₀ env.locals s.heap news)
    (J : Nat → Prop) (h0 : J 0)
    (step : ∀ i t v h tk own, T ≤ tk → vs[i]? = some v → J i →
      Fr h₀ env.locals h (fun y => if y = xc then some v else if y = xi then some (.int i t) else m y) → News h₀ env.locals h (own ++ news) →
      wpAny (model prog w) A (execs body env) (PairPost h₀ env.locals xi xc m (own ++ news) (J (i + 1)) { s with heap := h, toks := tk } Q) (fun _ _ => False) { s with heap := h, toks := tk })
    (hR : ¬ J vs.length) :
    wpAny (model prog w) A (call (.type "enumerate") [.ref l]) (fun x s₁ => T ≤ s₁.toks → wpAny (model prog w) A (pyIter x) (fun it s₂ => LoopHere (model prog w) A (.Tuple [.Name xi pk, .Name xc pv] x1 pt) body orelse env Q E it s₂) E₁ s₁) E₂ s := by
  have hl : s.heap.IsList l vs.toArray := ⟨_, (N _ hl₁).1, rfl, _, rfl⟩
  have hlt : l < s.heap.objs.size := Heap.lt_size (N _ hl₁).1
  refine call_enumerate_list hl fun h' he hli hsz hk => ?_
  intro hT
  have hl' : h'.IsList l vs.toArray := hl.at fun o e => hk _ _ e
  have W := WalksT.enumerate (prog := prog) (w := w) hh (s.heap.objs.size + 1) s.heap.objs.size l (Nat.succ_ne_self _) (Nat.ne_of_lt (Nat.lt_succ_of_lt hlt)) (Nat.ne_of_lt hlt) vs.toArray
  refine W.self 0 _ _ _ ⟨⟨_, he⟩, hli, hl'⟩ ?_
  have hLlt : env.locals < s.heap.objs.size := F.ns.lt
  have fresh : ∀ b, s.heap.objs.size ≤ b → h₀.get? b = none := fun b hb => Heap.get?_none_of_le (Nat.le_trans F.above (Nat.le_trans (Nat.le_of_lt hLlt) hb))
  refine loop_pair (s := { s with heap := h' }) (T := T) (h₀ := h₀) (news := news) (P2 := fun i v0 v1 => (∃ t, v0 = .int i t) ∧ vs[i]? = some v1) hh W ?_ hxi hxc hp ?_ ?_ ?_ hT ⟨⟨_, he⟩, hli, hl'⟩ ⟨F.ns.at' fun o e => hk _ _ e, fun b o e => hk b o (F.keep b o e), F.above⟩ (fun q hq => ⟨hk _ _ (N q hq).1, (N q hq).2⟩) J h0 ?_ ?_
  · rintro i vals ⟨t, x, hx, rfl⟩
    exact ⟨_, _, rfl, ⟨t, rfl⟩, by simpa using hx⟩
  · intro hm
    simp only [List.mem_cons, List.not_mem_nil, or_false] at hm
    have hlL : l ≠ env.locals := (N _ hl₁).2.1
    rcases hm with hm | hm | hm
    · exact Nat.ne_of_lt (Nat.lt_succ_of_lt hLlt) hm
    · exact Nat.ne_of_lt hLlt hm
    · exact hlL hm.symm
  · intro b hb
    simp only [List.mem_cons, List.not_mem_nil, or_false] at hb
    rcases hb with rfl | rfl
    · exact fresh _ (Nat.le_succ _)
    · exact fresh _ (Nat.le_refl _)
  · intro q hq hb
    simp only [List.mem_cons, List.not_mem_nil, or_false] at hb
    have := Heap.lt_size (N q hq).1
    rcases hb with hb | hb
    · exact Nat.ne_of_lt (Nat.lt_succ_of_lt this) hb
    · exact Nat.ne_of_lt this hb
  · rintro i v0 v1 h tk own htk hi ⟨⟨t0, rfl⟩, hx⟩ hJ F' N'
    exact step i t0 v1 h tk own htk hx hJ F' N'
  · simpa using hR
end
end Mine
end
section
open PySem PySem.W PyProof.Rows
namespace Mine
section
set_option maxRecDepth 100000 in
set_option maxHeartbeats 8000000 in
theorem index_cb (w : World) (p : Program) (loose : List Str) (mean : ExcName → Option Value) (mg mb : Str → Option Value) (news : List (Addr × Obj)) (l : Addr) (vs : List Value) (ep : Nat) (b : Int) (tk : Nat) (k : Nat) :
    Claim PySem.Challenge.rw_pe0091_01.row.prog w (hd.heap_39 w.params) p loose mean mg mb 168 news (fun _ => (l, W.listOf vs.toArray ep) ∈ news ∧ 0 < tk ∧ k < vs.length ∧
      (∀ i v, vs[i]? = some v → ∃ (n : Int) (t : Nat), v = .int n t ∧ 0 < t ∧ (t = tk → n = b) ∧ (i < k → n ≠ b) ∧ (i = k → n = b))) [.ref l, .int b tk] (fun t' => .int k t') := by
  k_fill
  dsimp only [Claim, Ret]
  intro dp un gd cn cs a ccd cl outer A₀ base h₀ L m s Q E B F X N Tp hcs hpre hdp hun hret
  obtain ⟨hp1, hp3, hp4, hp5⟩ := hpre
  refine wpAny_with_toks (n := _) (Nat.le_refl _) ?_
  refine wpAny_call ?_
  refine' code_def ?k1 ?k2 ?k3 ?k4 ?k5 ?kA ?kF ?kK ?k6 ?k7 ?k8 ?k9 ?kB ?_ ?c2 ?c3 ?c4 ?c5
  case kA => exact rfl
  case kF => exact rfl
  case kK => assumption
  case k1 => k_asm
  case k2 => k_asm
  case k3 => k_asm
  case k4 => k_asm
  case k5 => k_asm
  case k6 => k_is
  case k7 => k_is
  case k8 => ktr_room
  case k9 => exact BindsTo.of_eq rfl
  case c5 => decide
  case kB => exact locs rfl
  case c2 => exact rfl
  case c3 => exact rfl
  case c4 => exact rfl
  intro g₁ L₁ h₁ FG₁ F₁ N₁ B₁ X₁ T₁
  have hFl : Floor 1 := ⟨Nat.succ_pos _⟩
  refine gen_toks hFl (Nat.le_trans (Nat.le_of_ble_eq_true rfl : 1 ≤ 2) (Nat.le_add_left 2 _)) ?_
  intro tk₁ htk₁
  replace F₁ : Fr g₁ L₁ h₁ (fun y => List.lookup y [(Str.ofString "b", Value.int b tk), (Str.ofString "a", Value.ref l)]) := F₁
  try k_fold
  refine noE ?_
  k_steps
  refine' enum_loop (T := 1) (vs := vs) (ep := ep) ?hh ?hxi ?hxc ?hp hp1 ?F ?N (fun i => i ≤ k) (Nat.zero_le _) ?_ ?_
  case hh => exact rfl
  case hxi => exact rfl
  case hxc => exact rfl
  case hp => exact rfl
  case F => k_asm
  case N => k_asm
  · intro i t0 v1 h tk' own htk hx hJ F' N'
    obtain ⟨nn, tt, rfl, ht, hq1, hq2, hq3⟩ := hp5 i v1 hx
    k_steps
    refine' is_int ?hb ?ht ?hu ?htu ?_
    case hb => exact noneBooked_of (by k_in)
    case ht => omega
    case hu => omega
    case htu => exact hq1
    intro b' hb'
    k_steps
    · have hik : i = k := by
        rcases Nat.lt_or_eq_of_le hJ with h1 | h1
        · exact absurd (hb' (by assumption)) (hq2 h1)
        · exact h1
      subst hik
      dsimp only [PairPost]
      k_steps
      exact hret _ _ _ (by assumption) (by assumption) (News.right (a := own) (by assumption))
    · have hik : i = k := by
        rcases Nat.lt_or_eq_of_le hJ with h1 | h1
        · exact absurd (by assumption) (hq2 h1)
        · exact h1
      subst hik
      dsimp only [PairPost]
      k_steps
      exact hret _ _ _ (by assumption) (by assumption) (News.right (a := own) (by assumption))
    · refine ⟨_, _, _, _, rfl, F', N', fun _ hq => hq, ?_, ?_⟩
      · intro z h1 h2
        simp only [if_neg h1, if_neg h2]
      · rcases Nat.lt_or_eq_of_le hJ with h1 | h1
        · exact h1
        · exact absurd (hq3 h1) (by assumption)
  · intro hJ
    omega
end
end Mine
end
section
open PySem PySem.W PyProof.Rows
namespace Mine
abbrev lamParams : Arguments := { posonlyargs := [], args := [{ arg := Str.ofString "size", annotation := none, pos := { line := 90, col := 25, endLine := 90, endCol := 29 } }], vararg := none, kwonlyargs := [], kw_defaults := [], kwarg := none, defaults := [] }
abbrev lamBody : Expr := (Expr.IfExp (Expr.Name (Str.ofString "left") { line := 90, col := 46, endLine := 90, endCol := 50 }) (Expr.Call (Expr.Attribute (Expr.Name (Str.ofString "left") { line := 90, col := 31, endLine := 90, endCol := 35 }) (Str.ofString "pop") { line := 90, col := 31, endLine := 90, endCol := 39 }) [Expr.Constant (Const.int 0) 0 { line := 90, col := 40, endLine := 90, endCol := 41 }] [] { line := 90, col := 31, endLine := 90, endCol := 42 }) (Expr.Constant (Const.str (Str.ofString "")) 0 { line := 90, col := 56, endLine := 90, endCol := 58 }) { line := 90, col := 31, endLine := 90, endCol := 58 })
abbrev lamScope : Scope := { kind := ScopeKind.function, names := [(Str.ofString "size", NameKind.local), (Str.ofString "left", NameKind.free)], isGenerator := false, isCoroutine := false }
theorem nl_is : Str.ofString "\n" = ⟨#[10]⟩ := by decide +kernel
theorem nl_eq {c : Nat} (h : ((⟨#[c]⟩ : Str) == Str.ofString "\n") = true) : c = 10 := by
  rw [nl_is] at h; simpa using h
theorem nl_ne {c : Nat} (h : ((⟨#[c]⟩ : Str) == Str.ofString "\n") = false) : c ≠ 10 := by
  rw [nl_is] at h; rintro rfl; simp at h
theorem seqIndex_zero {α : Type} {v : α} {r : List α} : seqIndex? 0 (v :: r).toArray.size = some 0 := by
  unfold seqIndex?
  simp
section
theorem pop_fits {v : Value} {r : List Value} (h : (v :: r).length ≤ 100) : ([] ++ v :: r : List Value).length ≤ sizeLine := Nat.le_trans h (by decide)
theorem led_lt {l ce d1 x1 c₁ f d2 x2 : Nat} (h1 : l < ce) (h2 : ce < d1) (h3 : d1 < x1) (h4 : x1 < c₁) (h5 : c₁ < f) (h6 : f < d2) (h7 : d2 < x2) :
    d2 < x2 ∧ l < ce ∧ l < d1 ∧ l < x1 ∧ l < c₁ ∧ l < f ∧ l < d2 ∧ l < x2 ∧ ce < d2 ∧ d1 < d2 ∧ x1 < d2 ∧ c₁ < d2 ∧ f < d2 :=
  have a := Nat.lt_trans h5 h6; have b := Nat.lt_trans h4 a; have c := Nat.lt_trans h3 b; have e := Nat.lt_trans h2 c; have g := Nat.lt_trans h1 e
  ⟨h7, h1, Nat.lt_trans h1 h2, Nat.lt_trans (Nat.lt_trans h1 h2) h3, Nat.lt_trans (Nat.lt_trans (Nat.lt_trans h1 h2) h3) h4, Nat.lt_trans (Nat.lt_trans (Nat.lt_trans (Nat.lt_trans h1 h2) h3) h4) h5, g, Nat.lt_trans g h7, e, c, b, a, h6⟩
set_option maxRecDepth 100000 in
set_option maxHeartbeats 8000000 in
theorem read_cb (w : World) (p : Program) (loose : List Str) (mean : ExcName → Option Value) (mg mb : Str → Option Value) (x2 d2 x1 d1 f c₁ ce l pb : Nat) (oc oce : Obj) (k1 k2 k3 k4 k5 j1 j2 j3 j4 j5 tln ep : Nat) (v1 v2 v3 v4 pm ctv : Value) (qual : Str) (ln : Int) (vs : List Value) (ocv : Array Value) (tq : Tok) (rest : List (Addr × Obj))
    (hoc : oc.data = .fields ocv) (hocv : ocv[1]? = some (.str qual tq)) (hce : oce.data = .cell (some (.ref l)))
    (h1 : l < ce) (h2 : ce < d1) (h3 : d1 < x1) (h4 : x1 < c₁) (h5 : c₁ < f) (h6 : f < d2) (h7 : d2 < x2) (hr1 : ∀ p ∈ rest, p.1 ≠ d2) (hr2 : ∀ p ∈ rest, p.1 ≠ l) :
  ∀ (dp un : Nat) (gd : Option (List Code)) (cn : Str) (cs : Scope) (a : Addr) (ccd : Value) (cl : List (Str × Addr)) (outer : List Env) (A₀ : Around) (base h₀ : Heap) (L : Addr) (m : Str → Option Value) (s : Shared) (R : Result → Shared → Prop),
    CodeHd base 174 170 → Below A₀ base outer h₀ → Fr h₀ L s.heap m → (hd.heap_39 w.params).In h₀ → News h₀ L s.heap ((x2, instObj 59 d2) :: (d2, dictOf [⟨PyData.keyHash w.params (Str.ofString "lineno"), .str (Str.ofString "lineno") k1, .int ln tln⟩, ⟨PyData.keyHash w.params (Str.ofString "instream"), .str (Str.ofString "instream") k2, .ref x1⟩, ⟨PyData.keyHash w.params (Str.ofString "whitespace"), .str (Str.ofString "whitespace") k3, .str (Str.ofString "\n\t\r ") k4⟩, ⟨PyData.keyHash w.params (Str.ofString "pushback"), .str (Str.ofString "pushback") k5, .ref pb⟩] 4) ::
    (x1, instObj 59 d1) :: (d1, dictOf [⟨PyData.keyHash w.params (Str.ofString "lineno"), .str (Str.ofString "lineno") j1, v1⟩, ⟨PyData.keyHash w.params (Str.ofString "instream"), .str (Str.ofString "instream") j2, v2⟩, ⟨PyData.keyHash w.params (Str.ofString "whitespace"), .str (Str.ofString "whitespace") j3, v3⟩, ⟨PyData.keyHash w.params (Str.ofString "pushback"), .str (Str.ofString "pushback") j4, v4⟩, ⟨PyData.keyHash w.params (Str.ofString "read"), .str (Str.ofString "read") j5, .ref f⟩] 5) ::
    (f, kla_obj (Str.ofString "<lambda>") qual lamParams lamBody lamScope [(Str.ofString "left", ce)] pm c₁ ctv) :: (c₁, oc) :: (ce, oce) :: (l, W.listOf vs.toArray ep) :: rest) → Top p loose mean mg mb h₀ → cs.kind = .function →
    dp + 30 < recursionLimit → un + 300 < cLine → vs.length ≤ 100 →
    (vs = [] → ∀ t h' tk', Fr h₀ L h' m → News h₀ L h' ((x2, instObj 59 d2) :: (d2, dictOf [⟨PyData.keyHash w.params (Str.ofString "lineno"), .str (Str.ofString "lineno") k1, .int (ln) tln⟩, ⟨PyData.keyHash w.params (Str.ofString "instream"), .str (Str.ofString "instream") k2, .ref x1⟩, ⟨PyData.keyHash w.params (Str.ofString "whitespace"), .str (Str.ofString "whitespace") k3, .str (Str.ofString "\n\t\r ") k4⟩, ⟨PyData.keyHash w.params (Str.ofString "pushback"), .str (Str.ofString "pushback") k5, .ref pb⟩] 4) ::
    (x1, instObj 59 d1) :: (d1, dictOf [⟨PyData.keyHash w.params (Str.ofString "lineno"), .str (Str.ofString "lineno") j1, v1⟩, ⟨PyData.keyHash w.params (Str.ofString "instream"), .str (Str.ofString "instream") j2, v2⟩, ⟨PyData.keyHash w.params (Str.ofString "whitespace"), .str (Str.ofString "whitespace") j3, v3⟩, ⟨PyData.keyHash w.params (Str.ofString "pushback"), .str (Str.ofString "pushback") j4, v4⟩, ⟨PyData.keyHash w.params (Str.ofString "read"), .str (Str.ofString "read") j5, .ref f⟩] 5) ::
    (f, kla_obj (Str.ofString "<lambda>") qual lamParams lamBody lamScope [(Str.ofString "left", ce)] pm c₁ ctv) :: (c₁, oc) :: (ce, oce) :: (l, W.listOf (([] : List Value)).toArray (ep)) :: rest) → R (.ok (.ret (.str (Str.ofString "") t))) { s with heap := h', toks := tk' }) →
    (∀ c t r, vs = .str ⟨#[c]⟩ t :: r → ∀ tln' h' tk', Fr h₀ L h' m → News h₀ L h' ((x2, instObj 59 d2) :: (d2, dictOf [⟨PyData.keyHash w.params (Str.ofString "lineno"), .str (Str.ofString "lineno") k1, .int (if c = 10 then ln + 1 else ln) tln'⟩, ⟨PyData.keyHash w.params (Str.ofString "instream"), .str (Str.ofString "instream") k2, .ref x1⟩, ⟨PyData.keyHash w.params (Str.ofString "whitespace"), .str (Str.ofString "whitespace") k3, .str (Str.ofString "\n\t\r ") k4⟩, ⟨PyData.keyHash w.params (Str.ofString "pushback"), .str (Str.ofString "pushback") k5, .ref pb⟩] 4) ::
    (x1, instObj 59 d1) :: (d1, dictOf [⟨PyData.keyHash w.params (Str.ofString "lineno"), .str (Str.ofString "lineno") j1, v1⟩, ⟨PyData.keyHash w.params (Str.ofString "instream"), .str (Str.ofString "instream") j2, v2⟩, ⟨PyData.keyHash w.params (Str.ofString "whitespace"), .str (Str.ofString "whitespace") j3, v3⟩, ⟨PyData.keyHash w.params (Str.ofString "pushback"), .str (Str.ofString "pushback") j4, v4⟩, ⟨PyData.keyHash w.params (Str.ofString "read"), .str (Str.ofString "read") j5, .ref f⟩] 5) ::
    (f, kla_obj (Str.ofString "<lambda>") qual lamParams lamBody lamScope [(Str.ofString "left", ce)] pm c₁ ctv) :: (c₁, oc) :: (ce, oce) :: (l, W.listOf (r).toArray (ep + 1)) :: rest) → R (.ok (.ret (.str ⟨#[c]⟩ t))) { s with heap := h', toks := tk' }) → (∀ v ∈ vs, ∃ c t, v = .str ⟨#[c]⟩ t) →
      codeAny (model PySem.Challenge.rw_pe0091_01.row.prog w) (ktrTop dp un gd cn cs L a ccd cl outer) (.call (.ref 42) ⟨[.ref x2], []⟩) R s := by
  k_fill
  intro dp un gd cn cs a ccd cl outer A₀ base h₀ L m s R hCH B F X N Tp hcs hdp hun hlen hR0 hR1 hvs
  have hz := led_lt h1 h2 h3 h4 h5 h6 h7
  refine' code_def ?k1 ?k2 ?k3 ?k4 ?k5 ?kA ?kF ?kK ?k6 ?k7 ?k8 ?k9 ?kB ?_ ?c2 ?c3 ?c4 ?c5
  case kA => exact rfl
  case kF => exact rfl
  case kK => assumption
  case k1 => k_asm
  case k2 => k_asm
  case k3 => k_asm
  case k4 => k_asm
  case k5 => k_asm
  case k6 => k_is
  case k7 => k_is
  case k8 => ktr_room
  case k9 => exact BindsTo.of_eq rfl
  case c5 => decide
  case kB => exact locs rfl
  case c2 => exact rfl
  case c3 => exact rfl
  case c4 => exact rfl
  intro g₁ L₁ h₁ FG₁ F₁ N₁ B₁ X₁ T₁
  have hFl : Floor 1 := ⟨Nat.succ_pos _⟩
  refine gen_toks hFl (Nat.le_trans (Nat.le_of_ble_eq_true rfl : 1 ≤ 1) (Nat.le_add_left 1 _)) ?_
  intro tk₁ htk₁
  replace F₁ : Fr g₁ L₁ h₁ (fun y => List.lookup y [(Str.ofString "self", Value.ref x2)]) := F₁
  try k_fold
  refine noE ?_
  k_steps
  · have e : vs = [] := List.isEmpty_iff.mp (by assumption)
    subst e
    exact hR0 rfl _ _ _ (by assumption) (by assumption)
  · cases vs with
    | nil => exact absurd (by assumption) (by simp)
    | cons v r =>
      obtain ⟨c, t, rfl⟩ := hvs v (.head _)
      refine' kl_popAt (p := []) (q := r) (k := 0) ?F ?N ?f ?k ?e ?U ?z ?_
      case F => k_asm
      case N => k_asm
      case U => k_upd
      case f => rfl
      case k => exact seqIndex_zero
      case e => rfl
      case z => exact pop_fits hlen
      intro h' F' N'
      dsimp only [List.nil_append, List.cons_append] at N'
      k_steps
      · have hc : c = 10 := nl_eq (by assumption)
        have hR2 := hR1 c t r rfl
        simp only [if_pos hc] at hR2
        exact hR2 _ _ _ (by assumption) (by assumption)
      · have hc : c ≠ 10 := nl_ne (by assumption)
        have hR2 := hR1 c t r rfl
        simp only [if_neg hc] at hR2
        exact hR2 _ _ _ (by assumption) (by assumption)
end
end Mine
end
section
open PySem PySem.W PyProof.Rows
set_option maxRecDepth 100000
namespace Mine
theorem slot_ci_next : Slot "callable_iterator" "__next__" "callable_iterator.__next__" :=
  .of (owner := "callable_iterator") (n := "__next__") (by rw [typeLookup_type, builtinLookup_eq_fast]; kernel_rfl) (by decide +kernel) (by decide +kernel) (by decide +kernel)
    (by first | exact .inl (by decide +kernel) | exact .inr (by decide +kernel)) (by rw [isSubtype_type]; kernel_rfl)
theorem entry_ci_next : entryFor table "callable_iterator.__next__" = some Builtin.«callable_iterator.__next__» := entryFor_of_tree (by kernel_rfl)
theorem args_ci_next (a : Value) : argsOk "callable_iterator.__next__" ⟨[a], []⟩ := by unfold argsOk; kernel_rfl
abbrev ciObj (q : Addr) (t : Tok) : Obj := { cls := .type "callable_iterator", data := .fields #[.ref q, .str (Str.ofString "") t, .bool false] }
abbrev ciEnd : Obj := { cls := .type "callable_iterator", data := .fields #[.none, .none, .bool true] }
section
variable {prog : Program} {w : World} {A : Around} {E : Value → Shared → Prop} {s : Shared} {it q fa : Addr} {t₀ : Tok} {self : Value}

/-- a StopIteration raised within a built-in's __next__ -/
theorem stop_is {α : Type} {Q : α → Shared → Prop} {R : Option Value → Shared → Prop} (hh : A.handled = none)
    (h : ∀ h', (∀ b o, s.heap.get? b = some o → h'.get? b = some o) → R none { s with heap := h' }) :
    wpAny (model prog w) A.in1 (Builtin.SmallTypes.stopIteration (α := α)) Q
      (fun e s' => wpAny (model prog w) A (do if ← isInstance e (.type "StopIteration") then pure none else throw e) R E s') s := by
  unfold Builtin.SmallTypes.stopIteration
  refine wpAny_bind ?_
  simp only [newExc, newTuple]
  refine wpAny_bind (wpAny_newObj_type ?_ (by size_fits))
  refine wpAny_bind (m := firstArgMember _ _) (wpAny_of_eq (a := Value.none) (by first | rfl | (simp only [firstArgMember]; rfl)) ?_)
  refine wpAny_newObj_type ?_ (by size_fits)
  simp only [raiseNew]
  refine wpAny_bind (wpAny_handled ?_)
  rw [show A.in1.handled = none from hh]
  refine wpAny_bind (wpAny_pure (wpAny_throw ?_))
  refine wpAny_bind (wpAny_isInstance (T := "StopIteration") (b := true) ⟨_, Heap.get?_push_size _ rfl, rfl⟩ isSubtype_stop ?_)
  exact wpAny_pure (h _ fun b o e => Heap.get?_push_of_some _ (Heap.get?_push_of_some _ e))

theorem next_ended {Q : Option Value → Shared → Prop} (hh : A.handled = none) (hit : s.heap.get? it = some ciEnd)
    (h : ∀ h', (∀ b o, s.heap.get? b = some o → h'.get? b = some o) → Q none { s with heap := h' }) : wpAny (model prog w) A (pyNext (.ref it)) Q E s := by
  unfold pyNext
  refine wpAny_bind (wpAny_attempt (wpAny_callSpecial?_slot (name := Str.ofString "__next__") ⟨_, hit, rfl⟩ slot_ci_next
    (wpAny_call_entry slot_ci_next ⟨_, hit, rfl⟩ entry_ci_next ?_ (args_ci_next _))))
  show wpAny _ _ (field (.ref it) 2 >>= _) _ _ s
  refine wpAny_bind (wpAny_field hit rfl (x := .bool true) rfl ?_)
  show wpAny _ _ (if (Value.bool true == Value.bool true) = true then _ else _) _ _ s
  rw [if_pos (by rfl)]
  refine wpAny_bind (wpAny_rule (wpAny_bind ?_))
  exact stop_is hh h

theorem wpAny_callBorrowed {f : Value} {pos : List Value} {Q : Value → Shared → Prop}
    (h : codeAny (model prog w) A (.call f ⟨pos, []⟩) (fun r s' => match r with | .ok (.ret v) => Q v s' | .ok _ => False | .error e => E e s') s) : wpAny (model prog w) A (callBorrowed f pos) Q E s := by
  unfold callBorrowed
  refine X.x_call (hd := none) (codeAny_mono h fun r s' hr => ?_) (by simp)
  match r, hr with
  | .ok (.ret v), hr => exact wpAny_pure hr
  | .error e, hr => exact wpAny_throw hr

theorem borrows {ofn : Obj} {fd : FuncData} {R : Bool → Shared → Prop} (hq : s.heap.get? q = some (methodObj (.ref fa) self)) (hf : s.heap.get? fa = some ofn) (hd : ofn.data = .func fd) (h : R true s) :
    wpAny (model prog w) A (borrowsExactly (.ref q)) R E s := by
  unfold borrowsExactly
  refine wpAny_bind (wpAny_load hq ?_)
  show wpAny _ _ (do match (← load fa).data with | .func _ => pure true | _ => pure false) _ _ s
  refine wpAny_bind (wpAny_load hf ?_)
  rw [hd]
  exact wpAny_pure h

theorem eqBool_str {a b : Str} {t u : Tok} {R : Bool → Shared → Prop} (h : R (a == b) s) : wpAny (model prog w) A (eqBool (.str a t) (.str b u)) R E s := by
  unfold eqBool
  refine wpAny_holding ?_
  by_cases e : (Value.str a t == Value.str b u) = true
  · rw [if_pos e]
    have e' : a = b := by
      have := eq_of_beq e
      injection this
    subst e'
    refine wpAny_bind (wpAny_rule (wpAny_pure ?_))
    simpa using h
  · rw [if_neg e]
    show wpAny _ _ (richCompare .Eq (.str a t) (.str b u) >>= _) _ _ s
    refine wpAny_bind ?_
    exact eq_str (Q := fun v s' => wpAny (model prog w) A (truthOfDropped v) R E s') (wpAny_of_eq rfl h)

theorem next_call {ofn : Obj} {fd : FuncData} {Q : Option Value → Shared → Prop} (hh : A.handled = none) (hit : s.heap.get? it = some (ciObj q t₀)) (hq : s.heap.get? q = some (methodObj (.ref fa) self)) (hf : s.heap.get? fa = some ofn) (hd : ofn.data = .func fd)
    (hc : codeAny (model prog w) A.in1 (.call (.ref fa) ⟨[self], []⟩) (fun r s₁ => ∃ x t, r = .ok (.ret (.str x t)) ∧ s₁.heap.get? it = some (ciObj q t₀) ∧ s₁.heap.get? q = some (methodObj (.ref fa) self) ∧ s₁.heap.get? fa = some ofn ∧
      (x ≠ Str.ofString "" → Q (some (.str x t)) s₁) ∧ (x = Str.ofString "" → ∀ h', h'.get? it = some ciEnd → (∀ b o, b ≠ it → s₁.heap.get? b = some o → h'.get? b = some o) → Q none { s₁ with heap := h' })) s) :
    wpAny (model prog w) A (pyNext (.ref it)) Q E s := by
  unfold pyNext
  refine wpAny_bind (wpAny_attempt (wpAny_callSpecial?_slot (name := Str.ofString "__next__") ⟨_, hit, rfl⟩ slot_ci_next
    (wpAny_call_entry slot_ci_next ⟨_, hit, rfl⟩ entry_ci_next ?_ (args_ci_next _))))
  show wpAny _ _ (field (.ref it) 2 >>= _) _ _ s
  refine wpAny_bind (wpAny_field hit rfl (x := .bool false) rfl ?_)
  show wpAny _ _ (if (Value.bool false == Value.bool true) = true then _ else _) _ _ s
  rw [if_neg (by decide)]
  show wpAny _ _ (field (.ref it) 0 >>= _) _ _ s
  refine wpAny_bind (wpAny_field hit rfl (x := .ref q) rfl ?_)
  refine wpAny_bind (wpAny_attempt ?_)
  unfold callOutOfASlot
  refine wpAny_bind (borrows hq hf hd ?_)
  rw [if_pos rfl]
  refine wpAny_callBorrowed (method_call hq (codeAny_mono hc fun r s₁ hr => ?_))
  obtain ⟨x, t, rfl, hit₁, hq₁, hf₁, hsome, hnone⟩ := hr
  show wpAny _ _ (field (.ref it) 2 >>= _) _ _ s₁
  refine wpAny_bind (wpAny_field hit₁ rfl (x := .bool false) rfl ?_)
  show wpAny _ _ (if (Value.bool false == Value.bool true) = true then _ else _) _ _ s₁
  rw [if_neg (by decide)]
  show wpAny _ _ (field (.ref it) 1 >>= _) _ _ s₁
  refine wpAny_bind (wpAny_field hit₁ rfl (x := .str (Str.ofString "") t₀) rfl ?_)
  refine wpAny_bind (wpAny_holding (eqBool_str ?_))
  by_cases e : x = Str.ofString ""
  · subst e
    simp only [beq_self_eq_true, Bool.not_true, Bool.false_eq_true, if_false]
    refine wpAny_bind (wpAny_rule (wpAny_bind ?_))
    show wpAny _ _ (do slotLetsGo "callable_iterator.__next__" (← field (.ref it) 0) _; setField (.ref it) 0 .none; setField (.ref it) 1 .none; setField (.ref it) 2 (.bool true)) _ _ _
    refine wpAny_bind (wpAny_field hit₁ rfl (x := .ref q) rfl (wpAny_bind ?_))
    refine wpAny_bind (borrows hq₁ hf₁ hd ?_)
    rw [if_pos rfl]
    refine wpAny_pure ?_
    have up : ∀ (h : Heap) (o : Obj) (i : Nat) (v : Value), h.get? it = some o → (Obj.mapFields (·.setIfInBounds i v) o).isFreed = false → (h.update it (Obj.mapFields (·.setIfInBounds i v))).get? it = some (Obj.mapFields (·.setIfInBounds i v) o) := fun h o i v e hf => Heap.get?_update_self _ e hf
    have e1 := up s₁.heap _ 0 .none hit₁ rfl
    have e2 := up _ _ 1 .none e1 rfl
    have e3 := up _ _ 2 (.bool true) e2 rfl
    refine wpAny_bind (wpAny_setField hit₁ rfl (Nat.le_of_ble_eq_true rfl) (wpAny_bind (wpAny_setField e1 rfl (Nat.le_of_ble_eq_true rfl) (wpAny_setField e2 rfl (Nat.le_of_ble_eq_true rfl) ?_))))
    refine stop_is hh fun h' hk => hnone rfl h' (hk _ _ e3) fun b o hb eb => hk _ _ ?_
    rw [Heap.get?_update_ne _ _ _ _ hb, Heap.get?_update_ne _ _ _ _ hb, Heap.get?_update_ne _ _ _ _ hb]
    exact eb
  · have e' : (Str.ofString "" == x) = false := by
      simpa using fun h => e h.symm
    simp only [e', Bool.not_false, if_true]
    exact wpAny_pure ⟨_, rfl, wpAny_pure (hsome e)⟩

theorem entry_iter2 : entryFor table "iter" = some Builtin.«iter» := entryFor_of_tree (by kernel_rfl)
theorem kind_iter2 : builtinKind "iter" = none := by decide +kernel
theorem plain_iter2 : plainId "iter" = true := by decide +kernel
theorem args_iter2 (a b : Value) : argsOk "iter" ⟨[a, b], []⟩ := by unfold argsOk; kernel_rfl
theorem iter_call {f : Value} {Q : Value → Shared → Prop} (hq : s.heap.get? q = some (methodObj f self)) (h : Q (.ref s.heap.objs.size) { s with heap := s.heap.push (ciObj q t₀) }) :
    wpAny (model prog w) A (call (.builtin "iter") [.ref q, .str (Str.ofString "") t₀]) Q E s := by
  refine Calls.call_function_entry kind_iter2 plain_iter2 entry_iter2 (args_iter2 _ _) ?_
  unfold Builtin.«iter»
  refine wpAny_bind (wpAny_of_eq (a := [.ref q, .str (Str.ofString "") t₀]) rfl ?_)
  refine wpAny_bind (wpAny_specialOf (T := "method") (r := some (.builtin "method.__call__")) ⟨_, hq, rfl⟩ (by rw [typeLookup_type, builtinLookup_eq_fast]; kernel_rfl) ?_)
  simp only [Option.isNone_some, Bool.false_eq_true, if_false]
  refine wpAny_bind (wpAny_rule (wpAny_bind ?_))
  exact wpAny_newObj_type (wpAny_pure ⟨_, rfl, h⟩)
end
end Mine
end
section
open PySem PySem.W PyProof.Rows
namespace Mine
/-- what a lexer over a stream of signs is made of -/
structure LexP where
  x2 : Nat
  d2 : Nat
  x1 : Nat
  d1 : Nat
  f : Nat
  c₁ : Nat
  ce : Nat
  l : Nat
  pb : Nat
  oc : Obj
  oce : Obj
  k1 : Nat
  k2 : Nat
  k3 : Nat
  k4 : Nat
  k5 : Nat
  j1 : Nat
  j2 : Nat
  j3 : Nat
  j4 : Nat
  j5 : Nat
  v1 : Value
  v2 : Value
  v3 : Value
  v4 : Value
  pm : Value
  ctv : Value
  qual : Str
  ocv : Array Value
  tq : Tok
abbrev LexP.led (P : LexP) (w : World) (ln : Int) (tln : Nat) (vs : List Value) (ep : Nat) (rest : List (Addr × Obj)) : List (Addr × Obj) :=
  (P.x2, instObj 59 P.d2) :: (P.d2, dictOf [⟨PyData.keyHash w.params (Str.ofString "lineno"), .str (Str.ofString "lineno") P.k1, .int ln tln⟩, ⟨PyData.keyHash w.params (Str.ofString "instream"), .str (Str.ofString "instream") P.k2, .ref P.x1⟩, ⟨PyData.keyHash w.params (Str.ofString "whitespace"), .str (Str.ofString "whitespace") P.k3, .str (Str.ofString "\n\t\r ") P.k4⟩, ⟨PyData.keyHash w.params (Str.ofString "pushback"), .str (Str.ofString "pushback") P.k5, .ref P.pb⟩] 4) ::
    (P.x1, instObj 59 P.d1) :: (P.d1, dictOf [⟨PyData.keyHash w.params (Str.ofString "lineno"), .str (Str.ofString "lineno") P.j1, P.v1⟩, ⟨PyData.keyHash w.params (Str.ofString "instream"), .str (Str.ofString "instream") P.j2, P.v2⟩, ⟨PyData.keyHash w.params (Str.ofString "whitespace"), .str (Str.ofString "whitespace") P.j3, P.v3⟩, ⟨PyData.keyHash w.params (Str.ofString "pushback"), .str (Str.ofString "pushback") P.j4, P.v4⟩, ⟨PyData.keyHash w.params (Str.ofString "read"), .str (Str.ofString "read") P.j5, .ref P.f⟩] 5) ::
    (P.f, kla_obj (Str.ofString "<lambda>") P.qual lamParams lamBody lamScope [(Str.ofString "left", P.ce)] P.pm P.c₁ P.ctv) :: (P.c₁, P.oc) :: (P.ce, P.oce) :: (P.l, W.listOf vs.toArray ep) :: rest
structure LexP.Ok (P : LexP) (rest : List (Addr × Obj)) : Prop where
  hoc : P.oc.data = .fields P.ocv
  hocv : P.ocv[1]? = some (.str P.qual P.tq)
  hce : P.oce.data = .cell (some (.ref P.l))
  h1 : P.l < P.ce
  h2 : P.ce < P.d1
  h3 : P.d1 < P.x1
  h4 : P.x1 < P.c₁
  h5 : P.c₁ < P.f
  h6 : P.f < P.d2
  h7 : P.d2 < P.x2
  hr1 : ∀ p ∈ rest, p.1 ≠ P.d2
  hr2 : ∀ p ∈ rest, p.1 ≠ P.l
/-- the values are one-sign texts of these codes -/
def SignsAre : List Value → List Nat → Prop
  | [], [] => True
  | v :: vs, c :: cs => (∃ t, v = .str ⟨#[c]⟩ t) ∧ SignsAre vs cs
  | _, _ => False
theorem SignsAre.all : ∀ {vs : List Value} {cs : List Nat}, SignsAre vs cs → ∀ v ∈ vs, ∃ c t, v = .str ⟨#[c]⟩ t
  | [], [], _, _, h => nomatch h
  | _ :: _, c :: _, ⟨⟨t, e⟩, _⟩, _, .head _ => ⟨c, t, e⟩
  | _ :: _, _ :: _, ⟨_, r⟩, v, .tail _ h => SignsAre.all r v h
theorem SignsAre.len : ∀ {vs : List Value} {cs : List Nat}, SignsAre vs cs → vs.length = cs.length
  | [], [], _ => rfl
  | _ :: _, _ :: _, ⟨_, r⟩ => by rw [List.length_cons, List.length_cons, SignsAre.len r]

theorem read_lex (w : World) (p : Program) (loose : List Str) (mean : ExcName → Option Value) (mg mb : Str → Option Value) (P : LexP) (rest : List (Addr × Obj)) (ok : P.Ok rest) (ln : Int) (tln ep : Nat) (vs : List Value) (cs₀ : List Nat) (hv : SignsAre vs cs₀) (hlen : cs₀.length ≤ 100)
    (dp un : Nat) (gd : Option (List Code)) (cn : Str) (cs : Scope) (a : Addr) (ccd : Value) (cl : List (Str × Addr)) (outer : List Env) (A₀ : Around) (base h₀ : Heap) (L : Addr) (m : Str → Option Value) (s : Shared) (R : Result → Shared → Prop)
    (hCH : CodeHd base 174 170) (B : Below A₀ base outer h₀) (F : Fr h₀ L s.heap m) (X : (hd.heap_39 w.params).In h₀) (N : News h₀ L s.heap (P.led w ln tln vs ep rest)) (Tp : Top p loose mean mg mb h₀) (hcs : cs.kind = .function)
    (hdp : dp + 30 < recursionLimit) (hun : un + 300 < cLine)
    (hR0 : cs₀ = [] → ∀ t h' tk', s.toks ≤ tk' → Fr h₀ L h' m → News h₀ L h' (P.led w ln tln [] ep rest) → R (.ok (.ret (.str (Str.ofString "") t))) { s with heap := h', toks := tk' })
    (hR1 : ∀ c t r cr, cs₀ = c :: cr → SignsAre r cr → ∀ tln' h' tk', s.toks ≤ tk' → Fr h₀ L h' m → News h₀ L h' (P.led w (if c = 10 then ln + 1 else ln) tln' r (ep + 1) rest) → R (.ok (.ret (.str ⟨#[c]⟩ t))) { s with heap := h', toks := tk' }) :
    codeAny (model PySem.Challenge.rw_pe0091_01.row.prog w) (ktrTop dp un gd cn cs L a ccd cl outer) (.call (.ref 42) ⟨[.ref P.x2], []⟩) R s := by
  refine codeAny_with_toks (Nat.le_refl _) ?_
  refine read_cb w p loose mean mg mb P.x2 P.d2 P.x1 P.d1 P.f P.c₁ P.ce P.l P.pb P.oc P.oce P.k1 P.k2 P.k3 P.k4 P.k5 P.j1 P.j2 P.j3 P.j4 P.j5 tln ep P.v1 P.v2 P.v3 P.v4 P.pm P.ctv P.qual ln vs P.ocv P.tq rest ok.hoc ok.hocv ok.hce ok.h1 ok.h2 ok.h3 ok.h4 ok.h5 ok.h6 ok.h7 ok.hr1 ok.hr2 dp un gd cn cs a ccd cl outer A₀ base h₀ L m s _ hCH B F X N Tp hcs hdp hun (by rw [hv.len]; exact hlen) ?_ ?_ hv.all
  · rintro rfl t h' tk' F' N' htk
    cases cs₀ with
    | nil => exact hR0 rfl t h' tk' htk F' N'
    | cons c r => exact hv.elim
  · rintro c t r rfl tln' h' tk' F' N' htk
    cases cs₀ with
    | nil => exact hv.elim
    | cons c₂ cr =>
      obtain ⟨⟨t₂, e⟩, hv'⟩ := hv
      have e1 : c = c₂ := by injection e with e1 e2; simpa using e1
      subst e1
      exact hR1 c t r cr rfl hv' tln' h' tk' htk F' N'
end Mine
end
section
open PySem PySem.W PyProof.Rows
namespace Mine
section
variable (w : World) (p : Program) (loose : List Str) (mean : ExcName → Option Value) (mg mb : Str → Option Value) (P : LexP) (rest : List (Addr × Obj))
    (dp un : Nat) (gd : Option (List Code)) (cn : Str) (cs : Scope) (a : Addr) (ccd : Value) (cl : List (Str × Addr)) (outer : List Env) (A₀ : Around) (base h₀ : Heap) (L : Addr)

/-- the ledger in get_token: the lexer, the iterator I, the bound method q -/
abbrev ciLed (w : World) (P : LexP) (I q : Nat) (oI : Obj) (ln : Int) (tln : Nat) (vs : List Value) (ep : Nat) (rest : List (Addr × Obj)) : List (Addr × Obj) :=
  P.led w ln tln vs ep ((I, oI) :: (q, methodObj (.ref 42) (.ref P.x2)) :: rest)

structure CiOk (P : LexP) (I q : Nat) (rest : List (Addr × Obj)) : Prop where
  ok : ∀ oI, P.Ok ((I, oI) :: (q, methodObj (.ref 42) (.ref P.x2)) :: rest)
  hI : P.x2 < I
  hq : q ≠ I
  hr : ∀ p ∈ rest, p.1 ≠ I

theorem CiOk.off {P : LexP} {I q : Nat} {rest : List (Addr × Obj)} (ok : CiOk P I q rest) {w : World} {ln : Int} {tln : Nat} {vs : List Value} {ep : Nat} :
    ∀ p ∈ P.led w ln tln vs ep ((q, methodObj (.ref 42) (.ref P.x2)) :: rest), p.1 ≠ I := by
  have k := ok.ok ciEnd
  have h1 := k.h1; have h2 := k.h2; have h3 := k.h3; have h4 := k.h4; have h5 := k.h5; have h6 := k.h6; have h7 := k.h7; have h8 := ok.hI
  have g2 := Nat.lt_trans h7 h8
  have g3 := Nat.lt_trans h6 g2
  have g4 := Nat.lt_trans h5 g3
  have g5 := Nat.lt_trans h4 g4
  have g6 := Nat.lt_trans h3 g5
  have g7 := Nat.lt_trans h2 g6
  have g8 := Nat.lt_trans h1 g7
  show ∀ p ∈ (_ :: _ :: _ :: _ :: _ :: _ :: _ :: _ :: _ :: _ : List (Addr × Obj)), p.1 ≠ I
  exact List.forall_mem_cons.mpr ⟨Nat.ne_of_lt h8, List.forall_mem_cons.mpr ⟨Nat.ne_of_lt g2, List.forall_mem_cons.mpr ⟨Nat.ne_of_lt g5, List.forall_mem_cons.mpr ⟨Nat.ne_of_lt g6, List.forall_mem_cons.mpr ⟨Nat.ne_of_lt g3, List.forall_mem_cons.mpr ⟨Nat.ne_of_lt g4, List.forall_mem_cons.mpr ⟨Nat.ne_of_lt g7, List.forall_mem_cons.mpr ⟨Nat.ne_of_lt g8, List.forall_mem_cons.mpr ⟨ok.hq, fun p hp => ok.hr p hp⟩⟩⟩⟩⟩⟩⟩⟩⟩

theorem perm_step {α : Type} {a x y : α} {l l' : List α} (h : x ∈ l ↔ x = y ∨ x ∈ l') : x ∈ a :: l ↔ x = y ∨ x ∈ a :: l' := by
  rw [List.mem_cons, List.mem_cons, h]
  exact or_left_comm
theorem led_perm {w : World} {P : LexP} {I q : Nat} {oI : Obj} {ln : Int} {tln : Nat} {vs : List Value} {ep : Nat} {rest : List (Addr × Obj)} (x : Addr × Obj) :
    x ∈ ciLed w P I q oI ln tln vs ep rest ↔ x = (I, oI) ∨ x ∈ P.led w ln tln vs ep ((q, methodObj (.ref 42) (.ref P.x2)) :: rest) :=
  perm_step (perm_step (perm_step (perm_step (perm_step (perm_step (perm_step (perm_step List.mem_cons)))))))
theorem led_perm2 {w : World} {P : LexP} {y : Addr × Obj} {ln : Int} {tln : Nat} {vs : List Value} {ep : Nat} {rest : List (Addr × Obj)} (x : Addr × Obj) :
    x ∈ P.led w ln tln vs ep (y :: rest) ↔ x = y ∨ x ∈ P.led w ln tln vs ep rest :=
  perm_step (perm_step (perm_step (perm_step (perm_step (perm_step (perm_step (perm_step List.mem_cons)))))))

theorem ci_next (I q : Nat) (t₀ : Tok) (ok : CiOk P I q rest) (ln : Int) (tln ep : Nat) (vs : List Value) (cs₀ : List Nat) (hv : SignsAre vs cs₀) (hlen : cs₀.length ≤ 100)
    (m : Str → Option Value) (s : Shared) (Q : Option Value → Shared → Prop) (E : Value → Shared → Prop)
    (hCH : CodeHd base 174 170) (B : Below A₀ base outer h₀) (F : Fr h₀ L s.heap m) (X : (hd.heap_39 w.params).In h₀) (N : News h₀ L s.heap (ciLed w P I q (ciObj q t₀) ln tln vs ep rest)) (Tp : Top p loose mean mg mb h₀) (hcs : cs.kind = .function)
    (hdp : dp + 30 < recursionLimit) (hun : un + 301 < cLine)
    (hR0 : cs₀ = [] → ∀ h' tk', s.toks ≤ tk' → Fr h₀ L h' m → News h₀ L h' (ciLed w P I q ciEnd ln tln [] ep rest) → Q none { s with heap := h', toks := tk' })
    (hR1 : ∀ c t r cr, cs₀ = c :: cr → SignsAre r cr → ∀ tln' h' tk', s.toks ≤ tk' → Fr h₀ L h' m → News h₀ L h' (ciLed w P I q (ciObj q t₀) (if c = 10 then ln + 1 else ln) tln' r (ep + 1) rest) → Q (some (.str ⟨#[c]⟩ t)) { s with heap := h', toks := tk' }) :
    wpAny (model PySem.Challenge.rw_pe0091_01.row.prog w) (ktrTop dp un gd cn cs L a ccd cl outer) (pyNext (.ref I)) Q E s := by
  have hIm : ∀ {ln : Int} {tln : Nat} {vs : List Value} {ep : Nat} {oI : Obj}, ((I : Addr), oI) ∈ ciLed w P I q oI ln tln vs ep rest := (led_perm _).mpr (.inl rfl)
  have hqm : ∀ {ln : Int} {tln : Nat} {vs : List Value} {ep : Nat} {oI : Obj}, ((q : Addr), methodObj (.ref 42) (.ref P.x2)) ∈ ciLed w P I q oI ln tln vs ep rest := (led_perm _).mpr (.inr (by simp [LexP.led]))
  obtain ⟨ofn, hofn, fd, hfd⟩ : ∃ ofn, h₀.get? 42 = some ofn ∧ ∃ fd, ofn.data = .func fd := ⟨_, X 42 _ (by rfl), _, rfl⟩
  refine next_call (q := q) (fa := 42) (self := .ref P.x2) (t₀ := t₀) rfl (N _ hIm).1 (N _ hqm).1 (F.keep _ _ hofn) hfd ?_
  refine read_lex w p loose mean mg mb P _ (ok.ok _) ln tln ep vs cs₀ hv hlen dp (un + 1) gd cn cs a ccd cl outer A₀ base h₀ L m s _ hCH B F X N Tp hcs hdp (by omega) ?_ ?_
  · intro e t h' tk' htk F' N'
    refine ⟨_, t, rfl, (N' _ hIm).1, (N' _ hqm).1, F'.keep _ _ hofn, fun h => absurd rfl h, fun _ h₂ hI₂ hk₂ => ?_⟩
    have hnI := N' _ (hIm (oI := ciObj q t₀))
    refine hR0 e h₂ tk' htk ⟨F'.ns.at' fun o e => hk₂ _ _ (Ne.symm hnI.2.1) e, fun b o e => hk₂ b o (fun h => by rw [h, hnI.2.2] at e; cases e) (F'.keep b o e), F'.above⟩ fun x hx => ?_
    rcases (led_perm x).mp hx with rfl | hx
    · exact ⟨hI₂, hnI.2⟩
    · have := N' x ((led_perm x).mpr (.inr hx))
      exact ⟨hk₂ _ _ (ok.off x hx) this.1, this.2⟩
  · intro c t r cr e hr tln' h' tk' htk F' N'
    refine ⟨_, t, rfl, (N' _ hIm).1, (N' _ hqm).1, F'.keep _ _ hofn, fun _ => hR1 c t r cr e hr tln' h' tk' htk F' N', fun h => ?_⟩
    have : (⟨#[c]⟩ : Str) = ⟨#[]⟩ := h.trans (by decide +kernel)
    simp at this

theorem For_plain {M : Model} {A : Around} {E : Value → Shared → Prop} {s : Shared} {env : Env} {target iter : Expr} {body orelse : List Stmt} {pos : Pos} {Q : Flow → Shared → Prop}
    (h : wpAny M A (eval iter env) (fun x s₁ => wpAny M A (pyIter x) (fun it s₂ => LoopHere M A target body orelse env Q E it s₂) E s₁) E s)
    (hs : ∀ x, foldedSetIterable iter env x = pure x := by intro _; rfl) :
    wpAny M A (exec (.For target iter body orelse pos) env) Q E s := wpAny_For h hs

/-- the chars' loop between two turns -/
inductive CiJ (w : World) (P : LexP) (I q : Nat) (t₀ : Tok) (rest : List (Addr × Obj)) (h₀ : Heap) (L : Addr) (x y : Str) (m₀ : Str → Option Value) (Inv : Bool → Str → List Nat → Int → Prop) (s : Shared) : Nat → Shared → Prop where
  | mk {h' : Heap} {tk : Nat} {m' : Str → Option Value} {b : Bool} {acc : Str} {tacc : Tok} {c : List Nat} {vs : List Value} {ln : Int} {tln ep : Nat} (F : Fr h₀ L h' m') (N : News h₀ L h' (ciLed w P I q (if b = true then ciObj q t₀ else ciEnd) ln tln vs ep rest)) (hv : SignsAre vs c)
      (hm : ∀ z, z ≠ x → m' z = if z = y then some (.str acc tacc) else m₀ z) (hj : Inv b acc c ln) : CiJ w P I q t₀ rest h₀ L x y m₀ Inv s c.length { s with heap := h', toks := tk }
/-- a turn's end of that loop -/
def CiPost (J : Nat → Shared → Prop) (k : Nat) (Q : Flow → Shared → Prop) (f : Flow) (s₂ : Shared) : Prop :=
  match f with
  | .ret v => Q (.ret v) s₂
  | .brk => False
  | _ => ∃ n, n < k ∧ J n s₂
theorem ci_loop {body : List Stmt} {px : Pos} (I q : Nat) (t₀ : Tok) (ok : CiOk P I q rest) (x y : Str) (m₀ : Str → Option Value) (Inv : Bool → Str → List Nat → Int → Prop) (hInv : ∀ b acc c ln, Inv b acc c ln → c.length ≤ 100)
    (hx : (envX cn cs L a ccd cl).kindOf x = some .local) (hcs : cs.kind = .function)
    (b : Bool) (acc : Str) (tacc : Tok) (ln : Int) (tln ep : Nat) (vs : List Value) (cs₀ : List Nat) (hv : SignsAre vs cs₀) (hj : Inv b acc cs₀ ln)
    (m : Str → Option Value) (s : Shared) (Q : Flow → Shared → Prop) (E : Value → Shared → Prop)
    (hCH : CodeHd base 174 170) (B : Below A₀ base outer h₀) (F : Fr h₀ L s.heap m) (X : (hd.heap_39 w.params).In h₀) (N : News h₀ L s.heap (ciLed w P I q (if b = true then ciObj q t₀ else ciEnd) ln tln vs ep rest)) (Tp : Top p loose mean mg mb h₀)
    (hm : ∀ z, z ≠ x → m z = if z = y then some (.str acc tacc) else m₀ z)
    (hdp : dp + 30 < recursionLimit) (hun : un + 301 < cLine)
    (turn : ∀ acc tacc c t cr r ln tln ep h tk (TP : Flow → Shared → Prop), (∀ v s', Q (.ret v) s' → TP (.ret v) s') →
      (∀ f, f = .next ∨ f = .cont → ∀ (b : Bool) {h' tk' m' acc tacc c' vs ln tln ep}, Fr h₀ L h' m' → News h₀ L h' (ciLed w P I q (if b = true then ciObj q t₀ else ciEnd) ln tln vs ep rest) → SignsAre vs c' → (∀ z, z ≠ x → m' z = if z = y then some (.str acc tacc) else m₀ z) → Inv b acc c' ln → c'.length < (c :: cr).length → TP f { s with heap := h', toks := tk' }) →
      Inv true acc (c :: cr) ln → SignsAre r cr → Fr h₀ L h (fun z => if z = x then some (.str ⟨#[c]⟩ t) else if z = y then some (.str acc tacc) else m₀ z) →
      News h₀ L h (ciLed w P I q (ciObj q t₀) (if c = 10 then ln + 1 else ln) tln r ep rest) →
      wpAny (model PySem.Challenge.rw_pe0091_01.row.prog w) (ktrTop dp un gd cn cs L a ccd cl outer) (execs body (envX cn cs L a ccd cl)) TP (fun _ _ => False) { s with heap := h, toks := tk })
    (exit : ∀ (u : Str → Option Value) b acc tacc c vs ln tln ep h tk, Inv b acc c ln → (b = true → c = []) → SignsAre vs c → Fr h₀ L h (fun z => if z = x then u z else if z = y then some (.str acc tacc) else m₀ z) →
      News h₀ L h (ciLed w P I q ciEnd ln tln vs ep rest) → Q .next { s with heap := h, toks := tk }) :
    LoopHere (model PySem.Challenge.rw_pe0091_01.row.prog w) (ktrTop dp un gd cn cs L a ccd cl outer) (.Name x px) body [] (envX cn cs L a ccd cl) Q E (.ref I) s := by
  have hIm : ∀ {ln : Int} {tln : Nat} {vs : List Value} {ep : Nat} {oI : Obj}, ((I : Addr), oI) ∈ ciLed w P I q oI ln tln vs ep rest := (led_perm _).mpr (.inl rfl)
  have hpk : ((envX cn cs L a ccd cl).scope.kind == .class || ((envX cn cs L a ccd cl).scope.kind == .module && (envX cn cs L a ccd cl).locals != (envX cn cs L a ccd cl).globals)) = false := by
    show (cs.kind == .class || (cs.kind == .module && _)) = false
    rw [hcs]; rfl
  have shape : ∀ (m' : Str → Option Value) (acc : Str) (tacc : Tok), (∀ z, z ≠ x → m' z = if z = y then some (.str acc tacc) else m₀ z) → m' = fun z => if z = x then m' z else if z = y then some (.str acc tacc) else m₀ z := fun m' acc tacc h =>
    funext fun z => if e : z = x then (if_pos e).symm else (h z e).trans (if_neg e).symm
  refine codeAny_forLoop (CiJ w P I q t₀ rest h₀ L x y m₀ Inv s) ?_ cs₀.length (CiJ.mk (h' := s.heap) (tk := s.toks) F N hv hm hj)
  rintro _ _ (@⟨h', tk, m', b, acc, tacc, c, vs, ln, tln, ep, F', N', hv', hm', hj'⟩)
  cases b with
  | false =>
    have N'' : News h₀ L h' (ciLed w P I q ciEnd ln tln vs ep rest) := N'
    refine next_ended rfl (N'' _ hIm).1 fun h₂ hk₂ => wpAny_execs_nil ?_
    refine exit m' false acc tacc c vs ln tln ep h₂ tk hj' (fun h => nomatch h) hv' ?_ fun z hz => ⟨hk₂ _ _ (N'' z hz).1, (N'' z hz).2⟩
    rw [← shape m' acc tacc hm']
    exact ⟨F'.ns.at' fun o e => hk₂ _ _ e, fun b o e => hk₂ b o (F'.keep b o e), F'.above⟩
  | true =>
    have N'' : News h₀ L h' (ciLed w P I q (ciObj q t₀) ln tln vs ep rest) := N'
    refine ci_next w p loose mean mg mb P rest dp un gd cn cs a ccd cl outer A₀ base h₀ L I q t₀ ok ln tln ep vs c hv' (hInv _ _ _ _ hj') m' _ _ _ hCH B F' X N'' Tp hcs hdp hun ?_ ?_
    · rintro rfl h₂ tk₂ _ F₂ N₂
      refine wpAny_execs_nil ?_
      refine exit m' true acc tacc [] [] ln tln ep h₂ tk₂ hj' (fun _ => rfl) trivial ?_ N₂
      rw [← shape m' acc tacc hm']
      exact F₂
    · rintro c₂ t r cr rfl hr tln₂ h₂ tk₂ _ F₂ N₂
      refine wpAny_assign_Name (wpAny_storeName_local hx F₂.ns (fun h₃ hn₃ hs₃ => ?_) hpk)
      have F₃ := F₂.set hn₃ hs₃
      have N₃ := N₂.set hs₃
      rw [fr_same hm'] at F₃
      refine wpAny_mono (turn acc tacc c₂ t cr r ln tln₂ (ep + 1) h₃ _ (CiPost (CiJ w P I q t₀ rest h₀ L x y m₀ Inv s) (c₂ :: cr).length Q) (fun _ _ h => h) (fun f hf b _ _ _ _ _ c₄ _ _ _ _ F₄ N₄ hv₄ hm₄ hj₄ hl₄ => ?_) hj' hr F₃ N₃) (fun f s₃ h₃ => ?_) fun _ _ e => e.elim
      · rcases hf with rfl | rfl <;> exact ⟨c₄.length, hl₄, CiJ.mk F₄ N₄ hv₄ hm₄ hj₄⟩
      · cases f with
        | ret v => exact h₃
        | brk => exact h₃.elim
        | next => exact h₃
        | cont => exact h₃
end
end Mine
end
section
open PySem PySem.W PyProof.Rows
namespace Mine
/-- a word's signs up to the first one that stops it; what a backslash hides is taken -/
def scan (stop : Nat → Bool) : List Nat → List Nat × List Nat
  | [] => ([], [])
  | [c] => if stop c then ([], []) else if c = 92 then ([], []) else ([c], [])
  | c :: d :: r => if stop c then ([], d :: r) else if c = 92 then (d :: (scan stop r).1, (scan stop r).2) else (c :: (scan stop (d :: r)).1, (scan stop (d :: r)).2)
def wsStr : Str := Str.ofString "\n\t\x0d "
def blank (c : Nat) : Bool := hasS wsStr c
def isQ (c : Nat) : Bool := c == 34
/-- the next word and what is left behind it -/
def tok : List Nat → List Nat × List Nat
  | [] => ([], [])
  | c :: r => if blank c then tok r else if c = 34 then scan isQ r else scan blank (c :: r)
theorem scan_nil {stop : Nat → Bool} : scan stop [] = ([], []) := rfl
theorem scan_stop {stop : Nat → Bool} {c : Nat} {r : List Nat} (h : stop c = true) : scan stop (c :: r) = ([], r) := by
  cases r with
  | nil => simp [scan, h]
  | cons d r => simp [scan, h]
theorem scan_end {stop : Nat → Bool} (h : stop 92 = false) : scan stop [92] = ([], []) := by simp [scan, h]
theorem scan_hide {stop : Nat → Bool} {d : Nat} {r : List Nat} (h : stop 92 = false) : scan stop (92 :: d :: r) = (d :: (scan stop r).1, (scan stop r).2) := by simp [scan, h]
theorem scan_take {stop : Nat → Bool} {c : Nat} {r : List Nat} (h : stop c = false) (hc : c ≠ 92) : scan stop (c :: r) = (c :: (scan stop r).1, (scan stop r).2) := by
  cases r with
  | nil => simp [scan, h, hc]
  | cons d r => simp [scan, h, hc]
def cnt (cs : List Nat) : Int := (cs.countP (· == 10) : Nat)
theorem cnt_cons (c : Nat) (cs : List Nat) (ln : Int) : (if c = 10 then ln + 1 else ln) + cnt cs = ln + cnt (c :: cs) := by
  unfold cnt
  rw [List.countP_cons]
  by_cases h : c = 10
  · simp [h]; omega
  · simp [h]
/-- within a word -/
structure ScanInv (stop : Nat → Bool) (W R : List Nat) (C : Int) (b : Bool) (acc : Str) (cs : List Nat) (ln : Int) : Prop where
  live : b = true
  word : acc.cps.toList ++ (scan stop cs).1 = W
  rest : (scan stop cs).2 = R
  line : ln + cnt cs = C
  len : acc.length + cs.length ≤ 60
/-- ahead of a word, or behind the last one -/
structure OutInv (W R : List Nat) (C : Int) (b : Bool) (acc : Str) (cs : List Nat) (ln : Int) : Prop where
  line : ln + cnt cs = C
  len : cs.length ≤ 27
  live : b = true → acc = Str.ofString "" ∧ tok cs = (W, R)
  dead : b = false → acc.cps.toList = W ∧ cs = [] ∧ R = []
section
variable {stop : Nat → Bool} {W R : List Nat} {C ln : Int} {b : Bool} {acc : Str} {cs : List Nat} {c d : Nat}
theorem str_app (acc : Str) (c : Nat) : (acc ++ (⟨#[c]⟩ : Str)).cps.toList = acc.cps.toList ++ [c] := by
  show (acc.cps ++ #[c]).toList = _
  simp
theorem str_app_len (acc : Str) (c : Nat) : (acc ++ (⟨#[c]⟩ : Str)).length = acc.length + 1 := by
  show (acc.cps ++ #[c]).size = _
  simp [Str.length]
theorem ScanInv.take (h : ScanInv stop W R C b acc (c :: cs) ln) (hs : stop c = false) (hc : c ≠ 92) : ScanInv stop W R C true (acc ++ (⟨#[c]⟩ : Str)) cs (if c = 10 then ln + 1 else ln) := by
  have e := scan_take (r := cs) hs hc
  refine ⟨rfl, ?_, ?_, ?_, ?_⟩
  · rw [← h.word, e, str_app]; simp
  · rw [← h.rest, e]
  · rw [cnt_cons]; exact h.line
  · have := h.len; rw [str_app_len]; simp only [List.length_cons] at this; omega
theorem ScanInv.hide (h : ScanInv stop W R C b acc (92 :: d :: cs) ln) (hs : stop 92 = false) : ScanInv stop W R C true (acc ++ (⟨#[d]⟩ : Str)) cs (if d = 10 then ln + 1 else ln) := by
  have e := scan_hide (d := d) (r := cs) hs
  refine ⟨rfl, ?_, ?_, ?_, ?_⟩
  · rw [← h.word, e, str_app]; simp
  · rw [← h.rest, e]
  · rw [cnt_cons]
    have := h.line
    rw [← cnt_cons] at this
    simpa using this
  · have := h.len; rw [str_app_len]; simp only [List.length_cons] at this; omega
theorem ScanInv.last (h : ScanInv stop W R C b acc [92] ln) (hs : stop 92 = false) : ScanInv stop W R C true (acc ++ Str.ofString "") [] ln := by
  have e := scan_end hs
  have ee : acc ++ Str.ofString "" = acc := by
    have : Str.ofString "" = ⟨#[]⟩ := by decide +kernel
    rw [this]
    show (⟨acc.cps ++ #[]⟩ : Str) = acc
    simp
  rw [ee]
  refine ⟨rfl, ?_, ?_, ?_, ?_⟩
  · rw [← h.word, e]; simp [scan]
  · rw [← h.rest, e]; rfl
  · have := h.line
    rw [← cnt_cons] at this
    simpa using this
  · have := h.len; simp only [List.length_cons, List.length_nil] at this ⊢; omega
theorem ScanInv.stops (h : ScanInv stop W R C b acc (c :: cs) ln) (hs : stop c = true) : acc = ⟨W.toArray⟩ ∧ cs = R ∧ (if c = 10 then ln + 1 else ln) = C - cnt R := by
  have e := scan_stop (r := cs) hs
  have h1 := h.word
  have h2 := h.rest
  rw [e] at h1 h2
  refine ⟨?_, h2, ?_⟩
  · have : acc.cps.toList = W := by simpa using h1
    rw [← this]
  · have := h.line
    rw [← cnt_cons] at this
    dsimp only at h2
    rw [← h2]
    omega
theorem ScanInv.exit (h : ScanInv stop W R C b acc [] ln) : OutInv W R C false acc [] ln := by
  refine ⟨h.line, by simp, (fun e => nomatch e), fun _ => ⟨?_, rfl, ?_⟩⟩
  · have := h.word; simpa [scan] using this
  · have := h.rest; simpa [scan] using this.symm
theorem OutInv.skip (h : OutInv W R C true acc (c :: cs) ln) (hb : blank c = true) : OutInv W R C true acc cs (if c = 10 then ln + 1 else ln) := by
  obtain ⟨e1, e2⟩ := h.live rfl
  refine ⟨by rw [cnt_cons]; exact h.line, by have := h.len; simp only [List.length_cons] at this; omega, fun _ => ⟨e1, ?_⟩, (fun e => nomatch e)⟩
  rw [← e2, tok, if_pos hb]
theorem empty_is : Str.ofString "" = ⟨#[]⟩ := by decide +kernel
theorem OutInv.quoted (h : OutInv W R C true acc (34 :: cs) ln) (hb : blank 34 = false) : ScanInv isQ W R C true acc cs ln := by
  obtain ⟨e1, e2⟩ := h.live rfl
  rw [tok, if_neg (by simp [hb]), if_pos rfl] at e2
  subst e1
  refine ⟨rfl, ?_, by rw [e2], ?_, ?_⟩
  · rw [e2, empty_is]; simp
  · have := h.line
    rw [← cnt_cons] at this
    simpa using this
  · have := h.len
    rw [empty_is]
    simp only [List.length_cons] at this
    show 0 + _ ≤ _
    omega
theorem OutInv.plain (h : OutInv W R C true acc (c :: cs) ln) (hb : blank c = false) (hq : c ≠ 34) : ScanInv blank W R C true acc (c :: cs) ln := by
  obtain ⟨e1, e2⟩ := h.live rfl
  rw [tok, if_neg (by simp [hb]), if_neg hq] at e2
  subst e1
  refine ⟨rfl, ?_, by rw [e2], h.line, ?_⟩
  · rw [e2, empty_is]; simp
  · have := h.len
    rw [empty_is]
    show 0 + _ ≤ _
    omega
theorem OutInv.exit (h : OutInv W R C b acc cs ln) (hb : b = true → cs = []) : acc = ⟨W.toArray⟩ ∧ cs = R ∧ ln = C - cnt R := by
  cases b with
  | true =>
    have := hb rfl
    subst this
    obtain ⟨e1, e2⟩ := h.live rfl
    simp only [tok, Prod.mk.injEq] at e2
    obtain ⟨rfl, rfl⟩ := e2
    refine ⟨by rw [e1, empty_is], rfl, ?_⟩
    have := h.line
    omega
  | false =>
    obtain ⟨e1, rfl, rfl⟩ := h.dead rfl
    refine ⟨by rw [← e1], rfl, ?_⟩
    have := h.line
    omega
theorem blank_92 : blank 92 = false := by decide +kernel
theorem blank_34 : blank 34 = false := by decide +kernel
theorem isQ_92 : isQ 92 = false := rfl
end
end Mine
end
section
open PySem PySem.W PyProof.Rows
set_option maxRecDepth 100000
namespace Mine
/-- here the walk stands still -/
def Hold (P : Prop) : Prop := P
theorem hold {P : Prop} (h : Hold P) : P := h
theorem holdC (a : Nat) {M : Model} {A : Around} {vs : List Value} {Q E : Value → Shared → Prop} {s : Shared} (h : Hold (wpAny M A (call (.ref a) vs) Q E s)) : wpAny M A (call (.ref a) vs) Q E s := h
theorem holdI {M : Model} {A : Around} {v i : Expr} {a : Addr} {k : Int} {t : Tok} {Q E : Value → Shared → Prop} {s : Shared} (h : Hold (wpAny M A (subscriptTail v i (.ref a) (.int k t)) Q E s)) : wpAny M A (subscriptTail v i (.ref a) (.int k t)) Q E s := h
theorem Hold.out {P : Prop} (h : P) : Hold P := h
theorem slot_ci_iter : Slot "callable_iterator" "__iter__" "callable_iterator.__iter__" :=
  .of (owner := "callable_iterator") (n := "__iter__") (by rw [typeLookup_type, builtinLookup_eq_fast]; kernel_rfl) (by decide +kernel) (by decide +kernel) (by decide +kernel)
    (by first | exact .inl (by decide +kernel) | exact .inr (by decide +kernel)) (by rw [isSubtype_type]; kernel_rfl)
theorem entry_ci_iter : entryFor table "callable_iterator.__iter__" = some Builtin.«dict_keyiterator.__iter__» :=
  entryFor_alias (id' := "dict_keyiterator.__iter__") (by kernel_rfl) rfl (by decide +kernel) (by kernel_rfl)
theorem args_ci_iter (a : Value) : argsOk "callable_iterator.__iter__" ⟨[a], []⟩ := by unfold argsOk; kernel_rfl
section
variable {prog : Program} {w : World} {A : Around} {E : Value → Shared → Prop} {s : Shared} {it q : Addr} {t₀ : Tok} {self : Value}
theorem pyIter_ci {Q : Value → Shared → Prop} (hit : s.heap.get? it = some (ciObj q t₀)) (h : Q (.ref it) s) : wpAny (model prog w) A (pyIter (.ref it)) Q E s := by
  have hT : s.TypeIs (.ref it) "callable_iterator" := ⟨_, hit, rfl⟩
  refine wpAny_pyIter_slot hT slot_ci_iter (wpAny_call_entry slot_ci_iter hT entry_ci_iter ?_ (args_ci_iter _))
  show wpAny _ _ (ret (.ref it)) _ _ s
  exact wpAny_pure ⟨_, rfl, "callable_iterator", _, hT, slot_ci_next.lookup, h⟩
theorem iter_K {f : Value} {h₀ : Heap} {L : Addr} {m : Str → Option Value} {news : List (Addr × Obj)} {Q : Value → Shared → Prop} (F : Fr h₀ L s.heap m) (N : News h₀ L s.heap news) (hq : (q, methodObj f self) ∈ news)
    (h : ∀ I h', Fr h₀ L h' m → News h₀ L h' ((I, ciObj q t₀) :: news) → (∀ p ∈ news, p.1 < I) → Q (.ref I) { s with heap := h' }) :
    wpAny (model prog w) A (call (.builtin "iter") [.ref q, .str (Str.ofString "") t₀]) Q E s :=
  iter_call (f := f) (self := self) (N _ hq).1 (h s.heap.objs.size (s.heap.push (ciObj q t₀)) (F.push _) (N.push F (ciObj q t₀) rfl) fun p hp => Heap.lt_size (N p hp).1)
end
theorem allLt_mem {d : Nat} (l : List (Addr × Obj)) : AllLt d l → ∀ p ∈ l, @LT.lt Nat _ p.1 d := by
  induction l with
  | nil => intro _ p hp; simp at hp
  | cons x r ih =>
    intro h p hp
    rcases List.mem_cons.mp hp with e | hp
    · rw [e]; exact h.1
    · exact ih h.2 p hp
theorem ciOk_of {P : LexP} {I q np : Nat} {rest : List (Addr × Obj)} (ok : P.Ok ((P.pb, W.listOf #[] np) :: rest)) (hqx : P.x2 < q) (hqI : q < I) (hpb : P.pb < I) (hr : AllLt I rest) :
    CiOk P I q ((P.pb, W.listOf #[] np) :: rest) := by
  have h7 := ok.h7
  obtain ⟨_, _, _, _, _, _, hl, _⟩ := led_lt ok.h1 ok.h2 ok.h3 ok.h4 ok.h5 ok.h6 h7
  have d1 := Nat.lt_trans h7 hqx
  have d2 := Nat.lt_trans d1 hqI
  refine ⟨fun oI => ⟨ok.hoc, ok.hocv, ok.hce, ok.h1, ok.h2, ok.h3, ok.h4, ok.h5, ok.h6, h7, ?_, ?_⟩, Nat.lt_trans hqx hqI, Nat.ne_of_lt hqI, ?_⟩
  · intro p hp
    rcases List.mem_cons.mp hp with rfl | hp
    · exact Nat.ne_of_gt d2
    · rcases List.mem_cons.mp hp with rfl | hp
      · exact Nat.ne_of_gt d1
      · exact ok.hr1 p hp
  · intro p hp
    rcases List.mem_cons.mp hp with rfl | hp
    · exact Nat.ne_of_gt (Nat.lt_trans hl d2)
    · rcases List.mem_cons.mp hp with rfl | hp
      · exact Nat.ne_of_gt (Nat.lt_trans hl d1)
      · exact ok.hr2 p hp
  · intro p hp
    rcases List.mem_cons.mp hp with rfl | hp
    · exact Nat.ne_of_lt hpb
    · exact Nat.ne_of_lt (allLt_mem _ hr p hp)
theorem ciLed_of {w : World} {P : LexP} {I q : Nat} {oI : Obj} {ln : Int} {tln : Nat} {vs : List Value} {ep : Nat} {rest : List (Addr × Obj)} {h₀ h : Heap} {L : Addr}
    (N : News h₀ L h ((I, oI) :: (q, methodObj (.ref 42) (.ref P.x2)) :: P.led w ln tln vs ep rest)) : News h₀ L h (ciLed w P I q oI ln tln vs ep rest) := fun x hx => N x (by
  rcases (led_perm x).mp hx with h | hx
  · exact h ▸ .head _
  · rcases (led_perm2 x).mp hx with h | hx
    · exact h ▸ .tail _ (.head _)
    · exact .tail _ (.tail _ hx))
theorem ciLed_to {w : World} {P : LexP} {I q : Nat} {oI : Obj} {ln : Int} {tln : Nat} {vs : List Value} {ep : Nat} {rest : List (Addr × Obj)} {h₀ h : Heap} {L : Addr}
    (N : News h₀ L h (ciLed w P I q oI ln tln vs ep rest)) : News h₀ L h (P.led w ln tln vs ep rest) := fun x hx => N x ((led_perm x).mpr (.inr ((led_perm2 x).mpr (.inr hx))))
section
variable {prog : Program} {w : World} {A : Around} {E : Value → Shared → Prop} {s : Shared} {acc : Str} {c : Nat} {t u : Tok} {Q : Value → Shared → Prop}
theorem iadd_one (hal : acc.length ≤ 60) (h : ∀ t' tk, Q (.str (acc ++ (⟨#[c]⟩ : Str)) t') { s with toks := tk }) : wpAny (model prog w) A (inplaceOp .Add (.str acc t) (.str ⟨#[c]⟩ u)) Q E s :=
  PyProof.Rows.iadd_str h (by
    have : (⟨#[c]⟩ : Str).length = 1 := rfl
    rw [this, sizeLine_eq]; omega)
theorem iadd_none (hal : acc.length ≤ 60) (h : ∀ t' tk, Q (.str (acc ++ Str.ofString "") t') { s with toks := tk }) : wpAny (model prog w) A (inplaceOp .Add (.str acc t) (.str (Str.ofString "") u)) Q E s :=
  PyProof.Rows.iadd_str h (by
    have : (Str.ofString "").length = 0 := by decide +kernel
    rw [this, sizeLine_eq]; omega)
theorem q_is : Str.ofString "\"" = ⟨#[34]⟩ := by decide +kernel
theorem q_eq {c : Nat} (h : ((⟨#[c]⟩ : Str) == Str.ofString "\"") = true) : c = 34 := by
  rw [q_is] at h; simpa using h
theorem q_ne {c : Nat} (h : ((⟨#[c]⟩ : Str) == Str.ofString "\"") = false) : c ≠ 34 := by
  rw [q_is] at h; rintro rfl; simp at h
theorem b_is : Str.ofString "\\" = ⟨#[92]⟩ := by decide +kernel
theorem b_eq {c : Nat} (h : ((⟨#[c]⟩ : Str) == Str.ofString "\\") = true) : c = 92 := by
  rw [b_is] at h; simpa using h
theorem b_ne {c : Nat} (h : ((⟨#[c]⟩ : Str) == Str.ofString "\\") = false) : c ≠ 92 := by
  rw [b_is] at h; rintro rfl; simp at h
theorem blank_yes {c : Nat} (h : (Builtin.Str.occurrences (Str.ofString "\n\t\x0d ") ⟨#[c]⟩ 0 (Str.ofString "\n\t\x0d ").length 1).isEmpty = false) : blank c = true := by
  unfold blank hasS wsStr; rw [h]; rfl
theorem blank_no {c : Nat} (h : (Builtin.Str.occurrences (Str.ofString "\n\t\x0d ") ⟨#[c]⟩ 0 (Str.ofString "\n\t\x0d ").length 1).isEmpty = true) : blank c = false := by
  unfold blank hasS wsStr; rw [h]; rfl
end
/-- the lexer's reader called in get_token's own frame -/
theorem read_here {w : World} {p : Program} {loose : List Str} {mean : ExcName → Option Value} {mg mb : Str → Option Value} {P : LexP} {rest : List (Addr × Obj)} {I q : Nat} {oI : Obj} (ok : CiOk P I q rest) {ln : Int} {tln ep : Nat} {vs : List Value} {cs₀ : List Nat} (hv : SignsAre vs cs₀) (hlen : cs₀.length ≤ 100)
    {dp un : Nat} {gd : Option (List Code)} {cn : Str} {cs : Scope} {a : Addr} {ccd : Value} {cl : List (Str × Addr)} {outer : List Env} {A₀ : Around} {base h₀ : Heap} {L : Addr} {m : Str → Option Value} {s : Shared} {Q E : Value → Shared → Prop}
    (hCH : CodeHd base 174 170) (B : Below A₀ base outer h₀) (X : (hd.heap_39 w.params).In h₀) (Tp : Top p loose mean mg mb h₀) (hcs : cs.kind = .function)
    (F : Fr h₀ L s.heap m) (N : News h₀ L s.heap (ciLed w P I q oI ln tln vs ep rest)) (hdp : dp + 30 < recursionLimit) (hun : un + 300 < cLine)
    (hR0 : cs₀ = [] → ∀ t h' tk', Fr h₀ L h' m → News h₀ L h' (ciLed w P I q oI ln tln [] ep rest) → Q (.str (Str.ofString "") t) { s with heap := h', toks := tk' })
    (hR1 : ∀ c t r cr, cs₀ = c :: cr → SignsAre r cr → ∀ tln' h' tk', Fr h₀ L h' m → News h₀ L h' (ciLed w P I q oI (if c = 10 then ln + 1 else ln) tln' r (ep + 1) rest) → Q (.str ⟨#[c]⟩ t) { s with heap := h', toks := tk' }) :
    wpAny (model PySem.Challenge.rw_pe0091_01.row.prog w) (ktrTop dp un gd cn cs L a ccd cl outer) (call (.ref 42) [.ref P.x2]) Q E s :=
  wpAny_call (read_lex w p loose mean mg mb P _ (ok.ok oI) ln tln ep vs cs₀ hv hlen dp un gd cn cs a ccd cl outer A₀ base h₀ L m s _ hCH B F X N Tp hcs hdp hun
    (fun e t h' tk' _ F' N' => hR0 e t h' tk' F' N') (fun c t r cr e hr tln' h' tk' _ F' N' => hR1 c t r cr e hr tln' h' tk' F' N'))
end Mine
end
section
open Mine PyProof.Rows.LCg
local macro_rules | `(tactic| walk_at "exec For") => `(tactic| (k_here; k_dflt (refine For_plain ?_)))
local macro_rules | `(tactic| walk_at "call builtin:iter") => `(tactic| (k_here; k_dflt (refine' iter_K ?F ?N ?q ?_; (case F => k_asm); (case N => k_asm); (case q => k_mem)); intro I' h' F' N' l1; (try k_lt l1)))
local macro_rules | `(tactic| walk_at "pyIter ref") => `(tactic| (k_here; refine hold ?_))
local macro_rules | `(tactic| walk_at "call ref") => `(tactic| (k_here; (with_reducible show wpAny _ _ (call (Value.ref 42) _) _ _ _); refine hold ?_))
local macro_rules | `(tactic| walk_at "inplaceOp Add str str") => `(tactic| (k_here; (with_reducible show wpAny _ _ (inplaceOp _ (Value.str _ _) (Value.str (PySem.Str.mk _) _)) _ _ _); k_dflt (refine iadd_one (by assumption) ?_); intro t' tk'))
local macro_rules | `(tactic| walk_at "inplaceOp Add str str") => `(tactic| (k_here; (with_reducible show wpAny _ _ (inplaceOp _ (Value.str _ _) (Value.str (PySem.Str.ofString "") _)) _ _ _); with_reducible (refine iadd_none (by assumption) ?_); intro t' tk'))
section
open PySem PySem.W PyProof.Rows
namespace Mine
theorem room11 {dp : Nat} (h : dp + 40 < recursionLimit) : dp + 1 + 30 < recursionLimit := Nat.lt_of_le_of_lt (Nat.add_le_add_left (by decide : 31 ≤ 40) dp) h
theorem units11 {un : Nat} (h : un + 400 < cLine) : un + 3 + 301 < cLine := Nat.lt_of_le_of_lt (Nat.add_le_add_left (by decide : 304 ≤ 400) un) h
theorem units12 {un : Nat} (h : un + 400 < cLine) : un + 3 + 300 < cLine := Nat.lt_of_le_of_lt (Nat.add_le_add_left (by decide : 303 ≤ 400) un) h
section
set_option maxRecDepth 100000 in
set_option maxHeartbeats 8000000 in
theorem token_cb (w : World) (p : Program) (loose : List Str) (mean : ExcName → Option Value) (mg mb : Str → Option Value) (P : LexP) (rest : List (Addr × Obj)) (np : Nat) (ok : P.Ok ((P.pb, W.listOf #[] np) :: rest)) (ln : Int) (tln ep : Nat) (vs : List Value) (cs₀ : List Nat) (hv : SignsAre vs cs₀) (hlen : cs₀.length ≤ 27)
    (dp un : Nat) (gd : Option (List Code)) (cn : Str) (cs : Scope) (a : Addr) (ccd : Value) (cl : List (Str × Addr)) (outer : List Env) (A₀ : Around) (base h₀ : Heap) (L : Addr) (m : Str → Option Value) (s : Shared) (Q E : Value → Shared → Prop)
    (hCH : CodeHd base 174 170) (B : Below A₀ base outer h₀) (F : Fr h₀ L s.heap m) (X : (hd.heap_39 w.params).In h₀) (N : News h₀ L s.heap (P.led w ln tln vs ep ((P.pb, W.listOf #[] np) :: rest))) (Tp : Top p loose mean mg mb h₀) (hcs : cs.kind = .function)
    (hdp : dp + 40 < recursionLimit) (hun : un + 400 < cLine)
    (hQ : ∀ t vs' tln' ep' h' tk', SignsAre vs' (tok cs₀).2 → Fr h₀ L h' m → News h₀ L h' (P.led w (ln + cnt cs₀ - cnt (tok cs₀).2) tln' vs' ep' ((P.pb, W.listOf #[] np) :: rest)) → Q (.str ⟨(tok cs₀).1.toArray⟩ t) { s with heap := h', toks := tk' }) :
    wpAny (model PySem.Challenge.rw_pe0091_01.row.prog w) (ktrTop dp un gd cn cs L a ccd cl outer) (call (.ref 49) [.ref P.x2]) Q E s := by
  revert X; k_fill; intro X
  refine wpAny_call ?_
  refine' code_def ?k1 ?k2 ?k3 ?k4 ?k5 ?kA ?kF ?kK ?k6 ?k7 ?k8 ?k9 ?kB ?_ ?c2 ?c3 ?c4 ?c5
  case kA => exact rfl
  case kF => exact rfl
  case kK => assumption
  case k1 => k_asm
  case k2 => k_asm
  case k3 => k_asm
  case k4 => k_asm
  case k5 => k_asm
  case k6 => k_is
  case k7 => k_is
  case k8 => ktr_room
  case k9 => exact BindsTo.of_eq rfl
  case c5 => decide
  case kB => exact locs rfl
  case c2 => exact rfl
  case c3 => exact rfl
  case c4 => exact rfl
  intro g₁ L₁ h₁ FG₁ F₁ N₁ B₁ X₁ T₁
  replace F₁ : Fr g₁ L₁ h₁ (fun y => List.lookup y [(Str.ofString "self", Value.ref P.x2)]) := F₁
  generalize s.toks + _ = tk₁
  try k_fold
  refine noE ?_
  dsimp only [LexP.led] at N₁
  k_steps
  refine wpAny_truthy_list (items := #[]) ⟨_, (N₁ (P.pb, W.listOf #[] np) (by k_mem)).1, rfl, _, rfl⟩ (by decide) ?_
  rw [if_neg (by decide)]
  k_steps
  rename_i q' h2' lq I' h3' lI h4' F₂ N₂
  have okc : CiOk P I' q' ((P.pb, W.listOf #[] np) :: rest) := ciOk_of ok lq.1 lI.1 lI.2.2.2.2.2.2.2.2.2.1 lI.2.2.2.2.2.2.2.2.2.2
  have N₃ := ciLed_of N₂
  refine' (fun (key : ∀ (acc : Str) (tacc : Tok) (ln2 : Int) (tln2 ep2 : Nat) (vs2 : List Value) (cr : List Nat) (m2 : Str → Option Value) (s2 : Shared) (Q2 : Flow → Shared → Prop) (E2 : Value → Shared → Prop), SignsAre vs2 cr → ScanInv blank (tok cs₀).1 (tok cs₀).2 (ln + cnt cs₀) true acc cr ln2 →
      Fr g₁ L₁ s2.heap m2 → News g₁ L₁ s2.heap (ciLed w P I' q' (ciObj q' _) ln2 tln2 vs2 ep2 ((P.pb, W.listOf #[] np) :: rest)) → (∀ z, z ≠ Str.ofString "ch" → m2 z = if z = Str.ofString "token" then some (.str acc tacc) else if z = Str.ofString "fiter" then some (Value.ref I') else List.lookup z [(Str.ofString "self", Value.ref P.x2)]) →
      (∀ t vs3 tln3 ep3 oI m3 h3 tk3, SignsAre vs3 (tok cs₀).2 → Fr g₁ L₁ h3 m3 → News g₁ L₁ h3 (ciLed w P I' q' oI (ln + cnt cs₀ - cnt (tok cs₀).2) tln3 vs3 ep3 ((P.pb, W.listOf #[] np) :: rest)) → Q2 (.ret (.str ⟨(tok cs₀).1.toArray⟩ t)) { s2 with heap := h3, toks := tk3 }) →
      (∀ (u : Str → Option Value) acc3 tacc3 vs3 ln3 tln3 ep3 h3 tk3, OutInv (tok cs₀).1 (tok cs₀).2 (ln + cnt cs₀) false acc3 [] ln3 → SignsAre vs3 [] → Fr g₁ L₁ h3 (fun z => if z = Str.ofString "ch" then u z else if z = Str.ofString "token" then some (.str acc3 tacc3) else if z = Str.ofString "fiter" then some (Value.ref I') else List.lookup z [(Str.ofString "self", Value.ref P.x2)]) → News g₁ L₁ h3 (ciLed w P I' q' ciEnd ln3 tln3 vs3 ep3 ((P.pb, W.listOf #[] np) :: rest)) → Q2 .next { s2 with heap := h3, toks := tk3 }) →
      LoopHere (model PySem.Challenge.rw_pe0091_01.row.prog w) (ktrTop (dp + 1) (un + 3) gd (Str.ofString "_netrclex.get_token") _ L₁ 49 (.ref 48) [] (envX cn cs L a ccd cl :: outer)) (.Name (Str.ofString "ch") _) _ [] (envX (Str.ofString "_netrclex.get_token") _ L₁ 49 (.ref 48) []) Q2 E2 (.ref I') s2) => ?main) ?key
  case main =>
    refine Hold.out (pyIter_ci (N₂ _ (List.Mem.head _)).1 ?_)
    refine' ci_loop w p loose mean mg mb P ((P.pb, W.listOf #[] np) :: rest) (dp + 1) (un + 3) gd (Str.ofString "_netrclex.get_token") _ 49 (.ref 48) [] (envX cn cs L a ccd cl :: outer) _ base g₁ L₁ I' q' _ okc (Str.ofString "ch") (Str.ofString "token")
      (fun z => if z = Str.ofString "fiter" then some (Value.ref I') else List.lookup z [(Str.ofString "self", Value.ref P.x2)]) (OutInv (tok cs₀).1 (tok cs₀).2 (ln + cnt cs₀)) (fun _ _ _ _ h => Nat.le_trans h.len (by decide)) rfl rfl true (Str.ofString "") ?tacc ln tln ep vs cs₀ hv ?hj _ _ _ _ hCH B₁ F₂ X₁ N₃ T₁ ?hm (room11 hdp) (units11 hun) ?turn ?exit
    case hj => exact ⟨rfl, hlen, fun _ => ⟨rfl, rfl⟩, (fun e => nomatch e)⟩
    case hm =>
      intro z hz
      by_cases h1 : z = Str.ofString "token"
      · subst h1; rfl
      · simp only [if_neg h1]
    case exit =>
      intro u b acc tacc c vs' ln' tln' ep' h tk hj hb hv' F' N'
      obtain ⟨e1, e2, e3⟩ := hj.exit hb
      subst e1 e2 e3
      k_steps
      exact hQ _ _ _ _ _ _ hv' (by assumption) (ciLed_to (by assumption))
    case turn =>
      intro acc tacc c t cr r ln' tln' ep' h tk TP hrt hnx hj hr F' N'
      have hal : acc.length ≤ 60 := by rw [(hj.live rfl).1]; decide
      have hcl : cr.length ≤ 26 := Nat.le_of_succ_le_succ hj.len
      dsimp only [ciLed, LexP.led] at N'
      k_steps
      · have hc : c = 34 := q_eq (by assumption)
        subst hc
        have hj2 := hj.quoted blank_34
        rw [if_neg (by decide)] at N'
        with_reducible rename Fr _ _ _ _ => Fx
        with_reducible rename News _ _ _ _ => Nx
        refine Hold.out (pyIter_ci (News.get Nx (by k_mem)) ?_)
        refine' ci_loop w p loose mean mg mb P ((P.pb, W.listOf #[] np) :: rest) (dp + 1) (un + 3) gd (Str.ofString "_netrclex.get_token") _ 49 (.ref 48) [] (envX cn cs L a ccd cl :: outer) _ base g₁ L₁ I' q' _ okc (Str.ofString "ch") (Str.ofString "token")
            (fun z => if z = Str.ofString "fiter" then some (Value.ref I') else List.lookup z [(Str.ofString "self", Value.ref P.x2)]) (ScanInv isQ (tok cs₀).1 (tok cs₀).2 (ln + cnt cs₀)) (fun _ _ _ _ h => Nat.le_trans (Nat.le_trans (Nat.le_add_left _ _) h.len) (by decide)) rfl rfl true acc ?tacc1 _ _ _ r cr hr hj2 _ _ _ _ hCH B₁ Fx X₁ Nx T₁ ?hm1 (room11 hdp) (units11 hun) ?turn1 ?exit1
        case hm1 =>
          intro z hz
          by_cases h9 : z = Str.ofString "token"
          · subst h9; rfl
          · simp only [if_neg hz, if_neg h9]
        case exit1 =>
          intro u b2 acc2 tacc2 c2 vs2 ln2 tln2 ep2 h2 tk2 hj3 hb3 hv3 F3 N3
          have hc9 := hb3 hj3.live
          subst hc9
          k_steps
          refine hnx _ (by first | exact .inl rfl | exact .inr rfl) false (tacc := tacc2) F3 N3 hv3 ?_ hj3.exit (by simp)
          intro z hz
          simp only [if_neg hz]
        case turn1 =>
          intro acc2 tacc2 c2 t2 cr2 r2 ln2 tln2 ep2 h2 tk2 TP2 hrt2 hnx2 hj3 hr3 F3 N3
          have hal2 : acc2.length ≤ 60 := Nat.le_trans (Nat.le_add_right _ _) hj3.len
          have hcl2 : cr2.length ≤ 60 := Nat.le_trans (Nat.le_succ _) (Nat.le_trans (Nat.le_add_left _ _) hj3.len)
          dsimp only [ciLed, LexP.led] at N3
          k_steps
          · have hs9 : isQ c2 = true := (by have h8 : c2 = 34 := q_eq (by assumption); rw [h8]; rfl)
            obtain ⟨e1, e2, e3⟩ := hj3.stops hs9
            subst e1 e2
            rw [e3] at N3
            refine hrt2 _ _ ?_
            try dsimp only
            refine hrt _ _ ?_
            k_steps
            with_reducible rename Fr _ _ _ _ => Fx
            with_reducible rename News _ _ _ _ => Nx
            exact hQ _ _ _ _ _ _ hr3 Fx (ciLed_to Nx)
          · have hc9 : c2 = 92 := b_eq (by assumption)
            subst hc9
            rw [if_neg (by decide)] at N3
            with_reducible rename Fr _ _ _ _ => Fx
            with_reducible rename News _ _ _ _ => Nx
            refine Hold.out (read_here okc hr3 (Nat.le_trans hcl2 (by decide)) hCH B₁ X₁ T₁ rfl Fx Nx (room11 hdp) (units12 hun) ?_ ?_)
            · intro e9 t9 h9 tk9 F9 N9
              subst e9
              dsimp only [ciLed, LexP.led] at N9
              show wpAny _ _ _ _ _ _
              try k_fold
              k_steps
              with_reducible rename Fr _ _ _ _ => Fx
              with_reducible rename News _ _ _ _ => Nx
              refine' hnx2 _ (by first | exact .inl rfl | exact .inr rfl) true (tacc := ?te1) Fx Nx (show SignsAre [] [] from trivial) ?he1 (hj3.last isQ_92) (by first | exact Nat.lt_succ_self _ | exact Nat.lt_succ_of_lt (Nat.lt_succ_self _))
              case he1 =>
                intro z hz
                by_cases h9 : z = Str.ofString "token"
                · subst h9; rfl
                · simp only [if_neg hz, if_neg h9]
            · intro c9 t9 r9 cr9 e9 hr9 tln9 h9 tk9 F9 N9
              subst e9
              dsimp only [ciLed, LexP.led] at N9
              show wpAny _ _ _ _ _ _
              try k_fold
              k_steps
              with_reducible rename Fr _ _ _ _ => Fx
              with_reducible rename News _ _ _ _ => Nx
              refine' hnx2 _ (by first | exact .inl rfl | exact .inr rfl) true (tacc := ?te2) Fx Nx hr9 ?he2 (hj3.hide isQ_92) (by first | exact Nat.lt_succ_self _ | exact Nat.lt_succ_of_lt (Nat.lt_succ_self _))
              case he2 =>
                intro z hz
                by_cases h9 : z = Str.ofString "token"
                · subst h9; rfl
                · simp only [if_neg hz, if_neg h9]
          · have hs9 : isQ c2 = false := (by have h8 : c2 ≠ 34 := q_ne (by assumption); simp [isQ, h8])
            with_reducible rename Fr _ _ _ _ => Fx
            with_reducible rename News _ _ _ _ => Nx
            refine' hnx2 _ (by first | exact .inl rfl | exact .inr rfl) true (tacc := ?te3) Fx Nx hr3 ?he3 (hj3.take hs9 (b_ne (by assumption))) (by first | exact Nat.lt_succ_self _ | exact Nat.lt_succ_of_lt (Nat.lt_succ_self _))
            case he3 =>
              intro z hz
              by_cases h9 : z = Str.ofString "token"
              · subst h9; rfl
              · simp only [if_neg hz, if_neg h9]

      · have hc : c = 92 := b_eq (by assumption)
        subst hc
        have hj1 := hj.plain blank_92 (by decide)
        rw [if_neg (by decide)] at N'
        with_reducible rename Fr _ _ _ _ => Fx
        with_reducible rename News _ _ _ _ => Nx
        refine Hold.out (read_here okc hr (Nat.le_trans hcl (by decide)) hCH B₁ X₁ T₁ rfl Fx Nx (room11 hdp) (units12 hun) ?_ ?_)
        · intro e9 t9 h9 tk9 F9 N9
          subst e9
          dsimp only [ciLed, LexP.led] at N9
          show wpAny _ _ _ _ _ _
          try k_fold
          k_steps
          with_reducible rename Fr _ _ _ _ => Fx
          with_reducible rename News _ _ _ _ => Nx
          refine Hold.out (pyIter_ci (News.get Nx (by k_mem)) ?_)
          refine' key _ ?ta2 _ _ _ _ [] _ _ _ _ (show SignsAre [] [] from trivial) (hj1.last blank_92) Fx Nx ?hm2 ?ret2 ?end2
          case hm2 =>
            intro z hz
            by_cases h9 : z = Str.ofString "token"
            · subst h9; rfl
            · simp only [if_neg hz, if_neg h9]
          case ret2 =>
            intro t3 vs3 tln3 ep3 oI3 m3 h3 tk3 hv3 F3 N3
            try dsimp only
            refine hrt _ _ ?_
            k_steps
            with_reducible rename Fr _ _ _ _ => Fy
            with_reducible rename News _ _ _ _ => Ny
            exact hQ _ _ _ _ _ _ hv3 Fy (ciLed_to Ny)
          case end2 =>
            intro u acc3 tacc3 vs3 ln3 tln3 ep3 h3 tk3 ho hv3 F3 N3
            k_steps
            refine hnx _ (by first | exact .inl rfl | exact .inr rfl) false (tacc := tacc3) F3 N3 hv3 ?_ ho (by simp)
            intro z hz
            simp only [if_neg hz]

        · intro c9 t9 r9 cr9 e9 hr9 tln9 h9 tk9 F9 N9
          subst e9
          dsimp only [ciLed, LexP.led] at N9
          show wpAny _ _ _ _ _ _
          try k_fold
          k_steps
          with_reducible rename Fr _ _ _ _ => Fx
          with_reducible rename News _ _ _ _ => Nx
          refine Hold.out (pyIter_ci (News.get Nx (by k_mem)) ?_)
          refine' key _ ?ta3 _ _ _ _ _ _ _ _ _ hr9 (hj1.hide blank_92) Fx Nx ?hm3 ?ret3 ?end3
          case hm3 =>
            intro z hz
            by_cases h9 : z = Str.ofString "token"
            · subst h9; rfl
            · simp only [if_neg hz, if_neg h9]
          case ret3 =>
            intro t3 vs3 tln3 ep3 oI3 m3 h3 tk3 hv3 F3 N3
            try dsimp only
            refine hrt _ _ ?_
            k_steps
            with_reducible rename Fr _ _ _ _ => Fy
            with_reducible rename News _ _ _ _ => Ny
            exact hQ _ _ _ _ _ _ hv3 Fy (ciLed_to Ny)
          case end3 =>
            intro u acc3 tacc3 vs3 ln3 tln3 ep3 h3 tk3 ho hv3 F3 N3
            k_steps
            refine hnx _ (by first | exact .inl rfl | exact .inr rfl) false (tacc := tacc3) F3 N3 hv3 ?_ ho (by simp)
            intro z hz
            simp only [if_neg hz]

      · have hj1 := hj.plain (blank_no (by assumption)) (q_ne (by assumption))
        have hj2 := hj1.take (blank_no (by assumption)) (b_ne (by assumption))
        with_reducible rename Fr _ _ _ _ => Fx
        with_reducible rename News _ _ _ _ => Nx
        refine Hold.out (pyIter_ci (News.get Nx (by k_mem)) ?_)
        refine' key _ ?ta4 _ _ _ _ _ _ _ _ _ hr hj2 Fx Nx ?hm4 ?ret4 ?end4
        case hm4 =>
          intro z hz
          by_cases h9 : z = Str.ofString "token"
          · subst h9; rfl
          · simp only [if_neg hz, if_neg h9]
        case ret4 =>
          intro t3 vs3 tln3 ep3 oI3 m3 h3 tk3 hv3 F3 N3
          try dsimp only
          refine hrt _ _ ?_
          k_steps
          with_reducible rename Fr _ _ _ _ => Fy
          with_reducible rename News _ _ _ _ => Ny
          exact hQ _ _ _ _ _ _ hv3 Fy (ciLed_to Ny)
        case end4 =>
          intro u acc3 tacc3 vs3 ln3 tln3 ep3 h3 tk3 ho hv3 F3 N3
          k_steps
          refine hnx _ (by first | exact .inl rfl | exact .inr rfl) false (tacc := tacc3) F3 N3 hv3 ?_ ho (by simp)
          intro z hz
          simp only [if_neg hz]

      · refine hnx _ (by first | exact .inl rfl | exact .inr rfl) true (tacc := tacc) F' N' hr ?_ (hj.skip (blank_yes (by assumption))) (by first | exact Nat.lt_succ_self _ | exact Nat.lt_succ_of_lt (Nat.lt_succ_self _))
        intro z hz
        simp only [if_neg hz]
  case key =>
    intro acc tacc ln2 tln2 ep2 vs2 cr m2 s2 Q2 E2 hr hj2 Fx Nx hmx hret hend
    refine' ci_loop w p loose mean mg mb P ((P.pb, W.listOf #[] np) :: rest) (dp + 1) (un + 3) gd (Str.ofString "_netrclex.get_token") _ 49 (.ref 48) [] (envX cn cs L a ccd cl :: outer) _ base g₁ L₁ I' q' _ okc (Str.ofString "ch") (Str.ofString "token")
        (fun z => if z = Str.ofString "fiter" then some (Value.ref I') else List.lookup z [(Str.ofString "self", Value.ref P.x2)]) (ScanInv blank (tok cs₀).1 (tok cs₀).2 (ln + cnt cs₀)) (fun _ _ _ _ h => Nat.le_trans (Nat.le_trans (Nat.le_add_left _ _) h.len) (by decide)) rfl rfl true acc tacc _ _ _ _ cr hr hj2 _ _ _ _ hCH B₁ Fx X₁ Nx T₁ hmx (room11 hdp) (units11 hun) ?turn4 ?exit4
    case exit4 =>
      intro u b2 acc2 tacc2 c2 vs2 ln2 tln2 ep2 h2 tk2 hj3 hb3 hv3 F3 N3
      have hc9 := hb3 hj3.live
      subst hc9
      exact hend _ _ _ _ _ _ _ _ _ hj3.exit hv3 F3 N3
    case turn4 =>
      intro acc2 tacc2 c2 t2 cr2 r2 ln2 tln2 ep2 h2 tk2 TP2 hrt2 hnx2 hj3 hr3 F3 N3
      have hal2 : acc2.length ≤ 60 := Nat.le_trans (Nat.le_add_right _ _) hj3.len
      have hcl2 : cr2.length ≤ 60 := Nat.le_trans (Nat.le_succ _) (Nat.le_trans (Nat.le_add_left _ _) hj3.len)
      dsimp only [ciLed, LexP.led] at N3
      k_steps
      · have hc9 : c2 = 92 := b_eq (by assumption)
        subst hc9
        rw [if_neg (by decide)] at N3
        with_reducible rename Fr _ _ _ _ => Fx
        with_reducible rename News _ _ _ _ => Nx
        refine Hold.out (read_here okc hr3 (Nat.le_trans hcl2 (by decide)) hCH B₁ X₁ T₁ rfl Fx Nx (room11 hdp) (units12 hun) ?_ ?_)
        · intro e9 t9 h9 tk9 F9 N9
          subst e9
          dsimp only [ciLed, LexP.led] at N9
          show wpAny _ _ _ _ _ _
          try k_fold
          k_steps
          with_reducible rename Fr _ _ _ _ => Fx
          with_reducible rename News _ _ _ _ => Nx
          refine' hnx2 _ (by first | exact .inl rfl | exact .inr rfl) true (tacc := ?te10) Fx Nx (show SignsAre [] [] from trivial) ?he10 (hj3.last blank_92) (by first | exact Nat.lt_succ_self _ | exact Nat.lt_succ_of_lt (Nat.lt_succ_self _))
          case he10 =>
            intro z hz
            by_cases h9 : z = Str.ofString "token"
            · subst h9; rfl
            · simp only [if_neg hz, if_neg h9]
        · intro c9 t9 r9 cr9 e9 hr9 tln9 h9 tk9 F9 N9
          subst e9
          dsimp only [ciLed, LexP.led] at N9
          show wpAny _ _ _ _ _ _
          try k_fold
          k_steps
          with_reducible rename Fr _ _ _ _ => Fx
          with_reducible rename News _ _ _ _ => Nx
          refine' hnx2 _ (by first | exact .inl rfl | exact .inr rfl) true (tacc := ?te11) Fx Nx hr9 ?he11 (hj3.hide blank_92) (by first | exact Nat.lt_succ_self _ | exact Nat.lt_succ_of_lt (Nat.lt_succ_self _))
          case he11 =>
            intro z hz
            by_cases h9 : z = Str.ofString "token"
            · subst h9; rfl
            · simp only [if_neg hz, if_neg h9]
      · have hs9 : blank c2 = false := blank_no (by assumption)
        with_reducible rename Fr _ _ _ _ => Fx
        with_reducible rename News _ _ _ _ => Nx
        refine' hnx2 _ (by first | exact .inl rfl | exact .inr rfl) true (tacc := ?te12) Fx Nx hr3 ?he12 (hj3.take hs9 (b_ne (by assumption))) (by first | exact Nat.lt_succ_self _ | exact Nat.lt_succ_of_lt (Nat.lt_succ_self _))
        case he12 =>
          intro z hz
          by_cases h9 : z = Str.ofString "token"
          · subst h9; rfl
          · simp only [if_neg hz, if_neg h9]
      · have hs9 : blank c2 = true := blank_yes (by assumption)
        obtain ⟨e1, e2, e3⟩ := hj3.stops hs9
        subst e1 e2
        rw [e3] at N3
        refine hrt2 _ _ ?_
        with_reducible rename Fr _ _ _ _ => Fx
        with_reducible rename News _ _ _ _ => Nx
        exact hret _ _ _ _ _ _ _ _ hr3 Fx Nx
end
end Mine
end
end
section
open PySem PySem.W PyProof.Rows
namespace Mine
section
variable {w : World} {p : Program} {loose : List Str} {mean : ExcName → Option Value} {mg mb : Str → Option Value} {news : List (Addr × Obj)}
  {dp un : Nat} {gd : Option (List Code)} {cn : Str} {cs : Scope} {a : Addr} {ccd : Value} {cl : List (Str × Addr)} {outer : List Env} {A₀ : Around} {base h₀ : Heap} {L : Addr} {m : Str → Option Value} {s : Shared} {Q E : Value → Shared → Prop}
theorem mask_here {t sg : Str} {tk tk2 : Nat} (ht : t.length ≤ 27) (B : Below A₀ base outer h₀) (X : (hd.heap_39 w.params).In h₀) (Tp : Top p loose mean mg mb h₀) (hcs : cs.kind = .function)
    (F : Fr h₀ L s.heap m) (N : News h₀ L s.heap news) (hdp : dp + 30 < recursionLimit) (hun : un + 300 < cLine)
    (hret : ∀ t' h' tk', s.toks ≤ tk' → Fr h₀ L h' m → News h₀ L h' news → Q (.int (maskZ sg t) t') { s with heap := h', toks := tk' }) :
    wpAny (model PySem.Challenge.rw_pe0091_01.row.prog w) (ktrTop dp un gd cn cs L a ccd cl outer) (call (.ref 182) [.str t tk, .str sg tk2]) Q E s :=
  mask_cb w p loose mean mg mb news t sg tk tk2 dp un gd cn cs a ccd cl outer A₀ base h₀ L m s Q E B F X N Tp hcs ht hdp hun hret
theorem count_here {t : Str} {b tk tk2 : Nat} (ht : t.length ≤ 27) (h0 : 0 < tk2) (h1 : tk2 < s.toks) (B : Below A₀ base outer h₀) (X : (hd.heap_39 w.params).In h₀) (Tp : Top p loose mean mg mb h₀) (hcs : cs.kind = .function)
    (F : Fr h₀ L s.heap m) (N : News h₀ L s.heap news) (hdp : dp + 30 < recursionLimit) (hun : un + 300 < cLine)
    (hret : ∀ t' h' tk', s.toks ≤ tk' → Fr h₀ L h' m → News h₀ L h' news → Q (.int ((t.cps.toList.countP (· == b) : Nat)) t') { s with heap := h', toks := tk' }) :
    wpAny (model PySem.Challenge.rw_pe0091_01.row.prog w) (ktrTop dp un gd cn cs L a ccd cl outer) (call (.ref 161) [.str t tk, .str ⟨#[b]⟩ tk2]) Q E s :=
  count_cb w p loose mean mg mb news t b tk tk2 dp un gd cn cs a ccd cl outer A₀ base h₀ L m s Q E B F X N Tp hcs ⟨ht, h0, h1⟩ hdp hun hret
theorem index_here {l : Addr} {vs : List Value} {ep : Nat} {b : Int} {tk k : Nat} (hm : (l, W.listOf vs.toArray ep) ∈ news) (h0 : 0 < tk) (hk : k < vs.length)
    (hvs : ∀ i v, vs[i]? = some v → ∃ (n : Int) (t : Nat), v = .int n t ∧ 0 < t ∧ (t = tk → n = b) ∧ (i < k → n ≠ b) ∧ (i = k → n = b))
    (B : Below A₀ base outer h₀) (X : (hd.heap_39 w.params).In h₀) (Tp : Top p loose mean mg mb h₀) (hcs : cs.kind = .function)
    (F : Fr h₀ L s.heap m) (N : News h₀ L s.heap news) (hdp : dp + 30 < recursionLimit) (hun : un + 300 < cLine)
    (hret : ∀ t' h' tk', s.toks ≤ tk' → Fr h₀ L h' m → News h₀ L h' news → Q (.int k t') { s with heap := h', toks := tk' }) :
    wpAny (model PySem.Challenge.rw_pe0091_01.row.prog w) (ktrTop dp un gd cn cs L a ccd cl outer) (call (.ref 168) [.ref l, .int b tk]) Q E s :=
  index_cb w p loose mean mg mb news l vs ep b tk k dp un gd cn cs a ccd cl outer A₀ base h₀ L m s Q E B F X N Tp hcs ⟨hm, h0, hk, hvs⟩ hdp hun hret
end
end Mine
end
section
open PySem PySem.W PyProof.Rows PyProof.Rows.LCg
namespace Mine
section
variable {prog : Program} {w : World} {A : Around} {E : Value → Shared → Prop} {s : Shared} {h₀ : Heap} {L : Addr} {m : Str → Option Value} {env : Env}

/-- the three of a comprehension's own: its iterator, its names, its list; they lie apart from all else -/
structure Apart (h₀ : Heap) (L I C D : Addr) (news : List (Addr × Obj)) : Prop where
  hI₀ : h₀.get? I = none
  hC₀ : h₀.get? C = none
  hD₀ : h₀.get? D = none
  hIL : I ≠ L
  hCL : C ≠ L
  hDL : D ≠ L
  hIC : I ≠ C
  hID : I ≠ D
  hCD : C ≠ D
  off : ∀ p ∈ news, p.1 ≠ I ∧ p.1 ≠ C ∧ p.1 ≠ D

/-- an element's end -/
def CompOut (h₀ : Heap) (L : Addr) (m : Str → Option Value) (led : List (Addr × Obj)) (J : Value → Nat → Prop) (s : Shared) (y : Value) (s' : Shared) : Prop :=
  ∃ h' tk', s' = { s with heap := h', toks := tk' } ∧ Fr h₀ L h' m ∧ News h₀ L h' led ∧ J y tk'
/-- a comprehension between two turns -/
inductive CompJ (s : Shared) (h₀ : Heap) (L I C D : Addr) (n : Nat) (St : Nat → Heap → Prop) (m : Str → Option Value) (news : List (Addr × Obj)) (J : Nat → List Value → Nat → Prop) : Nat → Shared → Prop where
  | mk {h' : Heap} {tk i : Nat} {ys : List Value} {m' : Str → Option Value} (hi : i ≤ n) (hyl : ys.length = i) (hst : St i h') (F : Fr h₀ L h' m) (hC : h'.Ns C m') (N : News h₀ L h' ((D, lst ys) :: news)) (hj : J i ys tk) :
      CompJ s h₀ L I C D n St m news J (n + 1 - i) { s with heap := h', toks := tk }
/-- a comprehension's loop, the tokens told -/
theorem comp_toks_loop {elt iter : Expr} {x : Str} {px : Pos} {scope : Scope} {cl : List (Str × Addr)} {pos : Pos} {I C D : Addr} {n : Nat} {P : Nat → Value → Prop} {St : Nat → Heap → Prop} {news : List (Addr × Obj)} {R : Result → Shared → Prop} {m₀ : Str → Option Value}
    (W : Walks prog w A I [I] [I] n P St) (hlive : ∀ i h, St i h → ∃ o, h.get? I = some o) (hx : scope.names.lookup x = some .local) (hkind : scope.kind = .function) (hsz : n ≤ sizeLine) (ap : Apart h₀ L I C D news)
    (J : Nat → List Value → Nat → Prop) (hJ : ∀ i ys a b, a ≤ b → J i ys a → J i ys b)
    (hst : St 0 s.heap) (F : Fr h₀ L s.heap m) (hC : s.heap.Ns C m₀) (N : News h₀ L s.heap ((D, lst []) :: news)) (j0 : J 0 [] s.toks)
    (step : ∀ i ys v oI oC m₂ h tk, i < n → P i v → J i ys tk → NsObj oC m₂ → m₂ x = some v → Fr h₀ L h m → News h₀ L h ((I, oI) :: (C, oC) :: (D, lst ys) :: news) →
      wpAny (model prog w) A (eval elt (compEnvC scope cl C env)) (CompOut h₀ L m ((I, oI) :: (C, oC) :: (D, lst ys) :: news) (fun y tk' => J (i + 1) (ys ++ [y]) tk') s) (fun _ _ => False) { s with heap := h, toks := tk })
    (fin : ∀ ys h tk m', J n ys tk → Fr h₀ L h m → News h₀ L h ((D, lst ys) :: news) → h.Ns C m' → R (.ok .next) { s with heap := h, toks := tk }) :
    codeAny (model prog w) A (.compLoop (.ListComp elt [⟨.Name x px, iter, [], 0⟩] scope pos) 0 (.ref I) (.ref D) (compEnvC scope cl C env)) R s := by
  refine codeAny_compLoop_tests (CompJ s h₀ L I C D n St m news J) ?_ (n + 1) (CompJ.mk (h' := s.heap) (tk := s.toks) (i := 0) (Nat.zero_le _) rfl hst F hC N j0)
  rintro _ _ (@⟨h', tk, i, ys, m', hi, hyl, hst', F', hC', N', hj⟩)
  have offD : ∀ p ∈ (D, lst ys) :: news, p.1 ≠ I ∧ p.1 ≠ C := fun p hp => by
    rcases List.mem_cons.mp hp with rfl | hp
    · exact ⟨Ne.symm ap.hID, Ne.symm ap.hCD⟩
    · exact ⟨(ap.off p hp).1, (ap.off p hp).2.1⟩
  have keepI : ∀ h₂ : Heap, (∀ b o, b ∉ [I] → h'.get? b = some o → h₂.get? b = some o) → Fr h₀ L h₂ m ∧ h₂.Ns C m' ∧ News h₀ L h₂ ((D, lst ys) :: news) := fun h₂ hk =>
    ⟨⟨F'.ns.at' fun o e => hk _ o (by simpa using Ne.symm ap.hIL) e, fun b o e => hk b o (by simpa using fun q : b = I => by rw [q, ap.hI₀] at e; cases e) (F'.keep b o e), F'.above⟩,
      hC'.at' fun o e => hk _ o (by simpa using Ne.symm ap.hIC) e, fun p hp => ⟨hk _ _ (by simpa using (offD p hp).1) (N' p hp).1, (N' p hp).2⟩⟩
  by_cases hlt : i < n
  · refine wpAny_with_toks (n := tk) (Nat.le_refl _) (W.item i _ _ _ hlt hst' fun v h₂ tk₂ hPv hst₂ hk₂ htk₂ => ?_)
    replace htk₂ : tk ≤ tk₂ := htk₂
    obtain ⟨F₂, hC₂, N₂⟩ := keepI h₂ hk₂
    refine wpAny_assign_Name (wpAny_storeName_local (lookup_relabel_local hx) hC₂ (fun h₃ hn₃ hs₃ => ?_) (by simp [compEnvC, relabel, hkind]))
    replace hs₃ : Heap.SameBut C h₂ h₃ := hs₃
    refine wpAny_tests_nil ?_
    simp only [if_true]
    have hst₃ : St (i + 1) h₃ := W.frame _ _ _ hst₂ fun b hb o e => (hs₃.2 b (by rw [List.mem_singleton.mp hb]; exact ap.hIC)).trans e
    obtain ⟨oI, heI⟩ := hlive _ _ hst₃
    obtain ⟨oC, heC, hoC⟩ := ns_obj hn₃
    have F₃ : Fr h₀ L h₃ m := F₂.change hs₃ ap.hCL ap.hC₀
    have N₃ : News h₀ L h₃ ((I, oI) :: (C, oC) :: (D, lst ys) :: news) := fun p hp => by
      rcases List.mem_cons.mp hp with rfl | hp
      · exact ⟨heI, ap.hIL, ap.hI₀⟩
      · rcases List.mem_cons.mp hp with rfl | hp
        · exact ⟨heC, ap.hCL, ap.hC₀⟩
        · exact ⟨(hs₃.2 _ (offD p hp).2).trans (N₂ p hp).1, (N₂ p hp).2⟩
    refine wpAny_mono (step i ys v oI oC _ h₃ _ hlt hPv (hJ _ _ _ _ (Nat.le_succ_of_le htk₂) hj) hoC (by simp) F₃ N₃) (fun y s₄ h₄ => ?_) fun _ _ e => e.elim
    obtain ⟨h₄, tk₄, rfl, F₄, N₄, j₄⟩ := h₄
    have zI := (N₄ (I, oI) (.head _)).1
    have zC := (N₄ (C, oC) (.tail _ (.head _))).1
    have zD := (N₄ (D, lst ys) (.tail _ (.tail _ (.head _)))).1
    refine append_at (hsz := by show ys.toArray.size ≤ sizeLine; rw [List.size_toArray, hyl]; exact Nat.le_trans hi hsz) zD fun h₅ hs₅ hD₅ => ?_
    have hst₅ : St (i + 1) h₅ := W.frame _ _ _ hst₃ fun b hb o e => by
      have hb' : b = I := List.mem_singleton.mp hb
      subst hb'
      rw [heI] at e; cases e
      exact (hs₅.2 _ ap.hID).trans zI
    refine ⟨_, sub_less hlt, CompJ.mk (i := i + 1) (ys := ys ++ [y]) hlt (by rw [List.length_append, List.length_singleton, hyl]) hst₅ (F₄.change hs₅ ap.hDL ap.hD₀) ((hoC.ns zC).sameBut hs₅ ap.hCD) (fun p hp => ?_) j₄⟩
    rcases List.mem_cons.mp hp with rfl | hp
    · exact ⟨hD₅.trans (congrArg some (lst_snoc ys y)), ap.hDL, ap.hD₀⟩
    · have z := N₄ p (.tail _ (.tail _ (.tail _ hp)))
      exact ⟨(hs₅.2 _ (ap.off p hp).2.2).trans z.1, z.2⟩
  · obtain rfl : i = n := Nat.le_antisymm hi (Nat.le_of_not_lt hlt)
    refine wpAny_with_toks (n := tk) (Nat.le_refl _) (W.done _ _ _ hst' fun h₂ tk₂ hk₂ htk₂ => ?_)
    replace htk₂ : tk ≤ tk₂ := htk₂
    obtain ⟨F₂, hC₂, N₂⟩ := keepI h₂ hk₂
    exact fin ys h₂ tk₂ m' (hJ _ _ _ _ htk₂ hj) F₂ N₂ hC₂

/-- a comprehension at its source: here the walk stands still -/
def CompHere (prog : Program) (w : World) (A : Around) (env : Env) (elt : Expr) (x : Str) (px : Pos) (iter : Expr) (scope : Scope) (cl : List (Str × Addr)) (pos : Pos) (Q : Value → Shared → Prop) (E : Value → Shared → Prop) (xv : Value) (s₁ : Shared) : Prop :=
  wpAny (model prog w) A (pyIter xv) (fun it s₂ => wpAny (model prog w) A (newList []) (fun acc s₃ =>
    wpAny (model prog w) A (newFunctionEnv scope env.globals cl [] env.qual none .none (some env)) (fun cenv s₄ =>
      codeAny (model prog w) A (.compStart (.ListComp elt [⟨.Name x px, iter, [], 0⟩] scope pos) 0 it acc { cenv with scope := relabel scope env }) (compPost (model prog w) A E none Q acc cenv.locals) s₄) E s₃) E s₂) E s₁

theorem comp_to_here {elt iter : Expr} {x : Str} {px : Pos} {scope : Scope} {cl : List (Str × Addr)} {pos : Pos} {Q : Value → Shared → Prop}
    (hclos : closureFor scope env = pure cl) (hkind : scope.kind = .function) (hnames : ∀ y ∈ scope.names, y.2 = .local → scope.names.lookup y.1 = some .local)
    (h : wpAny (model prog w) A (eval iter env) (CompHere prog w A env elt x px iter scope cl pos Q E) E s)
    (hs : ∀ x, foldedSetIterable iter env x = pure x := by intro _; rfl) :
    wpAny (model prog w) A (eval (.ListComp elt [⟨.Name x px, iter, [], 0⟩] scope pos) env) Q E s := by
  rw [eval_ListComp]
  exact wpAny_comprehension_free (use := none) rfl hs hclos hkind hnames h

theorem comp_here_range {elt iter : Expr} {x : Str} {px : Pos} {scope : Scope} {cl : List (Str × Addr)} {pos : Pos} {Q : Value → Shared → Prop} {r : Addr} {b : Int} {t u v : Tok} {n : Nat} {news : List (Addr × Obj)}
    (hh : A.handled = none) (hcell : ∀ y ∈ scope.names, y.2 ≠ .cell) (hkind : scope.kind = .function) (hx : scope.names.lookup x = some .local)
    (F : Fr h₀ L s.heap m) (N : News h₀ L s.heap news) (hr : IsRange s.heap r 0 b 1 t u v) (hsm : Builtin.Range.small 0 b 1 = true) (hn : Builtin.Range.rangeSize 0 b 1 = ((n : Nat) : Int)) (hsz : n ≤ sizeLine)
    (J : Nat → List Value → Nat → Prop) (hJ : ∀ i ys a b, a ≤ b → J i ys a → J i ys b) (j0 : J 0 [] s.toks)
    (step : ∀ i ys t I oI C oC D m₂ h tk, i < n → J i ys tk → NsObj oC m₂ → m₂ x = some (.int (0 + (i : Int)) t) → Fr h₀ L h m → News h₀ L h ((I, oI) :: (C, oC) :: (D, lst ys) :: news) → Apart h₀ L I C D news →
      wpAny (model prog w) A (eval elt (compEnvC scope cl C env)) (CompOut h₀ L m ((I, oI) :: (C, oC) :: (D, lst ys) :: news) (fun y tk' => J (i + 1) (ys ++ [y]) tk') s) (fun _ _ => False) { s with heap := h, toks := tk })
    (fin : ∀ ys D h tk, J n ys tk → Fr h₀ L h m → News h₀ L h ((D, lst ys) :: news) → (∀ p ∈ news, p.1 < D) → Q (.ref D) { s with heap := h, toks := tk }) :
    CompHere prog w A env elt x px iter scope cl pos Q E (.ref r) s := by
  have fresh : ∀ a, s.heap.objs.size ≤ a → h₀.get? a = none := fun a ha => by
    cases e : h₀.get? a with
    | none => rfl
    | some o => exact absurd (Heap.lt_size (F.keep a o e)) (Nat.not_lt.mpr ha)
  have hL : L < s.heap.objs.size := F.ns.lt
  unfold CompHere
  refine wpAny_pyIter_range hr hsm ?_
  refine wpAny_newObj_type ?_
  generalize hA : (s.heap.push _ : Heap) = H1
  have z1 : H1.objs.size = s.heap.objs.size + 1 := by rw [← hA, Heap.size_push]
  have gI : ∃ o, H1.get? s.heap.objs.size = some o ∧ IsRangeIter H1 s.heap.objs.size (0 + ((0 : Nat) : Int) * 1) ((n : Int) - ((0 : Nat) : Int)) 1 := by
    refine ⟨_, by rw [← hA]; exact Heap.get?_push_size _ rfl, ?_⟩
    show IsRangeIter _ _ _ _ _
    rw [← hA, hn]
    simpa using Heap.get?_push_size _ rfl
  obtain ⟨oI, gI, gR⟩ := gI
  have k1 : ∀ b o, s.heap.get? b = some o → H1.get? b = some o := fun b o e => by rw [← hA]; exact Heap.get?_push_of_some _ e
  refine wpAny_newFunctionEnv hcell (by intro y hy; simp at hy) (fun h₂ hns hsb => ?_) hkind
  dsimp only at hns hsb ⊢
  generalize hB : (H1.push _ : Heap) = H2 at hns hsb ⊢
  have z2 : H2.objs.size = s.heap.objs.size + 2 := by rw [← hB, Heap.size_push, z1]
  have gD : H2.get? H1.objs.size = some (lst []) := by rw [← hB]; exact Heap.get?_push_size _ rfl
  have k2 : ∀ b o, H1.get? b = some o → H2.get? b = some o := fun b o e => by rw [← hB]; exact Heap.get?_push_of_some _ e
  have k3 : ∀ b o, H2.get? b = some o → h₂.get? b = some o := fun b o e => hsb.extBut b o (Nat.ne_of_lt (Heap.lt_size e)) (Heap.get?_push_of_some _ e)
  have kk : ∀ b o, s.heap.get? b = some o → h₂.get? b = some o := fun b o e => k3 _ _ (k2 _ _ (k1 _ _ e))
  have ap : Apart h₀ L s.heap.objs.size H2.objs.size H1.objs.size news := by
    have n1 : ∀ p ∈ news, p.1 < s.heap.objs.size := fun p hp => Heap.lt_size (N p hp).1
    refine ⟨fresh _ (Nat.le_refl _), fresh _ (by rw [z2]; exact Nat.le_add_right _ _), fresh _ (by rw [z1]; exact Nat.le_add_right _ _), Nat.ne_of_gt hL, ?_, ?_, ?_, ?_, ?_, fun p hp => ⟨Nat.ne_of_lt (n1 p hp), ?_, ?_⟩⟩
    · rw [z2]; exact Nat.ne_of_gt (Nat.lt_of_lt_of_le hL (Nat.le_add_right _ _))
    · rw [z1]; exact Nat.ne_of_gt (Nat.lt_of_lt_of_le hL (Nat.le_add_right _ _))
    · rw [z2]; exact Nat.ne_of_lt (Nat.lt_add_of_pos_right (by decide))
    · rw [z1]; exact Nat.ne_of_lt (Nat.lt_add_of_pos_right (by decide))
    · rw [z1, z2]; exact Nat.ne_of_gt (Nat.lt_succ_self _)
    · rw [z2]; exact Nat.ne_of_lt (Nat.lt_of_lt_of_le (n1 p hp) (Nat.le_add_right _ _))
    · rw [z1]; exact Nat.ne_of_lt (Nat.lt_of_lt_of_le (n1 p hp) (Nat.le_add_right _ _))
  have W := range_walks (prog := prog) (w := w) (I := s.heap.objs.size) hh 0 n
  have st2 : IsRangeIter h₂ s.heap.objs.size (0 + ((0 : Nat) : Int) * 1) ((n : Int) - ((0 : Nat) : Int)) 1 := W.frame 0 H1 h₂ gR fun b hb o e => k3 _ _ (k2 _ _ e)
  have loop : codeAny (model prog w) A (.compLoop (.ListComp elt [⟨.Name x px, iter, [], 0⟩] scope pos) 0 (.ref s.heap.objs.size) (.ref H1.objs.size) (compEnvC scope cl H2.objs.size env)) (compPost (model prog w) A E none Q (.ref H1.objs.size) H2.objs.size) { s with heap := h₂, toks := s.toks + ([] : List (Str × Value)).length } := by
    refine comp_toks_loop (s := { s with heap := h₂, toks := s.toks + ([] : List (Str × Value)).length }) W (fun i h st => ⟨_, st⟩) hx hkind hsz ap J hJ st2 (F.keeps kk) hns (fun p hp => ?_) j0 (fun i ys v oI oC m₂ h tk hlt hP hj ho hm F' N' => ?_) fun ys h tk m' hj F' N' hC' => ?_
    · rcases List.mem_cons.mp hp with rfl | hp
      · exact ⟨k3 _ _ gD, ap.hDL, ap.hD₀⟩
      · exact ⟨kk _ _ (N p hp).1, (N p hp).2⟩
    · obtain ⟨t', rfl⟩ := hP
      exact step i ys t' _ oI _ oC _ m₂ h tk hlt hj ho hm F' N' ap
    · refine ⟨m', hC', fun h'' hs'' => fin ys _ h'' tk hj (F'.change hs'' ap.hCL ap.hC₀) (fun p hp => ?_) fun p hp => ?_⟩
      · refine ⟨hs''.extBut _ _ ?_ (N' p hp).1, (N' p hp).2⟩
        rcases List.mem_cons.mp hp with rfl | hp
        · exact Ne.symm ap.hCD
        · exact (ap.off p hp).2.1
      · show p.1 < H1.objs.size
        rw [z1]; exact Nat.lt_succ_of_lt (Heap.lt_size (N p hp).1)
  exact codeAny_compStart_list loop (W.self 0 _ _ _ st2 loop)
end
end Mine
end
section
open PySem PySem.W PyProof.Rows
namespace Mine
/-- the powers of two, each with its token -/
def spotsOf (ts : List Nat) : List Value := ts.zipIdx.map fun p => Value.int (2 ^ p.2) p.1
theorem spots_snoc (ts : List Nat) (t : Nat) : spotsOf (ts ++ [t]) = spotsOf ts ++ [.int (2 ^ ts.length) t] := by
  simp [spotsOf, List.zipIdx_append]
theorem spots_len (ts : List Nat) : (spotsOf ts).length = ts.length := by simp [spotsOf]
theorem spots_get (ts : List Nat) (i : Nat) : (spotsOf ts)[i]? = ts[i]?.map fun t => Value.int (2 ^ i) t := by
  simp only [spotsOf, List.getElem?_map, List.getElem?_zipIdx, Option.map_map]
  cases ts[i]? <;> simp
/-- i powers so far, their tokens rising, above nought and below tk -/
structure SpotsJ (i : Nat) (ys : List Value) (tk : Nat) : Prop where
  some : ∃ ts : List Nat, ys = spotsOf ts ∧ ts.length = i ∧ ts.Pairwise (· < ·) ∧ ∀ t ∈ ts, 0 < t ∧ t < tk
theorem SpotsJ.mono (i : Nat) (ys : List Value) (a b : Nat) (h : a ≤ b) (j : SpotsJ i ys a) : SpotsJ i ys b := by
  obtain ⟨ts, e, l, p, q⟩ := j.some
  exact ⟨ts, e, l, p, fun t ht => ⟨(q t ht).1, Nat.lt_of_lt_of_le (q t ht).2 h⟩⟩
theorem SpotsJ.start (tk : Nat) : SpotsJ 0 [] tk := ⟨[], rfl, rfl, .nil, fun _ h => nomatch h⟩
theorem SpotsJ.step {i : Nat} {ys : List Value} {tk t tk' : Nat} {v : Int} (j : SpotsJ i ys tk) (hv : v = 2 ^ i) (h1 : tk + 1 ≤ t) (h2 : t < tk') : SpotsJ (i + 1) (ys ++ [.int v t]) tk' := by
  obtain ⟨ts, e, l, p, q⟩ := j.some
  refine ⟨ts ++ [t], by rw [spots_snoc, e, l, hv], by simp [l], ?_, ?_⟩
  · rw [List.pairwise_append]
    refine ⟨p, List.pairwise_singleton _ _, fun a ha b hb => ?_⟩
    rw [List.mem_singleton.mp hb]
    have := (q a ha).2
    omega
  · intro a ha
    rcases List.mem_append.mp ha with ha | ha
    · have := q a ha; omega
    · rw [List.mem_singleton.mp ha]; omega
end Mine
end
section
open PySem PySem.W PyProof.Rows
namespace Mine
section
variable {prog : Program} {w : World} {A : Around} {E : Value → Shared → Prop} {s : Shared} {h₀ : Heap} {L : Addr}
theorem isList_led {h : Heap} {l : Addr} {vs : List Value} {ep : Nat} {news : List (Addr × Obj)} (N : News h₀ L h news) (hm : (l, W.listOf vs.toArray ep) ∈ news) : h.IsList l vs.toArray := ⟨_, (N _ hm).1, rfl, _, rfl⟩
theorem item_at {value slice : PySem.Expr} {l : Addr} {vs : List Value} {ep : Nat} {news : List (Addr × Obj)} {k : Nat} {u : Tok} {v : Value} {Q : Value → Shared → Prop} (N : News h₀ L s.heap news) (hm : (l, W.listOf vs.toArray ep) ∈ news)
    (hk : k < 2 ^ 60) (hx : vs[k]? = some v) (h : Q v s)
    (hs : subscripted slice false (.ref l) (.int k u) = operate [.ref l, .int k u] (getItem (.ref l) (.int k u)) := by with_unfolding_all rfl) :
    wpAny (model prog w) A (subscriptTail value slice (.ref l) (.int k u)) Q E s := by
  have hl := isList_led N hm
  exact tail_any hl.typeIs slot_list_getitem.lookup (wpAny_getItem_list hl (by omega) (by omega) (by simpa using hx) h) hs
theorem item_zero {value slice : PySem.Expr} {l : Addr} {vs : List Value} {ep : Nat} {news : List (Addr × Obj)} {u : Tok} {v : Value} {Q : Value → Shared → Prop} (N : News h₀ L s.heap news) (hm : (l, W.listOf vs.toArray ep) ∈ news)
    (hx : vs[0]? = some v) (h : Q v s)
    (hs : subscripted slice false (.ref l) (.int 0 u) = operate [.ref l, .int 0 u] (getItem (.ref l) (.int 0 u)) := by with_unfolding_all rfl) :
    wpAny (model prog w) A (subscriptTail value slice (.ref l) (.int 0 u)) Q E s := item_at (k := 0) N hm (by decide) hx h hs
theorem item_last {value slice : PySem.Expr} {l : Addr} {vs : List Value} {ep : Nat} {news : List (Addr × Obj)} {n : Nat} {u : Tok} {v : Value} {Q : Value → Shared → Prop} (N : News h₀ L s.heap news) (hm : (l, W.listOf vs.toArray ep) ∈ news)
    (hn : vs.length = n + 1) (hx : vs[n]? = some v) (h : Q v s)
    (hs : subscripted slice false (.ref l) (.int (-1) u) = operate [.ref l, .int (-1) u] (getItem (.ref l) (.int (-1) u)) := by with_unfolding_all rfl) :
    wpAny (model prog w) A (subscriptTail value slice (.ref l) (.int (-1) u)) Q E s := by
  have hl := isList_led N hm
  have e : ((-1 : Int) + vs.toArray.size).toNat = n := by simp [hn]; omega
  exact tail_any hl.typeIs slot_list_getitem.lookup (wpAny_getItem_list_neg hl (by decide) (by simp [hn]; omega) (by decide) (by rw [e]; simpa using hx) h) hs
/-- a while loop whose turns know the token's floor -/
theorem while_toks {env : Env} {Q : Flow → Shared → Prop} {test : Expr} {body : List Stmt} {pos : Pos} (J : Nat → Heap → Nat → Prop) (n₀ : Nat) (hJ : J n₀ s.heap s.toks)
    (turn : ∀ n h₁ tk₁ (TD : Flow → Shared → Prop), J n h₁ tk₁ → (∀ h' tk n', n' < n → J n' h' tk → TD .next { s with heap := h', toks := tk }) →
      wpAny (model prog w) A (isTrue test env (eval test env)) (fun b s₂ => if b = true then wpAny (model prog w) A (execs body env) TD (fun _ _ => False) s₂ else Q .next s₂) (fun _ _ => False) { s with heap := h₁, toks := tk₁ }) :
    wpAny (model prog w) A (exec (.While test body [] pos) env) Q E s := by
  refine wpAny_While (codeAny_whileLoop (fun n s' => ∃ h₁ tk₁, s' = { s with heap := h₁, toks := tk₁ } ∧ J n h₁ tk₁) ?_ n₀ ⟨s.heap, s.toks, rfl, hJ⟩)
  rintro n s' ⟨h₁, tk₁, rfl, J₁⟩
  refine wpAny_mono (turn n h₁ tk₁ (fun f s₃ => f = .next ∧ ∃ h' tk n', s₃ = { s with heap := h', toks := tk } ∧ n' < n ∧ J n' h' tk) J₁ fun h' tk n' a b => ⟨rfl, h', tk, n', rfl, a, b⟩) (fun b s₂ h₂ => ?_) fun _ _ e => e.elim
  cases b with
  | false => exact wpAny_execs_nil (by simpa using h₂)
  | true =>
    simp only [if_true] at h₂ ⊢
    refine wpAny_mono h₂ (fun f s₃ h₃ => ?_) fun _ _ e => e.elim
    obtain ⟨rfl, h', tk, n', rfl, hn, J₂⟩ := h₃
    exact ⟨n', hn, h', tk, rfl, J₂⟩
end
end Mine
end
section
open PySem PySem.W PyProof.Rows
namespace Mine
/-- one row told: its list's place, its word, its number -/
structure Row where
  a : Nat
  w : List Nat
  p : Nat
  tw : Nat
  tp : Nat
  ep : Nat
def Row.val (r : Row) : Value := .ref r.a
def Row.led (r : Row) : Addr × Obj := (r.a, W.listOf #[.str ⟨r.w.toArray⟩ r.tw, .int r.p r.tp] r.ep)
def chain (cs : List Nat) : Nat → List (List Nat × Nat) → Nat → Prop
  | k, [], k' => k = k'
  | k, (w, p) :: r, k' => k < cs.length ∧ (tok (cs.drop k)).1 = w ∧ p = cs.length - (tok (cs.drop k)).2.length ∧ chain cs p r k'
theorem chain_snoc {cs : List Nat} {k' : Nat} : ∀ (rs : List (List Nat × Nat)) (k : Nat), chain cs k rs k' → k' < cs.length →
    chain cs k (rs ++ [((tok (cs.drop k')).1, cs.length - (tok (cs.drop k')).2.length)]) (cs.length - (tok (cs.drop k')).2.length)
  | [], k, h, hk => by cases h; exact ⟨hk, rfl, rfl, rfl⟩
  | (w, p) :: r, k, h, hk => ⟨h.1, h.2.1, h.2.2.1, chain_snoc r p h.2.2.2 hk⟩
def Row.tell (r : Row) : List Nat × Nat := (r.w, r.p)
/-- the while loop's state: `here` stands at k, the rows so far told -/
structure WordsJ (P : Nat → List Row → Prop) (g : Heap) (L₁ : Nat) (tk3 : Nat) (T D3 : Nat) (n : Nat) (bl mk D H : Int) (tb tm t2 t1 tn : Nat) (sp : List Value) (o2 o3 : Obj) (news : List (Addr × Obj)) (c : Nat) (h : Heap) (tk : Nat) : Prop where
  ok : ∃ (k th : Nat) (rs : List Row) (ep : Nat) (o1 : Obj) (cv : Option Value) (jm : Str → Option Value),
    Fr g L₁ h (fun y => if y = Str.ofString "told" then some (.ref T) else if y = Str.ofString "here" then some (.int (2 ^ k) th) else if y = Str.ofString "ends" then some (.int (2 ^ n) tn)
      else if y = Str.ofString "blanks" then some (.int bl tb) else if y = Str.ofString "marks" then some (.int mk tm)
      else if y = Str.ofString "hidden" then some (.int D t2) else if y = Str.ofString "hiding" then some (.int H t1) else jm y) ∧
    News g L₁ h ((T, W.listOf (rs.map Row.val).toArray ep) :: (D3, W.listOf sp.toArray sp.length) :: (L₁ + 1 + 1 + 1, o1) :: (L₁ + 1 + 1, o2) :: (L₁ + 1, o3) :: (rs.map Row.led ++ news)) ∧
    o1.data = .cell cv ∧ tk3 ≤ tk ∧ k ≤ n ∧ c = n - k ∧ (∀ r ∈ rs, T < r.a) ∧ rs.length ≤ k ∧ P k rs
theorem WordsJ.start {P : Nat → List Row → Prop} {g : Heap} {L₁ tk3 T D3 n : Nat} {bl mk D H : Int} {t0 tb tm t2 t1 tn : Nat} {sp : List Value} {o1 o2 o3 : Obj} {news : List (Addr × Obj)} {h : Heap} {tk : Nat} {q : Addr × Obj}
    (F : Fr g L₁ h (fun y => if y = Str.ofString "told" then some (.ref T) else if y = Str.ofString "here" then some (.int (2 ^ 0) t0) else if y = Str.ofString "ends" then some (.int (2 ^ n) tn)
      else if y = Str.ofString "blanks" then some (.int bl tb) else if y = Str.ofString "marks" then some (.int mk tm)
      else if y = Str.ofString "hidden" then some (.int D t2) else if y = Str.ofString "hiding" then some (.int H t1) else none))
    (N : News g L₁ h (q :: (T, W.listOf #[] 0) :: (D3, W.listOf sp.toArray sp.length) :: (L₁ + 1 + 1 + 1, o1) :: (L₁ + 1 + 1, o2) :: (L₁ + 1, o3) :: news))
    (d1 : o1.data = .cell none) (ht : tk3 ≤ tk) (hP : P 0 []) : WordsJ P g L₁ tk3 T D3 n bl mk D H tb tm t2 t1 tn sp o2 o3 news (n - 0) h tk :=
  ⟨0, t0, [], 0, o1, none, fun _ => none, F, fun p hp => N p (.tail _ hp), d1, ht, Nat.zero_le _, rfl, (fun _ h => nomatch h), Nat.le_refl _, hP⟩
end Mine
end
section
open PySem PySem.W PyProof.Rows
namespace Mine
/-- a figure laid below a number -/
def cn (b : Bool) (x : Int) : Int := 2 * x + (if b = true then 1 else 0)
def numL : List Bool → Int
  | [] => 0
  | b :: l => cn b (numL l)
theorem and_cn (a b : Bool) (x y : Int) : Builtin.bitAnd (cn a x) (cn b y) = cn (a && b) (Builtin.bitAnd x y) := by
  rw [kbt_halves]
  have h1 : cn a x / 2 = x := by unfold cn; split <;> omega
  have h2 : cn b y / 2 = y := by unfold cn; split <;> omega
  have h3 : (cn a x % 2 = 1 ∧ cn b y % 2 = 1) ↔ (a && b) = true := by
    unfold cn
    cases a <;> cases b <;> simp <;> omega
  rw [h1, h2]
  show _ = 2 * Builtin.bitAnd x y + (if (a && b) = true then 1 else 0)
  by_cases h : (a && b) = true
  · rw [if_pos (h3.mpr h), if_pos h]
  · rw [if_neg (fun q => h (h3.mp q)), if_neg h]
theorem not_cn (a : Bool) (x : Int) : Builtin.bitNot (cn a x) = cn (!a) (Builtin.bitNot x) := by
  unfold cn Builtin.bitNot
  cases a <;> simp <;> omega
theorem or_cn (a b : Bool) (x y : Int) : Builtin.bitOr (cn a x) (cn b y) = cn (a || b) (Builtin.bitOr x y) := by
  unfold Builtin.bitOr
  rw [not_cn, not_cn, and_cn, not_cn]
  congr 1
  cases a <;> cases b <;> rfl
theorem xor_cn (a b : Bool) (x y : Int) : Builtin.bitXor (cn a x) (cn b y) = cn (a ^^ b) (Builtin.bitXor x y) := by
  unfold Builtin.bitXor
  rw [or_cn, and_cn]
  unfold cn
  cases a <;> cases b <;> simp <;> omega
theorem neg_cn0 (x : Int) : -(cn false x) = cn false (-x) := by unfold cn; simp; omega
theorem neg_cn1 (x : Int) : -(cn true x) = cn true (Builtin.bitNot x) := by unfold cn Builtin.bitNot; simp; omega
theorem pow_cn (k : Nat) : (2 : Int) ^ (k + 1) = cn false (2 ^ k) := by unfold cn; rw [Int.pow_succ]; simp; omega
theorem one_cn : (1 : Int) = cn true 0 := by decide
theorem zero_cn : (0 : Int) = cn false 0 := by decide
theorem m1_cn : (-1 : Int) = cn true (-1) := by decide
theorem and_zero (x : Int) : Builtin.bitAnd x 0 = 0 := by
  have := bitAnd_range x (y := 0) (by omega); omega
theorem zero_and (x : Int) : Builtin.bitAnd 0 x = 0 := by rw [bitAnd_comm, and_zero]
theorem or_zero (x : Int) : Builtin.bitOr x 0 = x := by rw [bitOr_sum, and_zero]; omega
theorem zero_or (x : Int) : Builtin.bitOr 0 x = x := by rw [bitOr_sum, zero_and]; omega
theorem xor_zero (x : Int) : Builtin.bitXor x 0 = x := bitXor_zero x
theorem and_m1 (x : Int) : Builtin.bitAnd x (-1) = x := by
  have h := bitAnd_not x 0
  have e : Builtin.bitNot 0 = -1 := rfl
  rw [e, and_zero] at h
  omega
/-- how many are set at first -/
def fF : List Bool → Nat
  | true :: l => fF l + 1
  | _ => 0
/-- the first that is set -/
def fT : List Bool → Nat
  | false :: l => fT l + 1
  | _ => 0
theorem not_zero : Builtin.bitNot 0 = -1 := rfl
theorem and_not_self (x : Int) : Builtin.bitAnd x (Builtin.bitNot x) = 0 := by
  rw [bitAnd_not, bitAnd_self]; omega
theorem begin0 : ∀ l : List Bool, Builtin.bitAnd (numL l + 1) (Builtin.bitNot (numL l)) = 2 ^ fF l
  | [] => by
    simp only [numL, fF, not_zero]
    rw [and_m1]; rfl
  | false :: l => by
    have e : numL (false :: l) + 1 = cn true (numL l) := by simp [numL, cn]
    rw [e, numL, not_cn, and_cn, and_not_self]
    rfl
  | true :: l => by
    have e : numL (true :: l) + 1 = cn false (numL l + 1) := by simp [numL, cn]; omega
    rw [e, numL, not_cn, and_cn, begin0 l]
    simp only [fF]
    rw [pow_cn]; rfl
theorem begin_at : ∀ (k : Nat) (l : List Bool), Builtin.bitAnd (numL l + 2 ^ k) (Builtin.bitNot (numL l)) = 2 ^ (k + fF (l.drop k))
  | 0, l => by simpa using begin0 l
  | k + 1, [] => by
    simp only [numL, List.drop_nil, fF, not_zero]
    rw [and_m1]; simp
  | k + 1, b :: l => by
    have e : numL (b :: l) + 2 ^ (k + 1) = cn b (numL l + 2 ^ k) := by
      rw [pow_cn]; simp only [numL, cn]; simp; omega
    rw [e, numL, not_cn, and_cn, begin_at k l, List.drop_succ_cons]
    have : (b && !b) = false := by cases b <;> rfl
    rw [this, show k + 1 + fF (l.drop k) = (k + fF (l.drop k)) + 1 by omega, pow_cn]
theorem pow_and : ∀ (b : Nat) (l : List Bool), Builtin.bitAnd (2 ^ b) (numL l) = if l.getD b false = true then 2 ^ b else 0
  | b, [] => by simp [numL, and_zero]
  | 0, c :: l => by
    rw [numL, show (2 : Int) ^ 0 = cn true 0 by decide, and_cn, zero_and]
    cases c <;> rfl
  | b + 1, c :: l => by
    rw [numL, pow_cn, and_cn, pow_and b l]
    simp only [List.getD_cons_succ, Bool.false_and]
    split <;> rfl
theorem or_end : ∀ l : List Bool, Builtin.bitOr (numL l) (2 ^ l.length) = numL (l ++ [true])
  | [] => by simp only [numL, List.length_nil, zero_or, List.nil_append]; rfl
  | b :: l => by
    rw [List.length_cons, pow_cn, numL, or_cn, or_end l]
    simp [numL]
theorem clear_low : ∀ (b : Nat) (l : List Bool), Builtin.bitAnd (numL l) (-(2 ^ b)) = numL (List.replicate b false ++ l.drop b)
  | 0, l => by rw [show -((2 : Int) ^ 0) = -1 by decide, and_m1]; simp
  | b + 1, [] => by
    have : ∀ k, numL (List.replicate k false) = 0 := by
      intro k; induction k with
      | zero => rfl
      | succ k ih => rw [List.replicate_succ, numL, ih]; rfl
    simp only [numL, zero_and, List.drop_nil, List.append_nil, this]
  | b + 1, c :: l => by
    rw [numL, pow_cn, neg_cn0, and_cn, clear_low b l, Bool.and_false, List.replicate_succ]
    rfl
theorem low_at : ∀ l : List Bool, true ∈ l → Builtin.bitAnd (numL l) (-(numL l)) = 2 ^ fT l
  | [], h => nomatch h
  | true :: l, _ => by
    rw [numL, neg_cn1, and_cn, and_not_self]; rfl
  | false :: l, h => by
    rw [numL, neg_cn0, and_cn, low_at l (by simpa using h)]
    simp only [fT]
    rw [pow_cn]; rfl
theorem fT_rep (b : Nat) (l : List Bool) : fT (List.replicate b false ++ l) = b + fT l := by
  induction b with
  | zero => simp
  | succ b ih => rw [List.replicate_succ, List.cons_append, fT, ih]; omega
theorem fT_end : ∀ l : List Bool, fT (l ++ [true]) = fT l
  | [] => rfl
  | true :: l => rfl
  | false :: l => by simp only [List.cons_append, fT, fT_end l]
theorem xor_mark (b : Nat) (l : List Bool) : Builtin.bitXor (numL (List.replicate b false ++ true :: l)) (2 ^ b) = numL (List.replicate (b + 1) false ++ l) := by
  induction b with
  | zero =>
    simp only [List.replicate_zero, List.nil_append, numL]
    rw [show (2 : Int) ^ 0 = cn true 0 by decide, xor_cn, xor_zero]
    rfl
  | succ b ih =>
    rw [List.replicate_succ, List.cons_append, numL, pow_cn, xor_cn, ih]
    rfl
/-- figure i of a number -/
def tb (x : Int) : Nat → Bool
  | 0 => x % 2 == 1
  | i + 1 => tb (x / 2) i
theorem tb_cn0 (b : Bool) (x : Int) : tb (cn b x) 0 = b := by
  unfold tb cn; cases b <;> simp <;> omega
theorem tb_cn (b : Bool) (x : Int) (i : Nat) : tb (cn b x) (i + 1) = tb x i := by
  have : cn b x / 2 = x := by unfold cn; split <;> omega
  rw [tb, this]
theorem cn_of (x : Int) : x = cn (x % 2 == 1) (x / 2) := by
  unfold cn
  by_cases h : x % 2 = 1
  · simp [h]; omega
  · have : x % 2 = 0 := by omega
    simp [this]; omega
theorem tb_and (x y : Int) (i : Nat) : tb (Builtin.bitAnd x y) i = (tb x i && tb y i) := by
  induction i generalizing x y with
  | zero => rw [cn_of x, cn_of y, and_cn]; simp only [tb_cn0]
  | succ i ih => rw [cn_of x, cn_of y, and_cn]; simp only [tb_cn, ih]
theorem tb_not (x : Int) (i : Nat) : tb (Builtin.bitNot x) i = !tb x i := by
  induction i generalizing x with
  | zero => rw [cn_of x, not_cn]; simp only [tb_cn0]
  | succ i ih => rw [cn_of x, not_cn]; simp only [tb_cn, ih]
theorem tb_or (x y : Int) (i : Nat) : tb (Builtin.bitOr x y) i = (tb x i || tb y i) := by
  unfold Builtin.bitOr
  rw [tb_not, tb_and, tb_not, tb_not]
  cases tb x i <;> cases tb y i <;> rfl
theorem tb_zero (i : Nat) : tb 0 i = false := by
  induction i with
  | zero => rfl
  | succ i ih => exact ih
theorem tb_num (l : List Bool) (i : Nat) : tb (numL l) i = l.getD i false := by
  induction l generalizing i with
  | nil => simp [numL, tb_zero]
  | cons b l ih =>
    cases i with
    | zero => rw [numL, tb_cn0]; rfl
    | succ i => rw [numL, tb_cn, ih]; simp
theorem tb_pow (b i : Nat) : tb (2 ^ b) i = decide (i = b) := by
  induction b generalizing i with
  | zero =>
    rw [show (2 : Int) ^ 0 = cn true 0 by decide]
    cases i with
    | zero => rw [tb_cn0]; rfl
    | succ i => rw [tb_cn, tb_zero]; simp
  | succ b ih =>
    rw [pow_cn]
    cases i with
    | zero => rw [tb_cn0]; simp
    | succ i => rw [tb_cn, ih]; simp
theorem tb_span : ∀ (b e i : Nat), b ≤ i → i < e → tb (2 ^ e - 2 ^ b) i = true
  | 0, e + 1, 0, _, _ => by
    have : (2 : Int) ^ (e + 1) - 2 ^ 0 = cn true (2 ^ e - 1) := by rw [pow_cn]; simp [cn]; omega
    rw [this, tb_cn0]
  | 0, e + 1, i + 1, _, h => by
    have : (2 : Int) ^ (e + 1) - 2 ^ 0 = cn true (2 ^ e - 2 ^ 0) := by rw [pow_cn]; simp [cn]; omega
    rw [this, tb_cn]
    exact tb_span 0 e i (by omega) (by omega)
  | b + 1, e + 1, i + 1, h1, h2 => by
    have : (2 : Int) ^ (e + 1) - 2 ^ (b + 1) = cn false (2 ^ e - 2 ^ b) := by rw [pow_cn, pow_cn]; simp [cn]; omega
    rw [this, tb_cn]
    exact tb_span b e i (by omega) (by omega)
  | b + 1, _, 0, h, _ => by omega
  | b, 0, i, _, h => by omega
theorem and_pow (x : Int) (i : Nat) : Builtin.bitAnd x (2 ^ i) = if tb x i = true then 2 ^ i else 0 := by
  induction i generalizing x with
  | zero =>
    rw [show (2 : Int) ^ 0 = cn true 0 by decide]
    conv => lhs; rw [cn_of x]
    rw [and_cn, and_zero]
    unfold tb
    cases (x % 2 == 1) <;> rfl
  | succ i ih =>
    rw [pow_cn]
    conv => lhs; rw [cn_of x]
    rw [and_cn, ih, tb, Bool.and_false]
    split <;> rfl
end Mine
end
section
open PySem PySem.W PyProof.Rows
namespace Mine
/-- which signs hide the next one (h: is the first hidden itself?) -/
def hideL : Bool → List Nat → List Bool
  | _, [] => []
  | h, c :: r => (c == 92 && !h) :: hideL (c == 92 && !h) r
/-- which signs are of a kind and free -/
def freeL (p : Nat → Bool) : Bool → List Nat → List Bool
  | _, [] => []
  | h, c :: r => (p c && !h) :: freeL p (c == 92 && !h) r
/-- is the sign at k hidden? -/
def stAt : Bool → List Nat → Nat → Bool
  | h, _, 0 => h
  | _, [], _ + 1 => false
  | h, c :: r, k + 1 => stAt (c == 92 && !h) r k
theorem freeL_len (p : Nat → Bool) : ∀ (h : Bool) (l : List Nat), (freeL p h l).length = l.length
  | _, [] => rfl
  | h, c :: r => by simp [freeL, freeL_len p _ r]
theorem hideL_len : ∀ (h : Bool) (l : List Nat), (hideL h l).length = l.length
  | _, [] => rfl
  | h, c :: r => by simp [hideL, hideL_len _ r]
theorem freeL_drop (p : Nat → Bool) : ∀ (k : Nat) (h : Bool) (l : List Nat), (freeL p h l).drop k = freeL p (stAt h l k) (l.drop k)
  | 0, h, l => by cases l <;> rfl
  | k + 1, h, [] => by simp [freeL]
  | k + 1, h, c :: r => by simp only [freeL, List.drop_succ_cons, stAt, freeL_drop p k]
theorem hideL_drop : ∀ (k : Nat) (h : Bool) (l : List Nat), (hideL h l).drop k = hideL (stAt h l k) (l.drop k)
  | 0, h, l => by cases l <;> rfl
  | k + 1, h, [] => by simp [hideL]
  | k + 1, h, c :: r => by simp only [hideL, List.drop_succ_cons, stAt, hideL_drop k]
theorem stAt_add : ∀ (k j : Nat) (h : Bool) (l : List Nat), k ≤ l.length → stAt h l (k + j) = stAt (stAt h l k) (l.drop k) j
  | 0, j, h, l, _ => by simp only [Nat.zero_add, List.drop_zero]; cases l <;> rfl
  | k + 1, j, h, [], hk => by simp at hk
  | k + 1, j, h, c :: r, hk => by
    rw [show k + 1 + j = (k + j) + 1 by omega]
    simp only [stAt, List.drop_succ_cons]
    exact stAt_add k j _ r (by simpa using hk)
/-- the free ones, from the masks -/
theorem free_num (p : Nat → Bool) : ∀ (h : Bool) (l : List Nat), Builtin.bitAnd (numL (l.map p)) (Builtin.bitNot (numL (h :: hideL h l))) = numL (freeL p h l)
  | h, [] => by simp only [List.map_nil, numL, zero_and, freeL]
  | h, c :: r => by
    have ih := free_num p (c == 92 && !h) r
    rw [List.map_cons, numL]
    conv => lhs; arg 2; rw [numL]
    rw [not_cn, and_cn, freeL, numL, hideL, ih]
theorem maskN_num (b : Nat → Bool) : ∀ l : List Nat, ((maskN b l : Nat) : Int) = numL (l.map b)
  | [] => rfl
  | c :: r => by
    rw [maskN, List.map_cons, numL, ← maskN_num b r, cn]
    cases b c <;> simp <;> omega
/-- what is kept of the first m signs -/
def keep (hs : List Bool) (l : List Nat) (m : Nat) : List Nat := (List.range m).filterMap fun i => if hs.getD i false = true then none else l[i]?
theorem keep_cons (b : Bool) (hs : List Bool) (c : Nat) (l : List Nat) (m : Nat) : keep (b :: hs) (c :: l) (m + 1) = (if b = true then [] else [c]) ++ keep hs l m := by
  unfold keep
  rw [List.range_succ_eq_map, List.filterMap_cons, List.filterMap_map]
  cases b <;> simp [Function.comp_def]
theorem scan_free {stop : Nat → Bool} (h92 : stop 92 = false) : ∀ (l : List Nat),
    (scan stop l).1 = keep (hideL false l) l (fT (freeL stop false l)) ∧ (scan stop l).2 = l.drop (fT (freeL stop false l) + 1) ∧
      (fT (freeL stop false l) < l.length → stAt false l (fT (freeL stop false l) + 1) = false)
  | [] => by simp [scan, freeL, fT, keep]
  | [c] => by
    by_cases hs : stop c = true
    · simp [scan, freeL, fT, keep, hs, stAt]
      rintro rfl; simp [h92] at hs
    · have hs : stop c = false := by simpa using hs
      by_cases hc : c = 92
      · subst hc; simp [scan, freeL, fT, keep, hs, hideL]
      · simp [scan, freeL, fT, keep, hs, hideL, hc]
  | c :: d :: r => by
    by_cases hs : stop c = true
    · have hc : (c == 92) = false := by
        simp only [beq_eq_false_iff_ne]; rintro rfl; simp [h92] at hs
      simp [scan, freeL, fT, keep, hs, stAt, hc]
    · have hs : stop c = false := by simpa using hs
      by_cases hc : c = 92
      · subst hc
        obtain ⟨i1, i2, i3⟩ := scan_free h92 r
        have ef : freeL stop false (92 :: d :: r) = false :: false :: freeL stop false r := by simp [freeL, hs]
        have eh : hideL false (92 :: d :: r) = true :: false :: hideL false r := by simp [hideL]
        rw [ef, eh]
        simp only [fT]
        rw [keep_cons, keep_cons]
        simp only [scan, hs, i1, i2, Bool.false_eq_true, if_false, if_true, List.nil_append, List.singleton_append, List.drop_succ_cons, true_and, List.length_cons]
        intro hl
        simpa [stAt] using i3 (by omega)
      · obtain ⟨i1, i2, i3⟩ := scan_free h92 (d :: r)
        have hc' : (c == 92) = false := by simpa using hc
        have ef : freeL stop false (c :: d :: r) = false :: freeL stop false (d :: r) := by rw [freeL, hs, hc']; rfl
        have eh : hideL false (c :: d :: r) = false :: hideL false (d :: r) := by rw [hideL, hc']; rfl
        rw [ef, eh]
        simp only [fT]
        rw [keep_cons]
        simp only [scan, hs, hc, i1, i2, Bool.false_eq_true, if_false, List.singleton_append, List.drop_succ_cons, true_and, List.length_cons]
        intro hl
        have := i3 (by simp only [List.length_cons]; omega)
        rw [stAt, hc']
        exact this
theorem fT_le : ∀ l : List Bool, fT l ≤ l.length
  | [] => Nat.le_refl _
  | true :: l => Nat.zero_le _
  | false :: l => Nat.succ_le_succ (fT_le l)
theorem fF_le : ∀ l : List Bool, fF l ≤ l.length
  | [] => Nat.le_refl _
  | false :: l => Nat.zero_le _
  | true :: l => Nat.succ_le_succ (fF_le l)
/-- leading blanks -/
theorem tok_skip : ∀ (l : List Nat), tok l = tok (l.drop (fF (freeL blank false l))) ∧ stAt false l (fF (freeL blank false l)) = false ∧
    (∀ c r, l.drop (fF (freeL blank false l)) = c :: r → blank c = false)
  | [] => ⟨rfl, rfl, fun c r h => by simp at h⟩
  | c :: r => by
    by_cases hb : blank c = true
    · have hc : (c == 92) = false := by
        simp only [beq_eq_false_iff_ne]; rintro rfl; simp [blank_92] at hb
      obtain ⟨i1, i2, i3⟩ := tok_skip r
      have ef : freeL blank false (c :: r) = true :: freeL blank false r := by rw [freeL, hb, hc]; rfl
      rw [ef]
      simp only [fF, List.drop_succ_cons]
      refine ⟨by rw [tok, if_pos hb, i1], ?_, i3⟩
      rw [stAt, hc]; exact i2
    · have hb : blank c = false := by simpa using hb
      have ef : freeL blank false (c :: r) = false :: freeL blank (c == 92 && !false) r := by rw [freeL, hb]; rfl
      rw [ef]
      simp only [fF, List.drop_zero]
      refine ⟨trivial, rfl, ?_⟩
      intro c' r' h
      cases h
      exact hb
end Mine
end
section
open PySem PySem.W PyProof.Rows
namespace Mine
def tBegin (bl : Int) (k : Nat) : Int := Builtin.bitAnd (bl + 2 ^ k) (Builtin.bitNot bl)
def tQuot (bl mk : Int) (k : Nat) : Int := Builtin.bitAnd (tBegin bl k) mk
def tStops (bl mk : Int) (k n : Nat) : Int := Builtin.bitXor (Builtin.bitAnd (Builtin.bitOr (if tQuot bl mk k = 0 then bl else mk) (2 ^ n)) (-(tBegin bl k))) (tQuot bl mk k)
def tStop (bl mk : Int) (k n : Nat) : Int := Builtin.bitAnd (tStops bl mk k n) (-(tStops bl mk k n))
def tTaken (bl mk H : Int) (k n : Nat) : Int := Builtin.bitAnd (tStop bl mk k n - tBegin bl k) (Builtin.bitNot (Builtin.bitOr H (tQuot bl mk k)))
def wordOf (T : Int) (cs : List Nat) (b m : Nat) : List Nat := (List.range m).filterMap fun i => if Builtin.bitAnd T (2 ^ (b + i)) = 0 then none else cs[b + i]?
theorem word_snoc (T : Int) (cs : List Nat) (b m : Nat) : wordOf T cs b (m + 1) = wordOf T cs b m ++ (if Builtin.bitAnd T (2 ^ (b + m)) = 0 then [] else cs[b + m]?.toList) := by
  unfold wordOf
  rw [List.range_succ, List.filterMap_append]
  congr 1
  by_cases h : Builtin.bitAnd T (2 ^ (b + m)) = 0
  · simp [h]
  · simp only [List.filterMap_cons, h, if_false, List.filterMap_nil]
    cases cs[b + m]? <;> rfl
/-- what a turn of the loop finds -/
structure TurnLaw (cs : List Nat) (k : Nat) (bl mk H : Int) (b e p : Nat) : Prop where
  kb : k ≤ b
  be : b ≤ e
  en : e ≤ cs.length
  begin : tBegin bl k = 2 ^ b
  stop : tStop bl mk k cs.length = 2 ^ e
  word : wordOf (tTaken bl mk H k cs.length) cs b (e - b) = (tok (cs.drop k)).1
  next : p = if e = cs.length then cs.length else e + 1
  rest : p = cs.length - (tok (cs.drop k)).2.length
  free : p < cs.length → stAt false cs p = false
theorem getD_drop {l : List Bool} {b i : Nat} : (l.drop b).getD i false = l.getD (b + i) false := by
  simp [List.getD_eq_getElem?_getD]
theorem pow_ne (b : Nat) : (2 : Int) ^ b ≠ 0 := by
  have := kbt_pos b; omega
theorem and_pow_zero (x : Int) (i : Nat) : Builtin.bitAnd x (2 ^ i) = 0 ↔ tb x i = false := by
  rw [and_pow]
  cases tb x i with
  | true => simp [pow_ne]
  | false => simp
theorem tb_taken {b e i : Nat} {H q : Int} (h1 : b ≤ i) (h2 : i < e) : tb (Builtin.bitAnd (2 ^ e - 2 ^ b) (Builtin.bitNot (Builtin.bitOr H q))) i = !(tb H i || tb q i) := by
  rw [tb_and, tb_not, tb_or, tb_span b e i h1 h2, Bool.true_and]
/-- the stops, found -/
theorem stops_found {l : List Bool} {b n : Nat} (hl : l.length = n) (hb : b ≤ n) : Builtin.bitAnd (Builtin.bitOr (numL l) (2 ^ n)) (-(2 ^ b)) = numL (List.replicate b false ++ (l.drop b ++ [true])) := by
  subst hl
  rw [or_end, clear_low, List.drop_append_of_le_length hb]
theorem low_found {l : List Bool} {b : Nat} : Builtin.bitAnd (numL (List.replicate b false ++ (l ++ [true]))) (-(numL (List.replicate b false ++ (l ++ [true])))) = 2 ^ (b + fT l) := by
  rw [low_at _ (by simp), fT_rep, fT_end]
theorem fm_congr {l : List Nat} {f g : Nat → Option Nat} (h : ∀ i ∈ l, f i = g i) : l.filterMap f = l.filterMap g := by
  induction l with
  | nil => rfl
  | cons a l ih =>
    rw [List.filterMap_cons, List.filterMap_cons, h a (.head _), ih fun i hi => h i (.tail _ hi)]
theorem sum_q (b f g : Nat) : b + (f + g + 1) = b + 1 + f + g := by omega
theorem sum_r (a g : Nat) : a + (g + 1) - g = a + 1 := by omega
theorem turn_if {a f g : Nat} : (if a = a + g then a + g else a + 1) = a + g - (f + g - (f + 1)) := by
  cases g with
  | zero => rw [if_pos (show a = a + 0 from rfl), Nat.sub_eq_zero_of_le (Nat.le_succ (f + 0))]; rfl
  | succ g =>
    rw [if_neg (Nat.ne_of_lt (Nat.lt_add_of_pos_right (Nat.succ_pos g))), show f + (g + 1) - (f + 1) = g by rw [← Nat.add_assoc, Nat.add_sub_add_right, Nat.add_sub_cancel_left]]
    exact (sum_r a g).symm
/-- the numbers of a quoted word -/
theorem nums_q {n k j b r f : Nat} (hk : k + j = b) (hbn : b ≤ n) (h1 : r + 1 = n - b) (hf : f ≤ r) : k ≤ b ∧ b ≤ b + 1 + f ∧ b + 1 + f ≤ n ∧ b + 1 + f - b = f + 1 ∧ b + 0 < b + 1 + f ∧
    (if b + 1 + f = n then n else b + 1 + f + 1) = n - (r - (f + 1)) ∧ (b + 1 + f ≠ n → f < r) ∧ b + 1 ≤ n := by
  obtain ⟨d, rfl⟩ := Nat.exists_eq_add_of_le hbn
  rw [Nat.add_sub_cancel_left] at h1
  subst h1
  obtain ⟨g, rfl⟩ := Nat.exists_eq_add_of_le hf
  have e : b + (f + g + 1) = b + 1 + f + g := sum_q b f g
  rw [e]
  refine ⟨hk ▸ Nat.le_add_right _ _, Nat.le_trans (Nat.le_succ b) (Nat.le_add_right _ _), Nat.le_add_right _ _, by rw [Nat.add_assoc, Nat.add_sub_cancel_left, Nat.add_comm], Nat.lt_of_lt_of_le (Nat.lt_succ_self b) (Nat.le_add_right _ _), turn_if, fun h => ?_, Nat.le_trans (Nat.le_add_right _ f) (Nat.le_add_right _ g)⟩
  cases g with
  | zero => exact absurd rfl h
  | succ g => exact Nat.lt_add_of_pos_right (Nat.succ_pos g)
theorem nums_i {b f i : Nat} (hi : i < f) : b ≤ b + (i + 1) ∧ b + (i + 1) < b + 1 + f ∧ b + (i + 1) = b + 1 + i ∧ decide (b + 1 + i = b) = false ∧ b ≤ b + i ∧ b + i < b + f :=
  ⟨by omega, by omega, by omega, decide_eq_false (by omega), by omega, by omega⟩
/-- the numbers of a plain word -/
theorem nums_p {n k j b f : Nat} (hk : k + j = b) (hbn : b ≤ n) (hf : f ≤ n - b) : k ≤ b ∧ b ≤ b + f ∧ b + f ≤ n ∧ b + f - b = f ∧
    (if b + f = n then n else b + f + 1) = n - (n - b - (f + 1)) ∧ (b + f ≠ n → f < n - b) := by
  obtain ⟨d, rfl⟩ := Nat.exists_eq_add_of_le hbn
  have e : b + d - b = d := Nat.add_sub_cancel_left _ _
  rw [e] at hf
  rw [e]
  obtain ⟨g, rfl⟩ := Nat.exists_eq_add_of_le hf
  rw [← Nat.add_assoc]
  refine ⟨hk ▸ Nat.le_add_right _ _, Nat.le_add_right _ _, Nat.le_add_right _ _, Nat.add_sub_cancel_left _ _, turn_if, fun h => ?_⟩
  cases g with
  | zero => exact absurd rfl h
  | succ g => exact Nat.lt_add_of_pos_right (Nat.succ_pos g)
theorem turn_law (cs : List Nat) (k : Nat) (hk : k < cs.length) (hst : stAt false cs k = false) :
    ∃ b e p, TurnLaw cs k (numL (freeL blank false cs)) (numL (freeL isQ false cs)) (numL (hideL false cs)) b e p := by
  obtain ⟨t1, t2, t3⟩ := tok_skip (cs.drop k)
  obtain ⟨j, hj⟩ : ∃ j, fF (freeL blank false (cs.drop k)) = j := ⟨_, rfl⟩
  rw [hj] at t1 t2 t3
  have hjl : j ≤ cs.length - k := by
    have := fF_le (freeL blank false (cs.drop k))
    rw [freeL_len, hj] at this
    simpa using this
  have hB : tBegin (numL (freeL blank false cs)) k = 2 ^ (k + j) := by
    rw [tBegin, begin_at, freeL_drop, hst, hj]
  have hsb : stAt false cs (k + j) = false := by rw [stAt_add _ _ _ _ (by omega), hst, t2]
  rw [List.drop_drop] at t1 t3
  obtain ⟨b, hb⟩ : ∃ b, k + j = b := ⟨_, rfl⟩
  rw [hb] at t1 t3 hB hsb
  have hbn : b ≤ cs.length := by omega
  have hQ0 : tQuot (numL (freeL blank false cs)) (numL (freeL isQ false cs)) k = if (freeL isQ false cs).getD b false = true then 2 ^ b else 0 := by
    rw [tQuot, hB, pow_and]
  have hmb : (freeL isQ false cs).getD b false = (freeL isQ false (cs.drop b)).getD 0 false := by
    have := @getD_drop (freeL isQ false cs) b 0
    rw [Nat.add_zero] at this
    rw [← this, freeL_drop, hsb]
  have hlen : (cs.drop b).length = cs.length - b := by simp
  cases hv : cs.drop b with
  | nil =>
    rw [hv] at hmb hlen
    have hbe : b = cs.length := by simp at hlen; omega
    have hQ : tQuot (numL (freeL blank false cs)) (numL (freeL isQ false cs)) k = 0 := by rw [hQ0, hmb]; rfl
    have hS : tStops (numL (freeL blank false cs)) (numL (freeL isQ false cs)) k cs.length = numL (List.replicate b false ++ ([] ++ [true])) := by
      rw [tStops, hQ, hB, if_pos rfl, stops_found (freeL_len _ _ _) hbn, freeL_drop, hv, xor_zero]; rfl
    refine ⟨b, b, cs.length, by omega, Nat.le_refl _, hbn, hB, ?_, ?_, ?_, ?_, fun h => absurd h (Nat.lt_irrefl _)⟩
    · rw [tStop, hS, low_found]; rfl
    · rw [t1, hv, Nat.sub_self]; rfl
    · rw [if_pos hbe]
    · rw [t1, hv]; rfl
  | cons c r =>
    have hbc := t3 c r hv
    have hbl : b < cs.length := by rw [hv] at hlen; simp at hlen; omega
    rw [hv] at hmb hlen
    by_cases hc : c = 34
    · subst hc
      have hQ : tQuot (numL (freeL blank false cs)) (numL (freeL isQ false cs)) k = 2 ^ b := by rw [hQ0, hmb]; rfl
      have hr : cs.drop (b + 1) = r := by rw [← List.drop_drop, hv]; rfl
      have hsr : stAt false cs (b + 1) = false := by rw [stAt_add _ _ _ _ hbn, hsb, hv]; cases r <;> rfl
      have hfr : freeL isQ false (34 :: r) = true :: freeL isQ false r := rfl
      obtain ⟨s1, s2, s3⟩ := scan_free isQ_92 r
      obtain ⟨f, hf⟩ : ∃ f, fT (freeL isQ false r) = f := ⟨_, rfl⟩
      have hfl : f ≤ r.length := by
        have := fT_le (freeL isQ false r)
        rw [freeL_len, hf] at this; exact this
      rw [hf] at s1 s2 s3
      have ht : tok (cs.drop k) = scan isQ r := by rw [t1, hv, tok, if_neg (by simp [hbc]), if_pos rfl]
      have hS : tStops (numL (freeL blank false cs)) (numL (freeL isQ false cs)) k cs.length = numL (List.replicate (b + 1) false ++ (freeL isQ false r ++ [true])) := by
        rw [tStops, hQ, hB, if_neg (pow_ne b), stops_found (freeL_len _ _ _) hbn, freeL_drop, hsb, hv, hfr, List.cons_append, xor_mark]
      have hT : tStop (numL (freeL blank false cs)) (numL (freeL isQ false cs)) k cs.length = 2 ^ (b + 1 + f) := by rw [tStop, hS, low_found, hf]
      have hrl : r.length + 1 = cs.length - b := by simpa using hlen
      obtain ⟨n1, n2, n3, n4, n5, n6, n7, n8⟩ := nums_q hb hbn hrl hfl
      refine ⟨b, b + 1 + f, if b + 1 + f = cs.length then cs.length else b + 1 + f + 1, n1, n2, n3, hB, hT, ?_, rfl, ?_, ?_⟩
      · rw [ht, s1, tTaken, hT, hB, hQ, n4, wordOf, List.range_succ_eq_map, List.filterMap_cons, List.filterMap_map]
        have h0 : Builtin.bitAnd (Builtin.bitAnd (2 ^ (b + 1 + f) - 2 ^ b) (Builtin.bitNot (Builtin.bitOr (numL (hideL false cs)) (2 ^ b)))) (2 ^ (b + 0)) = 0 := by
          rw [and_pow_zero, tb_taken (Nat.le_add_right b 0) n5, tb_pow]
          simp
        rw [if_pos h0, keep]
        show List.filterMap _ _ = _
        apply fm_congr
        intro i hi
        have hi := List.mem_range.mp hi
        obtain ⟨i1, i2, i3, i4, _, _⟩ := nums_i (b := b) hi
        have e1 : Builtin.bitAnd (Builtin.bitAnd (2 ^ (b + 1 + f) - 2 ^ b) (Builtin.bitNot (Builtin.bitOr (numL (hideL false cs)) (2 ^ b)))) (2 ^ (b + (i + 1))) = 0 ↔ (hideL false r).getD i false = true := by
          rw [and_pow_zero, tb_taken i1 i2, tb_pow, tb_num, i3, ← getD_drop, hideL_drop, hsr, hr, i4]
          simp
        have e2 : cs[b + (i + 1)]? = r[i]? := by rw [← hr, List.getElem?_drop, i3]
        simp only [Function.comp, Nat.succ_eq_add_one, e2]
        by_cases hh : (hideL false r).getD i false = true
        · rw [if_pos (e1.mpr hh), if_pos hh]
        · rw [if_neg (fun q => hh (e1.mp q)), if_neg hh]
      · rw [ht, s2, List.length_drop]
        exact n6
      · intro hp
        have hne : b + 1 + f ≠ cs.length := fun h => by rw [if_pos h] at hp; exact Nat.lt_irrefl _ hp
        rw [if_neg hne, Nat.add_assoc (b + 1) f 1, stAt_add _ _ _ _ n8, hsr, hr]
        exact s3 (n7 hne)
    · have hQ : tQuot (numL (freeL blank false cs)) (numL (freeL isQ false cs)) k = 0 := by
        rw [hQ0, hmb]
        simp [freeL, isQ, hc]
      obtain ⟨s1, s2, s3⟩ := scan_free blank_92 (c :: r)
      obtain ⟨f, hf⟩ : ∃ f, fT (freeL blank false (c :: r)) = f := ⟨_, rfl⟩
      have hfl : f ≤ (c :: r).length := by
        have := fT_le (freeL blank false (c :: r))
        rw [freeL_len, hf] at this; exact this
      rw [hf] at s1 s2 s3
      have ht : tok (cs.drop k) = scan blank (c :: r) := by rw [t1, hv, tok, if_neg (by simp [hbc]), if_neg hc]
      have hS : tStops (numL (freeL blank false cs)) (numL (freeL isQ false cs)) k cs.length = numL (List.replicate b false ++ (freeL blank false (c :: r) ++ [true])) := by
        rw [tStops, hQ, hB, if_pos rfl, stops_found (freeL_len _ _ _) hbn, freeL_drop, hsb, hv, xor_zero]
      have hT : tStop (numL (freeL blank false cs)) (numL (freeL isQ false cs)) k cs.length = 2 ^ (b + f) := by rw [tStop, hS, low_found, hf]
      rw [hlen] at hfl
      obtain ⟨n1, n2, n3, n4, n6, n7⟩ := nums_p hb hbn hfl
      refine ⟨b, b + f, if b + f = cs.length then cs.length else b + f + 1, n1, n2, n3, hB, hT, ?_, rfl, ?_, ?_⟩
      · rw [ht, s1, tTaken, hT, hB, hQ, n4, wordOf, keep]
        apply fm_congr
        intro i hi
        have hi := List.mem_range.mp hi
        obtain ⟨_, _, _, _, i5, i6⟩ := nums_i (b := b) hi
        have e1 : Builtin.bitAnd (Builtin.bitAnd (2 ^ (b + f) - 2 ^ b) (Builtin.bitNot (Builtin.bitOr (numL (hideL false cs)) 0))) (2 ^ (b + i)) = 0 ↔ (hideL false (c :: r)).getD i false = true := by
          rw [and_pow_zero, tb_taken i5 i6, tb_zero, tb_num, ← getD_drop, hideL_drop, hsb, hv]
          simp
        have e2 : cs[b + i]? = (c :: r)[i]? := by rw [← hv, List.getElem?_drop]
        rw [e2]
        by_cases hh : (hideL false (c :: r)).getD i false = true
        · rw [if_pos (e1.mpr hh), if_pos hh]
        · rw [if_neg (fun q => hh (e1.mp q)), if_neg hh]
      · rw [ht, s2, List.length_drop, hlen]
        exact n6
      · intro hp
        have hne : b + f ≠ cs.length := fun h => by rw [if_pos h] at hp; exact Nat.lt_irrefl _ hp
        rw [if_neg hne, Nat.add_assoc b f 1, stAt_add _ _ _ _ hbn, hsb, hv]
        exact s3 (by rw [hlen]; exact n7 hne)
end Mine
end
section
open PySem PySem.W PyProof.Rows
namespace Mine
section
variable {prog : Program} {w : World} {A : Around} {E : Value → Shared → Prop} {s : Shared}
/-- two ways to one number: gone on with once -/
theorem merge_int {t : Sem Value} {Q : Value → Shared → Prop} (X : Int)
    (h1 : wpAny (model prog w) A t (fun v s' => (∃ tk, s.toks ≤ tk ∧ s' = { s with toks := tk }) ∧ ∃ k, v = .int X k) E s)
    (h2 : ∀ k tk, s.toks ≤ tk → Q (.int X k) { s with toks := tk }) : wpAny (model prog w) A t Q E s := by
  refine wpAny_mono h1 ?_ fun _ _ e => e
  rintro v s' ⟨⟨tk, htk, rfl⟩, k, rfl⟩
  exact h2 k tk htk
end
end Mine
end
section
open PySem PySem.W PyProof.Rows PyProof.Rows.LCg PyProof.Rows.LCt
namespace Mine
/-- several ways to one kind of value: gone on with once -/
def MergeTo (h₀ : Heap) (L : Addr) (m : Str → Option Value) (news : List (Addr × Obj)) (P : Value → Prop) (T : Nat) (s : Shared) (v : Value) (s' : Shared) : Prop :=
  ∃ h' tk, s' = { s with heap := h', toks := tk } ∧ Fr h₀ L h' m ∧ News h₀ L h' news ∧ T ≤ tk ∧ P v
section
variable {prog : Program} {w : World} {A : Around} {E : Value → Shared → Prop} {s : Shared} {h₀ : Heap} {L : Addr} {m : Str → Option Value} {env : Env} {news : List (Addr × Obj)}
theorem merge_to {t : Sem Value} {Q : Value → Shared → Prop} (F : Fr h₀ L s.heap m) (N : News h₀ L s.heap news) (P : Value → Prop) (T : Nat) (h1 : wpAny (model prog w) A t (MergeTo h₀ L m news P T s) (fun _ _ => False) s)
    (h2 : ∀ v h' tk, Fr h₀ L h' m → News h₀ L h' news → T ≤ tk → P v → Q v { s with heap := h', toks := tk }) : wpAny (model prog w) A t Q E s := by
  refine wpAny_mono h1 ?_ fun _ _ e => e.elim
  rintro v s' ⟨h', tk, rfl, F, N, htk, hP⟩
  exact h2 v h' tk F N htk hP
theorem ct_range {ct elt : Expr} {x : Str} {scope : Scope} {cl : List (Str × Addr)} {n : Nat} {a : Int} {Fin : List Value → List (Addr × Obj) → Prop} (J : Nat → List Value → Prop) (j0 : J 0 [])
    (step : ∀ i ys t I oI C oC D m₂ h tk, i < n → J i ys → NsObj oC m₂ → m₂ x = some (.int (a + (i : Int)) t) → Fr h₀ L h m → News h₀ L h ((I, oI) :: (C, oC) :: (D, lst ys) :: news) → Off3 I C D news → ((@Ne Nat I C) ∧ (@Ne Nat I D) ∧ (@Ne Nat C D)) →
      wpAny (model prog w) A (isTrue ct (compEnvC scope cl C env) (eval ct (compEnvC scope cl C env))) (fun ok s' => if ok = true then
        wpAny (model prog w) A (eval elt (compEnvC scope cl C env)) (CompOut h₀ L m ((I, oI) :: (C, oC) :: (D, lst ys) :: news) (fun y _ => J (i + 1) (ys ++ [y])) s) (fun _ _ => False) s'
        else CompOut h₀ L m ((I, oI) :: (C, oC) :: (D, lst ys) :: news) (fun _ _ => J (i + 1) ys) s Value.none s') (fun _ _ => False) { s with heap := h, toks := tk })
    (fin : ∀ ys, J n ys → Fin ys news) : CompRestT prog w A h₀ L m env ct elt x scope cl s (fun _ => True) (fun i v => ∃ t, v = .int (a + (i : Int)) t) Fin n 0 [] news := by
  have key : ∀ k i ys, i + k = n → J i ys → CompRestT prog w A h₀ L m env ct elt x scope cl s (fun _ => True) (fun i v => ∃ t, v = .int (a + (i : Int)) t) Fin k i ys news := by
    intro k
    induction k with
    | zero =>
      intro i ys hi hj
      obtain rfl : i = n := by omega
      exact CompRestT.zero (fin ys hj)
    | succ k ih =>
      intro i ys hi hj v I oI C oC D m₂ h tk E' hv hC hx F N off ne
      obtain ⟨t, rfl⟩ := hv
      refine wpAny_mono (step i ys t I oI C oC D m₂ h tk (by omega) hj hC hx F N off ne) (fun ok s' h₁ => ?_) fun _ _ e => e.elim
      cases ok with
      | true =>
        simp only [if_true] at h₁ ⊢
        refine wpAny_mono h₁ (fun y s₂ h₂ => ?_) fun _ _ e => e.elim
        obtain ⟨h', tk', rfl, F', N', hj'⟩ := h₂
        exact ⟨h', tk', news, rfl, F', N', off, trivial, ih (i + 1) _ (by omega) hj'⟩
      | false =>
        simp only [Bool.false_eq_true, if_false] at h₁ ⊢
        obtain ⟨h', tk', rfl, F', N', hj'⟩ := h₁
        exact ⟨h', tk', news, rfl, F', N', off, trivial, ih (i + 1) _ (by omega) hj'⟩
  exact key n 0 [] (by omega) j0
end
def rangeObj (a b : Int) (t u v : Tok) : Obj := { cls := .type "range", data := .fields #[.int a t, .int b u, .int 1 v] }
section
variable {prog : Program} {w : World} {A : Around} {E : Value → Shared → Prop} {s : Shared} {h₀ : Heap} {L : Addr} {m : Str → Option Value} {news : List (Addr × Obj)}
theorem range_K {a b : Int} {t u : Tok} {Q : Value → Shared → Prop} (F : Fr h₀ L s.heap m) (N : News h₀ L s.heap news)
    (h : ∀ (R : Addr) (h' : Heap) (v : Tok), Fr h₀ L h' m → News h₀ L h' ((R, rangeObj a b t u v) :: news) → (∀ p ∈ news, p.1 < R) → Q (.ref R) { s with heap := h', toks := s.toks + 1 }) :
    wpAny (model prog w) A (call (.type "range") [.int a t, .int b u]) Q E s :=
  call_range_2 (h _ _ _ (F.push _) (N.push F (rangeObj a b t u s.toks) rfl) fun p hp => Heap.lt_size (N p hp).1)
end
theorem range_size2 {b e : Nat} (h : b ≤ e) : Builtin.Range.rangeSize b e 1 = ((e - b : Nat) : Int) := by
  rw [rangeSize_one]
  split <;> omega
theorem pow_inj {i b : Nat} (h : (2 : Int) ^ i = 2 ^ b) : i = b := by
  rw [← kbt_cast, ← kbt_cast] at h
  exact (Nat.pow_right_inj (by decide)).mp (Int.ofNat_inj.mp h)
theorem spots_index {ts : List Nat} {tk b : Nat} {X : Int} (hX : X = 2 ^ b) (hbd : ∀ t ∈ ts, 0 < t) (htk : ∀ i t, ts[i]? = some t → t = tk → i = b) :
    ∀ i v, (spotsOf ts)[i]? = some v → ∃ (n : Int) (t : Nat), v = .int n t ∧ 0 < t ∧ (t = tk → n = X) ∧ (i < b → n ≠ X) ∧ (i = b → n = X) := by
  intro i v h
  rw [spots_get] at h
  cases e : ts[i]? with
  | none => rw [e] at h; simp at h
  | some t =>
    rw [e] at h
    simp only [Option.map_some, Option.some.injEq] at h
    refine ⟨_, _, h.symm, hbd t (List.mem_of_getElem? e), fun h' => ?_, fun h' h'' => ?_, fun h' => ?_⟩
    · rw [htk i t e h', hX]
    · rw [hX] at h''; have := pow_inj h''; omega
    · rw [h', hX]
/-- a token above all the spots' own -/
theorem spots_fresh {ts : List Nat} {tk3 tk : Nat} {P : Nat → Prop} (hbd : ∀ t ∈ ts, 0 < t ∧ t < tk3) (h : tk3 ≤ tk) : ∀ i t, ts[i]? = some t → t = tk → P i := by
  intro i t e h'
  have := hbd t (List.mem_of_getElem? e)
  omega
theorem spots_last {ts : List Nat} {n tn : Nat} (hpw : ts.Pairwise (· < ·)) (hn : ts[n]? = some tn) : ∀ i t, ts[i]? = some t → t = tn → i = n := by
  intro i t e h'
  subst h'
  obtain ⟨h1, e1⟩ := List.getElem?_eq_some_iff.mp e
  obtain ⟨h2, e2⟩ := List.getElem?_eq_some_iff.mp hn
  rw [List.pairwise_iff_getElem] at hpw
  by_cases hlt : i < n
  · have := hpw i n h1 h2 hlt; omega
  · by_cases hgt : n < i
    · have := hpw n i h2 h1 hgt; omega
    · omega
/-- what the loop has told so far, and where it stands -/
def WordsP (cs : List Nat) (k : Nat) (rs : List Row) : Prop := chain cs 0 (rs.map Row.tell) k ∧ (k < cs.length → stAt false cs k = false)
theorem WordsP.start (cs : List Nat) : WordsP cs 0 [] := ⟨rfl, fun _ => by cases cs <;> rfl⟩
theorem map_congr' {f g : Nat → Bool} {l : List Nat} (h : ∀ c ∈ l, f c = g c) : l.map f = l.map g := List.map_congr_left h
theorem mask_free {sg t : Str} {p : Nat → Bool} {D : Int} (hD : D = numL (false :: hideL false t.cps.toList)) (h : ∀ c ∈ t.cps.toList, hasS sg c = p c) :
    Builtin.bitAnd (maskZ sg t) (Builtin.bitNot D) = numL (freeL p false t.cps.toList) := by
  rw [hD, maskZ, maskN_num, map_congr' h, free_num]
def alph : List Nat := [92, 34, 32, 97, 10, 98, 9, 13]
theorem hasS_q : ∀ c ∈ alph, hasS (Str.ofString "\"") c = isQ c := by decide +kernel
theorem hasS_w : ∀ c ∈ alph, hasS (Str.ofString " \t\n\x0d") c = blank c := by decide +kernel
theorem hasS_b : ∀ c ∈ alph, hasS (Str.ofString "\\") c = (c == 92) := by decide +kernel
end Mine
end
section
open PySem PySem.W PyProof.Rows PyProof.Rows.LCg PyProof.Rows.LCt
namespace Mine
theorem SignsAre.snoc {c : Nat} {t : Tok} : ∀ {vs : List Value} {cs : List Nat}, SignsAre vs cs → SignsAre (vs ++ [.str ⟨#[c]⟩ t]) (cs ++ [c])
  | [], [], _ => ⟨⟨t, rfl⟩, trivial⟩
  | _ :: _, _ :: _, ⟨h, r⟩ => ⟨h, SignsAre.snoc r⟩
theorem SignsAre.strs : ∀ {vs : List Value} {cs : List Nat}, SignsAre vs cs → StrsAre vs (cs.map fun c => (⟨#[c]⟩ : Str))
  | [], [], _ => .nil
  | _ :: _, _ :: _, ⟨⟨t, e⟩, r⟩ => by rw [e]; exact .cons _ t r.strs
theorem join_ones : ∀ cs : List Nat, Txt.join (Str.ofString "") (cs.map fun c => (⟨#[c]⟩ : Str)) = ⟨cs.toArray⟩ := by
  rw [empty_is]
  intro cs
  rw [Txt.join, StrLaws.glued_eq_join]
  induction cs with
  | nil => rfl
  | cons c r ih =>
    cases r with
    | nil => rfl
    | cons d r =>
      rw [List.map_cons, List.map_cons, Str.join]
      rw [← List.map_cons (f := fun c => (⟨#[c]⟩ : Str)), ih]
      · show (⟨#[c] ++ #[] ++ (d :: r).toArray⟩ : Str) = _
        congr 1
        simp
      · simp
section
variable {prog : Program} {w : World} {A : Around} {E : Value → Shared → Prop} {s : Shared} {h₀ : Heap} {L : Addr} {news : List (Addr × Obj)}
theorem sum_ones (cs : List Nat) : ((cs.map fun c => (⟨#[c]⟩ : Str)).map (·.length)).sum = cs.length := by
  induction cs with
  | nil => rfl
  | cons c r ih =>
    simp only [List.map_cons, List.sum_cons, ih, List.length_cons]
    show 1 + _ = _
    omega
theorem join_here {D : Addr} {vs : List Value} {ep : Nat} {cs : List Nat} {t : Tok} {Q : Value → Shared → Prop} (N : News h₀ L s.heap news) (hm : (D, W.listOf vs.toArray ep) ∈ news) (hs : SignsAre vs cs) (hl : cs.length ≤ 100)
    (h : ∀ t' k, s.toks ≤ k → Q (.str ⟨cs.toArray⟩ t') { s with toks := k }) : wpAny (model prog w) A (call (.builtin "str.join") [.str (Str.ofString "") t, .ref D]) Q E s := by
  refine wpAny_with_toks (n := _) (Nat.le_refl _) (join_list (isList_led N hm) (by simpa using hs.strs) ?_ fun t' k htk => ?_)
  · rw [sum_ones, List.length_map, empty_is]
    show _ + cs.length * 0 ≤ _
    omega
  · rw [join_ones]; exact h t' k htk
theorem str_item {value slice : PySem.Expr} {x : Str} {t u : Tok} {K : Int} {k c : Nat} {Q : Value → Shared → Prop} (hK : K = ((k : Nat) : Int)) (hc : x.cps.toList[k]? = some c) (hk : k < 2 ^ 60) (h : ∀ t', Q (.str ⟨#[c]⟩ t') { s with toks := s.toks + 1 })
    (hs : subscripted slice false (.str x t) (.int K u) = operate [.str x t, .int K u] (getItem (.str x t) (.int K u)) := by with_unfolding_all rfl) :
    wpAny (model prog w) A (subscriptTail value slice (.str x t) (.int K u)) Q E s := by
  subst hK
  refine tail_any (typeIs_str s x t) F.slot_str_getitem.lookup (P.getItem_str (c := c) ?_ ?_ (h _)) hs
  · have h1 : decide (((k : Nat) : Int) < -(2 ^ 63 : Int)) = false := by
      rw [decide_eq_false_iff_not]; omega
    have h2 : decide (((k : Nat) : Int) ≥ 2 ^ 63) = false := by
      rw [decide_eq_false_iff_not]; omega
    rw [h1, h2]; rfl
  · have hlt : k < x.cps.toList.length := (List.getElem?_eq_some_iff.mp hc).1
    have e : seqIndex? (k : Int) x.length = some k := by
      unfold seqIndex? Str.length
      simp only [Array.length_toList] at hlt
      have : ¬ ((k : Int) < 0) := by omega
      simp only [this, if_false]
      simp [hlt]
    rw [e]
    simpa [Array.getElem?_toList] using hc
theorem item_atI {value slice : PySem.Expr} {l : Addr} {vs : List Value} {ep : Nat} {K : Int} {k : Nat} {u : Tok} {v : Value} {Q : Value → Shared → Prop} (N : News h₀ L s.heap news) (hm : (l, W.listOf vs.toArray ep) ∈ news)
    (hK : K = ((k : Nat) : Int)) (hk : k < 2 ^ 60) (hx : vs[k]? = some v) (h : Q v s)
    (hs : subscripted slice false (.ref l) (.int K u) = operate [.ref l, .int K u] (getItem (.ref l) (.int K u)) := by with_unfolding_all rfl) :
    wpAny (model prog w) A (subscriptTail value slice (.ref l) (.int K u)) Q E s := by
  subst hK
  exact item_at N hm hk hx h hs
end
theorem txt_item {x : Str} {K : Int} {k c : Nat} (hK : K = ((k : Nat) : Int)) (hc : x.cps.toList[k]? = some c) : Txt.item x K = ⟨#[c]⟩ := by
  subst hK
  have hlt : k < x.cps.toList.length := (List.getElem?_eq_some_iff.mp hc).1
  have e : seqIndex? (k : Int) x.length = some k := by
    unfold seqIndex? Str.length
    simp only [Array.length_toList] at hlt
    have : ¬ ((k : Int) < 0) := by omega
    simp only [this, if_false]
    simp [hlt]
  have hc' : x.cps[k]? = some c := by simpa [Array.getElem?_toList] using hc
  unfold Txt.item Txt.charAt
  rw [e]
  simp [hc']
theorem pow_bound {e : Nat} (h : e ≤ 27) : (0 : Int) ≤ 2 ^ e ∧ (2 : Int) ^ e < 2 ^ 40 := by
  have h1 : (2 : Nat) ^ e ≤ 2 ^ 27 := Nat.pow_le_pow_right (by omega) h
  have h3 : (2 : Nat) ^ 27 < 2 ^ 40 := by decide
  obtain ⟨x, hx⟩ : ∃ x, (2 : Nat) ^ e = x := ⟨_, rfl⟩
  have h4 : (2 : Int) ^ e = (x : Int) := by rw [← kbt_cast, hx]
  have h5 : (2 : Int) ^ 40 = ((2 ^ 40 : Nat) : Int) := (kbt_cast 40).symm
  rw [hx] at h1
  rw [h4, h5]
  omega
/-- the signs taken so far -/
structure TakeJ (T : Int) (cs : List Nat) (b i : Nat) (ys : List Value) : Prop where
  ok : SignsAre ys (wordOf T cs b i)
theorem TakeJ.start (T : Int) (cs : List Nat) (b : Nat) : TakeJ T cs b 0 [] := ⟨trivial⟩
theorem TakeJ.skip {T : Int} {cs : List Nat} {b i : Nat} {ys : List Value} (j : TakeJ T cs b i ys) (h : Builtin.bitAnd T (2 ^ (b + i)) = 0) : TakeJ T cs b (i + 1) ys := by
  refine ⟨?_⟩
  rw [word_snoc, if_pos h, List.append_nil]
  exact j.ok
theorem TakeJ.take {T : Int} {cs : List Nat} {b i c : Nat} {t : Tok} {ys : List Value} (j : TakeJ T cs b i ys) (h : ¬ Builtin.bitAnd T (2 ^ (b + i)) = 0) (hc : cs[b + i]? = some c) : TakeJ T cs b (i + 1) (ys ++ [.str ⟨#[c]⟩ t]) := by
  refine ⟨?_⟩
  rw [word_snoc, if_neg h, hc]
  exact j.ok.snoc
theorem wordOf_len (T : Int) (cs : List Nat) (b m : Nat) : (wordOf T cs b m).length ≤ m := by
  unfold wordOf
  exact Nat.le_trans (List.length_filterMap_le _ _) (by simp)
theorem small_be {b e : Nat} (hb : b ≤ 100) (he : e ≤ 100) : Builtin.Range.small b e 1 = true := small_one (by omega) (by omega) (by omega) (by omega)
end Mine
end
section
open Mine PyProof.Rows.LCg
local macro_rules | `(tactic| walk_at "eval Call") => `(tactic| (k_here; k_dflt (refine' ev_call ?D ?B ?X ?T ?a ?c ?r ?F ?N ?_; (case F => k_asm); (case D => ((repeat (first | exact EvI.const | exact EvI.name (by exact rfl) (by exact rfl) (by decide) | apply EvI.op2 | apply EvI.op1 | exact rfl | with_reducible constructor | decide | omega)); done)); (case B => k_asm); (case X => k_asm); (case T => k_asm); (case a => exact rfl); (case c => exact rfl); (case r => k_room); (case N => k_asm)); intro t' k' h' l1' l2' F' N'; (try k_sweep)))
local macro_rules | `(tactic| walk_at "eval Call") => `(tactic| (k_here; k_dflt (refine' cmp_call ?D1 ?D2 ?O ?hk ?B ?X ?T ?a ?c ?r ?F ?N ?_; (case F => k_asm); (case hk => exact rfl); (case D1 => exact EvI.name (by exact rfl) (by exact rfl) (by decide)); (case D2 => ((repeat (first | exact EvI.const | exact EvI.name (by exact rfl) (by exact rfl) (by decide) | apply EvI.op2 | exact rfl | with_reducible constructor | decide | omega)); done)); (case O => with_reducible constructor); (case B => k_asm); (case X => k_asm); (case T => k_asm); (case a => exact rfl); (case c => exact rfl); (case r => k_room); (case N => k_asm)); intro k' h' l1' F' N'; (try k_sweep)))
local macro_rules | `(tactic| walk_at "call ref") => `(tactic| (k_here; k_dflt (refine' op_go ?O ?B ?X ?T ?a ?c ?r ?F ?N ?_; (case O => with_reducible constructor); (case B => k_asm); (case X => k_asm); (case T => k_asm); (case a => exact rfl); (case c => exact rfl); (case r => k_room); (case F => k_asm); (case N => k_asm)); intro t' h' l1' F' N'; (try k_sweep)))
local macro_rules | `(tactic| walk_at "subscriptTail") => `(tactic| (k_here; with_reducible refine holdI ?_))
local macro_rules | `(tactic| walk_at "call ref") => `(tactic| (k_here; with_reducible first | refine holdC 182 ?_ | refine holdC 168 ?_ | refine holdC 189 ?_ | refine holdC 194 ?_ | refine holdC 161 ?_ | refine holdC 49 ?_))
local macro_rules | `(tactic| walk_at "eval ListComp") => `(tactic| (k_here; refine hold ?_))
local macro_rules | `(tactic| walk_at "call builtin:str.join") => `(tactic| (k_here; refine hold ?_))
section
open PySem PySem.W PyProof.Rows PyProof.Rows.LCg PyProof.Rows.LCt
namespace Mine
section
variable {prog : Program} {w : World} {A : Around} {E : Value → Shared → Prop} {s : Shared} {h₀ : Heap} {L : Addr} {m : Str → Option Value}
/-- a new row laid behind the rows told -/
theorem append_told {T D11 R9 ra D3 c1 c2 c3 : Nat} {o11 o9 ora o4 o1 o2 o3 : Obj} {nr : List (Addr × Obj)} {its : Array Value} {n : Nat} {x : Value} {Q : Value → Shared → Prop} (F : Fr h₀ L s.heap m)
    (N : News h₀ L s.heap ((ra, ora) :: (D11, o11) :: (R9, o9) :: (T, W.listOf its n) :: (D3, o4) :: (c1, o1) :: (c2, o2) :: (c3, o3) :: nr))
    (hra : T < ra) (h3 : D3 < T) (h4 : c1 < T) (h5 : c2 < T) (h6 : c3 < T) (hnr : c3 < T → ∀ p ∈ nr, p.1 ≠ T) (hsz : its.size ≤ 100)
    (h : ∀ h', Fr h₀ L h' m → News h₀ L h' ((T, W.listOf (its.push x) (n + 1)) :: (ra, ora) :: (D3, o4) :: (c1, o1) :: (c2, o2) :: (c3, o3) :: nr) → Q .none { s with heap := h' }) :
    wpAny (model prog w) A (call (.builtin "list.append") [.ref T, x]) Q E s := by
  have z := N (T, W.listOf its n) (.tail _ (.tail _ (.tail _ (.head _))))
  refine append_at (hsz := by rw [sizeLine_eq]; omega) z.1 fun h' hs ho' => h h' (F.change hs z.2.1 z.2.2) fun p hp => ?_
  have go : ∀ q : Addr × Obj, q ∈ ((ra, ora) :: (D11, o11) :: (R9, o9) :: (T, W.listOf its n) :: (D3, o4) :: (c1, o1) :: (c2, o2) :: (c3, o3) :: nr) → q.1 ≠ T → h'.get? q.1 = some q.2 ∧ q.1 ≠ L ∧ h₀.get? q.1 = none := fun q hq hne =>
    ⟨hs.extBut _ _ hne (N q hq).1, (N q hq).2⟩
  rcases List.mem_cons.mp hp with rfl | hp
  · exact ⟨ho', z.2⟩
  rcases List.mem_cons.mp hp with rfl | hp
  · exact go _ (.head _) (Nat.ne_of_gt hra)
  rcases List.mem_cons.mp hp with rfl | hp
  · exact go _ (.tail _ (.tail _ (.tail _ (.tail _ (.head _))))) (Nat.ne_of_lt h3)
  rcases List.mem_cons.mp hp with rfl | hp
  · exact go _ (.tail _ (.tail _ (.tail _ (.tail _ (.tail _ (.head _)))))) (Nat.ne_of_lt h4)
  rcases List.mem_cons.mp hp with rfl | hp
  · exact go _ (.tail _ (.tail _ (.tail _ (.tail _ (.tail _ (.tail _ (.head _))))))) (Nat.ne_of_lt h5)
  rcases List.mem_cons.mp hp with rfl | hp
  · exact go _ (.tail _ (.tail _ (.tail _ (.tail _ (.tail _ (.tail _ (.tail _ (.head _)))))))) (Nat.ne_of_lt h6)
  · exact go _ (.tail _ (.tail _ (.tail _ (.tail _ (.tail _ (.tail _ (.tail _ (.tail _ hp)))))))) (hnr h6 p hp)
end
theorem frame_norm {m : Str → Option Value} {v1 v2 v3 v4 v5 v6 v7 : Value} (h1 : m (Str.ofString "told") = some v1) (h2 : m (Str.ofString "here") = some v2) (h3 : m (Str.ofString "ends") = some v3) (h4 : m (Str.ofString "blanks") = some v4)
    (h5 : m (Str.ofString "marks") = some v5) (h6 : m (Str.ofString "hidden") = some v6) (h7 : m (Str.ofString "hiding") = some v7) :
    m = fun y => if y = Str.ofString "told" then some v1 else if y = Str.ofString "here" then some v2 else if y = Str.ofString "ends" then some v3
      else if y = Str.ofString "blanks" then some v4 else if y = Str.ofString "marks" then some v5
      else if y = Str.ofString "hidden" then some v6 else if y = Str.ofString "hiding" then some v7 else m y := by
  funext y
  by_cases e1 : y = Str.ofString "told"
  · rw [e1, if_pos rfl, h1]
  rw [if_neg e1]
  by_cases e2 : y = Str.ofString "here"
  · rw [e2, if_pos rfl, h2]
  rw [if_neg e2]
  by_cases e3 : y = Str.ofString "ends"
  · rw [e3, if_pos rfl, h3]
  rw [if_neg e3]
  by_cases e4 : y = Str.ofString "blanks"
  · rw [e4, if_pos rfl, h4]
  rw [if_neg e4]
  by_cases e5 : y = Str.ofString "marks"
  · rw [e5, if_pos rfl, h5]
  rw [if_neg e5]
  by_cases e6 : y = Str.ofString "hidden"
  · rw [e6, if_pos rfl, h6]
  rw [if_neg e6]
  by_cases e7 : y = Str.ofString "hiding"
  · rw [e7, if_pos rfl, h7]
  rw [if_neg e7]
theorem WordsJ.again {P : Nat → List Row → Prop} {g : Heap} {L₁ tk3 T D3 n : Nat} {bl mk D H : Int} {tq tb tm t2 t1 tn : Nat} {sp : List Value} {o1 o2 o3 : Obj} {news nr : List (Addr × Obj)} {h : Heap} {tk : Nat} {m : Str → Option Value} {rs : List Row} {ra tw tp ep pn : Nat} {wd : List Nat} {cv : Option Value}
    (F : Fr g L₁ h m) (h1 : m (Str.ofString "told") = some (.ref T)) (h2 : m (Str.ofString "here") = some (.int (2 ^ pn) tq)) (h3 : m (Str.ofString "ends") = some (.int (2 ^ n) tn)) (h4 : m (Str.ofString "blanks") = some (.int bl tb))
    (h5 : m (Str.ofString "marks") = some (.int mk tm)) (h6 : m (Str.ofString "hidden") = some (.int D t2)) (h7 : m (Str.ofString "hiding") = some (.int H t1))
    (N : News g L₁ h ((T, W.listOf ((rs.map Row.val).toArray.push (.ref ra)) (ep + 1)) :: (ra, W.listOf #[.str ⟨wd.toArray⟩ tw, .int pn tp] 0) :: (D3, W.listOf sp.toArray sp.length) :: (L₁ + 1 + 1 + 1, o1) :: (L₁ + 1 + 1, o2) :: (L₁ + 1, o3) :: nr))
    (enr : rs.map Row.led ++ news = nr) (d1 : o1.data = .cell cv) (ht : tk3 ≤ tk) (hpn : pn ≤ n) (hrs : ∀ r ∈ rs, T < r.a) (hra : T < ra) (hrl : rs.length + 1 ≤ pn) (hP : P pn (rs ++ [⟨ra, wd, pn, tw, tp, 0⟩])) :
    WordsJ P g L₁ tk3 T D3 n bl mk D H tb tm t2 t1 tn sp o2 o3 news (n - pn) h tk := by
  have e := frame_norm h1 h2 h3 h4 h5 h6 h7
  rw [e] at F
  refine ⟨pn, tq, rs ++ [⟨ra, wd, pn, tw, tp, 0⟩], ep + 1, o1, cv, m, F, ?_, d1, ht, hpn, rfl, ?_, by simpa using hrl, hP⟩
  · intro p hp
    have e2 : ((rs ++ [(⟨ra, wd, pn, tw, tp, 0⟩ : Row)]).map Row.val).toArray = (rs.map Row.val).toArray.push (.ref ra) := by simp [Row.val]
    rw [e2] at hp
    refine N p ?_
    subst enr
    simp only [List.map_append, List.map_cons, List.map_nil, List.mem_cons, List.mem_append, List.not_mem_nil, or_false, Row.led] at hp ⊢
    rcases hp with h | h | h | h | h | (h | h) | h <;> simp only [h, true_or, or_true]
  · intro r hr
    rcases List.mem_append.mp hr with hr | hr
    · exact hrs r hr
    · rw [List.mem_singleton.mp hr]; exact hra
theorem WordsP.again {cs : List Nat} {k pn ra tw tp : Nat} {rs : List Row} (hP : WordsP cs k rs) (hk : k < cs.length) (hr : pn = cs.length - (tok (cs.drop k)).2.length) (hf : pn < cs.length → stAt false cs pn = false) :
    WordsP cs pn (rs ++ [⟨ra, (tok (cs.drop k)).1, pn, tw, tp, 0⟩]) := by
  refine ⟨?_, hf⟩
  have := chain_snoc _ _ hP.1 hk
  rw [← hr] at this
  rw [List.map_append]
  exact this
/-- what _law_words hands back -/
structure RowsAre (cs : List Nat) (news : List (Addr × Obj)) (A : Nat) (rows : List Row) : Prop where
  told : ∃ rs, rows.map Row.tell = rs ++ [([], cs.length), ([], cs.length)] ∧ chain cs 0 rs cs.length
  len : rows.length ≤ 60
  aboveA : ∀ p ∈ news, p.1 < A
  above : ∀ r ∈ rows, ∀ p ∈ news, p.1 < r.a
theorem words_done {cs : List Nat} {h₀ h : Heap} {L A T q1 a b n : Nat} {o1 o2 oA : Obj} {rs : List Row} {news nr : List (Addr × Obj)} {ta1 ta2 tb1 tb2 ep k : Nat} {q3 q4 q5 q6 : Addr × Obj}
    (N : News h₀ L h ((A, oA) :: (q1, o1) :: (a, W.listOf #[.str (Str.ofString "") ta1, .int n ta2] 0) :: (b, W.listOf #[.str (Str.ofString "") tb1, .int n tb2] 0) :: (T, o2) :: q3 :: q4 :: q5 :: q6 :: nr))
    (hoA : oA = W.listOf (rs.map Row.val ++ [Value.ref b, Value.ref a]).toArray ep)
    (enr : rs.map Row.led ++ news = nr) (hn : n = cs.length) (hk : k = cs.length) (hP : WordsP cs k rs) (hlen : rs.length ≤ 58) (hrs : ∀ r ∈ rs, T < r.a) (hT : ∀ p ∈ news, p.1 < T) (ha : AllLt a nr) (hb : AllLt b nr) (hA : ∀ p ∈ nr, p.1 < A) :
    ∃ rows ep, News h₀ L h ((A, W.listOf (rows.map Row.val).toArray ep) :: (rows.map Row.led ++ news)) ∧ RowsAre cs news A rows := by
  subst hn hk hoA
  have inr : ∀ p ∈ news, p ∈ nr := fun p hp => by rw [← enr]; exact List.mem_append_right _ hp
  refine ⟨rs ++ [⟨b, [], cs.length, tb1, tb2, 0⟩, ⟨a, [], cs.length, ta1, ta2, 0⟩], ep, ?_, ?_⟩
  · intro p hp
    rw [empty_is] at N
    have e2 : (rs ++ [(⟨b, [], cs.length, tb1, tb2, 0⟩ : Row), ⟨a, [], cs.length, ta1, ta2, 0⟩]).map Row.val = rs.map Row.val ++ [Value.ref b, Value.ref a] := by simp [Row.val]
    rw [e2] at hp
    refine N p ?_
    subst enr
    simp only [List.map_append, List.map_cons, List.map_nil, List.mem_cons, List.mem_append, List.not_mem_nil, or_false, Row.led] at hp ⊢
    rcases hp with h | (h | h | h) | h <;> simp only [h, true_or, or_true]
  · refine ⟨⟨rs.map Row.tell, by simp [Row.tell], hP.1⟩, by simp; omega, fun p hp => hA p (inr p hp), ?_⟩
    intro r hr p hp
    rcases List.mem_append.mp hr with hr | hr
    · exact Nat.lt_trans (hT p hp) (hrs r hr)
    · rcases List.mem_cons.mp hr with rfl | hr
      · exact allLt_mem _ hb p (inr p hp)
      · rw [List.mem_singleton.mp hr]
        exact allLt_mem _ ha p (inr p hp)
end Mine
end
section
open PySem PySem.W PyProof.Rows
namespace Mine
/-- the numbers of a turn -/
structure TurnNums (n k b e pn m : Nat) : Prop where
  b100 : b ≤ 100
  e100 : e ≤ 100
  e27' : e ≤ 27
  d100 : e - b ≤ 100
  dline : e - b ≤ sizeLine
  bm : b < m
  em : e < m
  pm : pn < m
  plen : pn ≤ n
  kp : k + 1 ≤ pn
  fall : n - pn < n - k
  at_ : ∀ i, i < e - b → b + i < n
theorem TurnNums.of {n k b e p m : Nat} (hn : n ≤ 27) (hm : m = n + 1) (hk : k < n) (kb : k ≤ b) (be : b ≤ e) (en : e ≤ n) (hp : p = if e = n then n else e + 1) : TurnNums n k b e p m := by
  have h1 : p ≤ n := by rw [hp]; split; exact Nat.le_refl _; exact Nat.lt_of_le_of_ne en (by assumption)
  have h2 : k + 1 ≤ p := by rw [hp]; split; exact hk; exact Nat.succ_le_succ (Nat.le_trans kb be)
  have e27 := Nat.le_trans en hn
  have l27 : (27 : Nat) ≤ sizeLine := by rw [sizeLine_eq]; decide
  exact ⟨Nat.le_trans be (Nat.le_trans e27 (by decide)), Nat.le_trans e27 (by decide), e27, Nat.le_trans (Nat.sub_le _ _) (Nat.le_trans e27 (by decide)), Nat.le_trans (Nat.sub_le _ _) (Nat.le_trans e27 l27), hm ▸ Nat.lt_succ_of_le (Nat.le_trans be en), hm ▸ Nat.lt_succ_of_le en,
    hm ▸ Nat.lt_succ_of_le h1, h1, h2, Nat.sub_lt_sub_left hk h2, fun i hi => Nat.lt_of_lt_of_le (Nat.add_lt_of_lt_sub' hi) en⟩
theorem room31 {dp : Nat} (h : dp + 60 < recursionLimit) : dp + 1 + 30 < recursionLimit := Nat.lt_of_le_of_lt (Nat.add_le_add_left (by decide : 31 ≤ 60) dp) h
theorem units3 {un : Nat} (h : un + 600 < cLine) : un + 3 + 300 < cLine := Nat.lt_of_le_of_lt (Nat.add_le_add_left (by decide : 303 ≤ 600) un) h
theorem rows_le {α : Type} {f : Row → α} {rs : List Row} {k n : Nat} (h : rs.length ≤ k) (hk : k ≤ n) (hn : n ≤ 27) : (rs.map f).toArray.size ≤ 100 := by
  simp only [List.size_toArray, List.length_map]; omega
end Mine
end
section
open Mine PyProof.Rows.LCg
local macro_rules | `(tactic| walk_at "exec Assign") => `(tactic| (k_here; (with_reducible show wpAny _ _ (exec (Stmt.Assign [PySem.Expr.Tuple _ _ _] _ _) _) _ _ _); (fail_if_success (with_reducible show wpAny _ _ _ (fun _ s' => (_ ≤ Shared.toks s') → _) _ _)); refine wpAny_with_toks (n := _) (Nat.le_refl _) ?_))
local macro_rules | `(tactic| walk_at "binaryOp") => `(tactic| (k_here; (with_reducible show wpAny _ _ (binaryOp _ (Value.ref _) (Value.ref _)) _ _ _); refine hold ?_))
local macro_rules | `(tactic| walk_at "eval IfExp") => `(tactic| (k_here; (with_reducible show wpAny _ _ (eval (Expr.IfExp _ (Expr.Name _ _) _ _) _) _ _ _); (fail_if_success (with_reducible show wpAny _ _ _ (MergeTo _ _ _ _ _ _ _) _ _)); refine hold ?_))
local macro_rules | `(tactic| walk_at "CompSrcT") => `(tactic| (k_here; refine hold ?_))
local macro_rules | `(tactic| walk_at "call type:range") => `(tactic| (k_here; (with_reducible show wpAny _ _ (call _ [_, _]) _ _ _); refine hold ?_))
local macro_rules | `(tactic| walk_at "exec While") => `(tactic| (k_here; refine hold ?_))
section
open PySem PySem.W PyProof.Rows PyProof.Rows.LCg
namespace Mine
theorem range_size (n : Nat) : Builtin.Range.rangeSize 0 ((n : Int) + 1) 1 = ((n + 1 : Nat) : Int) := by
  unfold Builtin.Range.rangeSize
  rw [if_pos (by decide), if_pos (by omega)]
  omega
theorem range_small {n : Nat} (h : n ≤ 27) : Builtin.Range.small 0 ((n : Int) + 1) 1 = true := by
  unfold Builtin.Range.small
  rw [range_size]
  have f : ∀ k : Int, 0 ≤ k → k ≤ 100 → Builtin.Range.rangeFitsLong k = true := fun k h1 h2 => by
    unfold Builtin.Range.rangeFitsLong
    simp only [Bool.and_eq_true, decide_eq_true_eq]
    constructor <;> omega
  rw [f 0 (by omega) (by omega), f _ (by omega) (by omega), f 1 (by omega) (by omega), f _ (by omega) (by omega), if_pos (by decide), f _ (by omega) (by omega)]
  simp
section
set_option maxRecDepth 100000 in
set_option maxHeartbeats 8000000 in
theorem words_cb (w : World) (p : Program) (loose : List Str) (mean : ExcName → Option Value) (mg mb : Str → Option Value) (news : List (Addr × Obj)) (t : Str) (tkt tk1 tk2 : Nat) (H D : Int) (hlen : t.length ≤ 27) (hH : H = numL (hideL false t.cps.toList)) (hD : D = numL (false :: hideL false t.cps.toList)) (hal : ∀ c ∈ t.cps.toList, c ∈ alph)
    (dp un : Nat) (gd : Option (List Code)) (cn : Str) (cs : Scope) (a : Addr) (ccd : Value) (cl : List (Str × Addr)) (outer : List Env) (A₀ : Around) (base h₀ : Heap) (L : Addr) (m : Str → Option Value) (s : Shared) (Q E : Value → Shared → Prop)
    (B : Below A₀ base outer h₀) (F : Fr h₀ L s.heap m) (X : (hd.heap_39 w.params).In h₀) (N : News h₀ L s.heap news) (Tp : Top p loose mean mg mb h₀) (hcs : cs.kind = .function)
    (hdp : dp + 60 < recursionLimit) (hun : un + 600 < cLine)
    (hret : ∀ (A : Nat) (rows : List Row) (ep : Nat) (h' : Heap) (tk' : Nat), s.toks ≤ tk' → Fr h₀ L h' m → News h₀ L h' ((A, W.listOf (rows.map Row.val).toArray ep) :: (rows.map Row.led ++ news)) → RowsAre t.cps.toList news A rows → Q (.ref A) { s with heap := h', toks := tk' }) :
    wpAny (model PySem.Challenge.rw_pe0091_01.row.prog w) (ktrTop dp un gd cn cs L a ccd cl outer) (call (.ref 194) [.str t tkt, .int H tk1, .int D tk2]) Q E s := by
  revert X; k_fill; intro X
  have hdp1 := room31 hdp
  have hun1 := units3 hun
  have hmm : ((?tkTest : PySem.Expr), (?tkElt : PySem.Expr), (?tkScope : Scope), (?wdScope : Scope)) = (?tkTest, ?tkElt, ?tkScope, ?wdScope) := rfl
  clear hmm
  refine' (fun (key : ∀ (g₁ : Heap) (L₁ : Addr) (s : Shared) (B₁ : Below (ktrTop dp un gd cn cs L a ccd cl outer) base (envX cn cs L a ccd cl :: outer) g₁) (X₁ : (hd.heap_39 w.params).In g₁) (T₁ : Top p loose mean mg mb g₁)
    (m : Str → Option Value) (T : Int) (tT : Tok) (t : Str) (tkt : Tok) (ts : List Nat) (R9 TT D3 : Addr) (ro lo o1 o2 o3 : Obj) (nr : List (Addr × Obj)) (dc1 : o1.data = .cell (some (.int T tT))) (dc2 : o2.data = .cell (some (.ref D3))) (dc3 : o3.data = .cell (some (.str t tkt)))
    (b i : Nat) (ys : List Value) (hlen : t.length ≤ 27) (hts : ts.length = t.length + 1) (hi : b + i < t.length) (j : TakeJ T t.cps.toList b i ys)
    (t10 : Tok) (I : Addr) (oI : Obj) (C : Addr) (oC : Obj) (D : Addr) (m₂ : Str → Option Value) (h : Heap) (tk : Nat) (ho : NsObj oC m₂) (hm : m₂ (Str.ofString "k") = some (.int ((b : Int) + (i : Int)) t10)) (F : Fr g₁ L₁ h m)
    (N : News g₁ L₁ h ((I, oI) :: (C, oC) :: (D, lst ys) :: (R9, ro) :: (TT, lo) :: (D3, W.listOf (spotsOf ts).toArray (spotsOf ts).length) :: (L₁ + 1 + 1 + 1, o1) :: (L₁ + 1 + 1, o2) :: (L₁ + 1, o3) :: nr)),
    wpAny (model PySem.Challenge.rw_pe0091_01.row.prog w) ((ktrTop dp un gd cn cs L a ccd cl outer).deeper (envOfC (Str.ofString "_law_words") ?wdScope L₁ 194 (Value.ref 193)))
      (isTrue ?tkTest (compEnvC ?tkScope [(Str.ofString "text", L₁ + 1), (Str.ofString "taken", L₁ + 1 + 1 + 1), (Str.ofString "spots", L₁ + 1 + 1)] C (envOfC (Str.ofString "_law_words") ?wdScope L₁ 194 (Value.ref 193))) (eval ?tkTest (compEnvC ?tkScope [(Str.ofString "text", L₁ + 1), (Str.ofString "taken", L₁ + 1 + 1 + 1), (Str.ofString "spots", L₁ + 1 + 1)] C (envOfC (Str.ofString "_law_words") ?wdScope L₁ 194 (Value.ref 193)))))
      (fun ok s' => if ok = true then
        wpAny (model PySem.Challenge.rw_pe0091_01.row.prog w) ((ktrTop dp un gd cn cs L a ccd cl outer).deeper (envOfC (Str.ofString "_law_words") ?wdScope L₁ 194 (Value.ref 193))) (eval ?tkElt (compEnvC ?tkScope [(Str.ofString "text", L₁ + 1), (Str.ofString "taken", L₁ + 1 + 1 + 1), (Str.ofString "spots", L₁ + 1 + 1)] C (envOfC (Str.ofString "_law_words") ?wdScope L₁ 194 (Value.ref 193))))
          (CompOut g₁ L₁ m ((I, oI) :: (C, oC) :: (D, lst ys) :: (R9, ro) :: (TT, lo) :: (D3, W.listOf (spotsOf ts).toArray (spotsOf ts).length) :: (L₁ + 1 + 1 + 1, o1) :: (L₁ + 1 + 1, o2) :: (L₁ + 1, o3) :: nr) (fun y _ => TakeJ T t.cps.toList b (i + 1) (ys ++ [y])) s) (fun _ _ => False) s'
        else CompOut g₁ L₁ m ((I, oI) :: (C, oC) :: (D, lst ys) :: (R9, ro) :: (TT, lo) :: (D3, W.listOf (spotsOf ts).toArray (spotsOf ts).length) :: (L₁ + 1 + 1 + 1, o1) :: (L₁ + 1 + 1, o2) :: (L₁ + 1, o3) :: nr) (fun _ _ => TakeJ T t.cps.toList b (i + 1) ys) s Value.none s') (fun _ _ => False) { s with heap := h, toks := tk }) => ?main) ?key
  case main =>
    refine wpAny_with_toks (n := _) (Nat.le_refl _) ?_
    refine wpAny_call ?_
    refine' code_defC ?k1 ?k2 ?k3 ?k4 ?k5 ?kA ?kF ?kK ?k6 ?k7 ?k8 ?k9 ?kB ?kD ?_ ?c2 ?c3 ?c4
    case kA => exact rfl
    case kF => exact rfl
    case kK => assumption
    case k1 => k_asm
    case k2 => k_asm
    case k3 => k_asm
    case k4 => k_asm
    case k5 => k_asm
    case k6 => k_is
    case k7 => k_is
    case k8 => ktr_room
    case k9 => exact BindsTo.of_eq rfl
    case kB => exact rfl
    case kD => decide +kernel
    case c2 => exact rfl
    case c3 => exact rfl
    case c4 => exact rfl
    intro g₁ L₁ h₁ tk₁ cells₁ FG₁ F₁ N₁ Y₁ B₁ X₁ T₁ l₁
    k_cells Y₁
    rename_i o1 o2 o3 dc1 dc2 dc3
    simp only [List.cons_append, List.nil_append] at N₁
    replace dc1 : o1.data = .cell none := dc1
    replace dc2 : o2.data = .cell none := dc2
    replace dc3 : o3.data = .cell (some (.str t tkt)) := dc3
    replace F₁ : Fr g₁ L₁ h₁ (fun y => if y = Str.ofString "hidden" then some (.int D tk2) else if y = Str.ofString "hiding" then some (.int H tk1) else none) := F₁
    have hFl : Floor 1 := ⟨Nat.one_pos⟩
    have hn1 : ∀ p ∈ news, p.1 ≠ L₁ + 1 := fun p hp => Nat.ne_of_lt (Nat.lt_succ_of_lt (l₁ p hp))
    have hn2 : ∀ p ∈ news, p.1 ≠ L₁ + 1 + 1 := fun p hp => Nat.ne_of_lt (Nat.lt_succ_of_lt (Nat.lt_succ_of_lt (l₁ p hp)))
    have hn3 : ∀ p ∈ news, p.1 ≠ L₁ + 1 + 1 + 1 := fun p hp => Nat.ne_of_lt (Nat.lt_succ_of_lt (Nat.lt_succ_of_lt (Nat.lt_succ_of_lt (l₁ p hp))))
    try k_fold
    refine noE ?_
    k_steps
    with_reducible rename Fr _ _ _ _ => Fx
    with_reducible rename News _ _ _ _ => Nx
    refine Hold.out (mask_here (dp := dp + 1) (un := un + 3) hlen B₁ X₁ T₁ rfl Fx Nx hdp1 hun1 ?_)
    intro t' h' tk' htk' F' N'
    show wpAny _ _ _ _ _ _
    try k_fold
    k_steps
    with_reducible rename Fr _ _ _ _ => Fx
    with_reducible rename News _ _ _ _ => Nx
    refine Hold.out (mask_here (dp := dp + 1) (un := un + 3) hlen B₁ X₁ T₁ rfl Fx Nx hdp1 hun1 ?_)
    intro t' h' tk' htk' F' N'
    show wpAny _ _ _ _ _ _
    try k_fold
    k_steps
    refine Hold.out (comp_to_here (cl := []) ?hcl ?hki ?hna ?_)
    case hcl => with_unfolding_all rfl
    case hki => exact rfl
    case hna => decide
    k_steps
    rename_i hr₂ F₂ N₂ hk₂
    refine comp_here_range (n := t.length + 1) rfl (by decide) rfl rfl F₂ N₂ hr₂ ?hsm ?hn ?hsz SpotsJ SpotsJ.mono (SpotsJ.start _) ?step ?fin
    case hsm => exact range_small (by omega)
    case hn => exact range_size _
    case hsz => rw [sizeLine_eq]; omega
    case step =>
      intro i ys t3 I3 oI3 C3 oC3 D3 m3 h3 tk3 hi3 hj3 ho3 hm3 F3 N3 ap3
      have hFl3 : Floor (tk3 + 1) := ⟨Nat.succ_pos _⟩
      have hb3 : (i : Int) ≤ 27 := by omega
      k_steps
      with_reducible rename Fr _ _ _ _ => Fx
      with_reducible rename News _ _ _ _ => Nx
      refine ⟨_, _, rfl, Fx, Nx, hj3.step ?_ (by assumption) (Nat.lt_succ_self _)⟩
      simp
    case fin =>
      intro ys D3 h3 tk3 hj3 F3 N3 l3
      obtain ⟨ts, rfl, hts, hpw, hbd⟩ := hj3.some
      have htk3 : 0 < tk3 := by
        cases ts with
        | nil => simp at hts
        | cons t0 _ => have := hbd t0 (.head _); omega
      clear hFl
      have hFl4 : Floor tk3 := ⟨htk3⟩
      replace N3 : News g₁ L₁ h3 ((D3, W.listOf (spotsOf ts).toArray (spotsOf ts).length) :: _) := N3
      k_lt l3
      show wpAny _ _ _ _ _ _
      try k_fold
      k_steps
      with_reducible rename News _ _ _ _ => Nx
      have hlt : (spotsOf ts).length = t.length + 1 := by rw [spots_len, hts]
      obtain ⟨t0, ht0⟩ : ∃ t0, ts[0]? = some t0 := ⟨_, List.getElem?_eq_getElem (by omega)⟩
      obtain ⟨tn, htn⟩ : ∃ tn, ts[t.length]? = some tn := ⟨_, List.getElem?_eq_getElem (by omega)⟩
      refine Hold.out (item_zero (vs := spotsOf ts) (ep := (spotsOf ts).length) Nx (.tail _ (.head _)) (by rw [spots_get, ht0]; rfl) ?_ (by with_unfolding_all rfl))
      show wpAny _ _ _ _ _ _
      try k_fold
      k_steps
      with_reducible rename News _ _ _ _ => Nx
      refine Hold.out (item_last (vs := spotsOf ts) (ep := (spotsOf ts).length) (n := t.length) Nx (.tail _ (.head _)) hlt (by rw [spots_get, htn]; rfl) ?_ (by with_unfolding_all rfl))
      show wpAny _ _ _ _ _ _
      try k_fold
      k_steps
      with_reducible rename Fr _ _ _ _ => Fx
      with_reducible rename News _ _ _ _ => Nx
      have J0 := WordsJ.start (P := (WordsP t.cps.toList)) (tk3 := tk3) Fx Nx dc1 (by assumption) (WordsP.start _)
      refine Hold.out (while_toks (WordsJ ((WordsP t.cps.toList)) g₁ L₁ tk3 _ D3 t.length _ _ D H _ _ tk2 tk1 tn (spotsOf ts) _ o3 news) (t.length - 0) J0 ?turn)
      case turn =>
        rintro c h5 tk5 TD ⟨k, th, rs, ep, o1', cv, jm, F5, N5, dc1', hT5, hkn, rfl, hrs, hrl, hP⟩ hTD
        clear J0 Fx Nx dc1
        have hFl5 : Floor tk3 := ⟨htk3⟩
        obtain ⟨nr, enr⟩ : ∃ nr, rs.map Row.led ++ news = nr := ⟨_, rfl⟩
        rw [enr] at N5
        with_reducible rename _ ∧ _ ∧ _ ∧ _ ∧ AllLt _ news => lz3
        have hnr3 : ∀ p ∈ nr, p.1 ≠ L₁ + 1 + 1 + 1 := by
          intro p hp
          rw [← enr] at hp
          rcases List.mem_append.mp hp with hp | hp
          · obtain ⟨r, hr, rfl⟩ := List.mem_map.mp hp
            exact Nat.ne_of_gt (Nat.lt_trans lz3.2.1 (hrs r hr))
          · exact hn3 p hp
        have ebl := mask_free (t := t) hD (fun c hc => hasS_w c (hal c hc))
        have emk := mask_free (t := t) hD (fun c hc => hasS_q c (hal c hc))
        generalize Builtin.bitAnd (maskZ (Str.ofString " \t\n\x0d") t) (Builtin.bitNot D) = bl at F5 ebl hTD ⊢
        generalize Builtin.bitAnd (maskZ (Str.ofString "\"") t) (Builtin.bitNot D) = mk at F5 emk hTD ⊢
        show wpAny _ _ _ _ _ _
        try k_fold
        iterate 22 (first | (k_unfold; (try dsimp only)) | walk1)
        rotate_left 1
        · skip
          k_steps
          with_reducible rename Fr h₀ _ _ _ => Fz
          with_reducible rename News h₀ _ _ _ => Nz
          with_reducible rename News g₁ L₁ _ ((_, W.listOf #[Value.ref _, Value.ref _] 0) :: _) => Ny
          with_reducible rename _ ∧ _ ∧ _ ∧ _ ∧ _ ∧ _ ∧ AllLt _ nr => lz1
          with_reducible rename _ ∧ _ ∧ _ ∧ _ ∧ _ ∧ AllLt _ nr => lz2
          have hke : k = t.length := pow_inj (by assumption)
          have hcl0 : t.length = t.cps.toList.length := by simp [Str.length]
          obtain ⟨rows, epz, Nw, hw⟩ := words_done (cs := t.cps.toList) Nz rfl enr hcl0 (hke.trans hcl0) hP (Nat.le_trans hrl (Nat.le_trans hkn (Nat.le_trans hlen (by decide)))) hrs (allLt_mem _ lz3.2.2.2.2) lz1.2.2.2.2.2.2 lz2.2.2.2.2.2 (fun p hp => Heap.lt_size (Ny p (.tail _ (.tail _ (.tail _ (.tail _ (.tail _ (.tail _ (.tail _ (.tail _ hp))))))))).1)
          exact hret _ rows epz _ _ (by assumption) Fz Nw hw
        k_steps
        with_reducible rename Fr _ _ _ _ => Fx
        with_reducible rename News _ _ _ _ => Nx
        refine Hold.out (merge_to Fx Nx (fun v => ∃ tq, v = .int (if tQuot bl mk k = 0 then bl else mk) tq) tk3 ?mg1 ?mg2)
        case mg1 =>
          show wpAny _ _ _ _ _ _
          try k_fold
          k_steps
          all_goals refine ⟨_, _, rfl, Fx, Nx, by assumption, ?_⟩
          · exact ⟨_, congrArg (Value.int · _) (if_neg (show ¬ tQuot bl mk k = 0 by assumption)).symm⟩
          · exact ⟨_, congrArg (Value.int · _) (if_pos (show tQuot bl mk k = 0 by assumption)).symm⟩
        case mg2 =>
          rintro v h6 tk6 F6 N6 htk6 ⟨tq, rfl⟩
          clear Fx Nx
          show wpAny _ _ _ _ _ _
          try k_fold
          k_steps
          have hlt2 : k < t.length := by
            have hne : (2 : Int) ^ k ≠ 2 ^ t.length := by assumption
            refine Nat.lt_of_le_of_ne hkn fun e => hne ?_
            rw [e]
          have hcl : t.cps.toList.length = t.length := by simp [Str.length]
          have hklt : k < t.cps.toList.length := by rw [hcl]; exact hlt2
          obtain ⟨b, e, pn, TL⟩ := turn_law t.cps.toList k hklt (hP.2 hklt)
          rw [← ebl, ← emk, ← hH] at TL
          have hTb : Builtin.bitAnd (bl + 2 ^ k) (Builtin.bitNot bl) = 2 ^ b := TL.begin
          have hTe := TL.stop
          have hTw := TL.word
          have hTn := TL.next
          have hTr := TL.rest
          have hTf := TL.free
          have hTl := TL.en
          have hTk := TL.kb
          have hTm := TL.be
          rw [hcl] at hTe hTw hTn hTr hTf hTl
          have TN := TurnNums.of (m := (spotsOf ts).length) hlen hlt hlt2 hTk hTm hTl hTn
          clear TL
          with_reducible rename Fr _ _ _ _ => Fx
          with_reducible rename News _ _ _ _ => Nx
          refine Hold.out (index_here (dp := dp + 1) (un := un + 3) (k := b) (vs := spotsOf ts) (ep := (spotsOf ts).length) (.tail _ (.head _)) (Nat.lt_of_lt_of_le htk3 (by repeat (first | with_reducible assumption | refine le_via (by with_reducible assumption) ?_))) TN.bm (spots_index hTb (fun t ht => (hbd t ht).1) (spots_fresh hbd (by repeat (first | with_reducible assumption | refine le_via (by with_reducible assumption) ?_)))) B₁ X₁ T₁ rfl Fx Nx hdp1 hun1 ?_)
          intro t7 h7 tk7 htk7 F7 N7
          replace htk7 : _ ≤ tk7 := htk7
          dsimp only at htk7
          clear Fx Nx
          show wpAny _ _ _ _ _ _
          try k_fold
          k_steps
          with_reducible rename Fr _ _ _ _ => Fx
          with_reducible rename News _ _ _ _ => Nx
          refine Hold.out (index_here (dp := dp + 1) (un := un + 3) (k := e) (vs := spotsOf ts) (ep := (spotsOf ts).length) (.tail _ (.head _)) (Nat.lt_of_lt_of_le htk3 (by repeat (first | with_reducible assumption | refine le_via (by with_reducible assumption) ?_))) TN.em (spots_index hTe (fun t ht => (hbd t ht).1) (spots_fresh hbd (by repeat (first | with_reducible assumption | refine le_via (by with_reducible assumption) ?_)))) B₁ X₁ T₁ rfl Fx Nx hdp1 hun1 ?_)
          intro t8 h8 tk8 htk8 F8 N8
          replace htk8 : _ ≤ tk8 := htk8
          dsimp only at htk8
          clear Fx Nx
          show wpAny _ _ _ _ _ _
          try k_fold
          k_steps
          with_reducible rename Fr _ _ _ _ => Fx
          with_reducible rename News _ _ _ _ => Nx
          refine Hold.out (range_K Fx Nx ?_)
          intro R9 h9 v9 F9 N9 l9
          clear Fx Nx
          show wpAny _ _ _ _ _ _
          try k_fold
          k_steps
          refine Hold.out (wpAny_with_toks (n := _) (Nat.le_refl _) ?_)
          with_reducible rename Fr _ _ _ _ => Fx
          k_dflt (refine LCt.ListComp_T (F₀ := by k_asm) (by with_unfolding_all rfl) (by decide) (by rfl) (by decide) (by rfl) ?_)
          show wpAny _ _ _ _ _ _
          k_steps
          with_reducible rename Fr _ _ _ _ => Fx
          with_reducible rename News _ _ _ _ => Nx
          refine Hold.out (LCt.CompSrcT.range rfl Fx Nx (Nx (R9, rangeObj b e t7 t8 v9) (by k_mem)).1 (small_be TN.b100 TN.e100) (range_size2 hTm) TN.dline ?_)
          intro g9
          refine ct_range (TakeJ (tTaken bl mk H k t.length) t.cps.toList b) (TakeJ.start _ _ _) ?stp ?fin
          case stp =>
            intro i ys t10 I10 oI10 C10 oC10 D10 m10 h10 tk10 hi10 hj10 ho10 hm10 F10 N10 off10 ne10
            exact key g₁ L₁ _ B₁ X₁ T₁ _ (tTaken bl mk H k t.length) _ t tkt ts R9 _ D3 _ _ _ _ _ nr (by assumption) (by assumption) dc3 b i ys hlen hts (TN.at_ i hi10) hj10 t10 I10 oI10 C10 oC10 D10 m10 h10 tk10 ho10 hm10 F10 N10
          case fin =>
            intro ys hj10 D11 h11 tk11 F11 N11 off11 htk11
            clear Fx Nx
            replace htk11 : _ ≤ tk11 := htk11
            dsimp only at htk11
            replace N11 : News g₁ L₁ h11 ((D11, W.listOf ys.toArray ys.length) :: _) := N11
            show wpAny _ _ _ _ _ _
            try k_fold
            k_steps
            have hs11 := hj10.ok
            rw [hTw] at hs11
            have hwl : (tok (t.cps.toList.drop k)).1.length ≤ 100 := by
              rw [← hTw]
              exact Nat.le_trans (wordOf_len _ _ _ _) TN.d100
            with_reducible rename Fr _ _ _ _ => Fx
            with_reducible rename News _ _ _ _ => Nx
            refine Hold.out (join_here Nx (.head _) hs11 hwl ?_)
            intro t12 tk12 htk12
            replace htk12 : _ ≤ tk12 := htk12
            dsimp only at htk12
            show wpAny _ _ _ _ _ _
            try k_fold
            k_steps
            with_reducible rename Fr _ _ _ _ => Fx
            with_reducible rename News _ _ _ _ => Nx
            have hTe2 : Builtin.bitAnd (Builtin.bitXor (Builtin.bitAnd (Builtin.bitOr (if tQuot bl mk k = 0 then bl else mk) (2 ^ t.length)) (-Builtin.bitAnd (bl + 2 ^ k) (Builtin.bitNot bl))) (Builtin.bitAnd (Builtin.bitAnd (bl + 2 ^ k) (Builtin.bitNot bl)) mk)) (-Builtin.bitXor (Builtin.bitAnd (Builtin.bitOr (if tQuot bl mk k = 0 then bl else mk) (2 ^ t.length)) (-Builtin.bitAnd (bl + 2 ^ k) (Builtin.bitNot bl))) (Builtin.bitAnd (Builtin.bitAnd (bl + 2 ^ k) (Builtin.bitNot bl)) mk)) = 2 ^ e := hTe
            refine Hold.out (merge_to Fx Nx (fun v => ∃ tq, v = .int (2 ^ pn) tq ∧ 0 < tq ∧ ∀ i t, ts[i]? = some t → t = tq → i = pn) tk3 ?mg3 ?mg4)
            case mg3 =>
              have hbs := pow_bound TN.e27'
              rw [← hTe2] at hbs
              obtain ⟨hbs1, hbs2⟩ := hbs
              show wpAny _ _ _ _ _ _
              try k_fold
              k_steps
              · with_reducible rename Fr _ _ _ _ => Fy
                with_reducible rename News _ _ _ _ => Ny
                have he : e = t.length := pow_inj (hTe2.symm.trans (by assumption))
                have hp : pn = t.length := by rw [hTn, if_pos he]
                exact ⟨_, _, rfl, Fy, Ny, (by repeat (first | with_reducible assumption | refine le_via (by with_reducible assumption) ?_)), tn, by rw [hp], (hbd tn (List.mem_of_getElem? htn)).1, by rw [hp]; exact spots_last hpw htn⟩
              · show MergeTo _ _ _ _ _ _ _ _ _
                with_reducible rename Fr _ _ _ _ => Fy
                with_reducible rename News _ _ _ _ => Ny
                have he : e ≠ t.length := fun q => absurd (hTe2.trans (by rw [q])) (by assumption)
                have hp : pn = e + 1 := by rw [hTn, if_neg he]
                refine ⟨_, _, rfl, Fy, Ny, (by repeat (first | with_reducible assumption | refine le_via (by with_reducible assumption) ?_)), _, congrArg (Value.int · _) (show _ = (2 : Int) ^ pn by rw [hTe2, hp, Int.pow_succ]; rfl), Nat.lt_of_lt_of_le htk3 (by repeat (first | with_reducible assumption | refine le_via (by with_reducible assumption) ?_)), spots_fresh hbd (by repeat (first | with_reducible assumption | refine le_via (by with_reducible assumption) ?_))⟩
            case mg4 =>
              rintro v h13 tk13 F13 N13 htk13 ⟨tq, rfl, htq0, htq⟩
              clear Fx Nx
              show wpAny _ _ _ _ _ _
              try k_fold
              k_steps
              have hpl : pn ≤ t.length := TN.plen
              with_reducible rename Fr _ _ _ _ => Fx
              with_reducible rename News _ _ _ _ => Nx
              refine Hold.out (index_here (dp := dp + 1) (un := un + 3) (k := pn) (vs := spotsOf ts) (ep := (spotsOf ts).length) (by k_mem) htq0 TN.pm (spots_index rfl (fun t ht => (hbd t ht).1) htq) B₁ X₁ T₁ rfl Fx Nx hdp1 hun1 ?_)
              intro t14 h14 tk14 htk14 F14 N14
              replace htk14 : _ ≤ tk14 := htk14
              dsimp only at htk14
              clear Fx Nx
              show wpAny _ _ _ _ _ _
              try k_fold
              k_steps
              with_reducible rename Fr _ _ _ _ => Fx
              with_reducible rename News _ _ _ _ => Nx
              with_reducible rename _ ∧ _ => lw
              have hkp : k + 1 ≤ pn := TN.kp
              obtain ⟨lw1, lw2, lw3, lw4, lw5, lw6, lw7, lw8⟩ := lw
              have hle : (rs.map Row.val).toArray.size ≤ 100 := rows_le hrl hkn hlen
              refine append_told Fx Nx lw3 ?q1 ?q2 ?q3 ?q4 ?q5 hle ?_
              case q1 => exact lz3.1
              case q2 => exact lz3.2.1
              case q3 => exact lz3.2.2.1
              case q4 => exact lz3.2.2.2.1
              case q5 =>
                intro h6 p hp
                rw [← enr] at hp
                rcases List.mem_append.mp hp with hp | hp
                · obtain ⟨r, hr', rfl⟩ := List.mem_map.mp hp
                  exact Nat.ne_of_gt (hrs r hr')
                · exact Nat.ne_of_lt (Nat.lt_trans (l₁ p hp) (Nat.lt_of_succ_lt h6))
              intro h15 F15 N15
              refine wpAny_execs_nil ?_
              have hle2 : rs.length + 1 ≤ pn := Nat.le_trans (Nat.succ_le_succ hrl) hkp
              refine hTD _ _ (t.length - pn) TN.fall (WordsJ.again F15 (by with_unfolding_all rfl) (by with_unfolding_all rfl) (by with_unfolding_all rfl) (by with_unfolding_all rfl) (by with_unfolding_all rfl) (by with_unfolding_all rfl) (by with_unfolding_all rfl)
                N15 enr (by assumption) (Nat.le_trans (by with_reducible assumption) htk14) hpl hrs lw3 hle2 (WordsP.again hP hklt (by rw [hcl]; exact hTr) (by rw [hcl]; exact hTf)))
  case key =>
    clear hret N F B X Tp
    intro g₁ L₁ s B₁ X₁ T₁ m T tT t tkt ts R9 TT D3 ro lo o1 o2 o3 nr dc1 dc2 dc3 b i ys hlen hts hi j t10 I oI C oC D m₂ h tk ho hm F N
    show wpAny _ _ _ _ _ _
    try k_fold
    k_steps
    obtain ⟨t1, ht1⟩ : ∃ t1, ts[b + i]? = some t1 := ⟨_, List.getElem?_eq_getElem (by omega)⟩
    with_reducible rename News _ _ _ _ => Nx
    refine Hold.out (item_atI (k := b + i) (vs := spotsOf ts) (ep := (spotsOf ts).length) Nx (by k_mem) (by omega) (by omega) (by rw [spots_get, ht1]; rfl) ?_ (by with_unfolding_all rfl))
    have hb28 : b + i ≤ 27 := by omega
    show wpAny _ _ _ _ _ _
    try k_fold
    k_steps
    · have hc : t.cps.toList[b + i]? = some _ := List.getElem?_eq_getElem (by simp only [Array.length_toList]; exact hi)
      with_reducible rename Fr _ _ _ _ => Fx
      with_reducible rename News _ _ _ _ => Nx
      rw [txt_item (k := b + i) (by omega) hc]
      exact ⟨_, _, rfl, Fx, Nx, j.take (by assumption) hc⟩
    · with_reducible rename Fr _ _ _ _ => Fx
      with_reducible rename News _ _ _ _ => Nx
      exact ⟨_, _, rfl, Fx, Nx, j.skip (by assumption)⟩
end
end Mine
end
end
section
open PySem PySem.W PyProof.Rows PyProof.Rows.LCg
namespace Mine
section
variable {prog : Program} {w : World} {A : Around} {E : Value → Shared → Prop} {s : Shared} {h₀ : Heap} {L : Addr} {m : Str → Option Value} {env : Env} {news : List (Addr × Obj)}
theorem cl_list {elt : Expr} {x : Str} {scope : Scope} {cl : List (Str × Addr)} {vs : List Value} {ns : List Int} {S : List (Addr × Obj) → Prop} {Fin : List Value → List (Addr × Obj) → Prop} (hi : IntsAre vs ns) (hS : S news) (J : Nat → List Value → Prop) (j0 : J 0 [])
    (step : ∀ i k ys t I oI C oC D m₂ h tk, ns[i]? = some k → J i ys → NsObj oC m₂ → m₂ x = some (.int k t) → Fr h₀ L h m → News h₀ L h ((I, oI) :: (C, oC) :: (D, lst ys) :: news) →
      wpAny (model prog w) A (eval elt (compEnvC scope cl C env)) (CompOut h₀ L m ((I, oI) :: (C, oC) :: (D, lst ys) :: news) (fun y _ => J (i + 1) (ys ++ [y])) s) (fun _ _ => False) { s with heap := h, toks := tk })
    (fin : ∀ ys, J ns.length ys → Fin ys news) : CompRest prog w A h₀ L m env elt x scope cl s S (fun i v => vs.toArray[i]? = some v) Fin vs.toArray.size 0 [] news := by
  have key : ∀ k i ys, i + k = ns.length → J i ys → CompRest prog w A h₀ L m env elt x scope cl s S (fun i v => vs.toArray[i]? = some v) Fin k i ys news := by
    intro k
    induction k with
    | zero =>
      intro i ys hi' hj
      obtain rfl : i = ns.length := by omega
      exact CompRest.zero (fin ys hj)
    | succ k ih =>
      intro i ys hi' hj v I oI C oC D m₂ h tk E' hv hC hx F N off ne
      obtain ⟨z, t, rfl, hz⟩ := IntsAre.at hi i v (by simpa using hv)
      refine wpAny_mono (step i z ys t I oI C oC D m₂ h tk hz hj hC hx F N) (fun y s' h₁ => ?_) fun _ _ e => e.elim
      obtain ⟨h', tk', rfl, F', N', hj'⟩ := h₁
      exact ⟨h', tk', news, rfl, F', N', off, hS, ih (i + 1) _ (by omega) hj'⟩
  have e : vs.toArray.size = ns.length := by rw [List.size_toArray]; exact hi.length
  rw [e]
  exact key ns.length 0 [] (by omega) j0
end
/-- the sign that a number of the script stands for -/
def codeOf (k : Int) : Nat := (Txt.charAt (Str.ofString "\\\" a\n\\\"b\t\x0d") (k % 10)).getD 0
def headL : List Nat := [97, 92, 92, 92, 32, 98, 34, 10, 9, 32, 34, 92, 34, 97, 92, 92, 34]
theorem head_is : Str.ofString "a\\\\\\ b\"\n\t \"\\\"a\\\\\"" = ⟨headL.toArray⟩ := by decide +kernel
theorem code_alph (k : Int) : codeOf k ∈ alph := by
  unfold codeOf
  have h1 : 0 ≤ k % 10 := Int.emod_nonneg _ (by decide)
  have h2 : k % 10 < 10 := Int.emod_lt_of_pos _ (by decide)
  obtain ⟨n, hn⟩ : ∃ n : Nat, k % 10 = n := ⟨(k % 10).toNat, by omega⟩
  rw [hn]
  have hn2 : n < 10 := by omega
  clear hn h1 h2
  have : ∀ n, n < 10 → (Txt.charAt (Str.ofString "\\\" a\n\\\"b\t\x0d") (n : Nat)).getD 0 ∈ alph := by decide +kernel
  exact this n hn2
/-- the text's signs -/
def textL (ns : List Int) : List Nat := headL ++ (ns.take 10).map codeOf
theorem text_alph (ns : List Int) : ∀ c ∈ textL ns, c ∈ alph := by
  intro c hc
  rcases List.mem_append.mp hc with hc | hc
  · have : ∀ c ∈ headL, c ∈ alph := by decide
    exact this c hc
  · obtain ⟨k, _, rfl⟩ := List.mem_map.mp hc
    exact code_alph k
theorem text_len (ns : List Int) : (textL ns).length ≤ 27 := by
  unfold textL
  rw [List.length_append, List.length_map, List.length_take]
  have : headL.length = 17 := rfl
  omega
theorem text_add (cs : List Nat) : (⟨headL.toArray⟩ : Str) ++ (⟨cs.toArray⟩ : Str) = ⟨(headL ++ cs).toArray⟩ := by
  show (⟨headL.toArray ++ cs.toArray⟩ : Str) = _
  congr 1
  simp
/-- the script's signs so far -/
structure ScriptJ (ns : List Int) (i : Nat) (ys : List Value) : Prop where
  ok : SignsAre ys ((ns.take i).map codeOf)
theorem ScriptJ.start (ns : List Int) : ScriptJ ns 0 [] := ⟨trivial⟩
theorem ScriptJ.step {ns : List Int} {i : Nat} {k : Int} {ys : List Value} {t : Tok} (j : ScriptJ ns i ys) (hk : ns[i]? = some k) : ScriptJ ns (i + 1) (ys ++ [.str (Txt.item (Str.ofString "\\\" a\n\\\"b\t\x0d") (k.fmod 10)) t]) := by
  rw [show k.fmod 10 = k % 10 from Int.fmod_eq_emod_of_nonneg k (by decide)]
  refine ⟨?_⟩
  rw [List.take_add_one, hk]
  simp only [Option.toList_some, List.map_append, List.map_cons, List.map_nil]
  exact j.ok.snoc
section
variable {prog : Program} {w : World} {A : Around} {E : Value → Shared → Prop} {s : Shared} {h₀ : Heap} {L : Addr} {m : Str → Option Value} {env : Env} {news : List (Addr × Obj)}
theorem cl_script {elt : Expr} {x : Str} {scope : Scope} {cl : List (Str × Addr)} {vs : List Value} {ns : List Int} {S : List (Addr × Obj) → Prop} {Fin : List Value → List (Addr × Obj) → Prop} (hi : IntsAre vs ns) (hS : S news)
    (step : ∀ i k ys t I oI C oC D m₂ h tk, ns[i]? = some k → ScriptJ ns i ys → NsObj oC m₂ → m₂ x = some (.int k t) → Fr h₀ L h m → News h₀ L h ((I, oI) :: (C, oC) :: (D, lst ys) :: news) →
      wpAny (model prog w) A (eval elt (compEnvC scope cl C env)) (CompOut h₀ L m ((I, oI) :: (C, oC) :: (D, lst ys) :: news) (fun y _ => ScriptJ ns (i + 1) (ys ++ [y])) s) (fun _ _ => False) { s with heap := h, toks := tk })
    (fin : ∀ ys, SignsAre ys (ns.map codeOf) → Fin ys news) : CompRest prog w A h₀ L m env elt x scope cl s S (fun i v => vs.toArray[i]? = some v) Fin vs.toArray.size 0 [] news :=
  cl_list hi hS (ScriptJ ns) (ScriptJ.start _) step fun ys j => fin ys (by have := j.ok; rwa [List.take_length] at this)
theorem add_text {cs : List Nat} {t u : Tok} {Q : Value → Shared → Prop} (hl : cs.length ≤ 60) (h : ∀ (T : Str) t' tk, T.cps.toList = headL ++ cs → Q (.str T t') { s with toks := tk }) :
    wpAny (model prog w) A (binaryOp .Add (.str (Str.ofString "a\\\\\\ b\"\n\t \"\\\"a\\\\\"") t) (.str ⟨cs.toArray⟩ u)) Q E s := by
  rw [head_is]
  refine PyProof.Rows.add_str (fun t' tk => ?_) ?_
  · rw [text_add]; exact h _ t' tk rfl
  · rw [sizeLine_eq]
    show headL.toArray.size + cs.toArray.size ≤ _
    rw [List.size_toArray, List.size_toArray]
    have : headL.length = 17 := rfl
    omega
theorem text_facts {T : Str} {ns : List Int} (h : T.cps.toList = headL ++ (ns.take 10).map codeOf) : T.length ≤ 27 ∧ (∀ c ∈ T.cps.toList, c ∈ alph) ∧ 0 < T.length := by
  have e : T.cps.toList = textL ns := h
  have h2 : T.length = (textL ns).length := by rw [← e]; simp [Str.length]
  refine ⟨by rw [h2]; exact text_len ns, by rw [e]; exact text_alph ns, ?_⟩
  rw [h2]
  unfold textL
  rw [List.length_append]
  have : headL.length = 17 := rfl
  omega
theorem mask_bound {sg t : Str} (h : t.length ≤ 27) : 0 ≤ maskZ sg t ∧ maskZ sg t < 2 ^ 40 := by
  have h1 := maskN_lt (hasS sg) t.cps.toList
  have h2 : t.cps.toList.length ≤ 27 := by simpa [Str.length] using h
  have h3 := Nat.pow_le_pow_right (n := 2) (by omega) h2
  unfold maskZ
  rw [show (2 : Int) ^ 40 = ((2 ^ 40 : Nat) : Int) from (kbt_cast 40).symm]
  have : (2 : Nat) ^ 27 < 2 ^ 40 := by decide
  omega
end
end Mine
end
section
open PySem PySem.W PyProof.Rows
namespace Mine
/-- a one at each other place -/
def oddN : Bool → Nat → Int
  | _, 0 => 0
  | p, m + 1 => cn p (oddN (!p) m)
theorem xor_self (x : Int) : Builtin.bitXor x x = 0 := by
  have h := bitXor_and x x
  rw [bitAnd_self] at h
  omega
theorem zero_xor (x : Int) : Builtin.bitXor 0 x = x := by
  have h := bitXor_and 0 x
  rw [zero_and] at h
  omega
theorem or_one (b : Bool) (p : Bool) (O : Int) : Builtin.bitOr (numL [b]) (cn p O) = cn (b || p) O := by
  show Builtin.bitOr (cn b 0) (cn p O) = _
  rw [or_cn, zero_or]
theorem sub_cn (a s c : Bool) (Y Z : Int) : cn a Y - cn s Z - (if c = true then 1 else 0) = cn (a ^^ s ^^ c) (Y - Z - (if (!a && s || !a && c || s && c) = true then 1 else 0)) := by
  unfold cn
  cases a <;> cases s <;> cases c <;> simp <;> omega
/-- the trick with the carries, sign by sign -/
theorem hide_trick : ∀ (cs : List Nat) (m : Nat) (prev par c h : Bool), cs.length < m → (prev = false → c = false ∧ h = false) → (prev = true → h = !(par ^^ c)) →
    Builtin.bitXor (Builtin.bitXor (Builtin.bitOr (numL (prev :: cs.map (· == 92))) (oddN par m) - numL (cs.map (· == 92)) - (if c = true then 1 else 0)) (oddN par m)) (numL (cs.map (· == 92))) = numL (h :: hideL h cs) ∧
    Builtin.bitAnd (Builtin.bitXor (Builtin.bitOr (numL (prev :: cs.map (· == 92))) (oddN par m) - numL (cs.map (· == 92)) - (if c = true then 1 else 0)) (oddN par m)) (numL (cs.map (· == 92))) = numL (hideL h cs)
  | [], m, prev, par, c, h, hm, h0, h1 => by
    obtain ⟨m, rfl⟩ : ∃ k, m = k + 1 := ⟨m - 1, by simp at hm; omega⟩
    simp only [List.map_nil, hideL, oddN]
    rw [or_one]
    have e0 : numL [] = cn false 0 := by decide
    rw [e0, sub_cn]
    cases prev with
    | false =>
      obtain ⟨rfl, rfl⟩ := h0 rfl
      simp only [Bool.false_or, Bool.xor_false, Bool.and_false, Bool.or_false, Bool.false_and, Bool.false_eq_true, if_false, Int.sub_zero]
      rw [xor_self]
      exact ⟨by rw [zero_xor]; rfl, by rw [zero_and]; rfl⟩
    | true =>
      have hh := h1 rfl
      subst hh
      simp only [Bool.true_or, Bool.xor_false, Bool.not_true, Bool.false_and, Bool.or_false, Bool.false_eq_true, if_false, Int.sub_zero]
      rw [xor_cn, xor_self]
      refine ⟨?_, ?_⟩
      · rw [xor_cn, xor_self]
        cases par <;> cases c <;> rfl
      · rw [and_cn, and_zero, Bool.and_false]
  | a :: r, m, prev, par, c, h, hm, h0, h1 => by
    obtain ⟨m, rfl⟩ : ∃ k, m = k + 1 := ⟨m - 1, by simp at hm; omega⟩
    obtain ⟨s, hs⟩ : ∃ s, (a == 92) = s := ⟨_, rfl⟩
    have hm' : r.length < m := by simp only [List.length_cons] at hm; omega
    have ih := hide_trick r m s (!par) (!(prev || par) && s || !(prev || par) && c || s && c) (s && !h) hm'
      (by rintro rfl
          cases prev with
          | false => obtain ⟨rfl, rfl⟩ := h0 rfl; cases par <;> exact ⟨rfl, rfl⟩
          | true => cases c <;> cases par <;> exact ⟨rfl, rfl⟩)
      (by rintro rfl
          cases prev with
          | false => obtain ⟨rfl, rfl⟩ := h0 rfl; cases par <;> rfl
          | true => rw [h1 rfl]; cases c <;> cases par <;> rfl)
    have e1 : numL (prev :: (a :: r).map (· == 92)) = cn prev (numL (s :: r.map (· == 92))) := by rw [List.map_cons, hs]; rfl
    have e2 : numL ((a :: r).map (· == 92)) = cn s (numL (r.map (· == 92))) := by rw [List.map_cons, hs]; rfl
    have e3 : hideL h (a :: r) = (s && !h) :: hideL (s && !h) r := by rw [hideL, hs]
    rw [e1, e2, e3, oddN, or_cn, sub_cn, xor_cn, xor_cn, and_cn, ih.1, ih.2]
    refine ⟨?_, ?_⟩
    · show cn _ _ = cn h _
      congr 1
      cases prev with
      | false => obtain ⟨rfl, rfl⟩ := h0 rfl; cases par <;> cases s <;> rfl
      | true => rw [h1 rfl]; cases par <;> cases s <;> cases c <;> rfl
    · show cn _ _ = cn (s && !h) _
      congr 1
      cases prev with
      | false => obtain ⟨rfl, rfl⟩ := h0 rfl; cases par <;> cases s <;> rfl
      | true => rw [h1 rfl]; cases par <;> cases s <;> cases c <;> rfl
theorem odd_is : oddN false 32 = 2863311530 := by decide +kernel
theorem hide_law (cs : List Nat) (h : cs.length ≤ 27) (S : Int) (hS : S = numL (cs.map (· == 92))) :
    Builtin.bitAnd (Builtin.bitXor (Builtin.bitOr (S * 2 ^ Int.toNat 1) 2863311530 - S) 2863311530) S = numL (hideL false cs) ∧
    Builtin.bitXor (Builtin.bitXor (Builtin.bitOr (S * 2 ^ Int.toNat 1) 2863311530 - S) 2863311530) S = numL (false :: hideL false cs) := by
  have k := hide_trick cs 32 false false false false (by omega) (fun _ => ⟨rfl, rfl⟩) (fun e => nomatch e)
  rw [odd_is] at k
  subst hS
  have e : numL (cs.map (· == 92)) * 2 ^ Int.toNat 1 = numL (false :: cs.map (· == 92)) := by
    show _ = cn false _
    unfold cn
    simp; omega
  rw [e]
  simp only [Bool.false_eq_true, if_false, Int.sub_zero] at k
  exact ⟨k.2, k.1⟩
theorem numL_bound : ∀ l : List Bool, 0 ≤ numL l ∧ numL l < 2 ^ l.length
  | [] => by simp [numL]
  | b :: l => by
    have ih := numL_bound l
    rw [List.length_cons, Int.pow_succ]
    unfold numL cn
    split <;> omega
end Mine
end
section
open PySem PySem.W PyProof.Rows PyProof.Rows.LCg
namespace Mine
section
set_option maxRecDepth 100000 in
set_option maxHeartbeats 8000000 in
theorem hiding_cb (w : World) (p : Program) (loose : List Str) (mean : ExcName → Option Value) (mg mb : Str → Option Value) (news : List (Addr × Obj)) (S H D : Int) (tk1 : Nat) (hS0 : 0 ≤ S) (hS1 : S < 2 ^ 40)
    (hH : Builtin.bitAnd (Builtin.bitXor (Builtin.bitOr (S * 2 ^ Int.toNat 1) (Int.fdiv (1 * 2 ^ Int.toNat 33) 3) - S) (Int.fdiv (1 * 2 ^ Int.toNat 33) 3)) S = H) (hD : Builtin.bitXor (Builtin.bitXor (Builtin.bitOr (S * 2 ^ Int.toNat 1) (Int.fdiv (1 * 2 ^ Int.toNat 33) 3) - S) (Int.fdiv (1 * 2 ^ Int.toNat 33) 3)) S = D)
    (dp un : Nat) (gd : Option (List Code)) (cn : Str) (cs : Scope) (a : Addr) (ccd : Value) (cl : List (Str × Addr)) (outer : List Env) (A₀ : Around) (base h₀ : Heap) (L : Addr) (m : Str → Option Value) (s : Shared) (Q E : Value → Shared → Prop)
    (B : Below A₀ base outer h₀) (F : Fr h₀ L s.heap m) (X : (hd.heap_39 w.params).In h₀) (N : News h₀ L s.heap news) (Tp : Top p loose mean mg mb h₀) (hcs : cs.kind = .function)
    (hdp : dp + 60 < recursionLimit) (hun : un + 600 < cLine)
    (hret : ∀ (l t1 t2 : Nat) (h' : Heap) (tk' : Nat), s.toks ≤ tk' → Fr h₀ L h' m → News h₀ L h' ((l, W.listOf #[.int H t1, .int D t2] 0) :: news) → (∀ p ∈ news, p.1 < l) → Q (.ref l) { s with heap := h', toks := tk' }) :
    wpAny (model PySem.Challenge.rw_pe0091_01.row.prog w) (ktrTop dp un gd cn cs L a ccd cl outer) (call (.ref 189) [.int S tk1]) Q E s := by
  revert X; k_fill; intro X
  refine wpAny_with_toks (n := _) (Nat.le_refl _) ?_
  refine wpAny_call ?_
  refine' code_def ?k1 ?k2 ?k3 ?k4 ?k5 ?kA ?kF ?kK ?k6 ?k7 ?k8 ?k9 ?kB ?_ ?c2 ?c3 ?c4 ?c5
  case kA => exact rfl
  case kF => exact rfl
  case kK => assumption
  case k1 => k_asm
  case k2 => k_asm
  case k3 => k_asm
  case k4 => k_asm
  case k5 => k_asm
  case k6 => k_is
  case k7 => k_is
  case k8 => ktr_room
  case k9 => exact BindsTo.of_eq rfl
  case c5 => decide
  case kB => exact locs rfl
  case c2 => exact rfl
  case c3 => exact rfl
  case c4 => exact rfl
  intro g₁ L₁ h₁ FG₁ F₁ N₁ B₁ X₁ T₁
  replace F₁ : Fr g₁ L₁ h₁ (fun y => List.lookup y [(Str.ofString "slashes", Value.int S tk1)]) := F₁
  try k_fold
  refine noE ?_
  k_steps
  with_reducible rename Fr h₀ _ _ _ => Fz
  with_reducible rename News h₀ _ _ _ => Nz
  rw [hH, hD] at Nz
  exact hret _ _ _ _ _ (by assumption) Fz Nz (by assumption)
end
theorem hide_lawW (cs : List Nat) (h : cs.length ≤ 27) (S : Int) (hS : S = numL (cs.map (· == 92))) :
    Builtin.bitAnd (Builtin.bitXor (Builtin.bitOr (S * 2 ^ Int.toNat 1) (Int.fdiv (1 * 2 ^ Int.toNat 33) 3) - S) (Int.fdiv (1 * 2 ^ Int.toNat 33) 3)) S = numL (hideL false cs) ∧
    Builtin.bitXor (Builtin.bitXor (Builtin.bitOr (S * 2 ^ Int.toNat 1) (Int.fdiv (1 * 2 ^ Int.toNat 33) 3) - S) (Int.fdiv (1 * 2 ^ Int.toNat 33) 3)) S = numL (false :: hideL false cs) := by
  have e : (Int.fdiv (1 * 2 ^ Int.toNat 33) 3) = 2863311530 := by decide +kernel
  rw [e]
  exact hide_law cs h S hS
/-- _law_hiding on a text's mask -/
theorem hiding_here {w : World} {p : Program} {loose : List Str} {mean : ExcName → Option Value} {mg mb : Str → Option Value} {news : List (Addr × Obj)} {T : Str} {tk1 : Nat} (hT : T.length ≤ 27) (hal : ∀ c ∈ T.cps.toList, c ∈ alph)
    {dp un : Nat} {gd : Option (List Code)} {cn : Str} {cs : Scope} {a : Addr} {ccd : Value} {cl : List (Str × Addr)} {outer : List Env} {A₀ : Around} {base h₀ : Heap} {L : Addr} {m : Str → Option Value} {s : Shared} {Q E : Value → Shared → Prop}
    (B : Below A₀ base outer h₀) (X : (hd.heap_39 w.params).In h₀) (Tp : Top p loose mean mg mb h₀) (hcs : cs.kind = .function) (F : Fr h₀ L s.heap m) (N : News h₀ L s.heap news)
    (hdp : dp + 60 < recursionLimit) (hun : un + 600 < cLine)
    (hret : ∀ (H D : Int) (l t1 t2 : Nat) (h' : Heap) (tk' : Nat), H = numL (hideL false T.cps.toList) → D = numL (false :: hideL false T.cps.toList) → s.toks ≤ tk' → Fr h₀ L h' m → News h₀ L h' ((l, W.listOf #[.int H t1, .int D t2] 0) :: news) → (∀ p ∈ news, p.1 < l) → Q (.ref l) { s with heap := h', toks := tk' }) :
    wpAny (model PySem.Challenge.rw_pe0091_01.row.prog w) (ktrTop dp un gd cn cs L a ccd cl outer) (call (.ref 189) [.int (maskZ (Str.ofString "\\") T) tk1]) Q E s := by
  have hl : T.cps.toList.length ≤ 27 := by simpa [Str.length] using hT
  have hS : maskZ (Str.ofString "\\") T = numL (T.cps.toList.map (· == 92)) := by
    rw [maskZ, maskN_num, map_congr' fun c hc => hasS_b c (hal c hc)]
  obtain ⟨e1, e2⟩ := hide_lawW _ hl _ hS
  obtain ⟨b1, b2⟩ := mask_bound (sg := Str.ofString "\\") hT
  exact hiding_cb w p loose mean mg mb news _ _ _ tk1 b1 b2 e1 e2 dp un gd cn cs a ccd cl outer A₀ base h₀ L m s Q E B F X N Tp hcs hdp hun fun l t1 t2 h' tk' a b c d => hret _ _ l t1 t2 h' tk' rfl rfl a b c d
/-- the numbers that tell of hiding: their sizes, and that the one is twice the other -/
theorem hide_facts {T : Str} {H D : Int} (hT : T.length ≤ 27) (hH : H = numL (hideL false T.cps.toList)) (hD : D = numL (false :: hideL false T.cps.toList)) : 0 ≤ H ∧ H < 2 ^ 40 ∧ D = H * 2 ^ Int.toNat 1 := by
  have hl : T.cps.toList.length ≤ 27 := by simpa [Str.length] using hT
  have hb := numL_bound (hideL false T.cps.toList)
  rw [hideL_len, ← hH] at hb
  have hp := pow_bound hl
  refine ⟨hb.1, by omega, ?_⟩
  rw [hD, hH]
  show cn false _ = _
  unfold cn
  simp; omega
end Mine
end
section
open PySem PySem.W PyProof.Rows PyProof.Rows.LCg
namespace Mine
theorem signs_of_get : ∀ (vs : List Value) (cs : List Nat), vs.length = cs.length → (∀ (i : Nat) (v : Value), vs[i]? = some v → ∃ (c : Nat) (u : Tok), cs[i]? = some c ∧ v = Value.str ⟨#[c]⟩ u) → SignsAre vs cs
  | [], [], _, _ => trivial
  | [], _ :: _, h, _ => by simp at h
  | _ :: _, [], h, _ => by simp at h
  | v :: vs, c :: cs, hl, h => by
    obtain ⟨c', u, hc, hv⟩ := h 0 v rfl
    have e : c = c' := by simpa using hc
    subst e
    exact ⟨⟨u, hv⟩, signs_of_get vs cs (by simpa using hl) fun i v hv => by simpa using h (i + 1) v (by simpa using hv)⟩
section
variable {prog : Program} {w : World} {A : Around} {E : Value → Shared → Prop} {s : Shared} {h₀ : Heap} {L : Addr} {m : Str → Option Value} {news : List (Addr × Obj)}
theorem list_text_K {x : Str} {t : Tok} {Q : Value → Shared → Prop} (hh : A.handled = none) (F : Fr h₀ L s.heap m) (N : News h₀ L s.heap news) (hl : x.length ≤ 100)
    (hQ : ∀ (l : Nat) vs ep h' tk', Fr h₀ L h' m → News h₀ L h' ((l, W.listOf vs.toArray ep) :: news) → (∀ p ∈ news, p.1 < l) → SignsAre vs x.cps.toList → Q (.ref l) { s with heap := h', toks := tk' }) :
    wpAny (model prog w) A (call (.type "list") [.str x t]) Q E s := by
  refine call_list_str hh x t (hn := by rw [sizeLine_eq]; unfold Str.length at hl; omega) fun h' tk acc' c' hk hS' hacc => ?_
  have hLs : L < s.heap.objs.size := F.ns.lt
  refine hQ _ acc'.toList c' h' tk (F.keeps hk) (fun p hp => ?_) (fun p hp => Heap.lt_size (N p hp).1) (signs_of_get _ _ (by simpa using hacc.1) fun i v hv => ?_)
  · rcases List.mem_cons.mp hp with rfl | hp
    · exact ⟨hS', Nat.ne_of_gt hLs, next_is_new F⟩
    · exact ⟨hk _ _ (N p hp).1, (N p hp).2⟩
  · obtain ⟨c, u, h1, h2⟩ := hacc.2 i v (by simpa using hv)
    exact ⟨c, u, by simpa using h1, h2⟩
end
/-- the rows left tell of the words from place k on -/
def TellsFrom (cs : List Nat) : Nat → List (List Nat × Nat) → Prop
  | _, [] => True
  | k, (w, p) :: r => (tok (cs.drop k)).1 = w ∧ p ≤ cs.length ∧ (tok (cs.drop k)).2 = cs.drop p ∧ TellsFrom cs p r
theorem scan_suffix (stop : Nat → Bool) : ∀ l : List Nat, (scan stop l).2 <:+ l
  | [] => List.suffix_refl _
  | [c] => by
    by_cases h : stop c = true
    · rw [scan_stop h]; exact List.nil_suffix
    · simp only [scan, h]
      split
      · exact List.nil_suffix
      · split <;> exact List.nil_suffix
  | c :: d :: r => by
    by_cases h : stop c = true
    · rw [scan_stop h]; exact List.suffix_cons _ _
    · simp only [scan, h]
      by_cases hc : c = 92
      · simp only [hc, if_true, Bool.false_eq_true, if_false]
        exact (scan_suffix stop r).trans ((List.suffix_cons _ _).trans (List.suffix_cons _ _))
      · simp only [hc, if_false, Bool.false_eq_true]
        exact (scan_suffix stop (d :: r)).trans (List.suffix_cons _ _)
theorem tok_suffix : ∀ l : List Nat, (tok l).2 <:+ l
  | [] => List.suffix_refl _
  | c :: r => by
    rw [tok]
    split
    · exact (tok_suffix r).trans (List.suffix_cons _ _)
    · split
      · exact (scan_suffix _ r).trans (List.suffix_cons _ _)
      · exact scan_suffix _ _
theorem tells_end (cs : List Nat) : TellsFrom cs cs.length [([], cs.length), ([], cs.length)] := by
  have e : cs.drop cs.length = [] := List.drop_length
  refine ⟨by rw [e]; rfl, Nat.le_refl _, by rw [e]; rfl, by rw [e]; rfl, Nat.le_refl _, by rw [e]; rfl, trivial⟩
theorem tells_of_chain (cs : List Nat) : ∀ (rs : List (List Nat × Nat)) (k : Nat), chain cs k rs cs.length → TellsFrom cs k (rs ++ [([], cs.length), ([], cs.length)])
  | [], k, h => by
    have h : k = cs.length := h
    rw [h]; exact tells_end cs
  | (w, p) :: r, k, h => by
    obtain ⟨_, h2, h3, h4⟩ := h
    refine ⟨h2, by omega, ?_, tells_of_chain cs r p h4⟩
    have hs : (tok (cs.drop k)).2 <:+ cs := (tok_suffix _).trans (List.drop_suffix _ _)
    rw [h3]
    exact List.suffix_iff_eq_drop.mp hs
theorem cnt_split (cs : List Nat) (p : Nat) : cnt cs = cnt (cs.take p) + cnt (cs.drop p) := by
  unfold cnt
  conv => lhs; rw [← List.take_append_drop p cs, List.countP_append]
  omega
section
variable {prog : Program} {w : World} {A : Around} {E : Value → Shared → Prop} {s : Shared} {env : Env} {h₀ : Heap} {body : List Stmt} {Q : Flow → Shared → Prop}
def RowEnd {σ : Type} (h₀ : Heap) (L : Addr) (xi xc : Str) (m : Str → Option Value) (Λ : σ → List (Addr × Obj)) (J : σ → Prop) (own : Addr × Obj) (s₁ s₂ : Shared) : Prop :=
  ∃ h' tk m' news' st, s₂ = { s₁ with heap := h', toks := tk } ∧ Fr h₀ L h' m' ∧ News h₀ L h' news' ∧ own ∈ news' ∧ (∀ p ∈ Λ st, p ∈ news') ∧ (∀ z, z ≠ xi → z ≠ xc → m' z = m z) ∧ J st
def RowPost {σ : Type} (h₀ : Heap) (L : Addr) (xi xc : Str) (m : Str → Option Value) (Λ : σ → List (Addr × Obj)) (J : σ → Prop) (own : Addr × Obj) (s₁ : Shared) (Q : Flow → Shared → Prop) (f : Flow) (s₂ : Shared) : Prop :=
  match f with
  | .ret v => Q (.ret v) s₂
  | .brk => Q .next s₂
  | _ => RowEnd h₀ L xi xc m Λ J own s₁ s₂
/-- a loop over rows, each a list of a word and a number; it turns the lexer's state -/
theorem rows_loop {xi xc : Str} {pk pv pt : Pos} {x1 T : Nat} {m₀ : Str → Option Value} {σ : Type} {A1 : Addr} {rows : List Row} {ep : Nat} (Λ : σ → List (Addr × Obj)) (J : Nat → σ → Prop) (st₀ : σ) (hh : A.handled = none)
    (hxi : env.kindOf xi = some .local) (hxc : env.kindOf xc = some .local) (hp : (env.scope.kind == .class || (env.scope.kind == .module && env.locals != env.globals)) = false) (hT : T ≤ s.toks)
    (hA : ∀ st, (A1, W.listOf (rows.map Row.val).toArray ep) ∈ Λ st) (hr : ∀ st, ∀ r ∈ rows, r.led ∈ Λ st) (haddr : ∀ st, ∀ p ∈ Λ st, ∃ q ∈ Λ st₀, q.1 = p.1)
    (F : Fr h₀ env.locals s.heap m₀) (N : News h₀ env.locals s.heap (Λ st₀)) (hj : J 0 st₀)
    (turn : ∀ i r st h tk (I : Nat) oI, T + 2 ≤ tk → rows[i]? = some r → J i st → (∀ p ∈ Λ st, p.1 < I) → Fr h₀ env.locals h (fun y => if y = xc then some (.int r.p r.tp) else if y = xi then some (.str ⟨r.w.toArray⟩ r.tw) else m₀ y) → News h₀ env.locals h ((I, oI) :: Λ st) →
      wpAny (model prog w) A (execs body env) (RowPost h₀ env.locals xi xc m₀ Λ (J (i + 1)) (I, oI) { s with heap := h, toks := tk } Q) (fun _ _ => False) { s with heap := h, toks := tk })
    (done : ∀ st m₁ h tk, T ≤ tk → J rows.length st → (∀ z, z ≠ xi → z ≠ xc → m₁ z = m₀ z) → Fr h₀ env.locals h m₁ → News h₀ env.locals h (Λ st) → Q .next { s with heap := h, toks := tk }) :
    wpAny (model prog w) A (pyIter (.ref A1)) (fun it s₂ => LoopHere (model prog w) A (.Tuple [.Name xi pk, .Name xc pv] x1 pt) body [] env Q E it s₂) E s := by
  have hl : s.heap.IsList A1 (rows.map Row.val).toArray := isList_led N (hA st₀)
  refine wpAny_pyIter_list hl ?_
  generalize hI : s.heap.objs.size = I
  have hlt : ∀ st, ∀ p ∈ Λ st, p.1 < I := fun st p hp => by
    obtain ⟨q, hq, e⟩ := haddr st p hp
    rw [← e, ← hI]; exact Heap.lt_size (N q hq).1
  have hAI : A1 ≠ I := Nat.ne_of_lt (hlt st₀ _ (hA st₀))
  have hLI : env.locals < I := by rw [← hI]; exact F.ns.lt
  have hIL : I ≠ env.locals := Nat.ne_of_gt hLI
  have hI0 : h₀.get? I = none := by rw [← hI]; exact next_is_new F
  have W := Walks.list (prog := prog) (w := w) hh I A1 hAI (rows.map Row.val).toArray
  have up0 : ∀ b o, s.heap.get? b = some o → (s.heap.push { cls := .type "list_iterator", data := .fields #[.ref A1, .int 0 0] }).get? b = some o := fun b o e => Heap.get?_push_of_some _ e
  have hsize : (rows.map Row.val).toArray.size = rows.length := by simp
  refine codeAny_forLoop_any (WalkJ s h₀ env.locals T rows.length (fun i h => h.IsListIter I A1 i ∧ h.IsList A1 (rows.map Row.val).toArray) (fun _ m' => ∀ z, z ≠ xi → z ≠ xc → m' z = m₀ z) Λ J) ?_ (rows.length + 1)
    (WalkJ.mk (tk := s.toks) (i := 0) hT ⟨⟨_, by rw [← hI]; exact Heap.get?_push_size _ rfl, rfl, rfl⟩, hl.push _⟩ (F.keeps up0) (N.grown up0) (fun _ _ _ => rfl) hj (Nat.zero_le _))
  rintro _ _ (@⟨h', tk, m', st, i, hT', hst', F', N', hm', hJ, hi⟩)
  have old : ∀ b o, h₀.get? b = some o → b ≠ I := fun b o e q => by rw [q, hI0] at e; cases e
  have next : ∀ h₁ : Heap, (∀ b o, b ∉ [I] → h'.get? b = some o → h₁.get? b = some o) → Fr h₀ env.locals h₁ m' ∧ News h₀ env.locals h₁ (Λ st) := fun h₁ hk₁ =>
    ⟨⟨F'.ns.at' fun o e => hk₁ _ o (by simpa using Ne.symm hIL) e, fun b o e => hk₁ b o (by simpa using old b o e) (F'.keep b o e), F'.above⟩, fun p hp => ⟨hk₁ _ _ (by simpa using Nat.ne_of_lt (hlt st p hp)) (N' p hp).1, (N' p hp).2⟩⟩
  by_cases hlt' : i < rows.length
  · refine wpAny_with_toks hT' (W.item i _ _ _ (by rw [hsize]; exact hlt') hst' fun v h₁ tk₁ hPv hst₁ hk₁ hT₁ => ?_)
    obtain ⟨F₁, N₁⟩ := next h₁ hk₁
    obtain ⟨r, hrow⟩ : ∃ r, rows[i]? = some r := ⟨_, List.getElem?_eq_getElem hlt'⟩
    have hv : v = Row.val r := by
      have : (rows.map Row.val).toArray[i]? = some v := hPv
      simp only [List.getElem?_toArray, List.getElem?_map, hrow, Option.map_some, Option.some.injEq] at this
      exact this.symm
    subst hv
    have hrl := isList_led (vs := [Value.str ⟨r.w.toArray⟩ r.tw, Value.int r.p r.tp]) N₁ (hr st r (List.mem_of_getElem? hrow))
    obtain ⟨oI, hoI, hoc⟩ := hst₁.1
    have NI₁ : News h₀ env.locals h₁ ((I, oI) :: Λ st) := fun p hp => by
      rcases List.mem_cons.mp hp with rfl | hp
      · exact ⟨hoI, hIL, hI0⟩
      · exact N₁ p hp
    refine wpAny_letOwnedTupleGo_listiter hst₁.1 ?_
    refine kun_list F₁ NI₁ hrl hh rfl rfl fun h₂ F₂ N₂ => ?_
    show wpAny _ A (do holding [Value.int r.p r.tp] (assign (.Name xi pk) env (Value.str ⟨r.w.toArray⟩ r.tw)); do holding [] (assign (.Name xc pv) env (Value.int r.p r.tp)); pure ()) _ _ _
    refine wpAny_bind (wpAny_holding (wpAny_assign_Name (wpAny_storeName_local hxi F₂.ns (fun h₄ hn₄ hs₄ => ?_) hp)))
    replace hs₄ : Heap.SameBut env.locals h₂ h₄ := hs₄
    have F₄ := F₂.set hn₄ hs₄
    refine wpAny_bind (wpAny_holding (wpAny_assign_Name (wpAny_storeName_local hxc F₄.ns (fun h₅ hn₅ hs₅ => wpAny_pure ?_) hp)))
    replace hs₅ : Heap.SameBut env.locals h₄ h₅ := hs₅
    have F₅ := F₄.set hn₅ hs₅
    have N₅ : News h₀ env.locals h₅ ((I, oI) :: Λ st) := (N₂.set hs₄).set hs₅
    replace F₅ : Fr h₀ env.locals h₅ (fun y => if y = xc then some (Value.int r.p r.tp) else if y = xi then some (Value.str ⟨r.w.toArray⟩ r.tw) else m' y) := F₅
    rw [fr_same2 hm'] at F₅
    refine wpAny_mono (wpAny_toks_of (n := T) ?_ (turn i r st h₅ _ I oI ?_ hrow hJ (hlt st) F₅ N₅)) (fun f s₃ h₆ => ?_) fun _ _ e => e.2.elim
    · exact Nat.le_succ_of_le (Nat.le_succ_of_le hT₁)
    · exact Nat.succ_le_succ (Nat.succ_le_succ hT₁)
    obtain ⟨hT₃, h₆⟩ := h₆
    have fin : RowEnd h₀ env.locals xi xc m₀ Λ (J (i + 1)) (I, oI) { s with heap := h₅, toks := tk₁ + 1 + 1 } s₃ →
        ∃ m, m < rows.length + 1 - i ∧ WalkJ s h₀ env.locals T rows.length (fun i h => h.IsListIter I A1 i ∧ h.IsList A1 (rows.map Row.val).toArray) (fun _ m' => ∀ z, z ≠ xi → z ≠ xc → m' z = m₀ z) Λ J m s₃ := by
      rintro ⟨h₆', tk₆, m₂, news₂, st₂, rfl, F₆, N₆, hown, hsub, hm₂, hJ₆⟩
      have NL : News h₀ env.locals h₆' (Λ st₂) := fun p hp => N₆ p (hsub p hp)
      exact ⟨_, sub_less hlt', WalkJ.mk (i := i + 1) hT₃ ⟨⟨oI, (N₆ _ hown).1, hoc⟩, isList_led NL (hA st₂)⟩ F₆ NL hm₂ hJ₆ hlt'⟩
    cases f with
    | ret v => exact h₆
    | brk => exact h₆
    | next => exact fin h₆
    | cont => exact fin h₆
  · obtain rfl : i = rows.length := Nat.le_antisymm hi (Nat.le_of_not_lt hlt')
    refine wpAny_with_toks hT' (W.done _ _ _ (by rw [hsize]; exact hst') fun h₁ tk₁ hk₁ hT₁ => wpAny_execs_nil ?_)
    obtain ⟨F₁, N₁⟩ := next h₁ hk₁
    exact done st m' h₁ tk₁ hT₁ hJ hm' F₁ N₁
end
end Mine
end
section
open PySem PySem.W PyProof.Rows PyProof.Rows.LCg
namespace Mine
theorem lex_perm {α : Type} {x2 d2 x1 d1 f c ce l pb pb1 r1 r2 r3 r4 : α} {extra : List α} : ∀ p ∈ x2 :: d2 :: x1 :: d1 :: f :: c :: ce :: l :: pb :: (extra ++ (pb1 :: r1 :: r2 :: r3 :: r4 :: [])),
    p ∈ extra ++ (pb :: x2 :: d2 :: f :: c :: pb1 :: x1 :: d1 :: ce :: l :: r1 :: r2 :: r3 :: r4 :: []) :=
  List.forall_mem_cons.mpr ⟨List.mem_append_right _ (.tail _ (.head _)), List.forall_mem_cons.mpr ⟨List.mem_append_right _ (.tail _ (.tail _ (.head _))), List.forall_mem_cons.mpr ⟨List.mem_append_right _ (.tail _ (.tail _ (.tail _ (.tail _ (.tail _ (.tail _ (.head _))))))), List.forall_mem_cons.mpr ⟨List.mem_append_right _ (.tail _ (.tail _ (.tail _ (.tail _ (.tail _ (.tail _ (.tail _ (.head _)))))))), List.forall_mem_cons.mpr ⟨List.mem_append_right _ (.tail _ (.tail _ (.tail _ (.head _)))), List.forall_mem_cons.mpr ⟨List.mem_append_right _ (.tail _ (.tail _ (.tail _ (.tail _ (.head _))))), List.forall_mem_cons.mpr ⟨List.mem_append_right _ (.tail _ (.tail _ (.tail _ (.tail _ (.tail _ (.tail _ (.tail _ (.tail _ (.head _))))))))), List.forall_mem_cons.mpr ⟨List.mem_append_right _ (.tail _ (.tail _ (.tail _ (.tail _ (.tail _ (.tail _ (.tail _ (.tail _ (.tail _ (.head _)))))))))), List.forall_mem_cons.mpr ⟨List.mem_append_right _ (.head _), List.forall_mem_append.mpr ⟨fun p hp => List.mem_append_left _ hp, List.forall_mem_cons.mpr ⟨List.mem_append_right _ (.tail _ (.tail _ (.tail _ (.tail _ (.tail _ (.head _)))))), List.forall_mem_cons.mpr ⟨List.mem_append_right _ (.tail _ (.tail _ (.tail _ (.tail _ (.tail _ (.tail _ (.tail _ (.tail _ (.tail _ (.tail _ (.head _))))))))))), List.forall_mem_cons.mpr ⟨List.mem_append_right _ (.tail _ (.tail _ (.tail _ (.tail _ (.tail _ (.tail _ (.tail _ (.tail _ (.tail _ (.tail _ (.tail _ (.head _)))))))))))), List.forall_mem_cons.mpr ⟨List.mem_append_right _ (.tail _ (.tail _ (.tail _ (.tail _ (.tail _ (.tail _ (.tail _ (.tail _ (.tail _ (.tail _ (.tail _ (.tail _ (.head _))))))))))))), List.forall_mem_cons.mpr ⟨List.mem_append_right _ (.tail _ (.tail _ (.tail _ (.tail _ (.tail _ (.tail _ (.tail _ (.tail _ (.tail _ (.tail _ (.tail _ (.tail _ (.tail _ (.head _)))))))))))))), fun _ h => nomatch h⟩⟩⟩⟩⟩⟩⟩⟩⟩⟩⟩⟩⟩⟩⟩
theorem lex_off {t pb pb1 r1 r2 r3 r4 : Nat} {o0 o1 q1 q2 q3 q4 : Obj} {more extra : List (Addr × Obj)} (h0 : t < pb) (h1 : pb1 ≠ t) (e1 : r1 ≠ t) (e2 : r2 ≠ t) (e3 : r3 ≠ t) (e4 : r4 ≠ t) (hm : ∀ p ∈ more, pb < p.1) (hx : ∀ p ∈ extra, pb < p.1) :
    ∀ p ∈ ((pb, o0) :: (more ++ (extra ++ ((pb1, o1) :: (r1, q1) :: (r2, q2) :: (r3, q3) :: (r4, q4) :: []))) : List (Addr × Obj)), p.1 ≠ t := by
  refine List.forall_mem_cons.mpr ⟨Nat.ne_of_gt h0, List.forall_mem_append.mpr ⟨fun p hp => Nat.ne_of_gt (Nat.lt_trans h0 (hm p hp)), List.forall_mem_append.mpr ⟨fun p hp => Nat.ne_of_gt (Nat.lt_trans h0 (hx p hp)), ?_⟩⟩⟩
  exact List.forall_mem_cons.mpr ⟨h1, List.forall_mem_cons.mpr ⟨e1, List.forall_mem_cons.mpr ⟨e2, List.forall_mem_cons.mpr ⟨e3, List.forall_mem_cons.mpr ⟨e4, fun _ h => nomatch h⟩⟩⟩⟩⟩
/-- the lexer read off the ledger -/
theorem lex_of {w : World} {pb x2 d2 f c₁ pb1 x1 d1 ce l r1 r2 r3 r4 : Nat} {oc oce opb1 q1 q2 q3 q4 : Obj} {k1 k2 k3 k4 k5 j1 j2 j3 j4 j5 tln ep : Nat} {v1 v2 v3 v4 pm ctv : Value} {qual : Str} {ocv : Array Value} {tq : Tok} {vs : List Value} {h₀ h : Heap} {L : Addr} {extra : List (Addr × Obj)}
    (N : News h₀ L h (extra ++ ((pb, W.listOf #[] 0) :: (x2, instObj 59 d2) :: (d2, dictOf [⟨PyData.keyHash w.params (Str.ofString "lineno"), .str (Str.ofString "lineno") k1, .int 1 tln⟩, ⟨PyData.keyHash w.params (Str.ofString "instream"), .str (Str.ofString "instream") k2, .ref x1⟩, ⟨PyData.keyHash w.params (Str.ofString "whitespace"), .str (Str.ofString "whitespace") k3, .str (Str.ofString "\n\t\r ") k4⟩, ⟨PyData.keyHash w.params (Str.ofString "pushback"), .str (Str.ofString "pushback") k5, .ref pb⟩] 4) ::
      (f, kla_obj (Str.ofString "<lambda>") qual lamParams lamBody lamScope [(Str.ofString "left", ce)] pm c₁ ctv) :: (c₁, oc) :: (pb1, opb1) :: (x1, instObj 59 d1) ::
      (d1, dictOf [⟨PyData.keyHash w.params (Str.ofString "lineno"), .str (Str.ofString "lineno") j1, v1⟩, ⟨PyData.keyHash w.params (Str.ofString "instream"), .str (Str.ofString "instream") j2, v2⟩, ⟨PyData.keyHash w.params (Str.ofString "whitespace"), .str (Str.ofString "whitespace") j3, v3⟩, ⟨PyData.keyHash w.params (Str.ofString "pushback"), .str (Str.ofString "pushback") j4, v4⟩, ⟨PyData.keyHash w.params (Str.ofString "read"), .str (Str.ofString "read") j5, .ref f⟩] 5) ::
      (ce, oce) :: (l, W.listOf vs.toArray ep) :: (r1, q1) :: (r2, q2) :: (r3, q3) :: (r4, q4) :: [])))
    (hoc : oc.data = .fields ocv) (hocv : ocv[1]? = some (.str qual tq)) (hce : oce.data = .cell (some (.ref l)))
    (h1 : l < ce) (h2 : ce < d1) (h3 : d1 < x1) (h4 : x1 < pb1) (h4' : pb1 < c₁) (h5 : c₁ < f) (h6 : f < d2) (h7 : d2 < x2) (h8 : x2 < pb) (e1 : r1 < l) (e2 : r2 < l) (e3 : r3 < l) (e4 : r4 < l) (hx : ∀ p ∈ extra, pb < p.1) :
    ∃ P : LexP, P.x2 = x2 ∧ P.l = l ∧ News h₀ L h (P.led w 1 tln vs ep ((P.pb, W.listOf #[] 0) :: (extra ++ ((pb1, opb1) :: (r1, q1) :: (r2, q2) :: (r3, q3) :: (r4, q4) :: [])))) ∧
      ∀ more : List (Addr × Obj), (∀ p ∈ more, P.pb < p.1) → P.Ok ((P.pb, W.listOf #[] 0) :: (more ++ (extra ++ ((pb1, opb1) :: (r1, q1) :: (r2, q2) :: (r3, q3) :: (r4, q4) :: [])))) := by
  refine ⟨⟨x2, d2, x1, d1, f, c₁, ce, l, pb, oc, oce, k1, k2, k3, k4, k5, j1, j2, j3, j4, j5, v1, v2, v3, v4, pm, ctv, qual, ocv, tq⟩, rfl, rfl, ?_, ?_⟩
  · exact fun p hp => N p (lex_perm p hp)
  · intro more hm
    obtain ⟨_, _, _, _, _, lf, ld, lx, _⟩ := led_lt h1 h2 h3 (Nat.lt_trans h4 h4') h5 h6 h7
    have p1 := Nat.lt_trans h7 h8
    have q1 := Nat.lt_trans ld p1
    have c1 : c₁ < d2 := Nat.lt_trans h5 h6
    refine ⟨hoc, hocv, hce, h1, h2, h3, Nat.lt_trans h4 h4', h5, h6, h7, ?_, ?_⟩
    · have z := fun r (e : r < l) => Nat.ne_of_lt (Nat.lt_trans e ld)
      exact lex_off p1 (Nat.ne_of_lt (Nat.lt_trans h4' c1)) (z _ e1) (z _ e2) (z _ e3) (z _ e4) hm hx
    · exact lex_off q1 (Nat.ne_of_gt (Nat.lt_trans (Nat.lt_trans (Nat.lt_trans h1 h2) h3) h4)) (Nat.ne_of_lt e1) (Nat.ne_of_lt e2) (Nat.ne_of_lt e3) (Nat.ne_of_lt e4) hm hx
/-- where the lexer stands ahead of row i -/
structure LexJ (cs : List Nat) (rows : List Row) (i : Nat) (st : Int × Nat × List Value × Nat) : Prop where
  ok : ∃ k, k ≤ cs.length ∧ SignsAre st.2.2.1 (cs.drop k) ∧ st.1 = 1 + cnt (cs.take k) ∧ TellsFrom cs k ((rows.drop i).map Row.tell)
theorem LexJ.start {cs : List Nat} {rows : List Row} {news : List (Addr × Obj)} {A tln ep : Nat} {vs : List Value} (hr : RowsAre cs news A rows) (hv : SignsAre vs cs) : LexJ cs rows 0 (1, tln, vs, ep) := by
  obtain ⟨rs, e, hc⟩ := hr.told
  refine ⟨0, Nat.zero_le _, hv, rfl, ?_⟩
  rw [List.drop_zero, e]
  exact tells_of_chain cs rs 0 hc
/-- what row i asks of the lexer -/
structure RowAsks (cs : List Nat) (rows : List Row) (i : Nat) (r : Row) (st : Int × Nat × List Value × Nat) (k : Nat) : Prop where
  signs : SignsAre st.2.2.1 (cs.drop k)
  word : (tok (cs.drop k)).1 = r.w
  le : r.p ≤ cs.length
  rest : (tok (cs.drop k)).2 = cs.drop r.p
  line : st.1 + cnt (cs.drop k) - cnt (cs.drop r.p) = 1 + cnt (cs.take r.p)
  next : ∀ st', SignsAre st'.2.2.1 (cs.drop r.p) → st'.1 = 1 + cnt (cs.take r.p) → LexJ cs rows (i + 1) st'
theorem LexJ.asks {cs : List Nat} {rows : List Row} {i : Nat} {st : Int × Nat × List Value × Nat} {r : Row} (j : LexJ cs rows i st) (hr : rows[i]? = some r) : ∃ k, RowAsks cs rows i r st k := by
  obtain ⟨k, hk, hs, hl, ht⟩ := j.ok
  have hd : rows.drop i = r :: rows.drop (i + 1) := by
    obtain ⟨h1, h2⟩ := List.getElem?_eq_some_iff.mp hr
    rw [← h2]; exact List.drop_eq_getElem_cons h1
  rw [hd, List.map_cons] at ht
  obtain ⟨t1, t2, t3, t4⟩ := ht
  refine ⟨k, hs, t1, t2, t3, ?_, fun st' s' l' => ⟨r.p, t2, s', l', t4⟩⟩
  have a := cnt_split cs k
  have b := cnt_split cs r.p
  rw [hl]
  omega
end Mine
end
section
open PySem PySem.W PyProof.Rows PyProof.Rows.LCg
namespace Mine
section
variable {w : World} {p : Program} {loose : List Str} {mean : ExcName → Option Value} {mg mb : Str → Option Value}
  {dp un : Nat} {gd : Option (List Code)} {cn : Str} {cs : Scope} {a : Addr} {ccd : Value} {cl : List (Str × Addr)} {outer : List Env} {A₀ : Around} {base h₀ : Heap} {L : Addr} {m : Str → Option Value} {s : Shared} {Q E : Value → Shared → Prop}
/-- get_token called where row i is asked for -/
theorem token_here {P : LexP} {rest : List (Addr × Obj)} {ln : Int} {tln ep i k : Nat} {vs : List Value} {codes : List Nat} {rows : List Row} {r : Row} (ok : P.Ok ((P.pb, W.listOf #[] 0) :: rest)) (asks : RowAsks codes rows i r (ln, tln, vs, ep) k) (hlen : codes.length ≤ 27)
    (hCH : CodeHd base 174 170) (B : Below A₀ base outer h₀) (X : (hd.heap_39 w.params).In h₀) (Tp : Top p loose mean mg mb h₀) (hcs : cs.kind = .function) (F : Fr h₀ L s.heap m) (N : News h₀ L s.heap (P.led w ln tln vs ep ((P.pb, W.listOf #[] 0) :: rest)))
    (hdp : dp + 40 < recursionLimit) (hun : un + 400 < cLine)
    (hQ : ∀ t vs' tln' ep' h' tk', s.toks ≤ tk' → SignsAre vs' (codes.drop r.p) → Fr h₀ L h' m → News h₀ L h' (P.led w (1 + cnt (codes.take r.p)) tln' vs' ep' ((P.pb, W.listOf #[] 0) :: rest)) → Q (.str ⟨r.w.toArray⟩ t) { s with heap := h', toks := tk' }) :
    wpAny (model PySem.Challenge.rw_pe0091_01.row.prog w) (ktrTop dp un gd cn cs L a ccd cl outer) (call (.ref 49) [.ref P.x2]) Q E s := by
  have hline : ln + cnt (codes.drop k) - cnt (codes.drop r.p) = 1 + cnt (codes.take r.p) := asks.line
  refine wpAny_with_toks (n := s.toks) (Nat.le_refl _) (token_cb w p loose mean mg mb P rest 0 ok ln tln ep vs (codes.drop k) asks.signs (by rw [List.length_drop]; omega) dp un gd cn cs a ccd cl outer A₀ base h₀ L m s _ _ hCH B F X N Tp hcs hdp hun
    fun t vs' tln' ep' h' tk' hs F' N' htk => ?_)
  rw [asks.rest] at hs N'
  rw [hline] at N'
  rw [asks.word]
  exact hQ t vs' tln' ep' h' tk' htk hs F' N'
theorem count_nl {news : List (Addr × Obj)} {t : Str} {tk tk2 : Nat} (ht : t.length ≤ 27) (h0 : 0 < tk2) (h1 : tk2 < s.toks) (B : Below A₀ base outer h₀) (X : (hd.heap_39 w.params).In h₀) (Tp : Top p loose mean mg mb h₀) (hcs : cs.kind = .function)
    (F : Fr h₀ L s.heap m) (N : News h₀ L s.heap news) (hdp : dp + 30 < recursionLimit) (hun : un + 300 < cLine)
    (hret : ∀ t' h' tk', s.toks ≤ tk' → Fr h₀ L h' m → News h₀ L h' news → Q (.int (cnt t.cps.toList) t') { s with heap := h', toks := tk' }) :
    wpAny (model PySem.Challenge.rw_pe0091_01.row.prog w) (ktrTop dp un gd cn cs L a ccd cl outer) (call (.ref 161) [.str t tk, .str (Str.ofString "\n") tk2]) Q E s := by
  rw [nl_is]
  exact count_here ht h0 h1 B X Tp hcs F N hdp hun hret
end
section
variable {prog : Program} {w : World} {A : Around} {E : Value → Shared → Prop} {s : Shared} {value slice : PySem.Expr} {x : Str} {t : Tok} {h₀ : Heap} {L : Addr} {m : Str → Option Value} {news : List (Addr × Obj)} {Q : Value → Shared → Prop}
theorem slice_cut {p : Nat} {uj : Tok} (F : Fr h₀ L s.heap m) (N : News h₀ L s.heap news) (hp : p ≤ x.length) (hl : x.length ≤ 100)
    (h : ∀ (T' : Str) h' t' k, s.toks ≤ k → T'.cps.toList = x.cps.toList.take p → T'.length ≤ x.length → Fr h₀ L h' m → News h₀ L h' news → Q (.str T' t') { s with heap := h', toks := k })
    (hs : subscripted slice false (.str x t) (.ref s.heap.objs.size) = operate [.ref s.heap.objs.size, .str x t] (getItem (.str x t) (.ref s.heap.objs.size)) := by with_unfolding_all rfl)
    (ht : ∀ r, letTemporaryGo value (.str x t) r = pure () := by intro _; with_unfolding_all rfl) :
    wpAny (model prog w) A (subscriptTail value slice (.str x t) (.ref s.heap.objs.size)) Q E { s with heap := s.heap.push { cls := .type "slice", data := .fields #[.none, .int (p : Int) uj, .none] } } := by
  refine wpAny_with_toks (n := s.toks) (Nat.le_refl _) (slice_strN_ns F N (fun h' t' k F' N' hk => ?_) hs ht (by rw [sizeLine_eq]; omega))
  have hle : p ≤ x.cps.toList.length := by simpa [Str.length] using hp
  have e := eq_of_beq (slice_closes_to (x := x) (j := (p : Int)) ⟨by omega, by omega⟩)
  have e2 : (Txt.slice x none (some (p : Int))).cps.toList = x.cps.toList.take p := by
    rw [e]; simp
  refine h _ h' t' k hk e2 ?_ F' N'
  have h3 : ∀ y : Str, y.length = y.cps.toList.length := fun y => by simp [Str.length]
  rw [h3, h3 x, e2, List.length_take]
  omega
end
theorem above_extra {cs : List Nat} {q : Addr × Obj} {news : List (Addr × Obj)} {A : Nat} {o : Obj} {rows : List Row} (hr : RowsAre cs (q :: news) A rows) : ∀ p ∈ (A, o) :: rows.map Row.led, q.1 < p.1 := by
  intro p hp
  rcases List.mem_cons.mp hp with rfl | hp
  · exact hr.aboveA q (.head _)
  · obtain ⟨r, hr', rfl⟩ := List.mem_map.mp hp
    exact hr.above r hr' q (.head _)
section
variable {prog : Program} {w : World} {A : Around} {E : Value → Shared → Prop} {s : Shared} {env : Env} {h₀ : Heap} {body : List Stmt} {Q : Flow → Shared → Prop}
theorem For_here0 {M : Model} {target iter : Expr} {orelse : List Stmt} {pos : Pos}
    (h : wpAny M A (eval iter env) (fun x s₁ => wpAny M A (pyIter x) (fun it s₂ => LoopHere M A target body orelse env Q E it s₂) E s₁) (fun _ _ => False) s)
    (hs : ∀ x, foldedSetIterable iter env x = pure x := by intro _; rfl) :
    wpAny M A (exec (.For target iter body orelse pos) env) Q E s := wpAny_For (wpAny_mono h (fun _ _ x => x) fun _ _ x => x.elim) hs
def LexEnd (w : World) (P : LexP) (cs : List Nat) (r : Row) (h₀ : Heap) (L : Addr) (xi xc : Str) (m : Str → Option Value) (rest : List (Addr × Obj)) (s₁ s₂ : Shared) : Prop :=
  ∃ h' tk m' ln tln vs ep, s₂ = { s₁ with heap := h', toks := tk } ∧ Fr h₀ L h' m' ∧ News h₀ L h' (P.led w ln tln vs ep ((P.pb, W.listOf #[] 0) :: rest)) ∧ (∀ z, z ≠ xi → z ≠ xc → m' z = m z) ∧ SignsAre vs (cs.drop r.p) ∧ ln = 1 + cnt (cs.take r.p)
def LexPost (w : World) (P : LexP) (cs : List Nat) (r : Row) (h₀ : Heap) (L : Addr) (xi xc : Str) (m : Str → Option Value) (rest : List (Addr × Obj)) (s₁ : Shared) (Q : Flow → Shared → Prop) (f : Flow) (s₂ : Shared) : Prop :=
  match f with
  | .ret v => Q (.ret v) s₂
  | .brk => Q .next s₂
  | _ => LexEnd w P cs r h₀ L xi xc m rest s₁ s₂
theorem led_addr {P : LexP} {ln ln' : Int} {tln tln' ep ep' : Nat} {vs vs' : List Value} {rest : List (Addr × Obj)} : ∀ p ∈ P.led w ln tln vs ep rest, ∃ q ∈ P.led w ln' tln' vs' ep' rest, q.1 = p.1 := by
  intro p hp
  simp only [LexP.led, List.mem_cons] at hp
  rcases hp with rfl | rfl | rfl | rfl | rfl | rfl | rfl | rfl | hp
  · exact ⟨_, .head _, rfl⟩
  · exact ⟨_, .tail _ (.head _), rfl⟩
  · exact ⟨_, .tail _ (.tail _ (.head _)), rfl⟩
  · exact ⟨_, .tail _ (.tail _ (.tail _ (.head _))), rfl⟩
  · exact ⟨_, .tail _ (.tail _ (.tail _ (.tail _ (.head _)))), rfl⟩
  · exact ⟨_, .tail _ (.tail _ (.tail _ (.tail _ (.tail _ (.head _))))), rfl⟩
  · exact ⟨_, .tail _ (.tail _ (.tail _ (.tail _ (.tail _ (.tail _ (.head _)))))), rfl⟩
  · exact ⟨_, .tail _ (.tail _ (.tail _ (.tail _ (.tail _ (.tail _ (.tail _ (.head _))))))), rfl⟩
  · exact ⟨p, .tail _ (.tail _ (.tail _ (.tail _ (.tail _ (.tail _ (.tail _ (.tail _ hp))))))), rfl⟩
theorem led_rest {P : LexP} {ln : Int} {tln ep : Nat} {vs : List Value} {rest : List (Addr × Obj)} {p : Addr × Obj} (h : p ∈ rest) : p ∈ P.led w ln tln vs ep rest :=
  .tail _ (.tail _ (.tail _ (.tail _ (.tail _ (.tail _ (.tail _ (.tail _ h)))))))
theorem led_own {P : LexP} {ln : Int} {tln ep : Nat} {vs : List Value} {own pbl : Addr × Obj} {rest : List (Addr × Obj)} {p : Addr × Obj} : p ∈ P.led w ln tln vs ep (pbl :: own :: rest) ↔ p = own ∨ p ∈ P.led w ln tln vs ep (pbl :: rest) :=
  perm_step (perm_step (perm_step (perm_step (perm_step (perm_step (perm_step (perm_step (perm_step List.mem_cons))))))))
/-- the loop over the rows, the lexer kept in step -/
theorem lex_loop {xi xc : Str} {pk pv pt : Pos} {x1 T : Nat} {m₀ : Str → Option Value} {A1 : Addr} {rows : List Row} {ep1 : Nat} {P : LexP} {rest news : List (Addr × Obj)} {cs : List Nat} {tln ep : Nat} {vs : List Value} (hh : A.handled = none)
    (hxi : env.kindOf xi = some .local) (hxc : env.kindOf xc = some .local) (hp : (env.scope.kind == .class || (env.scope.kind == .module && env.locals != env.globals)) = false) (hT : T ≤ s.toks)
    (hOk : ∀ more : List (Addr × Obj), (∀ p ∈ more, P.pb < p.1) → P.Ok ((P.pb, W.listOf #[] 0) :: (more ++ (((A1, W.listOf (rows.map Row.val).toArray ep1) :: rows.map Row.led) ++ rest))))
    (F : Fr h₀ env.locals s.heap m₀) (N : News h₀ env.locals s.heap (P.led w 1 tln vs ep ((P.pb, W.listOf #[] 0) :: (((A1, W.listOf (rows.map Row.val).toArray ep1) :: rows.map Row.led) ++ rest))))
    (hrows : RowsAre cs news A1 rows) (hv : SignsAre vs cs)
    (turn : ∀ i r k ln tln vs ep h tk (I : Nat) oI, T + 2 ≤ tk → RowAsks cs rows i r (ln, tln, vs, ep) k → P.Ok ((P.pb, W.listOf #[] 0) :: ((I, oI) :: (((A1, W.listOf (rows.map Row.val).toArray ep1) :: rows.map Row.led) ++ rest))) →
      Fr h₀ env.locals h (fun y => if y = xc then some (.int r.p r.tp) else if y = xi then some (.str ⟨r.w.toArray⟩ r.tw) else m₀ y) → News h₀ env.locals h (P.led w ln tln vs ep ((P.pb, W.listOf #[] 0) :: ((I, oI) :: (((A1, W.listOf (rows.map Row.val).toArray ep1) :: rows.map Row.led) ++ rest)))) →
      wpAny (model prog w) A (execs body env) (LexPost w P cs r h₀ env.locals xi xc m₀ ((I, oI) :: (((A1, W.listOf (rows.map Row.val).toArray ep1) :: rows.map Row.led) ++ rest)) { s with heap := h, toks := tk } Q) (fun _ _ => False) { s with heap := h, toks := tk })
    (done : ∀ m₁ h tk, T ≤ tk → (∀ z, z ≠ xi → z ≠ xc → m₁ z = m₀ z) → Fr h₀ env.locals h m₁ → News h₀ env.locals h rest → Q .next { s with heap := h, toks := tk }) :
    wpAny (model prog w) A (pyIter (.ref A1)) (fun it s₂ => LoopHere (model prog w) A (.Tuple [.Name xi pk, .Name xc pv] x1 pt) body [] env Q E it s₂) E s := by
  refine rows_loop (T := T) (rows := rows) (ep := ep1) (fun st : Int × Nat × List Value × Nat => P.led w st.1 st.2.1 st.2.2.1 st.2.2.2 ((P.pb, W.listOf #[] 0) :: (((A1, W.listOf (rows.map Row.val).toArray ep1) :: rows.map Row.led) ++ rest))) (LexJ cs rows) (1, tln, vs, ep) hh hxi hxc hp hT
    (fun st => led_rest (.tail _ (.head _))) (fun st r hr => led_rest (.tail _ (List.mem_append_left _ (.tail _ (List.mem_map_of_mem hr))))) (fun st => led_addr) F N (LexJ.start hrows hv) ?_ ?_
  · rintro i r ⟨ln, tln', vs', ep'⟩ h tk I oI hTk hr hJ hlt F' N'
    obtain ⟨k, asks⟩ := hJ.asks hr
    have hpb : P.pb < I := hlt (P.pb, W.listOf #[] 0) (led_rest (.head _))
    have ok := hOk [(I, oI)] fun p hp => by rw [List.mem_singleton.mp hp]; exact hpb
    refine wpAny_mono (turn i r k ln tln' vs' ep' h tk I oI hTk asks ok F' fun p hp => N' p ?_) (fun f s₂ hs => ?_) fun _ _ e => e
    · rcases led_own.mp hp with h | h
      · exact h ▸ .head _
      · exact .tail _ h
    · have fin : LexEnd w P cs r h₀ env.locals xi xc m₀ ((I, oI) :: (((A1, W.listOf (rows.map Row.val).toArray ep1) :: rows.map Row.led) ++ rest)) { s with heap := h, toks := tk } s₂ →
          RowEnd h₀ env.locals xi xc m₀ (fun st : Int × Nat × List Value × Nat => P.led w st.1 st.2.1 st.2.2.1 st.2.2.2 ((P.pb, W.listOf #[] 0) :: (((A1, W.listOf (rows.map Row.val).toArray ep1) :: rows.map Row.led) ++ rest))) (LexJ cs rows (i + 1)) (I, oI) { s with heap := h, toks := tk } s₂ := by
        rintro ⟨h', tk', m', ln2, tln2, vs2, ep2, e, F2, N2, hm, hs2, hl2⟩
        exact ⟨h', tk', m', _, (ln2, tln2, vs2, ep2), e, F2, N2, led_own.mpr (.inl rfl), fun p hp => led_own.mpr (.inr hp), hm, asks.next _ hs2 hl2⟩
      cases f with
      | ret v => exact hs
      | brk => exact hs
      | next => exact fin hs
      | cont => exact fin hs
  · rintro ⟨ln, tln', vs', ep'⟩ m₁ h tk hTk _ hm F' N'
    exact done m₁ h tk hTk hm F' fun p hp => N' p (led_rest (.tail _ (List.mem_append_right _ hp)))
end
end Mine
end
section
open Mine PyProof.Rows.LCg
local macro_rules | `(tactic| walk_at "exec For") => `(tactic| (k_here; k_dflt (refine For_here0 ?_)))
local macro_rules | `(tactic| walk_at "CompSrc") => `(tactic| (k_here; refine hold ?_))
local macro_rules | `(tactic| walk_at "call type:list") => `(tactic| (k_here; (with_reducible show wpAny _ _ (call (Value.type "list") [Value.str _ _]) _ _ _); refine hold ?_))
local macro_rules | `(tactic| walk_at "subscriptTail Name Slice str ref") => `(tactic| refine hold ?_)
local macro_rules | `(tactic| walk_at "binaryOp Add str str") => `(tactic| (k_here; refine hold ?_))
section
open PySem PySem.W PyProof.Rows PyProof.Rows.LCg
namespace Mine
section
set_option maxRecDepth 100000 in
set_option maxHeartbeats 8000000 in
theorem main0 : PySem.Challenge.rw_pe0091_01.Holds := by
  refine hd ?_
  k_go0
  all_goals try k_fold
  k_steps
  refine Hold.out (LCg.ListComp_U (F₀ := by k_asm) (by with_unfolding_all rfl) (by decide) (by rfl) (by decide) (by rfl) ?_)
  k_steps
  with_reducible rename IntsAre _ (List.take 10 _) => hI2
  with_reducible rename Fr _ _ _ _ => Fx
  with_reducible rename News _ _ _ _ => Nx
  refine Hold.out (LCg.CompSrc.ledger rfl Fx Nx (.head _) ?hsz ?_)
  case hsz =>
    rw [List.size_toArray, hI2.length, List.length_take, sizeLine_eq]
    omega
  intro g9
  refine cl_script hI2 (.inr ⟨_, .head _, rfl, _, rfl⟩) ?step ?fin
  case step =>
    intro i k ys t3 I3 oI3 C3 oC3 D3 m3 h3 tk3 hk3 hj3 ho3 hm3 F3 N3
    clear Fx Nx
    have hk1 : 0 ≤ k % 10 := Int.emod_nonneg _ (by decide)
    have hk2 : k % 10 < 10 := Int.emod_lt_of_pos _ (by decide)
    show wpAny _ _ _ _ _ _
    try k_fold
    iterate 3 walk1
    iterate 3 walk1
    k_steps
    with_reducible rename Fr _ _ _ _ => Fx
    with_reducible rename News _ _ _ _ => Nx
    refine ⟨_, _, rfl, Fx, Nx, ?_⟩
    exact hj3.step hk3
  case fin =>
    intro ys hs
    clear Fx Nx
    intro D4 h4 tk4 F4 N4 off4
    simp only [LCg.Off1, and_true] at off4
    obtain ⟨off41, off42⟩ := off4
    show wpAny _ _ _ _ _ _
    try k_fold
    k_steps
    with_reducible rename Fr _ _ _ _ => Fx
    with_reducible rename News _ _ _ _ => Nx
    refine Hold.out (join_here Nx (.head _) hs ?hlj ?_)
    case hlj => (rw [List.length_map, List.length_take]; omega)
    intro t5 tk5 htk5
    show wpAny _ _ _ _ _ _
    try k_fold
    k_steps
    refine Hold.out (add_text ?hla ?_)
    case hla => (rw [List.length_map, List.length_take]; omega)
    intro T t6 tk6 hT
    obtain ⟨hTl, hal, hT0⟩ := text_facts hT
    obtain ⟨hb1, hb2⟩ := mask_bound (sg := Str.ofString "\\") hTl
    show wpAny _ _ _ _ _ _
    try k_fold
    k_steps
    with_reducible rename Below _ _ _ _ => hB
    with_reducible rename Top _ _ _ _ _ _ => hTp
    with_reducible rename Frag.In _ _ => hX
    with_reducible rename Fr _ _ _ _ => Fx
    with_reducible rename News _ _ _ _ => Nx
    refine Hold.out (mask_here (dp := callerA.depth + 1) (un := callerA.units + 3) hTl hB hX hTp rfl Fx Nx (by decide +kernel) (by decide +kernel) ?_)
    intro t7 h7 tk7 htk7 F7 N7
    show wpAny _ _ _ _ _ _
    try k_fold
    k_steps
    with_reducible rename Fr _ _ _ _ => Fx
    with_reducible rename News _ _ _ _ => Nx
    refine Hold.out (hiding_here (dp := callerA.depth + 1) (un := callerA.units + 3) hTl hal hB hX hTp rfl Fx Nx (by decide +kernel) (by decide +kernel) ?_)
    intro H D l8 t8 u8 h8 tk8 hH hD htk8 F8 N8 l8a
    obtain ⟨hb3, hb4, hDH⟩ := hide_facts hTl hH hD
    k_lt l8a
    show wpAny _ _ _ _ _ _
    try k_fold
    k_steps
    with_reducible rename Fr _ _ _ _ => Fx
    with_reducible rename News _ _ _ _ => Nx
    refine Hold.out (list_text_K rfl Fx Nx (by omega) ?_)
    intro l9 vs9 ep9 h9 tk9 F9 N9 l9a hv9
    k_lt l9a
    show wpAny _ _ _ _ _ _
    try k_fold
    k_steps
    with_reducible rename Fr (ghostOf _ _) _ _ _ => Fx
    with_reducible rename News (ghostOf _ _) _ _ _ => Nx
    refine Hold.out (words_cb _ _ _ _ _ _ _ T _ _ _ H D hTl hH hD hal (callerA.depth + 1) (callerA.units + 3) _ _ _ _ _ _ _ _ _ _ _ _ _ _ _ hB Fx hX Nx hTp rfl (by decide +kernel) (by decide +kernel) ?_)
    intro A1 rows ep1 h10 tk10 htk10 F10 N10 hrows
    clear htk10
    have hcells := hrows
    obtain ⟨P, hPx, hPl, N11, hOk⟩ := lex_of (extra := (A1, W.listOf (rows.map Row.val).toArray ep1) :: rows.map Row.led) N10 (by assumption) (by assumption) (by assumption) (Nat.lt_succ_of_lt (by first | (with_reducible assumption) | (repeat (with_reducible rename _ ∧ _ => hh; first | (refine InC.get ?_ hh; (repeat (with_reducible constructor)); done) | clear hh)))) (by first | (with_reducible assumption) | (repeat (with_reducible rename _ ∧ _ => hh; first | (refine InC.get ?_ hh; (repeat (with_reducible constructor)); done) | clear hh))) (by first | (with_reducible assumption) | (repeat (with_reducible rename _ ∧ _ => hh; first | (refine InC.get ?_ hh; (repeat (with_reducible constructor)); done) | clear hh))) (by first | (with_reducible assumption) | (repeat (with_reducible rename _ ∧ _ => hh; first | (refine InC.get ?_ hh; (repeat (with_reducible constructor)); done) | clear hh))) (by first | (with_reducible assumption) | (repeat (with_reducible rename _ ∧ _ => hh; first | (refine InC.get ?_ hh; (repeat (with_reducible constructor)); done) | clear hh))) (by first | (with_reducible assumption) | (repeat (with_reducible rename _ ∧ _ => hh; first | (refine InC.get ?_ hh; (repeat (with_reducible constructor)); done) | clear hh))) (by first | (with_reducible assumption) | (repeat (with_reducible rename _ ∧ _ => hh; first | (refine InC.get ?_ hh; (repeat (with_reducible constructor)); done) | clear hh))) (by first | (with_reducible assumption) | (repeat (with_reducible rename _ ∧ _ => hh; first | (refine InC.get ?_ hh; (repeat (with_reducible constructor)); done) | clear hh))) (by first | (with_reducible assumption) | (repeat (with_reducible rename _ ∧ _ => hh; first | (refine InC.get ?_ hh; (repeat (with_reducible constructor)); done) | clear hh))) (by first | (with_reducible assumption) | (repeat (with_reducible rename _ ∧ _ => hh; first | (refine InC.get ?_ hh; (repeat (with_reducible constructor)); done) | clear hh))) (by first | (with_reducible assumption) | (repeat (with_reducible rename _ ∧ _ => hh; first | (refine InC.get ?_ hh; (repeat (with_reducible constructor)); done) | clear hh))) (by first | (with_reducible assumption) | (repeat (with_reducible rename _ ∧ _ => hh; first | (refine InC.get ?_ hh; (repeat (with_reducible constructor)); done) | clear hh))) (by first | (with_reducible assumption) | (repeat (with_reducible rename _ ∧ _ => hh; first | (refine InC.get ?_ hh; (repeat (with_reducible constructor)); done) | clear hh))) (above_extra hrows)
    rw [← hPx, ← hPl] at F10
    have hcl : T.cps.toList.length = T.length := by simp [Str.length]
    have hcl27 : T.cps.toList.length ≤ 27 := by omega
    refine lex_loop (T := 0) rfl rfl rfl rfl (Nat.zero_le _) hOk F10 N11 hrows hv9 ?turn ?done
    case turn =>
      intro i r k ln tln vs ep h tk I oI hTk0 asks ok F' N'
      have hTk : 1 ≤ tk := Nat.le_trans (by decide) hTk0
      clear hTk0
      have hFl : Floor 1 := ⟨Nat.one_pos⟩
      have N'' := N'
      dsimp only [LexP.led] at N''
      show wpAny _ _ _ _ _ _
      try k_fold
      k_steps
      have hle : r.p ≤ T.length := by rw [← hcl]; exact asks.le
      with_reducible rename CodeHd _ _ _ => hCH
      refine Hold.out (token_here (dp := callerA.depth + 1) (un := callerA.units + 3) ok asks hcl27 hCH hB hX hTp rfl F' N' (by decide +kernel) (by decide +kernel) ?_)
      intro t12 vs12 tln12 ep12 h12 tk12 htk12 hs12 F12 N12
      replace htk12 : _ ≤ tk12 := htk12
      dsimp only at htk12
      clear N''
      have N13 := N12
      dsimp only [LexP.led] at N13
      have hvl : vs12.length = T.length - r.p := by rw [hs12.len, List.length_drop, hcl]
      have hvl2 : vs12.toArray.size = T.length - r.p := by rw [List.size_toArray, hvl]
      show wpAny _ _ _ _ _ _
      try k_fold
      k_steps
      · exfalso
        with_reducible rename (_ != _) = true => hbad
        simp at hbad
      · exfalso
        omega
      with_reducible rename Fr _ _ _ _ => Fx
      with_reducible rename News _ _ _ _ => Nx
      refine Hold.out (slice_cut (s := ⟨_, _, _, _, _⟩) Fx Nx hle (by omega) ?_)
      intro T15 h15 t15 tk15 htk15 hT15 hT15l F15 N15
      replace htk15 : _ ≤ tk15 := htk15
      dsimp only at htk15
      show wpAny _ _ _ _ _ _
      try k_fold
      k_steps
      refine Hold.out (count_nl (dp := callerA.depth + 1) (un := callerA.units + 3) (by omega) (by omega) (Nat.lt_succ_self _) hB hX hTp rfl F15 N15 (by decide +kernel) (by decide +kernel) ?_)
      intro t16 h16 tk16 htk16 F16 N16
      rw [hT15]
      show wpAny _ _ _ _ _ _
      try k_fold
      k_steps
      · exfalso
        omega
      · show LexEnd _ _ _ _ _ _ _ _ _ _ _ _
        refine ⟨_, _, _, _, _, _, _, rfl, F16, N16, ?_, hs12, rfl⟩
        intro z h1 h2
        simp only [if_neg h1, if_neg h2]
    case done =>
      intro m₁ h tk hTk hm F' N'
      k_steps
end
end Mine
end
end
end
end
theorem PySem.Challenge.cw_pe0091_01_holds : PySem.Challenge.rw_pe0091_01.Holds := by
  exact Mine.main0
