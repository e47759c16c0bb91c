import PyProof.Rows.All
import Wide.All
import OpenK.AllK
import Wide.FinOn
import PySem.Challenge.RW_ny0089_02
set_option Elab.async false
set_option maxRecDepth 100000
set_option linter.all false
section
set_option maxHeartbeats 8000000
open PySem PySem.W PyProof.Rows
namespace Mine

abbrev Ret (h₀ : Heap) (L : Addr) (m : Str → Option Value) (news : List (Addr × Obj)) (s : Shared) (Q : Value → Shared → Prop) (Ok : Value → Prop) : Prop :=
  ∀ (v : Value) (h' : Heap) (tk' : Nat), Ok v → Fr h₀ L h' m → News h₀ L h' news → Q v { s with heap := h', toks := tk' }

abbrev Claim (lv : Nat) (prog : Program) (w : World) (K : Frag) (p : Program) (loose : List Str) (mean : ExcName → Option Value) (mg mb : Str → Option Value) (f : Addr) (news : List (Addr × Obj)) (pre : Prop) (vs : List Value) (Ok : Value → Prop) : Prop :=
  ∀ (dp un : Nat) (gd : Option (List Code)) (cn : Str) (cs : Scope) (a : Addr) (ccd : Value) (cl : List (Str × Addr)) (outer : List Env) (A₀ : Around) (base h₀ : Heap) (L : Addr) (m : Str → Option Value) (s : Shared) (Q E : Value → Shared → Prop),
    Below A₀ base outer h₀ → Fr h₀ L s.heap m → K.In h₀ → News h₀ L s.heap news → Top p loose mean mg mb h₀ → cs.kind = .function →
    pre → dp + lv < recursionLimit → un + 4 * lv < cLine → Ret h₀ L m news s Q Ok →
      wpAny (model prog w) (ktrTop dp un gd cn cs L a ccd cl outer) (call (.ref f) vs) Q E s

/-- a halt of the walk -/
structure Stop (P : Prop) : Prop where
  here : P
theorem Stop.out {P : Prop} (h : Stop P) : P := h.here

theorem fr_say {h₀ h : Heap} {L : Addr} {m : Str → Option Value} (ps : List (Str × Value)) (F : Fr h₀ L h m) (hk : ∀ p ∈ ps, m p.1 = some p.2) : Fr h₀ L h (kstB m ps) := by
  have e : kstB m ps = m := by
    funext z
    exact kstB_eq hk fun _ => rfl
  rw [e]; exact F

section
variable {prog : Program} {w : World} {A : Around} {E : Value → Shared → Prop} {Q : Flow → Shared → Prop} {s : Shared} {env : Env} {h₀ : Heap} {L : Addr}

/-- what stands at the end of a turn, or of a statement -/
inductive TurnEnd {σ : Type} (h₀ : Heap) (L : Addr) (s : Shared) (PS : σ → List (Str × Value)) (LED : σ → List (Addr × Obj)) (own : List (Addr × Obj)) (P : σ → Prop) : Shared → Prop
  | mk (c' : σ) {h' : Heap} {tk : Nat} {m' : Str → Option Value} {news' : List (Addr × Obj)} (F : Fr h₀ L h' m') (N : News h₀ L h' news') (hl : ∀ p ∈ LED c', p ∈ news') (ho : ∀ p ∈ own, p ∈ news') (hk : ∀ p ∈ PS c', m' p.1 = some p.2) (hp : P c') :
      TurnEnd h₀ L s PS LED own P { s with heap := h', toks := tk }
inductive TurnPost {σ : Type} (h₀ : Heap) (L : Addr) (s : Shared) (PS : σ → List (Str × Value)) (LED : σ → List (Addr × Obj)) (own : List (Addr × Obj)) (P : σ → Prop) (Q : Flow → Shared → Prop) : Flow → Shared → Prop
  | ret {v : Value} {s₂ : Shared} (h : Q (.ret v) s₂) : TurnPost h₀ L s PS LED own P Q (.ret v) s₂
  | brk {s₂ : Shared} (h : Q .next s₂) : TurnPost h₀ L s PS LED own P Q .brk s₂
  | next {s₂ : Shared} (h : TurnEnd h₀ L s PS LED own P s₂) : TurnPost h₀ L s PS LED own P Q .next s₂
  | cont {s₂ : Shared} (h : TurnEnd h₀ L s PS LED own P s₂) : TurnPost h₀ L s PS LED own P Q .cont s₂

theorem while_st {σ : Type} {test : Expr} {body : List Stmt} {pos : Pos} {m : Str → Option Value} {news : List (Addr × Obj)} (PS : σ → List (Str × Value)) (LED : σ → List (Addr × Obj)) (P : σ → Prop) (μ : σ → Nat) (c₀ : σ)
    (F : Fr h₀ L s.heap m) (N : News h₀ L s.heap news) (hled : ∀ p ∈ LED c₀, p ∈ news) (hps : ∀ p ∈ PS c₀, m p.1 = some p.2) (hp : P c₀)
    (turn : ∀ (c : σ) (u : Str → Option Value) h tk, P c → Fr h₀ L h (kstB u (PS c)) → News h₀ L h (LED c) →
      wpAny (model prog w) A (isTrue test env (eval test env)) (fun b s₂ =>
        if b = true then wpAny (model prog w) A (execs body env) (TurnPost h₀ L s PS LED [] (fun c' => P c' ∧ μ c' < μ c) Q) E s₂ else Q .next s₂) E { s with heap := h, toks := tk })
    (hE : PassesOwn (model prog w) A env E := by passes_own) :
    wpAny (model prog w) A (exec (.While test body [] pos) env) Q E s := by
  refine While_inv2 (fun n m nx => ∃ c : σ, nx = LED c ∧ μ c = n ∧ (∀ p ∈ PS c, m p.1 = some p.2) ∧ P c) (n₀ := μ c₀) (news := LED c₀) F (fun p hp => N p (hled p hp)) ⟨c₀, rfl, rfl, hps, hp⟩ ?_ hE
  rintro n m₁ nx h tk F₁ N₁ ⟨c, rfl, rfl, h1, hp'⟩
  refine wpAny_mono (turn c m₁ h tk hp' (fr_say _ F₁ h1) N₁) (fun b s₂ p => ?_) fun _ _ x => x
  cases b with
  | false => simpa using p
  | true =>
    simp only [if_true] at p ⊢
    refine wpAny_mono p (fun f s₃ q => ?_) fun _ _ x => x
    have fin : ∀ s₃, TurnEnd h₀ L s PS LED [] (fun c' => P c' ∧ μ c' < μ c) s₃ → ∃ h' tk m₂ news₂ n', s₃ = { s with heap := h', toks := tk } ∧ Fr h₀ L h' m₂ ∧ News h₀ L h' news₂ ∧ n' < μ c ∧ ∃ c : σ, news₂ = LED c ∧ μ c = n' ∧ (∀ p ∈ PS c, m₂ p.1 = some p.2) ∧ P c := by
      rintro _ ⟨c', F', N', hn, _, hk, hp9, hm9⟩
      exact ⟨_, _, _, LED c', μ c', rfl, F', fun p hp => N' p (hn p hp), hm9, c', rfl, rfl, hk, hp9⟩
    cases q with
    | ret h => exact h
    | brk h => exact h
    | next h => exact fin _ h
    | cont h => exact fin _ h

theorem range_st {σ : Type} {x : Str} {body : List Stmt} {r : Addr} {a₀ b₀ : Int} {t₀ u₀ v₀ : Tok} {n : Nat} {m₀ : Str → Option Value} {news : List (Addr × Obj)} (PS : σ → List (Str × Value)) (LED : σ → List (Addr × Obj)) (P : Nat → σ → Prop) (c₀ : σ)
    (hadr : ∀ c c', (LED c).map (·.1) = (LED c').map (·.1))
    (hh : A.handled = none) (hr : IsRange s.heap r a₀ b₀ 1 t₀ u₀ v₀) (hsmall : Builtin.Range.small a₀ b₀ 1 = true) (hn : Builtin.Range.rangeSize a₀ b₀ 1 = (n : Int))
    (F : Fr h₀ env.locals s.heap m₀) (N : News h₀ env.locals s.heap news) (hled : ∀ p ∈ LED c₀, p ∈ news) (hps : ∀ p ∈ PS c₀, m₀ p.1 = some p.2) (hp : P 0 c₀)
    (turn : ∀ (i : Nat) (c : σ) (u : Str → Option Value) (t : Tok) (h : Heap) (tk : Nat) (own : List (Addr × Obj)), i < n → OwnOff own ((LED c).map (·.1)) → P i c →
      Fr h₀ env.locals h (fun y => if y = x then some (.int (a₀ + i) t) else kstB u (PS c) y) → News h₀ env.locals h (LED c ++ own) →
      wpAny (model prog w) A (execs body env) (TurnPost h₀ env.locals s PS LED own (P (i + 1)) Q) E { s with heap := h, toks := tk })
    (done : ∀ (c : σ) (u : Str → Option Value) (h : Heap) (tk : Nat), P n c → Fr h₀ env.locals h (kstB u (PS c)) → News h₀ env.locals h (LED c) → Q .next { s with heap := h, toks := tk }) :
    wpAny (model prog w) A (pyIter (.ref r)) (fun it s₂ => LoopAtV prog w A h₀ env x body Q E it s₂) E s := by
  refine kpr_invN (news := LED c₀) (fun i m nx => ∃ c : σ, nx = LED c ∧ (∀ p ∈ PS c, m p.1 = some p.2) ∧ P i c) hh hr hsmall hn F (fun p hp => N p (hled p hp)) ⟨c₀, rfl, hps, hp⟩ ?_ ?_
  · rintro i k t m₁ nx h tk own hk hoff ⟨c, rfl, h1, hp'⟩ F₁ N₁
    have hi : i < n := by
      have := (List.getElem?_eq_some_iff.mp hk).1
      rwa [rangeKs_length] at this
    have hk' : k = a₀ + i := by
      have := hk
      simp only [rangeKs, List.getElem?_map, List.getElem?_range hi, Option.map_some] at this
      exact (Option.some.inj this).symm
    subst hk'
    have e : kstB m₁ (PS c) = m₁ := by
      funext z
      exact kstB_eq h1 fun _ => rfl
    have F₂ : Fr h₀ env.locals h (fun y => if y = x then some (.int (a₀ + i) t) else kstB m₁ (PS c) y) := by rw [e]; exact F₁
    refine wpAny_mono (turn i c m₁ t h tk own hi (by rw [hadr c c₀]; exact hoff) hp' F₂ N₁) (fun f s₂ q => ?_) fun _ _ x => x
    have fin : ∀ s₃, TurnEnd h₀ env.locals s PS LED own (P (i + 1)) s₃ → InvEndN h₀ env.locals (fun m nx => ∃ c : σ, nx = LED c ∧ (∀ p ∈ PS c, m p.1 = some p.2) ∧ P (i + 1) c) own ((LED c₀).map (·.1)) { s with heap := h, toks := tk } s₃ := by
      rintro _ ⟨c', F', N', hn', ho', hk', hp9⟩
      exact ⟨_, _, _, _, LED c', rfl, F', N', hn', ho', hadr _ _, c', rfl, hk', hp9⟩
    cases q with
    | ret h => exact h
    | brk h => exact h
    | next h => exact fin _ h
    | cont h => exact fin _ h
  · rintro m₁ nx h tk ⟨c, rfl, h1, hp'⟩ F₁ N₁
    rw [rangeKs_length] at hp'
    exact done c m₁ h tk hp' (fr_say _ F₁ h1) N₁
end

section
variable {M : Model} {A : Around} {E : Value → Shared → Prop} {Q : Flow → Shared → Prop} {s : Shared} {h₀ : Heap} {L : Addr}
inductive CutPost {σ : Type} (h₀ : Heap) (L : Addr) (s : Shared) (PS : σ → List (Str × Value)) (LED : σ → List (Addr × Obj)) (P : σ → Prop) (Q : Flow → Shared → Prop) : Flow → Shared → Prop
  | ret {v : Value} {s₂ : Shared} (h : Q (.ret v) s₂) : CutPost h₀ L s PS LED P Q (.ret v) s₂
  | brk {s₂ : Shared} (h : Q .brk s₂) : CutPost h₀ L s PS LED P Q .brk s₂
  | cont {s₂ : Shared} (h : Q .cont s₂) : CutPost h₀ L s PS LED P Q .cont s₂
  | next {s₂ : Shared} (h : TurnEnd h₀ L s PS LED [] P s₂) : CutPost h₀ L s PS LED P Q .next s₂
theorem cut_st {σ : Type} {m : Str → Option Value} (_F : Fr h₀ L s.heap m) (PS : σ → List (Str × Value)) (LED : σ → List (Addr × Obj)) (P : σ → Prop) {t : Sem Flow}
    (h1 : wpAny M A t (CutPost h₀ L s PS LED P Q) E s)
    (h2 : ∀ (c : σ) (u : Str → Option Value) (h : Heap) (tk : Nat), P c → Fr h₀ L h (kstB u (PS c)) → News h₀ L h (LED c) → Q .next { s with heap := h, toks := tk }) :
    wpAny M A t Q E s := by
  refine wpAny_mono h1 (fun f s₂ q => ?_) fun _ _ e => e
  cases q with
  | ret h => exact h
  | brk h => exact h
  | cont h => exact h
  | next h =>
    obtain ⟨c, F, N, hl, _, hk, hp⟩ := h
    exact h2 c _ _ _ hp (fr_say _ F hk) fun p hp => N p (hl p hp)
end
end Mine
end
section
set_option maxHeartbeats 3000000
open PySem PyProof.Rows
namespace Mine
section
variable {α : Type} (c : α → α → Int)
/-- the edit distance: two for a move, c for a change -/
def ed : List α → List α → Int
  | [], b => 2 * b.length
  | _ :: a, [] => 2 * (a.length + 1 : Nat)
  | x :: a, y :: b => min (min (ed a (y :: b)) (ed (x :: a) b) + 2) (ed a b + c x y)
termination_by a b => a.length + b.length

/-- a way from one list to the other, and its price -/
inductive Al : List α → List α → Int → Prop
  | nil : Al [] [] 0
  | ins {a b k} (y) : Al a b k → Al a (y :: b) (k + 2)
  | del {a b k} (x) : Al a b k → Al (x :: a) b (k + 2)
  | sub {a b k} (x y) : Al a b k → Al (x :: a) (y :: b) (k + c x y)

theorem Al.cast {a b : List α} {k k' : Int} (h : Al c a b k) (e : k = k') : Al c a b k' := e ▸ h
theorem al_nil (b : List α) : Al c [] b (2 * b.length) := by
  induction b with
  | nil => exact .nil
  | cons y b ih => exact (Al.ins y ih).cast c (by simp only [List.length_cons]; omega)
theorem al_del (a : List α) : Al c a [] (2 * a.length) := by
  induction a with
  | nil => exact .nil
  | cons y b ih => exact (Al.del y ih).cast c (by simp only [List.length_cons]; omega)
theorem ed_al : ∀ a b : List α, Al c a b (ed c a b)
  | [], b => by rw [ed]; exact al_nil c b
  | x :: a, [] => by rw [ed]; exact (al_del c (x :: a)).cast c (by simp only [List.length_cons])
  | x :: a, y :: b => by
    rw [ed]
    have h1 := ed_al a (y :: b)
    have h2 := ed_al (x :: a) b
    have h3 := ed_al a b
    by_cases e : min (ed c a (y :: b)) (ed c (x :: a) b) + 2 ≤ ed c a b + c x y
    · rw [Int.min_eq_left e]
      by_cases e' : ed c a (y :: b) ≤ ed c (x :: a) b
      · rw [Int.min_eq_left e']; exact .del x h1
      · rw [Int.min_eq_right (by omega)]; exact .ins y h2
    · rw [Int.min_eq_right (by omega)]; exact .sub x y h3
termination_by a b => a.length + b.length

theorem al_len {a b : List α} {k : Int} (c0 : ∀ x y, 0 ≤ c x y) (h : Al c a b k) : 2 * ((a.length : Int) - b.length) ≤ k ∧ 2 * ((b.length : Int) - a.length) ≤ k ∧ 0 ≤ k := by
  induction h with
  | nil => simp
  | ins y _ ih => simp only [List.length_cons]; omega
  | del x _ ih => simp only [List.length_cons]; omega
  | sub x y _ ih => have := c0 x y; simp only [List.length_cons]; omega
theorem ed_le {a b : List α} {k : Int} (c0 : ∀ x y, 0 ≤ c x y) (h : Al c a b k) : ed c a b ≤ k := by
  induction h with
  | nil => simp [ed]
  | @ins a b k y h ih =>
    cases a with
    | nil => have := (al_len c c0 h).2.1; rw [ed]; simp only [List.length_cons, List.length_nil] at *; omega
    | cons x a => rw [ed]; omega
  | @del a b k x h ih =>
    cases b with
    | nil => have := (al_len c c0 h).1; rw [ed]; simp only [List.length_nil] at *; omega
    | cons y b => rw [ed]; omega
  | sub x y _ ih => rw [ed]; omega
theorem Al.append {a b : List α} {k : Int} (h : Al c a b k) : ∀ {a' b' : List α} {k' : Int}, Al c a' b' k' → Al c (a ++ a') (b ++ b') (k + k') := by
  induction h with
  | nil => intro a' b' k' h'; exact h'.cast c (by omega)
  | ins y _ ih => intro a' b' k' h'; exact (Al.ins y (ih h')).cast c (by omega)
  | del x _ ih => intro a' b' k' h'; exact (Al.del x (ih h')).cast c (by omega)
  | sub x y _ ih => intro a' b' k' h'; exact (Al.sub x y (ih h')).cast c (by omega)
theorem Al.rev {a b : List α} {k : Int} (h : Al c a b k) : Al c a.reverse b.reverse k := by
  induction h with
  | nil => exact .nil
  | ins y _ ih => rw [List.reverse_cons]; have := Al.append c ih (Al.ins (c := c) y .nil); rw [List.append_nil] at this; exact this.cast c (by omega)
  | del x _ ih => rw [List.reverse_cons]; have := Al.append c ih (Al.del (c := c) x .nil); rw [List.append_nil] at this; exact this.cast c (by omega)
  | sub x y _ ih => rw [List.reverse_cons, List.reverse_cons]; exact (Al.append c ih (Al.sub (c := c) x y .nil)).cast c (by omega)
theorem ed_rev (c0 : ∀ x y, 0 ≤ c x y) (a b : List α) : ed c a.reverse b.reverse = ed c a b := by
  have h1 := ed_le c c0 (ed_al c a b).rev
  have h2 := ed_le c c0 (ed_al c a.reverse b.reverse).rev
  rw [List.reverse_reverse, List.reverse_reverse] at h2
  omega
theorem Al.comm {a b : List α} {k : Int} (cs : ∀ x y, c x y = c y x) (h : Al c a b k) : Al c b a k := by
  induction h with
  | nil => exact .nil
  | ins y _ ih => exact .del y ih
  | del x _ ih => exact .ins x ih
  | sub x y _ ih => rw [cs]; exact .sub y x ih
theorem ed_comm (c0 : ∀ x y, 0 ≤ c x y) (cs : ∀ x y, c x y = c y x) (a b : List α) : ed c a b = ed c b a := by
  have h1 := ed_le c c0 ((ed_al c a b).comm c cs)
  have h2 := ed_le c c0 ((ed_al c b a).comm c cs)
  omega
theorem al_drop_l {x : α} {a b : List α} {k : Int} (c0 : ∀ x y, 0 ≤ c x y) : ∀ {a' : List α}, Al c a' b k → a' = x :: a → ∃ k', k' ≤ k + 2 ∧ Al c a b k' := by
  intro a' h
  induction h with
  | nil => intro e; cases e
  | ins y _ ih => intro e; obtain ⟨k', h1, h2⟩ := ih e; exact ⟨k' + 2, by omega, .ins y h2⟩
  | @del a0 b0 k0 x0 h ih => intro e; cases e; exact ⟨k0, by omega, h⟩
  | @sub a0 b0 k0 x0 y0 h ih => intro e; have := c0 x0 y0; cases e; exact ⟨k0 + 2, by omega, .ins y0 h⟩
theorem al_drop_r {y : α} {a b : List α} {k : Int} (c0 : ∀ x y, 0 ≤ c x y) : ∀ {b' : List α}, Al c a b' k → b' = y :: b → ∃ k', k' ≤ k + 2 ∧ Al c a b k' := by
  intro b' h
  induction h with
  | nil => intro e; cases e
  | del x _ ih => intro e; obtain ⟨k', h1, h2⟩ := ih e; exact ⟨k' + 2, by omega, .del x h2⟩
  | @ins a0 b0 k0 x0 h ih => intro e; cases e; exact ⟨k0, by omega, h⟩
  | @sub a0 b0 k0 x0 y0 h ih => intro e; have := c0 x0 y0; cases e; exact ⟨k0 + 2, by omega, .del x0 h⟩
theorem ed_cons (c0 : ∀ x y, 0 ≤ c x y) (cx : ∀ x, c x x = 0) (x : α) (a b : List α) : ed c (x :: a) (x :: b) = ed c a b := by
  have h1 : ed c (x :: a) (x :: b) ≤ ed c a b := by
    have := ed_le c c0 (Al.sub x x (ed_al c a b)); rw [cx] at this; omega
  obtain ⟨k1, h2, h3⟩ := al_drop_r (y := x) c c0 (ed_al c a (x :: b)) rfl
  obtain ⟨k2, h4, h5⟩ := al_drop_l (x := x) c c0 (ed_al c (x :: a) b) rfl
  have h6 := ed_le c c0 h3
  have h7 := ed_le c c0 h5
  have h8 := cx x
  rw [ed] at h1 ⊢
  omega
theorem ed_pre (c0 : ∀ x y, 0 ≤ c x y) (cx : ∀ x, c x x = 0) (p a b : List α) : ed c (p ++ a) (p ++ b) = ed c a b := by
  induction p with
  | nil => rfl
  | cons x p ih => rw [List.cons_append, List.cons_append, ed_cons c c0 cx, ih]
theorem ed_post (c0 : ∀ x y, 0 ≤ c x y) (cx : ∀ x, c x x = 0) (p a b : List α) : ed c (a ++ p) (b ++ p) = ed c a b := by
  rw [← ed_rev c c0, List.reverse_append, List.reverse_append, ed_pre c c0 cx, ed_rev c c0]
theorem ed_self (c0 : ∀ x y, 0 ≤ c x y) (cx : ∀ x, c x x = 0) (a : List α) : ed c a a = 0 := by
  have := ed_post c c0 cx a [] []
  rw [List.nil_append] at this
  rw [this]; simp [ed]
theorem ed_nil (b : List α) : ed c [] b = 2 * b.length := by rw [ed]
theorem ed_nil_r (a : List α) : ed c a [] = 2 * a.length := by
  cases a with
  | nil => rw [ed]
  | cons x a => rw [ed]; rfl
theorem ed_len (c0 : ∀ x y, 0 ≤ c x y) (a b : List α) : 2 * ((a.length : Int) - b.length) ≤ ed c a b ∧ 2 * ((b.length : Int) - a.length) ≤ ed c a b ∧ 0 ≤ ed c a b := al_len c c0 (ed_al c a b)

/-- the table -/
def dd (b a : List α) (i j : Nat) : Int := ed c (b.take i) (a.take j)
theorem dd_zero_l (b a : List α) (j : Nat) (h : j ≤ a.length) : dd c b a 0 j = 2 * j := by
  rw [dd, List.take_zero, ed_nil, List.length_take, Nat.min_eq_left h]
theorem dd_zero_r (b a : List α) (i : Nat) (h : i ≤ b.length) : dd c b a i 0 = 2 * i := by
  rw [dd, List.take_zero, ed_nil_r, List.length_take, Nat.min_eq_left h]
theorem dd_step (c0 : ∀ x y, 0 ≤ c x y) (b a : List α) (i j : Nat) (hi : i < b.length) (hj : j < a.length) :
    dd c b a (i + 1) (j + 1) = min (min (dd c b a i (j + 1)) (dd c b a (i + 1) j) + 2) (dd c b a i j + c b[i] a[j]) := by
  have e1 : (b.take (i + 1)).reverse = b[i] :: (b.take i).reverse := by
    rw [List.take_succ_eq_append_getElem hi, List.reverse_append]; rfl
  have e2 : (a.take (j + 1)).reverse = a[j] :: (a.take j).reverse := by
    rw [List.take_succ_eq_append_getElem hj, List.reverse_append]; rfl
  simp only [dd]
  rw [← ed_rev c c0 (b.take (i + 1)) (a.take (j + 1)), ← ed_rev c c0 (b.take i) (a.take (j + 1)), ← ed_rev c c0 (b.take (i + 1)) (a.take j), ← ed_rev c c0 (b.take i) (a.take j), e1, e2, ed]
theorem dd_full (b a : List α) : dd c b a b.length a.length = ed c b a := by rw [dd, List.take_length, List.take_length]
theorem al_split {a b : List α} {k : Int} (c0 : ∀ x y, 0 ≤ c x y) (h : Al c a b k) : ∀ i, i ≤ a.length → ∃ j k', j ≤ b.length ∧ k' ≤ k ∧ Al c (a.take i) (b.take j) k' := by
  induction h with
  | nil => intro i hi; exact ⟨0, 0, Nat.le_refl _, Int.le_refl _, by simpa using Al.nil⟩
  | @ins a0 b0 k0 y h ih =>
    intro i hi
    obtain ⟨j, k', h1, h2, h3⟩ := ih i hi
    exact ⟨j + 1, k' + 2, by simp; omega, by omega, by rw [List.take_succ_cons]; exact .ins y h3⟩
  | @del a0 b0 k0 x h ih =>
    intro i hi
    cases i with
    | zero => have := (al_len c c0 h).2.2; exact ⟨0, 0, Nat.zero_le _, by omega, by simpa using Al.nil⟩
    | succ i =>
      obtain ⟨j, k', h1, h2, h3⟩ := ih i (by simpa using hi)
      exact ⟨j, k' + 2, h1, by omega, by rw [List.take_succ_cons]; exact .del x h3⟩
  | @sub a0 b0 k0 x y h ih =>
    intro i hi
    cases i with
    | zero => have := (al_len c c0 h).2.2; have := c0 x y; exact ⟨0, 0, Nat.zero_le _, by omega, by simpa using Al.nil⟩
    | succ i =>
      obtain ⟨j, k', h1, h2, h3⟩ := ih i (by simpa using hi)
      exact ⟨j + 1, k' + c x y, by simp; omega, by omega, by rw [List.take_succ_cons, List.take_succ_cons]; exact .sub x y h3⟩
theorem dd_min (c0 : ∀ x y, 0 ≤ c x y) (c2 : ∀ x y, c x y ≤ 2) (b a : List α) (i : Nat) (hi : i < b.length) (ha : 0 < a.length) : ∃ j, j < a.length ∧ dd c b a (i + 1) (j + 1) ≤ ed c b a := by
  obtain ⟨j, k', h1, h2, h3⟩ := al_split c c0 (ed_al c b a) (i + 1) hi
  cases j with
  | succ j => exact ⟨j, h1, Int.le_trans (ed_le c c0 h3) h2⟩
  | zero =>
    refine ⟨0, ha, ?_⟩
    have h4 := (al_len c c0 h3).1
    have h5 : dd c b a (i + 1) 0 = 2 * (i + 1 : Nat) := dd_zero_r c b a (i + 1) hi
    have h6 : dd c b a i 0 = 2 * i := dd_zero_r c b a i (Nat.le_of_lt hi)
    have h7 := dd_step c c0 b a i 0 hi ha
    have h8 := c2 b[i] a[0]
    rw [List.length_take, Nat.min_eq_left (Nat.succ_le_of_lt hi), List.take_zero, List.length_nil] at h4
    omega
end
def LevSpec (D mx r : Int) : Prop := r = D ∨ (r = mx + 1 ∧ mx + 1 ≤ D)
end Mine
namespace Mine
section
variable {α : Type} {c : α → α → Int}
theorem step_vals (c0 : ∀ x y, 0 ≤ c x y) (c2 : ∀ x y, c x y ≤ 2) {Y X : List α} {i j : Nat} (hi : i < Y.length) (hj : j < X.length) {ds rs ro sc : Int}
    (hds : ds = dd c Y X i j) (hrs : rs = if j = 0 then 2 * (i : Int) else dd c Y X (i + 1) j) (hro : ro = dd c Y X i (j + 1)) (hsc : sc = c Y[i] X[j]) :
    (if ds + sc < (if ro < rs then ro else rs) + 2 then ds + sc else (if ro < rs then ro else rs) + 2) = dd c Y X (i + 1) (j + 1) := by
  have h1 := dd_step c c0 Y X i j hi hj
  rw [← hro, ← hds, ← hsc] at h1
  have h2 := c2 Y[i] X[j]
  rw [← hsc] at h2
  by_cases h : j = 0
  · rw [if_pos h] at hrs
    have h3 : dd c Y X i j = 2 * i := by rw [h]; exact dd_zero_r c Y X i (Nat.le_of_lt hi)
    have h4 : dd c Y X (i + 1) j = 2 * ((i + 1 : Nat) : Int) := by rw [h]; exact dd_zero_r c Y X (i + 1) hi
    split <;> split <;> omega
  · rw [if_neg h] at hrs
    rw [← hrs] at h1
    split <;> split <;> omega
theorem set_row {n j : Nat} (f g : Nat → Int) : ((List.range n).map (fun q => if q < j then f q else g q)).set j (f j) = (List.range n).map (fun q => if q < j + 1 then f q else g q) := by
  apply List.ext_getElem (by simp)
  intro k h1 h2
  simp only [List.length_map, List.length_range] at h2
  rw [List.getElem_set]
  simp only [List.getElem_map, List.getElem_range]
  by_cases h : j = k
  · subst h; simp
  · rw [if_neg h]
    by_cases h3 : k < j
    · rw [if_pos h3, if_pos (by omega)]
    · rw [if_neg h3, if_neg (by omega)]
theorem getD_row {n j : Nat} (f g : Nat → Int) (h : j < n) : ((List.range n).map (fun q => if q < j then f q else g q)).getD j 0 = g j := by
  simp [List.getD_eq_getElem?_getD, h]
theorem row_start {Y X : List α} {n : Nat} (hn : n = X.length) : (List.range n).map (fun i => (2 : Int) + (i : Nat) * 2) = (List.range n).map fun j => dd c Y X 0 (j + 1) := by
  apply List.map_congr_left
  intro j hj
  have := List.mem_range.mp hj
  rw [dd_zero_l c Y X (j + 1) (by omega)]
  omega
end
end Mine
end
section
set_option maxHeartbeats 3000000
open PySem PySem.W PyProof.Rows
namespace Mine
def sl (x : Str) : List Nat := x.cps.toList
theorem sl_len (x : Str) : (sl x).length = x.length := by simp [sl, Str.length]
theorem sl_inj {x y : Str} (h : sl x = sl y) : x = y := Str.ext' (Array.toList_inj.mp h)
theorem sl_from {x : Str} {k : Nat} (h : k ≤ x.length) : sl (Txt.slice x (some (k : Int)) none) = (sl x).drop k := by
  rw [slice_from_eq (b := x.length) (by omega) (by omega) rfl]
  show List.take _ _ = _
  rw [List.take_of_length_le]
  · rfl
  · have := sl_len x; rw [sl] at this; rw [List.length_drop]; omega
theorem sl_to {x : Str} {k : Nat} (h : k ≤ x.length) : sl (Txt.slice x none (some (k : Int))) = (sl x).take k := by
  have h1 := slice_closes_toL (x := x) (j := k) (by omega) (by omega)
  have h2 := eq_of_beq h1
  rw [h2]
  simp [sl]
theorem sl_to_neg {x : Str} {k : Nat} (h0 : 0 < k) (h : k ≤ x.length) : sl (Txt.slice x none (some (-(k : Int)))) = (sl x).take (x.length - k) := by
  rw [slice_to_neg (by omega)]
  have e : max 0 ((x.length : Int) + -(k : Int)) = ((x.length - k : Nat) : Int) := by omega
  rw [e, sl_to (by omega)]
theorem seqIdx_nat {k n : Nat} (h : k < n) : seqIndex? (k : Int) n = some k := by
  unfold seqIndex?
  have h1 : ¬ ((k : Int) < 0) := by omega
  have h2 : (k : Int) < n := by omega
  simp [h1, h2]
theorem seqIdx_neg {k n : Nat} (h0 : 0 < k) (h : k ≤ n) : seqIndex? (-(k : Int)) n = some (n - k) := by
  unfold seqIndex?
  have h1 : (-(k : Int) < 0) := by omega
  have h2 : (-(k : Int) + n) < n := by omega
  have h3 : 0 ≤ (-(k : Int) + n) := by omega
  have h4 : (-(k : Int) + n).toNat = n - k := by omega
  simp only [h1, if_true, h2, h3, h4, decide_true, Bool.and_self]
theorem item_at {x : Str} {k : Nat} (h : k < (sl x).length) : Txt.item x (k : Int) = ⟨#[(sl x)[k]]⟩ := by
  have hk : k < x.cps.size := by simpa [sl] using h
  unfold Txt.item Txt.charAt
  rw [seqIdx_nat (by simpa [Str.length] using hk)]
  simp [hk, sl]
theorem item_neg {x : Str} {k : Nat} (h0 : 0 < k) (h : k ≤ (sl x).length) : Txt.item x (-(k : Int)) = ⟨#[(sl x)[(sl x).length - k]'(by omega)]⟩ := by
  have hk : k ≤ x.cps.size := by simpa [sl] using h
  unfold Txt.item Txt.charAt
  rw [seqIdx_neg h0 (by simpa [Str.length] using hk)]
  have h3 : x.cps.size - k < x.cps.size := by omega
  simp [h3, sl, Str.length]
/-- one more sign of a like beginning -/
theorem take_more {α : Type} {a b : List α} {k : Nat} (h : a.take k = b.take k) (ha : k < a.length) (hb : k < b.length) (e : a[k] = b[k]) : a.take (k + 1) = b.take (k + 1) := by
  rw [List.take_succ_eq_append_getElem ha, List.take_succ_eq_append_getElem hb, h, e]
theorem drop_more {α : Type} {a b : List α} {k : Nat} (h : a.drop (a.length - k) = b.drop (b.length - k)) (ha : k < a.length) (hb : k < b.length) (e : a[a.length - (k + 1)]'(by omega) = b[b.length - (k + 1)]'(by omega)) :
    a.drop (a.length - (k + 1)) = b.drop (b.length - (k + 1)) := by
  have h1 : a.length - (k + 1) < a.length := by omega
  have h2 : b.length - (k + 1) < b.length := by omega
  rw [List.drop_eq_getElem_cons h1, List.drop_eq_getElem_cons h2, e]
  have e1 : a.length - (k + 1) + 1 = a.length - k := by omega
  have e2 : b.length - (k + 1) + 1 = b.length - k := by omega
  rw [e1, e2, h]
theorem one_inj {x y : Nat} (h : (⟨#[x]⟩ : Str) = ⟨#[y]⟩) : x = y := by
  injection h with h
  simpa using h

theorem slice_nn (x : Str) : Txt.slice x none none = x := by
  have e : Builtin.Str.strSliceIndices none none 1 x.length = Builtin.Str.strSliceIndices (some ((0 : Nat) : Int)) none 1 x.length := by
    have h1 : ¬ (((0 : Nat) : Int) < 0) := by omega
    have h2 : (1 : Int) > 0 := by decide
    have h3 : min ((0 : Nat) : Int) (x.length : Int) = 0 := by omega
    simp only [Builtin.Str.strSliceIndices, h1, h2, if_false, if_true, h3, Int.max_self]
  have e2 : Txt.slice x none none = Txt.slice x (some ((0 : Nat) : Int)) none := by
    unfold Txt.slice
    rw [e]
  rw [e2]
  exact sl_inj ((sl_from (Nat.zero_le _)).trans List.drop_zero)
section
variable {prog : Program} {w : World} {A : Around} {E : Value → Shared → Prop} {s : Shared} {value slice : Expr} {x : Str} {t : Tok} {h₀ : Heap} {L : Addr} {m : Str → Option Value} {news : List (Addr × Obj)} {Q : Value → Shared → Prop}
theorem slice_whole (hF : Fr h₀ L s.heap m) (hN : News h₀ L s.heap news) (h : ∀ h' t' k, Fr h₀ L h' m → News h₀ L h' news → Q (.str x t') { s with heap := h', toks := k })
    (hs : subscripted slice false (.str x t) (.ref s.heap.objs.size) = operate [.ref s.heap.objs.size, .str x t] (getItem (.str x t) (.ref s.heap.objs.size)) := by with_unfolding_all rfl)
    (ht : ∀ r, letTemporaryGo value (.str x t) r = pure () := by intro _; with_unfolding_all rfl) (hsz : x.length ≤ sizeLine := by size_fits) :
    wpAny (model prog w) A (subscriptTail value slice (.str x t) (.ref s.heap.objs.size)) Q E { s with heap := s.heap.push { cls := .type "slice", data := .fields #[.none, .none, .none] } } :=
  slice_strN_nn hF hN (by rw [slice_nn]; exact h) hs ht hsz
end
end Mine
namespace Mine
theorem suff_more {a b : Str} {p : Int} {j : Nat} (hj0 : p = -(j : Int)) (h1 : j < (sl a).length) (h2 : j < (sl b).length) (hj3 : (sl a).drop ((sl a).length - j) = (sl b).drop ((sl b).length - j))
    (he : (Txt.item a (p - 1) == Txt.item b (p - 1)) = true) : (sl a).drop ((sl a).length - (j + 1)) = (sl b).drop ((sl b).length - (j + 1)) := by
  have e : p - 1 = -((j + 1 : Nat) : Int) := by omega
  rw [e] at he
  have he2 := eq_of_beq he
  rw [item_neg (by omega) (by omega), item_neg (by omega) (by omega)] at he2
  exact drop_more hj3 h1 h2 (one_inj he2)
def subCost (a b : Str) : Int := if a = b then 0 else if Txt.lower a = Txt.lower b then 1 else 2
theorem sub0 (a b : Str) : 0 ≤ subCost a b := by unfold subCost; split; decide; split <;> decide
theorem sub2 (a b : Str) : subCost a b ≤ 2 := by unfold subCost; split; decide; split <;> decide
theorem sub_self (a : Str) : subCost a a = 0 := by simp [subCost]
theorem sub_comm (a b : Str) : subCost a b = subCost b a := by
  unfold subCost
  by_cases h : a = b
  · simp [h]
  · rw [if_neg h, if_neg (Ne.symm h)]
    by_cases h' : Txt.lower a = Txt.lower b
    · rw [if_pos h', if_pos h'.symm]
    · rw [if_neg h', if_neg (Ne.symm h')]
def cc (x y : Nat) : Int := subCost ⟨#[x]⟩ ⟨#[y]⟩
theorem cc0 (a b : Nat) : 0 ≤ cc a b := sub0 _ _
theorem cc2 (a b : Nat) : cc a b ≤ 2 := sub2 _ _
theorem cc_self (a : Nat) : cc a a = 0 := sub_self _
theorem cc_comm (a b : Nat) : cc a b = cc b a := sub_comm _ _
theorem strip_pre {α : Type} {c : α → α → Int} (c0 : ∀ x y, 0 ≤ c x y) (cx : ∀ x, c x x = 0) {a b : List α} {k : Nat} (h : a.take k = b.take k) : ed c a b = ed c (a.drop k) (b.drop k) := by
  have := ed_pre c c0 cx (a.take k) (a.drop k) (b.drop k)
  rw [List.take_append_drop, h, List.take_append_drop] at this
  exact this
theorem strip_post {α : Type} {c : α → α → Int} (c0 : ∀ x y, 0 ≤ c x y) (cx : ∀ x, c x x = 0) {a b : List α} {i j : Nat} (h : a.drop i = b.drop j) : ed c a b = ed c (a.take i) (b.take j) := by
  have := ed_post c c0 cx (a.drop i) (a.take i) (b.take j)
  rw [List.take_append_drop, h, List.take_append_drop] at this
  exact this
end Mine
namespace Mine
theorem rsize2 {n : Nat} : Builtin.Range.rangeSize 2 (2 * ((n : Int) + 1)) 2 = (n : Int) := by
  unfold Builtin.Range.rangeSize
  rw [if_pos (by decide)]
  split <;> omega
theorem rsmall2 {n : Nat} (h : n ≤ 1000) : Builtin.Range.small 2 (2 * ((n : Int) + 1)) 2 = true := by
  unfold Builtin.Range.small
  rw [rsize2]
  generalize hb : 2 * ((n : Int) + 1) = b
  generalize hn : (n : Int) = k at *
  simp only [Builtin.Range.rangeFitsLong, Bool.and_eq_true, Bool.or_eq_true, decide_eq_true_eq, beq_iff_eq]
  refine ⟨⟨⟨⟨⟨by decide, by decide⟩, by omega, by omega⟩, by decide, by decide⟩, by omega, by omega⟩, .inr ?_⟩
  rw [if_pos (by decide), Bool.and_eq_true, decide_eq_true_eq, decide_eq_true_eq]
  exact ⟨by omega, by omega⟩
theorem rsize1 {n : Nat} : Builtin.Range.rangeSize 0 (n : Int) 1 = (n : Int) := by
  unfold Builtin.Range.rangeSize
  rw [if_pos (by decide)]
  split <;> omega
section
variable {prog : Program} {w : World} {A : Around} {E : Value → Shared → Prop} {s : Shared} {h₀ : Heap} {L : Addr} {m : Str → Option Value} {Q : Value → Shared → Prop}
theorem ints_of_items {a c : Int} {n : Nat} {acc : Array Value} (h : ItemsOf (fun i v => ∃ t, v = Value.int (a + i * c) t) acc n) : IntsAre acc.toList (rangeInts a c n) := by
  obtain ⟨h1, h2⟩ := h
  have key : ∀ (l : List Value) (k : Nat), (∀ j v, l[j]? = some v → ∃ t, v = Value.int (a + ((k + j : Nat) : Int) * c) t) → IntsAre l ((List.range' k l.length).map fun i => a + (i : Nat) * c) := by
    intro l
    induction l with
    | nil => intro k _; exact .nil
    | cons v l ih =>
      intro k hl
      obtain ⟨t, rfl⟩ := hl 0 v rfl
      rw [List.length_cons, List.range'_succ, List.map_cons]
      refine .cons _ _ (ih (k + 1) fun j v hv => ?_)
      obtain ⟨t, e⟩ := hl (j + 1) v hv
      exact ⟨t, by rw [e]; congr 3; omega⟩
  have := key acc.toList 0 (fun j v hv => by
    obtain ⟨t, e⟩ := h2 j v (by simpa using hv)
    exact ⟨t, by rw [e]; simp⟩)
  rw [Array.length_toList, h1, ← List.range_eq_range'] at this
  exact this
theorem list_range_st {r : Addr} {a b c : Int} {t u v : Tok} {n : Nat} {news : List (Addr × Obj)} (hh : A.handled = none) (Fh : Fr h₀ L s.heap m) (N : News h₀ L s.heap news)
    (hr : IsRange s.heap r a b c t u v) (hsmall : Builtin.Range.small a b c = true) (hn : Builtin.Range.rangeSize a b c = (n : Int)) (hlen : n ≤ 2 ^ 24)
    (hQ : ∀ h' tk (ys : List Value) nn (R : Addr), Fr h₀ L h' m → News h₀ L h' ((R, listOf ys.toArray nn) :: news) → (∀ p ∈ news, p.1 ≠ R) → IntsAre ys (rangeInts a c n) → Q (.ref R) { s with heap := h', toks := tk }) :
    wpAny (model prog w) A (call (.type "list") [.ref r]) Q E s := by
  refine call_list_range hh hr hsmall hn hlen fun h' tk acc' c' hk hS' hacc => ?_
  refine hQ h' tk acc'.toList c' _ (Fh.keeps hk) (fun p hp => ?_) (fun p hp e => ?_) (ints_of_items hacc)
  · rcases List.mem_cons.mp hp with rfl | hp
    · refine ⟨by simpa using hS', Nat.ne_of_gt Fh.ns.lt, ?_⟩
      cases e : h₀.get? s.heap.objs.size with
      | none => rfl
      | some o => exact absurd (Heap.lt_size (Fh.keep _ _ e)) (Nat.lt_irrefl _)
    · exact ⟨hk _ _ (N p hp).1, (N p hp).2⟩
  · exact absurd (Heap.lt_size (N p hp).1) (by rw [e]; exact Nat.lt_irrefl _)
end
end Mine
namespace Mine
theorem sl_append (x y : Str) : sl (x ++ y) = sl x ++ sl y := by rw [sl, Str.cps_append, Array.toList_append]; rfl
theorem sl_from_any {x : Str} {k : Nat} : sl (Txt.slice x (some (k : Int)) none) = (sl x).drop k := by
  by_cases h : k ≤ x.length
  · exact sl_from h
  · rw [slice_beyond (by omega), List.drop_eq_nil_of_le (by rw [sl_len]; omega)]
    rfl
/-- one fault in a row -/
def Spoil (r y : List Nat) : Prop := ∃ p c, p ≤ 10 ∧ c ∈ [111, 120, 79, 88, 63] ∧ (y = r.take p ++ r.drop (p + 1) ∨ y = r.take p ++ c :: r.drop p ∨ y = r.take p ++ c :: r.drop (p + 1))
theorem sign_at {k : Int} (h0 : 0 ≤ k) (h1 : k < 5) : ∃ c ∈ [111, 120, 79, 88, 63], sl (Txt.item (Str.ofString "oxOX?") k) = [c] := by
  have h : k = 0 ∨ k = 1 ∨ k = 2 ∨ k = 3 ∨ k = 4 := by omega
  rcases h with rfl | rfl | rfl | rfl | rfl
  · exact ⟨111, by decide, by decide +kernel⟩
  · exact ⟨120, by decide, by decide +kernel⟩
  · exact ⟨79, by decide, by decide +kernel⟩
  · exact ⟨88, by decide, by decide +kernel⟩
  · exact ⟨63, by decide, by decide +kernel⟩
theorem fmod_range {x n : Int} (h : 0 < n) : 0 ≤ x.fmod n ∧ x.fmod n < n := by
  rw [Int.fmod_eq_emod_of_nonneg _ (Int.le_of_lt h)]
  exact ⟨Int.emod_nonneg _ (Int.ne_of_gt h), Int.emod_lt_of_pos _ h⟩
theorem spoil_of {a : Str} (ha : a.length = 10) {p q : Int} (hp0 : 0 ≤ p) (hp1 : p < 11) (hq0 : 0 ≤ q) (hq1 : q < 5) :
    Spoil (sl a) (sl (Txt.slice a none (some p) ++ Txt.slice a (some (p + 1)) none)) ∧
    Spoil (sl a) (sl (Txt.slice a none (some p) ++ Txt.item (Str.ofString "oxOX?") q ++ Txt.slice a (some p) none)) ∧
    Spoil (sl a) (sl (Txt.slice a none (some p) ++ Txt.item (Str.ofString "oxOX?") q ++ Txt.slice a (some (p + 1)) none)) := by
  obtain ⟨n, rfl⟩ := Int.eq_ofNat_of_zero_le hp0
  obtain ⟨c, hc, hs⟩ := sign_at hq0 hq1
  have e1 : sl (Txt.slice a none (some (n : Int))) = (sl a).take n := sl_to (by omega)
  have e2 : sl (Txt.slice a (some (n : Int)) none) = (sl a).drop n := sl_from_any
  have e3 : sl (Txt.slice a (some ((n : Int) + 1)) none) = (sl a).drop (n + 1) := by
    have := sl_from_any (x := a) (k := n + 1)
    rwa [show ((n + 1 : Nat) : Int) = (n : Int) + 1 by omega] at this
  simp only [sl_append, e1, e2, e3, hs]
  refine ⟨⟨n, c, by omega, hc, .inl rfl⟩, ⟨n, c, by omega, hc, .inr (.inl (by simp))⟩, ⟨n, c, by omega, hc, .inr (.inr (by simp))⟩⟩
end Mine
end
section
set_option maxHeartbeats 3000000
open PySem PySem.W PyProof.Rows
namespace Mine
section
variable {prog : Program} {w : World} {A : Around} {E : Value → Shared → Prop} {Q : Flow → Shared → Prop} {s : Shared} {env : Env} {h₀ : Heap}
/-- a for over a range, with an else -/
theorem range_else_st {σ : Type} {x : Str} {px : Pos} {body orelse : List Stmt} {r : Addr} {a₀ b₀ : Int} {t₀ u₀ v₀ : Tok} {n : Nat} {m₀ : Str → Option Value} {news : List (Addr × Obj)} (PS : σ → List (Str × Value)) (LED : σ → List (Addr × Obj)) (P : Nat → σ → Prop) (c₀ : σ)
    (hadr : ∀ c c', (LED c).map (·.1) = (LED c').map (·.1))
    (hh : A.handled = none) (hr : IsRange s.heap r a₀ b₀ 1 t₀ u₀ v₀) (hsmall : Builtin.Range.small a₀ b₀ 1 = true) (hn : Builtin.Range.rangeSize a₀ b₀ 1 = (n : Int))
    (F : Fr h₀ env.locals s.heap m₀) (N : News h₀ env.locals s.heap news) (hled : ∀ p ∈ LED c₀, p ∈ news) (hps : ∀ p ∈ PS c₀, m₀ p.1 = some p.2) (hp : P 0 c₀)
    (turn : ∀ (i : Nat) (c : σ) (u : Str → Option Value) (t : Tok) (h : Heap) (tk : Nat) (own : List (Addr × Obj)), i < n → OwnOff own ((LED c).map (·.1)) → P i c →
      Fr h₀ env.locals h (fun y => if y = x then some (.int (a₀ + i) t) else kstB u (PS c) y) → News h₀ env.locals h (LED c ++ own) →
      wpAny (model prog w) A (execs body env) (TurnPost h₀ env.locals s PS LED own (P (i + 1)) Q) E { s with heap := h, toks := tk })
    (done : ∀ (c : σ) (u : Str → Option Value) (h : Heap) (tk : Nat), P n c → Fr h₀ env.locals h (kstB u (PS c)) → News h₀ env.locals h (LED c) → wpAny (model prog w) A (execs orelse env) Q E { s with heap := h, toks := tk })
    (hx : env.kindOf x = some .local := by rfl) (hk : (env.scope.kind == .class || (env.scope.kind == .module && env.locals != env.globals)) = false := by rfl)
    (hE : PassesOwn (model prog w) A env E := by passes_own) :
    wpAny (model prog w) A (pyIter (.ref r)) (fun it s₂ => codeAny (model prog w) A (.forLoop (.Name x px) it body orelse env) (fun r s' => match r with | .ok f => Q f s' | .error e => cameBackBy (model prog w) A env E e s') s₂) E s := by
  refine wpAny_pyIter_range hr hsmall ?_
  have W := Walks.range (prog := prog) (w := w) hh s.heap.objs.size a₀ 1 n
  have hI0 : h₀.get? s.heap.objs.size = none := next_is_new F
  have hIL : s.heap.objs.size ≠ env.locals := Nat.ne_of_gt F.ns.lt
  have hIled : ∀ c, ∀ p ∈ LED c, p.1 ≠ s.heap.objs.size := by
    intro c p hp e
    have h1 : p.1 ∈ (LED c).map (·.1) := List.mem_map.mpr ⟨p, hp, rfl⟩
    rw [hadr c c₀] at h1
    obtain ⟨q, hq, hq'⟩ := List.mem_map.mp h1
    exact absurd (Heap.lt_size (N q (hled q hq)).1) (by rw [hq', e]; exact Nat.lt_irrefl _)
  refine codeAny_forLoop (fun k s' => ∃ (i : Nat) (c : σ) (h' : Heap) (tk : Nat) (m' : Str → Option Value), i ≤ n ∧ k = n + 1 - i ∧ s' = { s with heap := h', toks := tk } ∧
    IsRangeIter h' s.heap.objs.size (a₀ + (i : Nat) * 1) ((n : Int) - (i : Nat)) 1 ∧ Fr h₀ env.locals h' m' ∧ News h₀ env.locals h' (LED c) ∧ (∀ p ∈ PS c, m' p.1 = some p.2) ∧ P i c) ?_ (n + 1)
    ⟨0, c₀, _, _, m₀, Nat.zero_le _, rfl, rfl, by show IsRangeIter _ _ _ _ _; rw [hn]; simpa using Heap.get?_push_size _ rfl, F.push _, fun p hp => ⟨Heap.get?_push_of_some _ (N p (hled p hp)).1, (N p (hled p hp)).2⟩, hps, hp⟩
  rintro k s' ⟨i, c, h', tk, m', hi, rfl, rfl, hst, F', N', hk', hp'⟩
  have next : ∀ h₁ : Heap, (∀ b o, b ∉ [s.heap.objs.size] → h'.get? b = some o → h₁.get? b = some o) → Fr h₀ env.locals h₁ m' ∧ News h₀ env.locals h₁ (LED c) := fun h₁ hk₁ =>
    ⟨⟨F'.ns.at' fun o e => hk₁ _ o (fun hm => hIL (List.mem_singleton.mp hm).symm) e, fun b o e => hk₁ b o (fun hm => by rw [List.mem_singleton.mp hm, hI0] at e; cases e) (F'.keep b o e), F'.above⟩,
      fun p hp => ⟨hk₁ _ _ (fun hm => hIled c p hp (List.mem_singleton.mp hm)) (N' p hp).1, (N' p hp).2⟩⟩
  by_cases hlt : i < n
  · refine W.item i _ _ _ hlt hst fun v h₁ tk₁ hP hst₁ hk₁ => ?_
    obtain ⟨F₁, N₁⟩ := next h₁ hk₁
    obtain ⟨t, rfl⟩ := hP
    refine wpAny_assign_Name (wpAny_storeName_local hx F₁.ns (fun h₂ hn₂ hs₂ => ?_) hk)
    have F₂ := F₁.set hn₂ hs₂
    have hst₂ : IsRangeIter h₂ s.heap.objs.size (a₀ + ((i + 1 : Nat) : Int) * 1) ((n : Int) - ((i + 1 : Nat) : Int)) 1 := (hs₂.2 _ hIL).trans hst₁
    have e : kstB m' (PS c) = m' := by
      funext z
      exact kstB_eq hk' fun _ => rfl
    have F₃ : Fr h₀ env.locals h₂ (fun y => if y = x then some (.int (a₀ + i) t) else kstB m' (PS c) y) := by
      rw [e]
      simpa only [Int.mul_one] using F₂
    obtain ⟨o, ho⟩ : ∃ o, h₂.get? s.heap.objs.size = some o := ⟨_, hst₂⟩
    have hown : OwnOff [(s.heap.objs.size, o)] ((LED c).map (·.1)) := by
      intro p hp b hb e
      obtain ⟨q, hq, rfl⟩ := List.mem_map.mp hb
      rw [List.mem_singleton.mp hp] at e
      exact hIled c q hq e.symm
    have N₃ : News h₀ env.locals h₂ (LED c ++ [(s.heap.objs.size, o)]) := by
      intro p hp
      rcases List.mem_append.mp hp with hp | hp
      · exact N₁.set hs₂ p hp
      · rw [List.mem_singleton.mp hp]; exact ⟨ho, hIL, hI0⟩
    refine wpAny_passesOwn hE (wpAny_mono (turn i c m' t h₂ _ [(s.heap.objs.size, o)] hlt hown hp' F₃ N₃) (fun f s₃ q => ?_) fun _ _ e => e)
    have fin : ∀ s₃, TurnEnd h₀ env.locals s PS LED [(s.heap.objs.size, o)] (P (i + 1)) s₃ → ∃ k, k < n + 1 - i ∧ ∃ (i : Nat) (c : σ) (h' : Heap) (tk : Nat) (m' : Str → Option Value), i ≤ n ∧ k = n + 1 - i ∧ s₃ = { s with heap := h', toks := tk } ∧
        IsRangeIter h' s.heap.objs.size (a₀ + (i : Nat) * 1) ((n : Int) - (i : Nat)) 1 ∧ Fr h₀ env.locals h' m' ∧ News h₀ env.locals h' (LED c) ∧ (∀ p ∈ PS c, m' p.1 = some p.2) ∧ P i c := by
      rintro _ ⟨c', F9, N9, hl9, ho9, hk9, hp9⟩
      refine ⟨n + 1 - (i + 1), by omega, i + 1, c', _, _, _, hlt, rfl, rfl, ?_, F9, fun p hp => N9 p (hl9 p hp), hk9, hp9⟩
      have h1 := (N9 _ (ho9 _ (List.mem_singleton.mpr rfl))).1
      show _ = _
      rw [h1, ← ho]; exact hst₂
    cases q with
    | ret h => exact h
    | brk h => exact h
    | next h => exact fin _ h
    | cont h => exact fin _ h
  · have hin : i = n := by omega
    subst hin
    refine W.done _ _ _ hst fun h₁ tk₁ hk₁ => ?_
    obtain ⟨F₁, N₁⟩ := next h₁ hk₁
    exact wpAny_passesOwn hE (done c m' h₁ tk₁ hp' (fr_say _ F₁ hk') N₁)
/-- a for over a range, whatever its target is -/
theorem range_any_st {σ : Type} {x : Str} {px : Pos} {body orelse : List Stmt} {r : Addr} {a₀ b₀ : Int} {t₀ u₀ v₀ : Tok} {n : Nat} {m₀ : Str → Option Value} {news : List (Addr × Obj)} (PS : σ → List (Str × Value)) (LED : σ → List (Addr × Obj)) (P : Nat → σ → Prop) (c₀ : σ)
    (hadr : ∀ c c', (LED c).map (·.1) = (LED c').map (·.1))
    (hh : A.handled = none) (hr : IsRange s.heap r a₀ b₀ 1 t₀ u₀ v₀) (hsmall : Builtin.Range.small a₀ b₀ 1 = true) (hn : Builtin.Range.rangeSize a₀ b₀ 1 = (n : Int))
    (F : Fr h₀ env.locals s.heap m₀) (N : News h₀ env.locals s.heap news) (hled : ∀ p ∈ LED c₀, p ∈ news) (hps : ∀ p ∈ PS c₀, m₀ p.1 = some p.2) (hp : P 0 c₀)
    (turn : ∀ (i : Nat) (c : σ) (u : Str → Option Value) (t : Tok) (h : Heap) (tk : Nat) (own : List (Addr × Obj)), i < n → OwnOff own ((LED c).map (·.1)) → P i c →
      Fr h₀ env.locals h (kstB u (PS c)) → News h₀ env.locals h (LED c ++ own) →
      wpAny (model prog w) A (storeName env x (.int (a₀ + i) t)) (fun _ s₂ => wpAny (model prog w) A (execs body env) (TurnPost h₀ env.locals s PS LED own (P (i + 1)) Q) E s₂) E { s with heap := h, toks := tk })
    (done : ∀ (c : σ) (u : Str → Option Value) (h : Heap) (tk : Nat), P n c → Fr h₀ env.locals h (kstB u (PS c)) → News h₀ env.locals h (LED c) → wpAny (model prog w) A (execs orelse env) Q E { s with heap := h, toks := tk })
    (hE : PassesOwn (model prog w) A env E := by passes_own) :
    wpAny (model prog w) A (pyIter (.ref r)) (fun it s₂ => codeAny (model prog w) A (.forLoop (.Name x px) it body orelse env) (fun r s' => match r with | .ok f => Q f s' | .error e => cameBackBy (model prog w) A env E e s') s₂) E s := by
  refine wpAny_pyIter_range hr hsmall ?_
  have W := Walks.range (prog := prog) (w := w) hh s.heap.objs.size a₀ 1 n
  have hI0 : h₀.get? s.heap.objs.size = none := next_is_new F
  have hIL : s.heap.objs.size ≠ env.locals := Nat.ne_of_gt F.ns.lt
  have hIled : ∀ c, ∀ p ∈ LED c, p.1 ≠ s.heap.objs.size := by
    intro c p hp e
    have h1 : p.1 ∈ (LED c).map (·.1) := List.mem_map.mpr ⟨p, hp, rfl⟩
    rw [hadr c c₀] at h1
    obtain ⟨q, hq, hq'⟩ := List.mem_map.mp h1
    exact absurd (Heap.lt_size (N q (hled q hq)).1) (by rw [hq', e]; exact Nat.lt_irrefl _)
  refine codeAny_forLoop (fun k s' => ∃ (i : Nat) (c : σ) (h' : Heap) (tk : Nat) (m' : Str → Option Value), i ≤ n ∧ k = n + 1 - i ∧ s' = { s with heap := h', toks := tk } ∧
    IsRangeIter h' s.heap.objs.size (a₀ + (i : Nat) * 1) ((n : Int) - (i : Nat)) 1 ∧ Fr h₀ env.locals h' m' ∧ News h₀ env.locals h' (LED c) ∧ (∀ p ∈ PS c, m' p.1 = some p.2) ∧ P i c) ?_ (n + 1)
    ⟨0, c₀, _, _, m₀, Nat.zero_le _, rfl, rfl, by show IsRangeIter _ _ _ _ _; rw [hn]; simpa using Heap.get?_push_size _ rfl, F.push _, fun p hp => ⟨Heap.get?_push_of_some _ (N p (hled p hp)).1, (N p (hled p hp)).2⟩, hps, hp⟩
  rintro k s' ⟨i, c, h', tk, m', hi, rfl, rfl, hst, F', N', hk', hp'⟩
  have next : ∀ h₁ : Heap, (∀ b o, b ∉ [s.heap.objs.size] → h'.get? b = some o → h₁.get? b = some o) → Fr h₀ env.locals h₁ m' ∧ News h₀ env.locals h₁ (LED c) := fun h₁ hk₁ =>
    ⟨⟨F'.ns.at' fun o e => hk₁ _ o (fun hm => hIL (List.mem_singleton.mp hm).symm) e, fun b o e => hk₁ b o (fun hm => by rw [List.mem_singleton.mp hm, hI0] at e; cases e) (F'.keep b o e), F'.above⟩,
      fun p hp => ⟨hk₁ _ _ (fun hm => hIled c p hp (List.mem_singleton.mp hm)) (N' p hp).1, (N' p hp).2⟩⟩
  by_cases hlt : i < n
  · refine W.item i _ _ _ hlt hst fun v h₁ tk₁ hP hst₁ hk₁ => ?_
    obtain ⟨F₁, N₁⟩ := next h₁ hk₁
    obtain ⟨t, rfl⟩ := hP
    obtain ⟨o, ho⟩ : ∃ o, h₁.get? s.heap.objs.size = some o := ⟨_, hst₁⟩
    have hown : OwnOff [(s.heap.objs.size, o)] ((LED c).map (·.1)) := by
      intro p hp b hb e
      obtain ⟨q, hq, rfl⟩ := List.mem_map.mp hb
      rw [List.mem_singleton.mp hp] at e
      exact hIled c q hq e.symm
    have N₃ : News h₀ env.locals h₁ (LED c ++ [(s.heap.objs.size, o)]) := by
      intro p hp
      rcases List.mem_append.mp hp with hp | hp
      · exact N₁ p hp
      · rw [List.mem_singleton.mp hp]; exact ⟨ho, hIL, hI0⟩
    have go := turn i c m' t h₁ tk₁ [(s.heap.objs.size, o)] hlt hown hp' (fr_say _ F₁ hk') N₃
    have ei : a₀ + (i : Int) * 1 = a₀ + i := by omega
    rw [ei]
    refine wpAny_assign_Name (wpAny_mono (wpAny_passesOwn hE go) (fun _ s₂ go₂ => ?_) fun _ _ e => e)
    refine wpAny_passesOwn hE (wpAny_mono go₂ (fun f s₃ q => ?_) fun _ _ e => e)
    have hst₂ := hst₁
    have fin : ∀ s₃, TurnEnd h₀ env.locals s PS LED [(s.heap.objs.size, o)] (P (i + 1)) s₃ → ∃ k, k < n + 1 - i ∧ ∃ (i : Nat) (c : σ) (h' : Heap) (tk : Nat) (m' : Str → Option Value), i ≤ n ∧ k = n + 1 - i ∧ s₃ = { s with heap := h', toks := tk } ∧
        IsRangeIter h' s.heap.objs.size (a₀ + (i : Nat) * 1) ((n : Int) - (i : Nat)) 1 ∧ Fr h₀ env.locals h' m' ∧ News h₀ env.locals h' (LED c) ∧ (∀ p ∈ PS c, m' p.1 = some p.2) ∧ P i c := by
      rintro _ ⟨c', F9, N9, hl9, ho9, hk9, hp9⟩
      refine ⟨n + 1 - (i + 1), by omega, i + 1, c', _, _, _, hlt, rfl, rfl, ?_, F9, fun p hp => N9 p (hl9 p hp), hk9, hp9⟩
      have h1 := (N9 _ (ho9 _ (List.mem_singleton.mpr rfl))).1
      show _ = _
      rw [h1, ← ho]; exact hst₂
    cases q with
    | ret h => exact h
    | brk h => exact h
    | next h => exact fin _ h
    | cont h => exact fin _ h
  · have hin : i = n := by omega
    subst hin
    refine W.done _ _ _ hst fun h₁ tk₁ hk₁ => ?_
    obtain ⟨F₁, N₁⟩ := next h₁ hk₁
    exact wpAny_passesOwn hE (done c m' h₁ tk₁ hp' (fr_say _ F₁ hk') N₁)
/-- a for over a range, whatever its target is; the ledger may change -/
theorem range_new_st {σ : Type} {x : Str} {px : Pos} {body orelse : List Stmt} {r : Addr} {a₀ b₀ : Int} {t₀ u₀ v₀ : Tok} {n : Nat} {m₀ : Str → Option Value} {news : List (Addr × Obj)} (PS : σ → List (Str × Value)) (LED : σ → List (Addr × Obj)) (P : Nat → σ → Prop) (c₀ : σ)
    (hh : A.handled = none) (hr : IsRange s.heap r a₀ b₀ 1 t₀ u₀ v₀) (hsmall : Builtin.Range.small a₀ b₀ 1 = true) (hn : Builtin.Range.rangeSize a₀ b₀ 1 = (n : Int))
    (F : Fr h₀ env.locals s.heap m₀) (N : News h₀ env.locals s.heap news) (hled : ∀ p ∈ LED c₀, p ∈ news) (hps : ∀ p ∈ PS c₀, m₀ p.1 = some p.2) (hp : P 0 c₀)
    (turn : ∀ (i : Nat) (c : σ) (u : Str → Option Value) (t : Tok) (h : Heap) (tk : Nat) (own : List (Addr × Obj)), i < n → OwnOff own ((LED c).map (·.1)) → P i c →
      Fr h₀ env.locals h (kstB u (PS c)) → News h₀ env.locals h (LED c ++ own) →
      wpAny (model prog w) A (storeName env x (.int (a₀ + i) t)) (fun _ s₂ => wpAny (model prog w) A (execs body env) (TurnPost h₀ env.locals s PS LED own (fun c' => P (i + 1) c' ∧ OwnOff own ((LED c').map (·.1))) Q) E s₂) E { s with heap := h, toks := tk })
    (done : ∀ (c : σ) (u : Str → Option Value) (h : Heap) (tk : Nat), P n c → Fr h₀ env.locals h (kstB u (PS c)) → News h₀ env.locals h (LED c) → wpAny (model prog w) A (execs orelse env) Q E { s with heap := h, toks := tk })
    (hE : PassesOwn (model prog w) A env E := by passes_own) :
    wpAny (model prog w) A (pyIter (.ref r)) (fun it s₂ => codeAny (model prog w) A (.forLoop (.Name x px) it body orelse env) (fun r s' => match r with | .ok f => Q f s' | .error e => cameBackBy (model prog w) A env E e s') s₂) E s := by
  refine wpAny_pyIter_range hr hsmall ?_
  have W := Walks.range (prog := prog) (w := w) hh s.heap.objs.size a₀ 1 n
  have hI0 : h₀.get? s.heap.objs.size = none := next_is_new F
  have hIL : s.heap.objs.size ≠ env.locals := Nat.ne_of_gt F.ns.lt
  have hIled₀ : ∀ p ∈ LED c₀, p.1 ≠ s.heap.objs.size := fun p hp e => absurd (Heap.lt_size (N p (hled p hp)).1) (by rw [e]; exact Nat.lt_irrefl _)
  refine codeAny_forLoop (fun k s' => ∃ (i : Nat) (c : σ) (h' : Heap) (tk : Nat) (m' : Str → Option Value), i ≤ n ∧ k = n + 1 - i ∧ s' = { s with heap := h', toks := tk } ∧
    IsRangeIter h' s.heap.objs.size (a₀ + (i : Nat) * 1) ((n : Int) - (i : Nat)) 1 ∧ Fr h₀ env.locals h' m' ∧ News h₀ env.locals h' (LED c) ∧ (∀ p ∈ PS c, m' p.1 = some p.2) ∧ P i c ∧ ∀ p ∈ LED c, p.1 ≠ s.heap.objs.size) ?_ (n + 1)
    ⟨0, c₀, _, _, m₀, Nat.zero_le _, rfl, rfl, by show IsRangeIter _ _ _ _ _; rw [hn]; simpa using Heap.get?_push_size _ rfl, F.push _, fun p hp => ⟨Heap.get?_push_of_some _ (N p (hled p hp)).1, (N p (hled p hp)).2⟩, hps, hp, hIled₀⟩
  rintro k s' ⟨i, c, h', tk, m', hi, rfl, rfl, hst, F', N', hk', hp', hIled⟩
  have next : ∀ h₁ : Heap, (∀ b o, b ∉ [s.heap.objs.size] → h'.get? b = some o → h₁.get? b = some o) → Fr h₀ env.locals h₁ m' ∧ News h₀ env.locals h₁ (LED c) := fun h₁ hk₁ =>
    ⟨⟨F'.ns.at' fun o e => hk₁ _ o (fun hm => hIL (List.mem_singleton.mp hm).symm) e, fun b o e => hk₁ b o (fun hm => by rw [List.mem_singleton.mp hm, hI0] at e; cases e) (F'.keep b o e), F'.above⟩,
      fun p hp => ⟨hk₁ _ _ (fun hm => hIled p hp (List.mem_singleton.mp hm)) (N' p hp).1, (N' p hp).2⟩⟩
  by_cases hlt : i < n
  · refine W.item i _ _ _ hlt hst fun v h₁ tk₁ hP hst₁ hk₁ => ?_
    obtain ⟨F₁, N₁⟩ := next h₁ hk₁
    obtain ⟨t, rfl⟩ := hP
    obtain ⟨o, ho⟩ : ∃ o, h₁.get? s.heap.objs.size = some o := ⟨_, hst₁⟩
    have hown : OwnOff [(s.heap.objs.size, o)] ((LED c).map (·.1)) := by
      intro p hp b hb e
      obtain ⟨q, hq, rfl⟩ := List.mem_map.mp hb
      rw [List.mem_singleton.mp hp] at e
      exact hIled q hq e.symm
    have N₃ : News h₀ env.locals h₁ (LED c ++ [(s.heap.objs.size, o)]) := by
      intro p hp
      rcases List.mem_append.mp hp with hp | hp
      · exact N₁ p hp
      · rw [List.mem_singleton.mp hp]; exact ⟨ho, hIL, hI0⟩
    have go := turn i c m' t h₁ tk₁ [(s.heap.objs.size, o)] hlt hown hp' (fr_say _ F₁ hk') N₃
    have ei : a₀ + (i : Int) * 1 = a₀ + i := by omega
    rw [ei]
    refine wpAny_assign_Name (wpAny_mono (wpAny_passesOwn hE go) (fun _ s₂ go₂ => ?_) fun _ _ e => e)
    refine wpAny_passesOwn hE (wpAny_mono go₂ (fun f s₃ q => ?_) fun _ _ e => e)
    have hst₂ := hst₁
    have fin : ∀ s₃, TurnEnd h₀ env.locals s PS LED [(s.heap.objs.size, o)] (fun c' => P (i + 1) c' ∧ OwnOff [(s.heap.objs.size, o)] ((LED c').map (·.1))) s₃ → ∃ k, k < n + 1 - i ∧ ∃ (i : Nat) (c : σ) (h' : Heap) (tk : Nat) (m' : Str → Option Value), i ≤ n ∧ k = n + 1 - i ∧ s₃ = { s with heap := h', toks := tk } ∧
        IsRangeIter h' s.heap.objs.size (a₀ + (i : Nat) * 1) ((n : Int) - (i : Nat)) 1 ∧ Fr h₀ env.locals h' m' ∧ News h₀ env.locals h' (LED c) ∧ (∀ p ∈ PS c, m' p.1 = some p.2) ∧ P i c ∧ ∀ p ∈ LED c, p.1 ≠ s.heap.objs.size := by
      rintro _ ⟨c', F9, N9, hl9, ho9, hk9, hp9, hoff9⟩
      refine ⟨n + 1 - (i + 1), by omega, i + 1, c', _, _, _, hlt, rfl, rfl, ?_, F9, fun p hp => N9 p (hl9 p hp), hk9, hp9, fun p hp e => hoff9 _ (List.mem_singleton.mpr rfl) p.1 (List.mem_map.mpr ⟨p, hp, rfl⟩) e.symm⟩
      have h1 := (N9 _ (ho9 _ (List.mem_singleton.mpr rfl))).1
      show _ = _
      rw [h1, ← ho]; exact hst₂
    cases q with
    | ret h => exact h
    | brk h => exact h
    | next h => exact fin _ h
    | cont h => exact fin _ h
  · have hin : i = n := by omega
    subst hin
    refine W.done _ _ _ hst fun h₁ tk₁ hk₁ => ?_
    obtain ⟨F₁, N₁⟩ := next h₁ hk₁
    exact wpAny_passesOwn hE (done c m' h₁ tk₁ hp' (fr_say _ F₁ hk') N₁)
end
end Mine
end
section
set_option maxHeartbeats 3000000
open PySem PySem.W PyProof.Rows
namespace Mine
def flagTab : List (Int × Str) := [(1, Str.ofString "OPTIMIZED"), (2, Str.ofString "NEWLOCALS"), (4, Str.ofString "VARARGS"), (8, Str.ofString "VARKEYWORDS"), (16, Str.ofString "NESTED"), (32, Str.ofString "GENERATOR"), (64, Str.ofString "NOFREE"), (128, Str.ofString "COROUTINE"), (256, Str.ofString "ITERABLE_COROUTINE"), (512, Str.ofString "ASYNC_GENERATOR")]
def flagWord (i : Nat) : Str := (flagTab.lookup (2 ^ i)).getD (baseText "0x" 16 (2 ^ i))
def hasBit (x : Int) (j : Nat) : Bool := decide (x / 2 ^ j % 2 = 1)
def pfw (x : Int) (i : Nat) : List Str := ((List.range i).filter (hasBit x)).map flagWord
def pfAll (x : Int) : List Str := if x / 2 ^ 32 = 0 ∧ x % 2 ^ 32 ≠ 0 then pfw x 32 else pfw x 32 ++ [baseText "0x" 16 (x / 2 ^ 32 * 2 ^ 32)]

theorem pfw_succ (x : Int) (i : Nat) : pfw x (i + 1) = if hasBit x i then pfw x i ++ [flagWord i] else pfw x i := by
  unfold pfw
  rw [List.range_succ, List.filter_append, List.map_append]
  by_cases h : hasBit x i
  · simp [h]
  · simp [h]
theorem div_succ (x : Int) (i : Nat) : x / 2 ^ (i + 1) = x / 2 ^ i / 2 := by
  rw [Int.pow_succ, Int.ediv_ediv_of_nonneg (Int.le_of_lt (kbt_pos i))]
theorem cut_succ (x : Int) (i : Nat) : x / 2 ^ (i + 1) * 2 ^ (i + 1) = x / 2 ^ i * 2 ^ i - (x / 2 ^ i % 2) * 2 ^ i := by
  rw [div_succ, Int.pow_succ, Int.mul_comm (2 ^ i) 2, ← Int.mul_assoc, ← Int.sub_mul]
  congr 1
  omega
theorem cut_div (x : Int) (i : Nat) : x / 2 ^ i * 2 ^ i / 2 ^ i = x / 2 ^ i := Int.mul_ediv_cancel _ (Int.ne_of_gt (kbt_pos i))
theorem and_cut (x : Int) (i : Nat) : Builtin.bitAnd (x / 2 ^ i * 2 ^ i) (2 ^ i) = (x / 2 ^ i % 2) * 2 ^ i := by
  rw [kbt_bit, cut_div]
theorem and_ne (x : Int) (i : Nat) : Builtin.bitAnd (x / 2 ^ i * 2 ^ i) (2 ^ i) ≠ 0 ↔ hasBit x i = true := by
  rw [and_cut, hasBit, decide_eq_true_eq]
  have h1 := kbt_pos i
  have h2 : x / 2 ^ i % 2 = 0 ∨ x / 2 ^ i % 2 = 1 := by omega
  rcases h2 with h | h
  · rw [h]; simp
  · rw [h]; simp; omega
theorem xor_cut (x : Int) (i : Nat) (h : hasBit x i = true) : Builtin.bitXor (x / 2 ^ i * 2 ^ i) (2 ^ i) = x / 2 ^ (i + 1) * 2 ^ (i + 1) := by
  rw [bitXor_and, and_cut, cut_succ]
  rw [hasBit, decide_eq_true_eq] at h
  rw [h]; omega
theorem cut_same (x : Int) (i : Nat) (h : hasBit x i = false) : x / 2 ^ i * 2 ^ i = x / 2 ^ (i + 1) * 2 ^ (i + 1) := by
  rw [cut_succ]
  rw [hasBit, decide_eq_false_iff_not] at h
  have h2 : x / 2 ^ i % 2 = 0 := by omega
  rw [h2]; omega
theorem div_zero_mono {x : Int} {i : Nat} (h : x / 2 ^ i = 0) : ∀ k, x / 2 ^ (i + k) = 0
  | 0 => h
  | k + 1 => by rw [← Nat.add_assoc, div_succ, div_zero_mono h k]; rfl
theorem pfw_stay {x : Int} {i : Nat} (h : x / 2 ^ i = 0) : ∀ k, pfw x (i + k) = pfw x i
  | 0 => rfl
  | k + 1 => by
    rw [← Nat.add_assoc, pfw_succ, hasBit, div_zero_mono h k]
    simpa using pfw_stay h k
theorem pfw_nil {x : Int} : ∀ {i : Nat}, pfw x i = [] → x % 2 ^ i = 0
  | 0, _ => by simp [Int.emod_one]
  | i + 1, h => by
    rw [pfw_succ] at h
    cases hb : hasBit x i with
    | true => rw [hb] at h; simp at h
    | false =>
      rw [hb] at h
      have ih := pfw_nil (x := x) (i := i) (by simpa using h)
      have e1 := cut_same x i hb
      have h1 := Int.emod_def x (2 ^ i)
      have h2 := Int.emod_def x (2 ^ (i + 1))
      rw [Int.mul_comm] at h1 h2
      omega
/-- where the loop is left in turn i -/
theorem pfAll_brk {x : Int} {i : Nat} (hi : i < 32) (hb : hasBit x i = true) (h0 : x / 2 ^ (i + 1) * 2 ^ (i + 1) = 0) : pfAll x = pfw x i ++ [flagWord i] := by
  have hp := kbt_pos (i + 1)
  have hz : x / 2 ^ (i + 1) = 0 := by
    rcases Int.mul_eq_zero.mp h0 with h | h
    · exact h
    · omega
  have e32 : i + 1 + (31 - i) = 32 := by omega
  have h1 := div_zero_mono hz (31 - i)
  have h2 := pfw_stay hz (31 - i)
  rw [e32] at h1 h2
  have h3 : pfw x (i + 1) = pfw x i ++ [flagWord i] := by rw [pfw_succ, if_pos hb]
  have h4 : x % 2 ^ 32 ≠ 0 := by
    intro h
    have h5 := Int.emod_def x (2 ^ 32)
    rw [h, h1] at h5
    have : x = 0 := by omega
    subst this
    simp [hasBit] at hb
  rw [pfAll, if_pos ⟨h1, h4⟩, h2, h3]
theorem pfAll_else {x : Int} (h : pfw x 32 ≠ [] → x / 2 ^ 32 * 2 ^ 32 ≠ 0) : pfAll x = pfw x 32 ++ [baseText "0x" 16 (x / 2 ^ 32 * 2 ^ 32)] := by
  rw [pfAll, if_neg]
  rintro ⟨h1, h2⟩
  by_cases e : pfw x 32 = []
  · exact h2 (pfw_nil e)
  · exact h e (by rw [h1]; rfl)
theorem hex_fits : ∀ i, i < 32 → (baseText "0x" 16 (2 ^ i)).length ≤ sizeLine := by decide +kernel
section
variable {prog : Program} {w : World} {A : Around} {E : Value → Shared → Prop} {s : Shared} {h₀ : Heap} {a : Addr}
theorem datum_tab (k : Int) : ∀ T : List (Int × Str), KTD.datumAt k (T.map fun p => (p.1, PyData.str p.2)) = (T.lookup k).map PyData.str
  | [] => rfl
  | (i, x) :: T => by
    have ih := datum_tab k T
    show (if decide (k = i) = true then some (PyData.str x) else KTD.datumAt k (T.map fun p => (p.1, PyData.str p.2))) = _
    rw [List.lookup_cons]
    by_cases e : k = i
    · simp [e]
    · have e' : (k == i) = false := by simpa using e
      rw [e', ih]; simp [e]
theorem get_flag {k : Int} {tk ty : Tok} {y : Str} {T : List (Int × Str)} {Q : Value → Shared → Prop} (Ky : KTD.Keyed h₀ a (T.map fun p => (p.1, PyData.str p.2))) (hk : ∀ b o, h₀.get? b = some o → s.heap.get? b = some o)
    (h : ∀ t, Q (.str ((T.lookup k).getD y) t) { s with toks := s.toks + 1 }) :
    wpAny (model prog w) A (call (.builtin "dict.get") [.ref a, .int k tk, .str y ty]) Q E s :=
  call_get2_intTab (Ky.keep hk prog w) (PyProof.V.Flat.str y ty) fun v hv => by
    rw [KTD.lookup_keyed, datum_tab] at hv
    have e : ((T.lookup k).map PyData.str).getD (.str y) = .str ((T.lookup k).getD y) := by cases T.lookup k <;> rfl
    rw [e] at hv
    obtain ⟨t, rfl, _⟩ := reads_str_inv (hv s.heap)
    exact h t
end
end Mine
namespace Mine
section
variable {prog : Program} {w : World} {A : Around} {E : Value → Shared → Prop} {s : Shared} {h₀ : Heap} {L D : Addr} {m : Str → Option Value}
theorem append_st {vs : List Value} {n : Nat} {x : Value} {r : List (Addr × Obj)} {Q : Value → Shared → Prop} (F : Fr h₀ L s.heap m) (N : News h₀ L s.heap ((D, listOf vs.toArray n) :: r)) (hne : ∀ p ∈ r, p.1 ≠ D) (hsz : vs.length ≤ sizeLine)
    (h : ∀ h', Fr h₀ L h' m → News h₀ L h' ((D, listOf (vs ++ [x]).toArray (n + 1)) :: r) → Q .none { s with heap := h' }) : wpAny (model prog w) A (call (.builtin "list.append") [.ref D, x]) Q E s := by
  refine append_K F N (Upd.head hne) (fun h' F' N' => h h' F' ?_) (by simpa using hsz)
  rw [List.push_toArray] at N'
  exact N'
end
end Mine

namespace Mine
theorem flag_len : ∀ i, i < 32 → (flagWord i).length ≤ 20 := by decide +kernel
theorem sum_le {ys : List Str} {b : Nat} (h : ∀ y ∈ ys, y.length ≤ b) : (ys.map (·.length)).sum ≤ ys.length * b := by
  induction ys with
  | nil => simp
  | cons y r ih =>
    have h1 := h y (.head _)
    have h2 := ih fun z hz => h z (.tail _ hz)
    simp only [List.map_cons, List.sum_cons, List.length_cons, Nat.succ_mul]
    omega
theorem pfw_len (x : Int) (i : Nat) : (pfw x i).length ≤ i := by
  unfold pfw
  rw [List.length_map]
  exact Nat.le_trans (List.length_filter_le _ _) (by simp)
theorem pfAll_weight {x : Int} (h : (baseText "0x" 16 (x / 2 ^ 32 * 2 ^ 32)).length ≤ 100) : ((pfAll x).map (·.length)).sum + (pfAll x).length ≤ 1048576 := by
  have h1 : ∀ y ∈ pfw x 32, y.length ≤ 100 := by
    intro y hy
    obtain ⟨i, hi, rfl⟩ := List.mem_map.mp hy
    have := flag_len i (by have := (List.mem_filter.mp hi).1; simpa using this)
    omega
  have h2 := pfw_len x 32
  have h3 : ∀ y ∈ pfAll x, y.length ≤ 100 := by
    intro y hy
    unfold pfAll at hy
    split at hy
    · exact h1 y hy
    · rcases List.mem_append.mp hy with hy | hy
      · exact h1 y hy
      · rw [List.mem_singleton.mp hy]; exact h
  have h4 : (pfAll x).length ≤ 33 := by
    unfold pfAll
    split
    · omega
    · rw [List.length_append, List.length_singleton]; omega
  have h5 := sum_le h3
  have h6 : (pfAll x).length * 100 ≤ 33 * 100 := Nat.mul_le_mul_right _ h4
  omega
end Mine

namespace Mine
/-- what a turn of the flags' loop makes of its state -/
theorem turn_bit {x fl k : Int} {i : Nat} {ws : List Str} (hk : k = 2 ^ i) (hc1 : fl = x / 2 ^ i * 2 ^ i) (hc2 : ws = pfw x i) (hb : Builtin.bitAnd fl k ≠ 0) :
    hasBit x i = true ∧ Builtin.bitXor fl k = x / 2 ^ (i + 1) * 2 ^ (i + 1) ∧ ws ++ [flagWord i] = pfw x (i + 1) := by
  subst hk hc1
  have h := (and_ne x i).mp hb
  exact ⟨h, xor_cut x i h, by rw [hc2, pfw_succ, if_pos h]⟩
theorem turn_none {x fl k : Int} {i : Nat} {ws : List Str} (hk : k = 2 ^ i) (hc1 : fl = x / 2 ^ i * 2 ^ i) (hc2 : ws = pfw x i) (hb : Builtin.bitAnd fl k = 0) :
    fl = x / 2 ^ (i + 1) * 2 ^ (i + 1) ∧ ws = pfw x (i + 1) := by
  subst hk hc1
  have h : hasBit x i = false := by
    cases h : hasBit x i with
    | false => rfl
    | true => exact absurd hb ((and_ne x i).mpr h)
  exact ⟨cut_same x i h, by rw [hc2, pfw_succ, h]; rfl⟩
end Mine
namespace Mine
theorem flag_free : ∀ i, i < 32 → 44 ∉ sl (flagWord i) := by decide +kernel
theorem pfAll_ne (x : Int) : pfAll x ≠ [] := by
  unfold pfAll
  split
  · rename_i h
    intro e
    exact h.2 (pfw_nil e)
  · simp
theorem pfAll_free {x : Int} (h : 44 ∉ sl (baseText "0x" 16 (x / 2 ^ 32 * 2 ^ 32))) : ∀ w ∈ pfAll x, 44 ∉ sl w := by
  have h1 : ∀ y ∈ pfw x 32, 44 ∉ sl y := by
    intro y hy
    obtain ⟨i, hi, rfl⟩ := List.mem_map.mp hy
    exact flag_free i (by have := (List.mem_filter.mp hi).1; simpa using this)
  intro y hy
  unfold pfAll at hy
  split at hy
  · exact h1 y hy
  · rcases List.mem_append.mp hy with hy | hy
    · exact h1 y hy
    · rw [List.mem_singleton.mp hy]; exact h
theorem flag_inj : ∀ i, i < 32 → ∀ j, j < 32 → flagWord i = flagWord j → i = j := by decide +kernel
theorem flag_zero : ∀ i, i < 32 → flagWord i ≠ baseText "0x" 16 0 := by decide +kernel
theorem mem_pfAll {x : Int} (hx : x / 2 ^ 32 = 0) {j : Nat} (hj : j < 32) : flagWord j ∈ pfAll x ↔ hasBit x j = true := by
  have h1 : flagWord j ∈ pfw x 32 ↔ hasBit x j = true := by
    unfold pfw
    rw [List.mem_map]
    constructor
    · rintro ⟨i, hi, e⟩
      obtain ⟨h2, h3⟩ := List.mem_filter.mp hi
      have := flag_inj i (by simpa using h2) j hj e
      rwa [← this]
    · intro h
      exact ⟨j, List.mem_filter.mpr ⟨by simpa using hj, h⟩, rfl⟩
  unfold pfAll
  split
  · exact h1
  · rw [List.mem_append, List.mem_singleton, hx, h1]
    constructor
    · rintro (h | h)
      · exact h
      · exact absurd h (flag_zero j hj)
    · exact .inl
end Mine
end
section
set_option maxHeartbeats 3000000
open PySem PySem.W PyProof.Rows
namespace Mine
/-- what stands when an item of a comprehension is reckoned -/
inductive ElEnd (h₀ : Heap) (L : Addr) (m : Str → Option Value) (s : Shared) (all : List (Addr × Obj)) (Ok : Value → Prop) : Value → Shared → Prop
  | mk {y : Value} {h' : Heap} {tk : Nat} {news' : List (Addr × Obj)} (F : Fr h₀ L h' m) (N : News h₀ L h' news') (hl : ∀ p ∈ all, p ∈ news') (ok : Ok y) : ElEnd h₀ L m s all Ok y { s with heap := h', toks := tk }
section
variable {prog : Program} {w : World} {A : Around} {E : Value → Shared → Prop} {s : Shared} {h₀ : Heap} {L : Addr} {m : Str → Option Value} {env : Env} {elt ct : Expr} {x : Str} {scope : Scope} {cl : List (Str × Addr)}
theorem comp_rest {S : List (Addr × Obj) → Prop} {P : Nat → Value → Prop} {Fin : List Value → List (Addr × Obj) → Prop} {n : Nat} {news : List (Addr × Obj)} (Ys : Nat → List Value → Prop) (h0 : Ys 0 []) (hS : S news)
    (turn : ∀ i v I oI C oC D m₂ h tk ys (E' : Value → Shared → Prop), i < n → Ys i ys → P i v → LCg.NsObj oC m₂ → m₂ x = some v → Fr h₀ L h m → News h₀ L h ((I, oI) :: (C, oC) :: (D, LCg.lst ys) :: news) →
      wpAny (model prog w) A (eval elt (compEnvC scope cl C env)) (ElEnd h₀ L m s ((I, oI) :: (C, oC) :: (D, LCg.lst ys) :: news) (fun y => Ys (i + 1) (ys ++ [y]))) E' { s with heap := h, toks := tk })
    (fin : ∀ ys, Ys n ys → Fin ys news) : LCg.CompRest prog w A h₀ L m env elt x scope cl s S P Fin n 0 [] news := by
  have key : ∀ k i ys, i + k = n → Ys i ys → LCg.CompRest prog w A h₀ L m env elt x scope cl s S P Fin k i ys news := by
    intro k
    induction k with
    | zero => intro i ys e hy; exact fin ys (by rw [Nat.add_zero] at e; exact e ▸ hy)
    | succ k ih =>
      intro i ys e hy v I oI C oC D m₂ h tk E' hP hns hm F N off ne
      refine wpAny_mono (turn i v I oI C oC D m₂ h tk ys E' (by omega) hy hP hns hm F N) (fun y s₂ q => ?_) fun _ _ e => e
      obtain ⟨F', N', hl, ok⟩ := q
      exact ⟨_, _, news, rfl, F', fun p hp => N' p (hl p hp), off, hS, ih (i + 1) _ (by omega) ok⟩
  exact key n 0 [] (by omega) h0
theorem comp_restT {S : List (Addr × Obj) → Prop} {P : Nat → Value → Prop} {Fin : List Value → List (Addr × Obj) → Prop} {n : Nat} {news : List (Addr × Obj)} (Ys : Nat → List Value → Prop) (h0 : Ys 0 []) (hS : S news)
    (turn : ∀ i v I oI C oC D m₂ h tk ys (E' : Value → Shared → Prop), i < n → Ys i ys → P i v → LCg.NsObj oC m₂ → m₂ x = some v → Fr h₀ L h m → News h₀ L h ((I, oI) :: (C, oC) :: (D, LCg.lst ys) :: news) →
      wpAny (model prog w) A (isTrue ct (compEnvC scope cl C env) (eval ct (compEnvC scope cl C env))) (fun ok s' => if ok = true then
        wpAny (model prog w) A (eval elt (compEnvC scope cl C env)) (ElEnd h₀ L m s ((I, oI) :: (C, oC) :: (D, LCg.lst ys) :: news) (fun y => Ys (i + 1) (ys ++ [y]))) E' s'
        else ElEnd h₀ L m s ((I, oI) :: (C, oC) :: (D, LCg.lst ys) :: news) (fun _ => Ys (i + 1) ys) Value.none s') E' { s with heap := h, toks := tk })
    (fin : ∀ ys, Ys n ys → Fin ys news) : LCt.CompRestT prog w A h₀ L m env ct elt x scope cl s S P Fin n 0 [] news := by
  have key : ∀ k i ys, i + k = n → Ys i ys → LCt.CompRestT prog w A h₀ L m env ct elt x scope cl s S P Fin k i ys news := by
    intro k
    induction k with
    | zero => intro i ys e hy; exact fin ys (by rw [Nat.add_zero] at e; exact e ▸ hy)
    | succ k ih =>
      intro i ys e hy v I oI C oC D m₂ h tk E' hP hns hm F N off ne
      refine wpAny_mono (turn i v I oI C oC D m₂ h tk ys E' (by omega) hy hP hns hm F N) (fun b s₂ q => ?_) fun _ _ e => e
      cases b with
      | true =>
        simp only [if_true] at q ⊢
        refine wpAny_mono q (fun y s₂ q => ?_) fun _ _ e => e
        obtain ⟨F', N', hl, ok⟩ := q
        exact ⟨_, _, news, rfl, F', fun p hp => N' p (hl p hp), off, hS, ih (i + 1) _ (by omega) ok⟩
      | false =>
        simp only [Bool.false_eq_true, if_false] at q ⊢
        obtain ⟨F', N', hl, ok⟩ := q
        exact ⟨_, _, news, rfl, F', fun p hp => N' p (hl p hp), off, hS, ih (i + 1) _ (by omega) ok⟩
  exact key n 0 [] (by omega) h0
theorem off1_mem {D : Addr} : ∀ {l : List (Addr × Obj)}, LCg.Off1 D l → ∀ p ∈ l, p.1 ≠ D
  | [], _, _, h => nomatch h
  | _ :: _, o, p, h => by
    rcases List.mem_cons.mp h with rfl | h
    · exact o.1
    · exact off1_mem o.2 p h
/-- a comprehension over a range -/
theorem comp_range {r : Addr} {a b : Int} {t u v : Tok} {n : Nat} {news : List (Addr × Obj)} {s₁ : Shared} {Q : Value → Shared → Prop} (Ys : Nat → List Value → Prop) (hh : A.handled = none) (F : Fr h₀ L s₁.heap m) (N : News h₀ L s₁.heap news)
    (hr : IsRange s₁.heap r a b 1 t u v) (hsm : Builtin.Range.small a b 1 = true) (hn : Builtin.Range.rangeSize a b 1 = ((n : Nat) : Int)) (hsz : n ≤ sizeLine) (h0 : Ys 0 [])
    (turn : ∀ (i : Nat) (ti : Tok) I oI C oC D m₂ g h tk ys (E' : Value → Shared → Prop), i < n → Ys i ys → LCg.NsObj oC m₂ → m₂ x = some (.int (a + (i : Int)) ti) → Fr h₀ L h m → News h₀ L h ((I, oI) :: (C, oC) :: (D, LCg.lst ys) :: news) →
      wpAny (model prog w) A (eval elt (compEnvC scope cl C env)) (ElEnd h₀ L m { s₁ with heap := g } ((I, oI) :: (C, oC) :: (D, LCg.lst ys) :: news) (fun y => Ys (i + 1) (ys ++ [y]))) E' { s₁ with heap := h, toks := tk })
    (fin : ∀ ys D h tk, Ys n ys → Fr h₀ L h m → News h₀ L h ((D, listOf ys.toArray ys.length) :: news) → (∀ p ∈ news, p.1 ≠ D) → Q (.ref D) { s₁ with heap := h, toks := tk }) :
    LCg.CompSrc prog w A h₀ L m env elt x scope cl (fun s₂ => LCg.FinE h₀ L m s₂ Q) (.ref r) s₁ :=
  .range hh F N hr hsm hn hsz fun g => comp_rest Ys h0 trivial (fun i v I oI C oC D m₂ h tk ys E' hi hy hP hns hm F N => by obtain ⟨ti, rfl⟩ := hP; exact turn i ti I oI C oC D m₂ g h tk ys E' hi hy hns hm F N)
    fun ys hy D h tk F N off => fin ys D h tk hy F N (off1_mem off)
theorem comp_rangeT {r : Addr} {a b : Int} {t u v : Tok} {n : Nat} {news : List (Addr × Obj)} {s₁ : Shared} {Q : Value → Shared → Prop} (Ys : Nat → List Value → Prop) (hh : A.handled = none) (F : Fr h₀ L s₁.heap m) (N : News h₀ L s₁.heap news)
    (hr : IsRange s₁.heap r a b 1 t u v) (hsm : Builtin.Range.small a b 1 = true) (hn : Builtin.Range.rangeSize a b 1 = ((n : Nat) : Int)) (hsz : n ≤ sizeLine) (h0 : Ys 0 [])
    (turn : ∀ (i : Nat) (ti : Tok) I oI C oC D m₂ g h tk ys (E' : Value → Shared → Prop), i < n → Ys i ys → LCg.NsObj oC m₂ → m₂ x = some (.int (a + (i : Int)) ti) → Fr h₀ L h m → News h₀ L h ((I, oI) :: (C, oC) :: (D, LCg.lst ys) :: news) →
      wpAny (model prog w) A (isTrue ct (compEnvC scope cl C env) (eval ct (compEnvC scope cl C env))) (fun ok s' => if ok = true then
        wpAny (model prog w) A (eval elt (compEnvC scope cl C env)) (ElEnd h₀ L m { s₁ with heap := g } ((I, oI) :: (C, oC) :: (D, LCg.lst ys) :: news) (fun y => Ys (i + 1) (ys ++ [y]))) E' s'
        else ElEnd h₀ L m { s₁ with heap := g } ((I, oI) :: (C, oC) :: (D, LCg.lst ys) :: news) (fun _ => Ys (i + 1) ys) Value.none s') E' { s₁ with heap := h, toks := tk })
    (fin : ∀ ys D h tk, Ys n ys → Fr h₀ L h m → News h₀ L h ((D, listOf ys.toArray ys.length) :: news) → (∀ p ∈ news, p.1 ≠ D) → Q (.ref D) { s₁ with heap := h, toks := tk }) :
    LCt.CompSrcT prog w A h₀ L m env ct elt x scope cl (fun s₂ => LCg.FinE h₀ L m s₂ Q) (.ref r) s₁ :=
  .range hh F N hr hsm hn hsz fun g => comp_restT Ys h0 trivial (fun i v I oI C oC D m₂ h tk ys E' hi hy hP hns hm F N => by obtain ⟨ti, rfl⟩ := hP; exact turn i ti I oI C oC D m₂ g h tk ys E' hi hy hns hm F N)
    fun ys hy D h tk F N off => fin ys D h tk hy F N (off1_mem off)
/-- a comprehension over a list of the ledger -/
theorem comp_list {ax : Addr} {vs : List Value} {k : Nat} {news : List (Addr × Obj)} {s₁ : Shared} {Q : Value → Shared → Prop} (Ys : Nat → List Value → Prop) (hh : A.handled = none) (F : Fr h₀ L s₁.heap m) (N : News h₀ L s₁.heap news)
    (hm : (ax, listOf vs.toArray k) ∈ news) (hsz : vs.length ≤ sizeLine) (h0 : Ys 0 [])
    (turn : ∀ (i : Nat) (v : Value) I oI C oC D m₂ g h tk ys (E' : Value → Shared → Prop), i < vs.length → Ys i ys → vs[i]? = some v → LCg.NsObj oC m₂ → m₂ x = some v → Fr h₀ L h m → News h₀ L h ((I, oI) :: (C, oC) :: (D, LCg.lst ys) :: news) →
      wpAny (model prog w) A (eval elt (compEnvC scope cl C env)) (ElEnd h₀ L m { s₁ with heap := g } ((I, oI) :: (C, oC) :: (D, LCg.lst ys) :: news) (fun y => Ys (i + 1) (ys ++ [y]))) E' { s₁ with heap := h, toks := tk })
    (fin : ∀ ys D h tk, Ys vs.length ys → Fr h₀ L h m → News h₀ L h ((D, listOf ys.toArray ys.length) :: news) → (∀ p ∈ news, p.1 ≠ D) → Q (.ref D) { s₁ with heap := h, toks := tk }) :
    LCg.CompSrc prog w A h₀ L m env elt x scope cl (fun s₂ => LCg.FinE h₀ L m s₂ Q) (.ref ax) s₁ :=
  .ledger hh F N hm (by simpa using hsz) fun g => by
    have e : vs.toArray.size = vs.length := by simp
    rw [e]
    exact comp_rest Ys h0 (.inr ⟨_, hm, rfl, _, rfl⟩) (fun i v I oI C oC D m₂ h tk ys E' hi hy hP hns hm F N => turn i v I oI C oC D m₂ g h tk ys E' hi hy (by simpa using hP) hns hm F N)
      fun ys hy D h tk F N off => fin ys D h tk hy F N (off1_mem off)
theorem comp_rangeTA {r : Addr} {a b : Int} {t u v : Tok} {n : Nat} {news : List (Addr × Obj)} {s₁ : Shared} {yn : Str} {Q : Flow → Shared → Prop} (Ys : Nat → List Value → Prop) (hh : A.handled = none) (F : Fr h₀ L s₁.heap m) (N : News h₀ L s₁.heap news)
    (hr : IsRange s₁.heap r a b 1 t u v) (hsm : Builtin.Range.small a b 1 = true) (hn : Builtin.Range.rangeSize a b 1 = ((n : Nat) : Int)) (hsz : n ≤ sizeLine) (h0 : Ys 0 [])
    (turn : ∀ (i : Nat) (ti : Tok) I oI C oC D m₂ g h tk ys (E' : Value → Shared → Prop), i < n → Ys i ys → LCg.NsObj oC m₂ → m₂ x = some (.int (a + (i : Int)) ti) → Fr h₀ L h m → News h₀ L h ((I, oI) :: (C, oC) :: (D, LCg.lst ys) :: news) →
      wpAny (model prog w) A (isTrue ct (compEnvC scope cl C env) (eval ct (compEnvC scope cl C env))) (fun ok s' => if ok = true then
        wpAny (model prog w) A (eval elt (compEnvC scope cl C env)) (ElEnd h₀ L m { s₁ with heap := g } ((I, oI) :: (C, oC) :: (D, LCg.lst ys) :: news) (fun y => Ys (i + 1) (ys ++ [y]))) E' s'
        else ElEnd h₀ L m { s₁ with heap := g } ((I, oI) :: (C, oC) :: (D, LCg.lst ys) :: news) (fun _ => Ys (i + 1) ys) Value.none s') E' { s₁ with heap := h, toks := tk })
    (fin : ∀ ys D h tk, Ys n ys → Fr h₀ L h (fun z => if z = yn then some (.ref D) else m z) → News h₀ L h ((D, listOf ys.toArray ys.length) :: news) → (∀ p ∈ news, p.1 ≠ D) → Q .next { s₁ with heap := h, toks := tk }) :
    LCt.CompSrcT prog w A h₀ L m env ct elt x scope cl (fun s₂ => LCg.FinA h₀ L m s₂ yn Q) (.ref r) s₁ :=
  .range hh F N hr hsm hn hsz fun g => comp_restT Ys h0 trivial (fun i v I oI C oC D m₂ h tk ys E' hi hy hP hns hm F N => by obtain ⟨ti, rfl⟩ := hP; exact turn i ti I oI C oC D m₂ g h tk ys E' hi hy hns hm F N)
    fun ys hy D h tk F N off => fin ys D h tk hy F N (off1_mem off)
/-- a comprehension over a list of the ledger -/
theorem comp_listA {ax : Addr} {vs : List Value} {k : Nat} {news : List (Addr × Obj)} {s₁ : Shared} {yn : Str} {Q : Flow → Shared → Prop} (Ys : Nat → List Value → Prop) (hh : A.handled = none) (F : Fr h₀ L s₁.heap m) (N : News h₀ L s₁.heap news)
    (hm : (ax, listOf vs.toArray k) ∈ news) (hsz : vs.length ≤ sizeLine) (h0 : Ys 0 [])
    (turn : ∀ (i : Nat) (v : Value) I oI C oC D m₂ g h tk ys (E' : Value → Shared → Prop), i < vs.length → Ys i ys → vs[i]? = some v → LCg.NsObj oC m₂ → m₂ x = some v → Fr h₀ L h m → News h₀ L h ((I, oI) :: (C, oC) :: (D, LCg.lst ys) :: news) →
      wpAny (model prog w) A (eval elt (compEnvC scope cl C env)) (ElEnd h₀ L m { s₁ with heap := g } ((I, oI) :: (C, oC) :: (D, LCg.lst ys) :: news) (fun y => Ys (i + 1) (ys ++ [y]))) E' { s₁ with heap := h, toks := tk })
    (fin : ∀ ys D h tk, Ys vs.length ys → Fr h₀ L h (fun z => if z = yn then some (.ref D) else m z) → News h₀ L h ((D, listOf ys.toArray ys.length) :: news) → (∀ p ∈ news, p.1 ≠ D) → Q .next { s₁ with heap := h, toks := tk }) :
    LCg.CompSrc prog w A h₀ L m env elt x scope cl (fun s₂ => LCg.FinA h₀ L m s₂ yn Q) (.ref ax) s₁ :=
  .ledger hh F N hm (by simpa using hsz) fun g => by
    have e : vs.toArray.size = vs.length := by simp
    rw [e]
    exact comp_rest Ys h0 (.inr ⟨_, hm, rfl, _, rfl⟩) (fun i v I oI C oC D m₂ h tk ys E' hi hy hP hns hm F N => turn i v I oI C oC D m₂ g h tk ys E' hi hy (by simpa using hP) hns hm F N)
      fun ys hy D h tk F N off => fin ys D h tk hy F N (off1_mem off)
end
end Mine
end
section
set_option maxHeartbeats 3000000
open PySem PySem.W PyProof.Rows PySem.StrLaws PySem.Builtin PySem.Builtin.Str
namespace Mine
abbrev comma : Str := Str.ofString ", "
theorem sl_comma : sl comma = [44, 32] := by decide +kernel
theorem comma_len : comma.length = 2 := by decide +kernel
def jl : List (List Nat) → List Nat
  | [] => []
  | [w] => w
  | w :: v :: r => w ++ 44 :: 32 :: jl (v :: r)
theorem sl_join : ∀ ws : List Str, sl (Str.join comma ws) = jl (ws.map sl)
  | [] => rfl
  | [w] => rfl
  | w :: v :: r => by
    show sl (w ++ comma ++ Str.join comma (v :: r)) = _
    rw [sl_append, sl_append, sl_comma, sl_join (v :: r)]
    simp [jl]
theorem at_iff (x : Str) (k : Nat) : At x comma x.length k ↔ (sl x)[k]? = some 44 ∧ (sl x)[k + 1]? = some 32 := by
  unfold At
  rw [subAt_eq, comma_len, beq_iff_eq]
  show _ ∧ ((sl x).drop k).take 2 = sl comma ↔ _
  rw [sl_comma]
  have hl := sl_len x
  constructor
  · rintro ⟨h1, h2⟩
    have e1 : (((sl x).drop k).take 2)[0]? = some 44 := by rw [h2]; rfl
    have e2 : (((sl x).drop k).take 2)[1]? = some 32 := by rw [h2]; rfl
    rw [List.getElem?_take_of_lt (by decide), List.getElem?_drop] at e1 e2
    exact ⟨e1, e2⟩
  · rintro ⟨h1, h2⟩
    have l1 := (List.getElem?_eq_some_iff.mp h2).1
    refine ⟨by omega, ?_⟩
    apply List.ext_getElem?
    intro j
    rcases j with _ | _ | j
    · rw [List.getElem?_take_of_lt (by decide), List.getElem?_drop]; exact h1
    · rw [List.getElem?_take_of_lt (by decide), List.getElem?_drop]; exact h2
    · rw [List.getElem?_take_eq_none (by omega)]; rfl
theorem parts_join (x : Str) : ∀ (ws : List Str) (a f : Nat) (cuts : List Nat), ws ≠ [] → (∀ w ∈ ws, 44 ∉ sl w) → (sl x).drop a = jl (ws.map sl) → a ≤ x.length → ChainG x comma x.length a cuts f → (∀ k, f ≤ k → ¬ At x comma x.length k) →
    partsFrom x 2 a cuts = ws
  | [], _, _, _, h, _, _, _, _, _ => absurd rfl h
  | [w], a, f, cuts, _, hf, hd, ha, hG, hn => by
    have hd' : (sl x).drop a = sl w := hd
    have no : ∀ k, a ≤ k → ¬ At x comma x.length k := by
      intro k hk hA
      have h1 := ((at_iff x k).mp hA).1
      have h2 : (sl w)[k - a]? = some 44 := by rw [← hd', List.getElem?_drop, show a + (k - a) = k by omega]; exact h1
      exact hf w (.head _) (List.mem_of_getElem? h2)
    cases cuts with
    | cons c r => exact absurd hG.2.1 (no c hG.1)
    | nil =>
      show [strSub x a x.length] = [w]
      congr 1
      apply sl_inj
      show (strSub x a x.length).cps.toList = _
      rw [strSub_toList]
      show List.take _ ((sl x).drop a) = _
      rw [hd', List.take_of_length_le]
      have := congrArg List.length hd'
      rw [List.length_drop, sl_len] at this
      omega
  | w :: v :: r, a, f, cuts, _, hf, hd, ha, hG, hn => by
    have hd' : (sl x).drop a = sl w ++ 44 :: 32 :: jl ((v :: r).map sl) := hd
    have hfw := hf w (.head _)
    have no : ∀ k, a ≤ k → k < a + (sl w).length → ¬ At x comma x.length k := by
      intro k hk hk2 hA
      have h1 := ((at_iff x k).mp hA).1
      have h2 : ((sl x).drop a)[k - a]? = some 44 := by rw [List.getElem?_drop, show a + (k - a) = k by omega]; exact h1
      rw [hd', List.getElem?_append_left (by omega)] at h2
      exact hfw (List.mem_of_getElem? h2)
    have yes : At x comma x.length (a + (sl w).length) := by
      rw [at_iff]
      have e1 : ((sl x).drop a)[(sl w).length]? = some 44 := by rw [hd', List.getElem?_append_right (Nat.le_refl _), Nat.sub_self]; rfl
      have e2 : ((sl x).drop a)[(sl w).length + 1]? = some 32 := by rw [hd', List.getElem?_append_right (by omega), show (sl w).length + 1 - (sl w).length = 1 by omega]; rfl
      rw [List.getElem?_drop] at e1 e2
      exact ⟨e1, e2⟩
    cases cuts with
    | nil =>
      have ef : f = a := hG
      exact absurd yes (hn _ (by omega))
    | cons c t =>
      obtain ⟨g1, g2, g3, g4⟩ := hG
      have hc : c = a + (sl w).length := by
        rcases Nat.lt_trichotomy c (a + (sl w).length) with h | h | h
        · exact absurd g2 (no c g1 h)
        · exact h
        · exact absurd yes (g3 _ (by omega) h)
      subst hc
      rw [comma_len] at g4
      have hlen := yes.1
      rw [comma_len] at hlen
      have hdr : (sl x).drop (a + (sl w).length + 2) = jl ((v :: r).map sl) := by
        have : ((sl x).drop a).drop ((sl w).length + 2) = jl ((v :: r).map sl) := by
          rw [hd', List.drop_append, List.drop_eq_nil_of_le (by omega), show (sl w).length + 2 - (sl w).length = 2 by omega]; rfl
        rw [List.drop_drop] at this
        rw [← this]; first | rfl | (congr 1; omega)
      have ih := parts_join x (v :: r) (a + (sl w).length + 2) f t (by simp) (fun u hu => hf u (.tail _ hu)) hdr hlen g4 hn
      show strSub x a (a + (sl w).length) :: partsFrom x 2 (a + (sl w).length + 2) t = w :: v :: r
      rw [ih]
      congr 1
      apply sl_inj
      show (strSub x a (a + (sl w).length)).cps.toList = _
      rw [strSub_toList]
      show List.take _ ((sl x).drop a) = _
      rw [hd', show a + (sl w).length - a = (sl w).length by omega, List.take_left' rfl]
theorem split_join {ws : List Str} (hne : ws ≠ []) (hf : ∀ w ∈ ws, 44 ∉ sl w) : Txt.split (Txt.join comma ws) comma = ws := by
  have hj : Txt.join comma ws = Str.join comma ws := glued_eq_join comma ws
  rw [hj]
  have hsl := sl_join ws
  generalize hx : Str.join comma ws = x at hsl ⊢
  obtain ⟨f, hG, hn⟩ := occ_tight x comma (by rw [comma_len]; decide)
  have main := parts_join x ws 0 f _ hne hf (by rw [List.drop_zero]; exact hsl) (Nat.zero_le _) hG hn
  unfold Txt.split
  split
  · rename_i hc
    rw [Bool.or_eq_true, decide_eq_true_eq, decide_eq_true_eq, comma_len] at hc
    rcases hc with h | h
    · match ws, hne, hx, hsl with
      | [w], _, hx, _ => rw [← hx]; rfl
      | w :: v :: r, _, _, hsl =>
        have := congrArg List.length hsl
        rw [sl_len] at this
        simp [jl] at this
        omega
    · have k1 : Builtin.Str.strKind comma = 1 := by decide +kernel
      rw [k1] at h
      unfold Builtin.Str.strKind at h
      split at h
      · omega
      · split at h <;> omega
  · split
    · rename_i he
      have e0 := List.isEmpty_iff.mp he
      rw [e0] at main
      have h2 : [strSub x 0 x.length] = ws := main
      rw [sub_whole] at h2
      exact h2
    · rw [partsBetween_eq, comma_len]
      exact main
end Mine
namespace Mine
theorem strs_values : ∀ l : List (Str × Tok), StrsAre (strValues l) (l.map (·.1))
  | [] => .nil
  | (x, t) :: l => .cons x t (strs_values l)
section
variable {prog : Program} {w : World} {A : Around} {E : Value → Shared → Prop} {s : Shared} {h₀ : Heap} {L : Addr} {m : Str → Option Value} {news : List (Addr × Obj)} {Q : Value → Shared → Prop}
theorem split_st {ws : List Str} {t u : Tok} (hF : Fr h₀ L s.heap m) (hN : News h₀ L s.heap news) (hne : ws ≠ []) (hf : ∀ w ∈ ws, 44 ∉ sl w) (hw : (ws.map (·.length)).sum + ws.length ≤ 1048576)
    (h : ∀ vs D h' k, StrsAre vs ws → Fr h₀ L h' m → News h₀ L h' ((D, listOf vs.toArray 0) :: news) → (∀ p ∈ news, p.1 ≠ D) → Q (.ref D) { s with heap := h', toks := k }) :
    wpAny (model prog w) A (call (.builtin "str.split") [.str (Txt.join comma ws) t, .str comma u]) Q E s := by
  refine splitN1 hF hN (by decide +kernel) (fun l h' k e F' N' => ?_) ?_
  · rw [split_join hne hf] at e
    exact h (strValues l) _ h' k (e ▸ strs_values l) F' N' fun p hp => Nat.ne_of_lt (Heap.lt_size (hN p hp).1)
  · have h1 := size_glued comma ws
    rw [comma_len] at h1
    show (glued comma ws).length + 2 ≤ sizeLine
    rw [h1, sizeLine_eq]
    omega
end
end Mine
end
section
set_option maxHeartbeats 3000000
open PySem PySem.W PyProof.Rows
namespace Mine
section
variable {prog : Program} {w : World} {A : Around} {E : Value → Shared → Prop} {s : Shared} {h₀ : Heap} {L : Addr} {m : Str → Option Value} {news : List (Addr × Obj)}
theorem slice_from_st {value slice : Expr} {l : Addr} {vs : List Value} {k : Int} {tk : Tok} {Q : Value → Shared → Prop}
    (F : Fr h₀ L s.heap m) (N : News h₀ L s.heap news) (hl : s.heap.IsList l vs.toArray) (h0 : 0 ≤ k) (hsz : vs.length ≤ sizeLine)
    (h : ∀ D h', Fr h₀ L h' m → News h₀ L h' ((D, listOf (vs.drop k.toNat).toArray 0) :: news) → (∀ p ∈ news, p.1 < D) → Q (.ref D) { s with heap := h' })
    (hs : subscripted slice false (.ref l) (.ref s.heap.objs.size) = operate [.ref s.heap.objs.size, .ref l] (getItem (.ref l) (.ref s.heap.objs.size)) := by with_unfolding_all rfl)
    (ht : ∀ r, letTemporaryGo value (.ref l) r = pure () := by intro _; with_unfolding_all rfl) :
    wpAny (model prog w) A (subscriptTail value slice (.ref l) (.ref s.heap.objs.size)) Q E { s with heap := s.heap.push { cls := .type "slice", data := .fields #[.int k tk, .none, .none] } } := by
  refine slice_list F N hl (.int k tk) .none (fun h' F' N' => h _ h' F' ?_ fun p hp => Nat.lt_succ_of_lt (Heap.lt_size (N p hp).1)) hs ht (by simpa using hsz)
  have ex : k = (k.toNat : Int) := by omega
  rw [ex, slicePick_from' vs.toArray k.toNat] at N'
  exact N'
theorem slice_upto_st {value slice : Expr} {l : Addr} {vs : List Value} {k : Int} {tk : Tok} {Q : Value → Shared → Prop}
    (F : Fr h₀ L s.heap m) (N : News h₀ L s.heap news) (hl : s.heap.IsList l vs.toArray) (h0 : 0 ≤ k) (hsz : vs.length ≤ sizeLine)
    (h : ∀ D h', Fr h₀ L h' m → News h₀ L h' ((D, listOf (vs.take k.toNat).toArray 0) :: news) → (∀ p ∈ news, p.1 < D) → Q (.ref D) { s with heap := h' })
    (hs : subscripted slice false (.ref l) (.ref s.heap.objs.size) = operate [.ref s.heap.objs.size, .ref l] (getItem (.ref l) (.ref s.heap.objs.size)) := by with_unfolding_all rfl)
    (ht : ∀ r, letTemporaryGo value (.ref l) r = pure () := by intro _; with_unfolding_all rfl) :
    wpAny (model prog w) A (subscriptTail value slice (.ref l) (.ref s.heap.objs.size)) Q E { s with heap := s.heap.push { cls := .type "slice", data := .fields #[.none, .int k tk, .none] } } := by
  refine slice_list F N hl .none (.int k tk) (fun h' F' N' => h _ h' F' ?_ fun p hp => Nat.lt_succ_of_lt (Heap.lt_size (N p hp).1)) hs ht (by simpa using hsz)
  have ex : k = (k.toNat : Int) := by omega
  rw [ex, slicePick_upto' vs.toArray k.toNat] at N'
  exact N'
end
end Mine
namespace Mine
section
variable {prog : Program} {w : World} {A : Around} {E : Value → Shared → Prop} {s : Shared} {h₀ : Heap} {L : Addr} {m : Str → Option Value} {news : List (Addr × Obj)}
theorem slice_from_ints {value slice : Expr} {l : Addr} {vs : List Value} {ns : List Int} {k : Int} {tk : Tok} {Q : Value → Shared → Prop}
    (F : Fr h₀ L s.heap m) (N : News h₀ L s.heap news) (hl : s.heap.IsList l vs.toArray) (hi : IntsAre vs ns) (h0 : 0 ≤ k) (hsz : ns.length ≤ 1000)
    (h : ∀ D h' us, Fr h₀ L h' m → News h₀ L h' ((D, listOf us.toArray 0) :: news) → (∀ p ∈ news, p.1 < D) → IntsAre us (ns.drop k.toNat) → Q (.ref D) { s with heap := h' })
    (hs : subscripted slice false (.ref l) (.ref s.heap.objs.size) = operate [.ref s.heap.objs.size, .ref l] (getItem (.ref l) (.ref s.heap.objs.size)) := by with_unfolding_all rfl)
    (ht : ∀ r, letTemporaryGo value (.ref l) r = pure () := by intro _; with_unfolding_all rfl) :
    wpAny (model prog w) A (subscriptTail value slice (.ref l) (.ref s.heap.objs.size)) Q E { s with heap := s.heap.push { cls := .type "slice", data := .fields #[.int k tk, .none, .none] } } :=
  slice_from_st F N hl h0 (by have := hi.length; exact Nat.le_trans (by omega : vs.length ≤ 1000) (by decide)) (fun D h' F' N' hlt => h D h' _ F' N' hlt (hi.drop _)) hs ht
theorem slice_upto_ints {value slice : Expr} {l : Addr} {vs : List Value} {ns : List Int} {k : Int} {tk : Tok} {Q : Value → Shared → Prop}
    (F : Fr h₀ L s.heap m) (N : News h₀ L s.heap news) (hl : s.heap.IsList l vs.toArray) (hi : IntsAre vs ns) (h0 : 0 ≤ k) (hsz : ns.length ≤ 1000)
    (h : ∀ D h' us, Fr h₀ L h' m → News h₀ L h' ((D, listOf us.toArray 0) :: news) → (∀ p ∈ news, p.1 < D) → IntsAre us (ns.take k.toNat) → Q (.ref D) { s with heap := h' })
    (hs : subscripted slice false (.ref l) (.ref s.heap.objs.size) = operate [.ref s.heap.objs.size, .ref l] (getItem (.ref l) (.ref s.heap.objs.size)) := by with_unfolding_all rfl)
    (ht : ∀ r, letTemporaryGo value (.ref l) r = pure () := by intro _; with_unfolding_all rfl) :
    wpAny (model prog w) A (subscriptTail value slice (.ref l) (.ref s.heap.objs.size)) Q E { s with heap := s.heap.push { cls := .type "slice", data := .fields #[.none, .int k tk, .none] } } :=
  slice_upto_st F N hl h0 (by have := hi.length; exact Nat.le_trans (by omega : vs.length ≤ 1000) (by decide)) (fun D h' F' N' hlt => h D h' _ F' N' hlt (hi.take _)) hs ht
end
end Mine
namespace Mine
theorem ints_item : ∀ {vs : List Value} {ns : List Int}, IntsAre vs ns → ∀ {j : Nat} {v : Value}, vs[j]? = some v → ∃ n t, v = .int n t ∧ ns[j]? = some n
  | _, _, .nil, j, v, h => by simp at h
  | _, _, .cons n t hr, 0, v, h => ⟨n, t, by simpa using h.symm, rfl⟩
  | _, _, .cons n t hr, j + 1, v, h => by
    obtain ⟨m, u, e1, e2⟩ := ints_item hr (j := j) (v := v) (by simpa using h)
    exact ⟨m, u, e1, by simpa using e2⟩
theorem take_map_succ {α β : Type} {l : List α} {j : Nat} {a : α} (f : α → β) (h : l[j]? = some a) : (l.take (j + 1)).map f = (l.take j).map f ++ [f a] := by
  rw [List.take_add_one, h, List.map_append]; rfl
end Mine
namespace Mine
section
variable {prog : Program} {w : World} {A : Around} {E : Value → Shared → Prop} {s : Shared} {h₀ : Heap} {L : Addr} {m : Str → Option Value} {news : List (Addr × Obj)}
theorem add_st {l b : Addr} {vs ws : List Value} {i j : Nat} {Q : Value → Shared → Prop} (F : Fr h₀ L s.heap m) (N : News h₀ L s.heap news) (hl : (l, listOf vs.toArray i) ∈ news) (hb : (b, listOf ws.toArray j) ∈ news) (hsz : vs.length + ws.length ≤ sizeLine)
    (h : ∀ D h', Fr h₀ L h' m → News h₀ L h' ((D, listOf (vs ++ ws).toArray 0) :: news) → (∀ p ∈ news, p.1 < D) → Q (.ref D) { s with heap := h' }) :
    wpAny (model prog w) A (binaryOp .Add (.ref l) (.ref b)) Q E s :=
  add_lists F N (PySem.IsL.isList (n := i) (N _ hl).1) (PySem.IsL.isList (n := j) (N _ hb).1) (fun h' F' N' => h _ h' F' N' fun p hp => Heap.lt_size (N p hp).1) hsz
end
end Mine
end
section
set_option maxHeartbeats 3000000
open PySem PySem.W PyProof.Rows
namespace Mine
section
variable {prog : Program} {w : World} {A : Around} {E : Value → Shared → Prop} {Q : Flow → Shared → Prop} {s : Shared} {env : Env} {h₀ : Heap}
/-- a for over a list of ints of the ledger -/
theorem list_st {σ : Type} {x : Str} {body : List Stmt} {l : Addr} {vs : List Value} {ns : List Int} {nn : Nat} {m₀ : Str → Option Value} {news : List (Addr × Obj)} (PS : σ → List (Str × Value)) (LED : σ → List (Addr × Obj)) (P : Nat → σ → Prop) (c₀ : σ)
    (hadr : ∀ c c', (LED c).map (·.1) = (LED c').map (·.1)) (hin : ∀ c, (l, listOf vs.toArray nn) ∈ LED c)
    (hh : A.handled = none) (hi : IntsAre vs ns)
    (F : Fr h₀ env.locals s.heap m₀) (N : News h₀ env.locals s.heap news) (hled : ∀ p ∈ LED c₀, p ∈ news) (hps : ∀ p ∈ PS c₀, m₀ p.1 = some p.2) (hp : P 0 c₀)
    (turn : ∀ (i : Nat) (k : Int) (c : σ) (u : Str → Option Value) (t : Tok) (h : Heap) (tk : Nat) (own : List (Addr × Obj)), ns[i]? = some k → OwnOff own ((LED c).map (·.1)) → P i c →
      Fr h₀ env.locals h (fun y => if y = x then some (.int k t) else kstB u (PS c) y) → News h₀ env.locals h (LED c ++ own) →
      wpAny (model prog w) A (execs body env) (TurnPost h₀ env.locals s PS LED own (P (i + 1)) Q) E { s with heap := h, toks := tk })
    (done : ∀ (c : σ) (u : Str → Option Value) (h : Heap) (tk : Nat), P ns.length c → Fr h₀ env.locals h (kstB u (PS c)) → News h₀ env.locals h (LED c) → Q .next { s with heap := h, toks := tk }) :
    wpAny (model prog w) A (pyIter (.ref l)) (fun it s₂ => LoopAtV prog w A h₀ env x body Q E it s₂) E s := by
  refine iter_invNL (news := LED c₀) (fun i m nx => ∃ c : σ, nx = LED c ∧ (∀ p ∈ PS c, m p.1 = some p.2) ∧ P i c) hh (hin c₀) hi F (fun p hp => N p (hled p hp)) ⟨c₀, rfl, hps, hp⟩ ?_ ?_
  · rintro i k t m₁ nx h tk own hk _ hoff _ ⟨c, rfl, h1, hp'⟩ F₁ N₁
    have e : kstB m₁ (PS c) = m₁ := by
      funext z
      exact kstB_eq h1 fun _ => rfl
    have F₂ : Fr h₀ env.locals h (fun y => if y = x then some (.int k t) else kstB m₁ (PS c) y) := by rw [e]; exact F₁
    refine wpAny_mono (turn i k c m₁ t h tk own hk (by rw [hadr c c₀]; exact hoff) hp' F₂ N₁) (fun f s₂ q => ?_) fun _ _ x => x
    have fin : ∀ s₃, TurnEnd h₀ env.locals s PS LED own (P (i + 1)) s₃ → InvEndN h₀ env.locals (fun m' nx => (l, listOf vs.toArray nn) ∈ nx ∧ ∃ c : σ, nx = LED c ∧ (∀ p ∈ PS c, m' p.1 = some p.2) ∧ P (i + 1) c) own ((LED c₀).map (·.1)) { s with heap := h, toks := tk } s₃ := by
      rintro _ ⟨c', F', N', hn', ho', hk', hp9⟩
      exact ⟨_, _, _, _, LED c', rfl, F', N', hn', ho', hadr _ _, hin c', c', rfl, hk', hp9⟩
    cases q with
    | ret h => exact h
    | brk h => exact h
    | next h => exact fin _ h
    | cont h => exact fin _ h
  · rintro m₁ nx h tk _ ⟨c, rfl, h1, hp'⟩ F₁ N₁
    exact done c m₁ h tk hp' (fr_say _ F₁ h1) N₁
end
end Mine
end
section
set_option maxHeartbeats 3000000
open PySem PySem.W PyProof.Rows
namespace Mine
/-! the plain law: sums of places mend one fault -/
def W : List Bool → Int
  | [] => 0
  | b :: r => b.toInt + W r
def S : List Bool → Int
  | [] => 0
  | b :: r => b.toInt + S r + W r
theorem toInt_range (b : Bool) : 0 ≤ b.toInt ∧ b.toInt ≤ 1 := by cases b <;> decide
theorem W_range : ∀ l : List Bool, 0 ≤ W l ∧ W l ≤ l.length
  | [] => by simp [W]
  | b :: r => by have := toInt_range b; have := W_range r; simp only [W, List.length_cons]; omega
def ins (b : Bool) : List Bool → Nat → List Bool
  | z, 0 => b :: z
  | [], _ + 1 => [b]
  | a :: z, p + 1 => a :: ins b z p
theorem W_ins (b : Bool) : ∀ (z : List Bool) (p : Nat), W (ins b z p) = b.toInt + W z
  | z, 0 => by cases z <;> rfl
  | [], _ + 1 => rfl
  | a :: z, p + 1 => by show a.toInt + W (ins b z p) = _; rw [W_ins b z p]; show _ = b.toInt + (a.toInt + W z); omega
/-- what a sign put in adds -/
def dl (b : Bool) (z : List Bool) (p : Nat) : Int := S (ins b z p) - S z
theorem dl_zero (b : Bool) (z : List Bool) : dl b z 0 = b.toInt + W z := by
  have : S (ins b z 0) = b.toInt + S z + W z := by cases z <;> rfl
  unfold dl; omega
theorem dl_nil (b : Bool) (p : Nat) : dl b [] p = b.toInt := by
  cases p <;> (unfold dl ins; simp [S, W])
theorem dl_succ (b a : Bool) (z : List Bool) (p : Nat) : dl b (a :: z) (p + 1) = dl b z p + b.toInt := by
  unfold dl
  show a.toInt + S (ins b z p) + W (ins b z p) - (a.toInt + S z + W z) = _
  rw [W_ins]; omega
theorem dl_range : ∀ (z : List Bool) (p : Nat), (0 ≤ dl false z p ∧ dl false z p ≤ W z) ∧ (1 + W z ≤ dl true z p ∧ dl true z p ≤ 1 + z.length)
  | z, 0 => by
    have h1 := dl_zero false z; have h2 := dl_zero true z; have := W_range z
    have e1 : Bool.toInt false = 0 := rfl
    have e2 : Bool.toInt true = 1 := rfl
    omega
  | [], p + 1 => by
    have h1 := dl_nil false (p + 1); have h2 := dl_nil true (p + 1)
    have e1 : Bool.toInt false = 0 := rfl
    have e2 : Bool.toInt true = 1 := rfl
    have e3 : W [] = 0 := rfl
    simp only [List.length_nil]
    omega
  | a :: z, p + 1 => by
    have h1 := dl_succ false a z p; have h2 := dl_succ true a z p; have ih := dl_range z p; have := toInt_range a
    have e1 : Bool.toInt false = 0 := rfl
    have e2 : Bool.toInt true = 1 := rfl
    have e3 : W (a :: z) = a.toInt + W z := rfl
    simp only [List.length_cons]
    omega
theorem ins_same : ∀ (b : Bool) (z : List Bool) (p q : Nat), dl b z p = dl b z q → ins b z p = ins b z q
  | _, _, 0, 0, _ => rfl
  | b, [], 0, q + 1, _ => rfl
  | b, [], p + 1, 0, _ => rfl
  | b, [], _ + 1, _ + 1, _ => rfl
  | b, a :: z, p + 1, q + 1, h => by
    rw [dl_succ, dl_succ] at h
    show a :: ins b z p = a :: ins b z q
    rw [ins_same b z p q (by omega)]
  | b, a :: z, 0, q + 1, h => by
    rw [dl_succ, dl_zero] at h
    have h0 := dl_zero b z
    have hr := dl_range z q
    have e3 : W (a :: z) = a.toInt + W z := rfl
    cases b with
    | false =>
      have e1 : Bool.toInt false = 0 := rfl
      have ha : a = false := by
        cases a with
        | false => rfl
        | true => have e2 : Bool.toInt true = 1 := rfl; omega
      subst ha
      have := ins_same false z 0 q (by omega)
      show false :: false :: z = false :: ins false z q
      rw [← this]; cases z <;> rfl
    | true =>
      have e2 : Bool.toInt true = 1 := rfl
      have ha : a = true := by
        cases a with
        | true => rfl
        | false => have e1 : Bool.toInt false = 0 := rfl; omega
      subst ha
      have := ins_same true z 0 q (by omega)
      show true :: true :: z = true :: ins true z q
      rw [← this]; cases z <;> rfl
  | b, a :: z, p + 1, 0, h => (ins_same b (a :: z) 0 (p + 1) h.symm).symm
theorem ins_unique {b b' : Bool} {z : List Bool} {p q : Nat} (hz : z.length ≤ 10) (h : (S (ins b z p) - S (ins b' z q)) % 20 = 0) : ins b z p = ins b' z q := by
  have h1 := dl_range z p
  have h2 := dl_range z q
  have hw := W_range z
  have e : S (ins b z p) - S (ins b' z q) = dl b z p - dl b' z q := by unfold dl; omega
  rw [e] at h
  cases b <;> cases b'
  · exact ins_same false z p q (by omega)
  · exfalso; omega
  · exfalso; omega
  · exact ins_same true z p q (by omega)
/-- what a sign taken out takes -/
def bitAt (y : List Bool) (p : Nat) : Int := (y.getD p false).toInt
def el (y : List Bool) (p : Nat) : Int := S y - S (y.eraseIdx p)
theorem W_erase : ∀ (y : List Bool) (p : Nat), W (y.eraseIdx p) = W y - bitAt y p
  | [], p => by simp [W, bitAt, Bool.toInt]
  | a :: y, 0 => by simp only [List.eraseIdx_cons_zero, W, bitAt, List.getD_cons_zero]; omega
  | a :: y, p + 1 => by
    have := W_erase y p
    simp only [List.eraseIdx_cons_succ, W, bitAt, List.getD_cons_succ] at *
    omega
theorem el_zero (a : Bool) (y : List Bool) : el (a :: y) 0 = a.toInt + W y := by
  unfold el; simp only [List.eraseIdx_cons_zero, S]; omega
theorem el_succ (a : Bool) (y : List Bool) (p : Nat) : el (a :: y) (p + 1) = el y p + bitAt y p := by
  have := W_erase y p
  unfold el; simp only [List.eraseIdx_cons_succ, S]; omega
theorem el_range : ∀ (y : List Bool) (p : Nat), p < y.length → 0 ≤ el y p ∧ el y p ≤ y.length ∧ (bitAt y p = 0 → el y p ≤ W y) ∧ (bitAt y p = 1 → W y ≤ el y p) ∧ (bitAt y p = 0 ∨ bitAt y p = 1)
  | [], _, h => absurd h (Nat.not_lt_zero _)
  | a :: y, 0, _ => by
    have h1 := el_zero a y; have := W_range y; have := toInt_range a
    have e3 : W (a :: y) = a.toInt + W y := rfl
    have e4 : bitAt (a :: y) 0 = a.toInt := rfl
    simp only [List.length_cons]
    omega
  | a :: y, p + 1, h => by
    have h1 := el_succ a y p; have ih := el_range y p (by simpa using h); have := toInt_range a; have := W_range y
    have e3 : W (a :: y) = a.toInt + W y := rfl
    have e4 : bitAt (a :: y) (p + 1) = bitAt y p := rfl
    simp only [List.length_cons]
    omega
theorem del_same : ∀ (y : List Bool) (p q : Nat), p < y.length → q < y.length → el y p = el y q → y.eraseIdx p = y.eraseIdx q
  | [], p, _, h, _, _ => absurd h (Nat.not_lt_zero _)
  | _ :: _, 0, 0, _, _, _ => rfl
  | a :: y, p + 1, q + 1, hp, hq, h => by
    rw [el_succ, el_succ] at h
    have hp' : p < y.length := by simpa using hp
    have hq' : q < y.length := by simpa using hq
    have h1 := el_range y p hp'
    have h2 := el_range y q hq'
    show a :: y.eraseIdx p = a :: y.eraseIdx q
    rw [del_same y p q hp' hq' (by omega)]
  | a :: y, 0, q + 1, hp, hq, h => by
    rw [el_succ, el_zero] at h
    have hq' : q < y.length := by simpa using hq
    have h2 := el_range y q hq'
    have ha := toInt_range a
    cases y with
    | nil => exact absurd hq' (Nat.not_lt_zero _)
    | cons c y =>
      have h0 := el_zero c y
      have e3 : W (c :: y) = c.toInt + W y := rfl
      have hc := toInt_range c
      have he : el (c :: y) q = W (c :: y) := by omega
      have ih := del_same (c :: y) 0 q (by simp) hq' (by omega)
      have hca : c = a := by
        cases q with
        | zero =>
          have e4 : bitAt (c :: y) 0 = c.toInt := rfl
          have : c.toInt = a.toInt := by omega
          revert this; cases c <;> cases a <;> decide
        | succ q =>
          have h5 := el_succ c y q
          have h6 := el_range y q (by simpa using hq')
          have e4 : bitAt (c :: y) (q + 1) = bitAt y q := rfl
          have : c.toInt = a.toInt := by omega
          revert this; cases c <;> cases a <;> decide
      subst hca
      show c :: y = c :: (c :: y).eraseIdx q
      rw [← ih]; rfl
  | a :: y, p + 1, 0, hp, hq, h => (del_same (a :: y) 0 (p + 1) hq hp h.symm).symm
theorem del_unique {y : List Bool} {p q : Nat} (hy : y.length ≤ 11) (hp : p < y.length) (hq : q < y.length) (h : (S (y.eraseIdx p) - S (y.eraseIdx q)) % 20 = 0) : y.eraseIdx p = y.eraseIdx q := by
  have h1 := el_range y p hp
  have h2 := el_range y q hq
  have e : S (y.eraseIdx p) - S (y.eraseIdx q) = el y q - el y p := by unfold el; omega
  rw [e] at h
  exact del_same y p q hp hq (by omega)
end Mine
end
section
set_option maxHeartbeats 3000000
open PySem PySem.W PyProof.Rows
namespace Mine
theorem cc_eq {x y : Nat} (h : cc x y = 0) : x = y := by
  unfold cc subCost at h
  split at h
  · rename_i e; exact one_inj e
  · split at h <;> omega
theorem al_zero {a b : List Nat} {k : Int} (h : Al cc a b k) : k ≤ 0 → a = b := by
  induction h with
  | nil => intro _; rfl
  | ins y h ih => intro hk; have := (al_len cc cc0 h).2.2; omega
  | del x h ih => intro hk; have := (al_len cc cc0 h).2.2; omega
  | @sub a b k x y h ih =>
    intro hk
    have h1 := (al_len cc cc0 h).2.2
    have h2 := cc0 x y
    rw [ih (by omega), cc_eq (by omega : cc x y = 0)]
def hc : List Nat → List Nat → Int
  | x :: a, y :: b => cc x y + hc a b
  | _, _ => 0
theorem al_two {a b : List Nat} {k : Int} (h : Al cc a b k) : k ≤ 2 → (a.length = b.length + 1 → ∃ q, q < a.length ∧ b = a.eraseIdx q) ∧ (b.length = a.length + 1 → ∃ q, q < b.length ∧ a = b.eraseIdx q) ∧ (a.length = b.length → hc a b ≤ k) := by
  induction h with
  | nil => intro _; exact ⟨fun h => by simp at h, fun h => by simp at h, fun _ => Int.le_refl _⟩
  | @ins a b k y h ih =>
    intro hk
    have e := al_zero h (by omega)
    subst e
    exact ⟨fun h => by simp at h; omega, fun _ => ⟨0, by simp, rfl⟩, fun h => by simp at h⟩
  | @del a b k x h ih =>
    intro hk
    have e := al_zero h (by omega)
    subst e
    exact ⟨fun _ => ⟨0, by simp, rfl⟩, fun h => by simp at h; omega, fun h => by simp at h⟩
  | @sub a b k x y h ih =>
    intro hk
    have hl := al_len cc cc0 h
    have h2 := cc0 x y
    have ih' := ih (by omega)
    refine ⟨fun e => ?_, fun e => ?_, fun e => ?_⟩
    · have e' : a.length = b.length + 1 := by simpa using e
      obtain ⟨q, hq, hb⟩ := ih'.1 e'
      have : x = y := cc_eq (by omega)
      exact ⟨q + 1, by simpa using hq, by rw [this, List.eraseIdx_cons_succ, ← hb]⟩
    · have e' : b.length = a.length + 1 := by simpa using e
      obtain ⟨q, hq, hb⟩ := ih'.2.1 e'
      have : x = y := cc_eq (by omega)
      exact ⟨q + 1, by simpa using hq, by rw [this, List.eraseIdx_cons_succ, ← hb]⟩
    · have := ih'.2.2 (by simpa using e)
      show cc x y + hc a b ≤ _
      omega
def box (b : Bool) : Nat := if b then 120 else 111
theorem box_inj {a b : Bool} (h : box a = box b) : a = b := by revert h; cases a <;> cases b <;> decide
theorem boxes_inj : ∀ {a b : List Bool}, a.map box = b.map box → a = b
  | [], [], _ => rfl
  | [], _ :: _, h => by simp at h
  | _ :: _, [], h => by simp at h
  | x :: a, y :: b, h => by
    simp only [List.map_cons, List.cons.injEq] at h
    rw [box_inj h.1, boxes_inj h.2]
theorem erase_map {α β : Type} (f : α → β) : ∀ (l : List α) (p : Nat), (l.map f).eraseIdx p = (l.eraseIdx p).map f
  | [], _ => rfl
  | _ :: _, 0 => rfl
  | a :: l, p + 1 => by simp [erase_map f l p]
/-! two rows alike but for two places -/
def ham : List Bool → List Bool → Nat
  | a :: x, b :: y => (if a = b then 0 else 1) + ham x y
  | _, _ => 0
def So : Int → List Bool → Int
  | _, [] => 0
  | k, b :: r => (if b then k + 1 else 0) + So (k + 1) r
theorem So_eq : ∀ (l : List Bool) (k : Int), So k l = S l + k * W l
  | [], k => by simp [So, S, W]
  | b :: r, k => by
    show (if b then k + 1 else 0) + So (k + 1) r = b.toInt + S r + W r + k * (b.toInt + W r)
    rw [So_eq r (k + 1), Int.add_mul, Int.mul_add]
    cases b
    · have : Bool.toInt false = 0 := rfl
      simp only [this, Bool.false_eq_true, if_false]; omega
    · have : Bool.toInt true = 1 := rfl
      simp only [this, if_true]; omega
theorem S_So (l : List Bool) : S l = So 0 l := by rw [So_eq]; omega
theorem ham0 : ∀ {a b : List Bool}, a.length = b.length → ham a b = 0 → a = b
  | [], [], _, _ => rfl
  | [], _ :: _, h, _ => by simp at h
  | _ :: _, [], h, _ => by simp at h
  | x :: a, y :: b, h, e => by
    unfold ham at e
    by_cases hx : x = y
    · rw [if_pos hx] at e
      have e2 : a = b := ham0 (by simpa using h) (by omega)
      rw [hx, e2]
    · rw [if_neg hx] at e; omega
theorem ham1 : ∀ {a b : List Bool} (k : Int), 0 ≤ k → a.length = b.length → ham a b = 1 → ∃ m : Int, k + 1 ≤ m ∧ m ≤ k + a.length ∧ (So k a - So k b = m ∨ So k a - So k b = -m)
  | [], [], _, _, _, e => by simp [ham] at e
  | [], _ :: _, _, _, h, _ => by simp at h
  | _ :: _, [], _, _, h, _ => by simp at h
  | x :: a, y :: b, k, hk, h, e => by
    unfold ham at e
    have hl : a.length = b.length := by simpa using h
    by_cases hx : x = y
    · rw [if_pos hx] at e
      obtain ⟨m, h1, h2, h3⟩ := ham1 (k + 1) (by omega) hl (by omega : ham a b = 1)
      refine ⟨m, by omega, by simp only [List.length_cons]; omega, ?_⟩
      subst hx
      simp only [So]; omega
    · rw [if_neg hx] at e
      have e2 := ham0 hl (by omega : ham a b = 0)
      subst e2
      refine ⟨k + 1, by omega, by simp only [List.length_cons]; omega, ?_⟩
      simp only [So]
      cases x <;> cases y <;> simp at hx ⊢ <;> omega
theorem ham2 : ∀ {a b : List Bool} (k : Int), 0 ≤ k → a.length = b.length → ham a b = 2 → 1 ≤ (So k a - So k b).natAbs ∧ ((So k a - So k b).natAbs : Int) ≤ 2 * (k + a.length) - 1
  | [], [], _, _, _, e => by simp [ham] at e
  | [], _ :: _, _, _, h, _ => by simp at h
  | _ :: _, [], _, _, h, _ => by simp at h
  | x :: a, y :: b, k, hk, h, e => by
    unfold ham at e
    have hl : a.length = b.length := by simpa using h
    by_cases hx : x = y
    · rw [if_pos hx] at e
      have := ham2 (k + 1) (by omega) hl (by omega : ham a b = 2)
      subst hx
      simp only [So, List.length_cons]; omega
    · rw [if_neg hx] at e
      obtain ⟨m, h1, h2, h3⟩ := ham1 (k + 1) (by omega) hl (by omega : ham a b = 1)
      simp only [So, List.length_cons]
      cases x <;> cases y <;> simp at hx ⊢ <;> omega
theorem ham_same {a b : List Bool} (hl : a.length = b.length) (h10 : a.length ≤ 10) (h : ham a b ≤ 2) (hS : (S a - S b) % 20 = 0) : a = b := by
  rw [S_So, S_So] at hS
  have hc : ham a b = 0 ∨ ham a b = 1 ∨ ham a b = 2 := by omega
  rcases hc with e | e | e
  · exact ham0 hl e
  · obtain ⟨m, h1, h2, h3⟩ := ham1 0 (Int.le_refl _) hl e
    exfalso; omega
  · have := ham2 0 (Int.le_refl _) hl e
    exfalso; omega
theorem cc_box : ∀ a b : Bool, cc (box a) (box b) = if a = b then 0 else 2 := by decide +kernel
theorem hc_ham : ∀ (a b : List Bool), hc (a.map box) (b.map box) = 2 * (ham a b : Int)
  | [], [] => rfl
  | [], _ :: _ => rfl
  | _ :: _, [] => rfl
  | x :: a, y :: b => by
    show cc (box x) (box y) + hc (a.map box) (b.map box) = 2 * (((if x = y then 0 else 1) + ham a b : Nat) : Int)
    rw [hc_ham a b, cc_box]
    split <;> omega
theorem hc_set : ∀ (r r' : List Nat) (p c : Nat), (∀ x y, cc x y ≤ 2) → r.length = r'.length → hc r r' ≤ hc (r.set p c) r' + 2
  | [], _, _, _, _, _ => by simp [hc]
  | _ :: _, [], _, _, _, h => by simp at h
  | x :: r, y :: r', 0, c, h2, h => by
    show cc x y + hc r r' ≤ cc c y + hc r r' + 2
    have := h2 x y; have := cc0 c y; omega
  | x :: r, y :: r', p + 1, c, h2, h => by
    show cc x y + hc r r' ≤ cc x y + hc (r.set p c) r' + 2
    have := hc_set r r' p c h2 (by simpa using h); omega
end Mine
end
section
set_option maxHeartbeats 3000000
open PySem PySem.W PyProof.Rows
namespace Mine
theorem ins_erase : ∀ (l : List Bool) (p : Nat) (h : p < l.length), ins l[p] (l.eraseIdx p) p = l
  | [], _, h => absurd h (Nat.not_lt_zero _)
  | a :: l, 0, _ => by show ins a l 0 = a :: l; cases l <;> rfl
  | a :: l, p + 1, h => by
    have hp : p < l.length := by simpa using h
    have := ins_erase l p hp
    show a :: ins (l[p]'hp) (l.eraseIdx p) p = a :: l
    rw [this]
theorem put_erase {α : Type} (r : List α) (p : Nat) (c : α) (hp : p ≤ r.length) : (r.take p ++ c :: r.drop p).eraseIdx p = r := by
  rw [List.eraseIdx_append_of_length_le (by simp; omega), List.length_take, Nat.min_eq_left hp, Nat.sub_self]
  simp
theorem put_len {α : Type} (r : List α) (p : Nat) (c : α) (hp : p ≤ r.length) : (r.take p ++ c :: r.drop p).length = r.length + 1 := by
  simp; omega
theorem put_at {α : Type} (r : List α) (p : Nat) (c : α) (hp : p ≤ r.length) : (r.take p ++ c :: r.drop p)[p]? = some c := by
  rw [List.getElem?_append_right (by simp; omega), List.length_take, Nat.min_eq_left hp, Nat.sub_self]; rfl
theorem mem_boxes {bs : List Bool} {c : Nat} (h : c ∈ bs.map box) : c = 111 ∨ c = 120 := by
  obtain ⟨b, _, rfl⟩ := List.mem_map.mp h
  cases b
  · exact .inl rfl
  · exact .inr rfl
/-- a sign put in -/
theorem vt_ins {bs bs' : List Bool} {p c : Nat} (h10 : bs.length = 10) (h10' : bs'.length = 10) (hp : p ≤ 10) (hS : (S bs - S bs') % 20 = 0)
    (hed : ed cc ((bs.map box).take p ++ c :: (bs.map box).drop p) (bs'.map box) ≤ 2) : bs = bs' := by
  have hp' : p ≤ (bs.map box).length := by rw [List.length_map, h10]; exact hp
  have hl := put_len (bs.map box) p c hp'
  have he := put_erase (bs.map box) p c hp'
  have hat := put_at (bs.map box) p c hp'
  generalize hy : (bs.map box).take p ++ c :: (bs.map box).drop p = y at *
  have hly : y.length = 11 := by rw [hl, List.length_map, h10]
  obtain ⟨q, hq, hb⟩ := (al_two (ed_al cc y (bs'.map box)) hed).1 (by rw [hly, List.length_map, h10'])
  by_cases hc : ∃ b, c = box b
  · obtain ⟨b, rfl⟩ := hc
    have hY : y = ((bs.take p ++ b :: bs.drop p).map box) := by rw [← hy]; simp
    generalize (bs.take p ++ b :: bs.drop p) = ys at hY
    subst hY
    rw [erase_map] at he hb
    have e1 := boxes_inj he
    have e2 := boxes_inj hb
    rw [List.length_map] at hly hq
    rw [← e1, e2] at hS ⊢
    exact del_unique (by omega) (by omega) hq hS
  · by_cases hpq : q = p
    · subst hpq
      rw [he] at hb
      exact (boxes_inj hb).symm
    · exfalso
      have hm : c ∈ y.eraseIdx q := by
        have hplt : p < y.length := by omega
        rw [List.mem_eraseIdx_iff_getElem]
        exact ⟨p, hplt, fun h => hpq h.symm, by have := List.getElem?_eq_some_iff.mp hat; exact this.2⟩
      rw [← hb] at hm
      rcases mem_boxes hm with h | h
      · exact hc ⟨false, h⟩
      · exact hc ⟨true, h⟩
theorem vt_same {bs bs' : List Bool} {y : List Nat} {p c : Nat} (h10 : bs.length = 10) (h10' : bs'.length = 10) (hS : (S bs - S bs') % 20 = 0) (hy : y = (bs.map box).set p c)
    (hed : ed cc y (bs'.map box) ≤ 2) : bs = bs' := by
  subst hy
  have hl : ((bs.map box).set p c).length = (bs'.map box).length := by simp [h10, h10']
  have h1 := (al_two (ed_al cc ((bs.map box).set p c) (bs'.map box)) hed).2.2 hl
  have h2 := hc_set (bs.map box) (bs'.map box) p c cc2 (by simp [h10, h10'])
  rw [hc_ham] at h2
  exact ham_same (by omega) (by omega) (by omega) hS
theorem vt_main {bs bs' : List Bool} {y : List Nat} (h10 : bs.length = 10) (h10' : bs'.length = 10) (hsp : Spoil (bs.map box) y) (hS : (S bs - S bs') % 20 = 0) (hed : ed cc y (bs'.map box) ≤ 2) : bs = bs' := by
  have hr : (bs.map box).length = 10 := by rw [List.length_map, h10]
  have hr' : (bs'.map box).length = 10 := by rw [List.length_map, h10']
  obtain ⟨p, c, hp, hc, h | h | h⟩ := hsp
  · rw [← List.eraseIdx_eq_take_drop_succ] at h
    by_cases hp9 : p < 10
    · have hly : y.length = 9 := by rw [h, List.length_eraseIdx_of_lt (by omega), hr]
      obtain ⟨q, hq, hb⟩ := (al_two (ed_al cc y (bs'.map box)) hed).2.1 (by omega)
      rw [h, erase_map, erase_map] at hb
      have e := boxes_inj hb
      have hq' : q < bs'.length := by rwa [List.length_map] at hq
      have i1 := ins_erase bs p (by omega)
      have i2 := ins_erase bs' q hq'
      rw [e] at i1
      have hz : (bs'.eraseIdx q).length ≤ 10 := by rw [List.length_eraseIdx_of_lt hq']; omega
      generalize bs'.eraseIdx q = z at i1 i2 hz
      generalize bs[p]'(by omega) = b1 at i1
      generalize bs'[q]'hq' = b2 at i2
      subst i1
      subst i2
      exact ins_unique hz hS
    · have e : y = (bs.map box).set 10 0 := by
        rw [h, List.eraseIdx_of_length_le (by omega), List.set_eq_of_length_le (by omega)]
      exact vt_same h10 h10' hS e hed
  · rw [h] at hed
    exact vt_ins h10 h10' hp hS hed
  · by_cases hp9 : p < 10
    · have e : y = (bs.map box).set p c := by
        rw [h, List.set_eq_take_append_cons_drop, if_pos (by omega)]
      exact vt_same h10 h10' hS e hed
    · have hp10 : p = 10 := by omega
      subst hp10
      have e : y = (bs.map box).take 10 ++ c :: (bs.map box).drop 10 := by
        rw [h, List.drop_eq_nil_of_le (by omega), List.drop_eq_nil_of_le (by omega)]
      rw [e] at hed
      exact vt_ins h10 h10' (Nat.le_refl _) hS hed
/-! the price of a fault -/
theorem sign_tab : ∀ c ∈ [111, 120, 79, 88, 63], ∀ b : Bool, (c = box b ∧ cc c (box b) = 0) ∨ (c ≠ box b ∧ lo1 c = box b ∧ cc c (box b) = 1) ∨ (c ≠ box b ∧ lo1 c ≠ box b ∧ cc c (box b) = 2) := by decide +kernel
theorem lo_box : ∀ b : Bool, lo1 (box b) = box b := by decide
theorem lo_boxes (bs : List Bool) : (bs.map box).map lo1 = bs.map box := by
  rw [List.map_map]
  exact List.map_congr_left fun b _ => lo_box b
theorem price_len {bs : List Bool} {y : List Nat} (hl : y.length ≠ bs.length) (hed : ed cc y (bs.map box) ≤ 2) :
    ed cc y (bs.map box) = if y = bs.map box then 0 else if y.map lo1 = bs.map box then 1 else 2 := by
  have h1 : y ≠ bs.map box := fun h => hl (by rw [h, List.length_map])
  have h2 : y.map lo1 ≠ bs.map box := fun h => hl (by have := congrArg List.length h; simpa using this)
  rw [if_neg h1, if_neg h2]
  have h3 := ed_len cc cc0 y (bs.map box)
  rw [List.length_map] at h3
  omega
theorem price {bs : List Bool} {y : List Nat} (h10 : bs.length = 10) (hsp : Spoil (bs.map box) y) : ed cc y (bs.map box) = if y = bs.map box then 0 else if y.map lo1 = bs.map box then 1 else 2 := by
  have hr : (bs.map box).length = 10 := by rw [List.length_map, h10]
  have self : y = bs.map box → ed cc y (bs.map box) = if y = bs.map box then 0 else if y.map lo1 = bs.map box then 1 else 2 := by
    intro e; rw [if_pos e, e, ed_self cc cc0 cc_self]
  obtain ⟨p, c, hp, hcc, h | h | h⟩ := hsp
  · by_cases hp9 : p < 10
    · refine price_len ?_ ?_
      · rw [h, ← List.eraseIdx_eq_take_drop_succ, List.length_eraseIdx_of_lt (by omega), hr]; omega
      · have hd : (bs.map box).drop p = (bs.map box)[p] :: (bs.map box).drop (p + 1) := List.drop_eq_getElem_cons (by omega)
        have e : ed cc y (bs.map box) = ed cc ((bs.map box).drop (p + 1)) ((bs.map box)[p] :: (bs.map box).drop (p + 1)) := by
          have := ed_pre cc cc0 cc_self ((bs.map box).take p) ((bs.map box).drop (p + 1)) ((bs.map box).drop p)
          rw [List.take_append_drop, ← h, hd] at this
          exact this
        rw [e]
        have := ed_le cc cc0 (Al.ins (bs.map box)[p] (ed_al cc ((bs.map box).drop (p + 1)) ((bs.map box).drop (p + 1))))
        rw [ed_self cc cc0 cc_self] at this
        omega
    · refine self ?_
      rw [h, ← List.eraseIdx_eq_take_drop_succ, List.eraseIdx_of_length_le (by omega)]
  · refine price_len ?_ ?_
    · rw [h, put_len _ _ _ (by omega), hr]; omega
    · have e : ed cc y (bs.map box) = ed cc (c :: (bs.map box).drop p) ((bs.map box).drop p) := by
        have := ed_pre cc cc0 cc_self ((bs.map box).take p) (c :: (bs.map box).drop p) ((bs.map box).drop p)
        rw [List.take_append_drop, ← h] at this
        exact this
      rw [e]
      have := ed_le cc cc0 (Al.del c (ed_al cc ((bs.map box).drop p) ((bs.map box).drop p)))
      rw [ed_self cc cc0 cc_self] at this
      omega
  · by_cases hp9 : p < 10
    · have hd : (bs.map box).drop p = (bs.map box)[p] :: (bs.map box).drop (p + 1) := List.drop_eq_getElem_cons (by omega)
      have hsplit : bs.map box = (bs.map box).take p ++ (bs.map box)[p] :: (bs.map box).drop (p + 1) := by rw [← hd, List.take_append_drop]
      have e : ed cc y (bs.map box) = ed cc (c :: (bs.map box).drop (p + 1)) ((bs.map box)[p] :: (bs.map box).drop (p + 1)) := by
        have := ed_pre cc cc0 cc_self ((bs.map box).take p) (c :: (bs.map box).drop (p + 1)) ((bs.map box)[p] :: (bs.map box).drop (p + 1))
        rw [← hsplit, ← h] at this
        exact this
      have hle : ed cc y (bs.map box) ≤ cc c (bs.map box)[p] := by
        rw [e]
        have := ed_le cc cc0 (Al.sub c (bs.map box)[p] (ed_al cc ((bs.map box).drop (p + 1)) ((bs.map box).drop (p + 1))))
        rw [ed_self cc cc0 cc_self] at this
        omega
      have hge : ∀ k, ed cc y (bs.map box) ≤ k → k ≤ 1 → cc c (bs.map box)[p] ≤ k := by
        intro k hk hk1
        have hl9 : (c :: (bs.map box).drop (p + 1)).length = ((bs.map box)[p] :: (bs.map box).drop (p + 1)).length := by simp
        have h3 := (al_two (ed_al cc (c :: (bs.map box).drop (p + 1)) ((bs.map box)[p] :: (bs.map box).drop (p + 1))) (by rw [← e]; omega)).2.2 hl9
        have h4 : ∀ l : List Nat, 0 ≤ hc l l := by
          intro l
          induction l with
          | nil => exact Int.le_refl _
          | cons x l ih => show 0 ≤ cc x x + hc l l; have := cc0 x x; omega
        have h5 := h4 ((bs.map box).drop (p + 1))
        have h6 : hc (c :: (bs.map box).drop (p + 1)) ((bs.map box)[p] :: (bs.map box).drop (p + 1)) = cc c (bs.map box)[p] + hc ((bs.map box).drop (p + 1)) ((bs.map box).drop (p + 1)) := rfl
        rw [← e] at h3
        omega
      have h0 := (ed_len cc cc0 y (bs.map box)).2.2
      have heq : ed cc y (bs.map box) = cc c (bs.map box)[p] := by
        have h7 := cc2 c (bs.map box)[p]
        have h8 := hge 0
        have h9 := hge 1
        have h10 := hge (ed cc y (bs.map box)) (Int.le_refl _)
        omega
      have hbp : (bs.map box)[p] = box (bs[p]'(by omega)) := by simp
      have hyr : y = bs.map box ↔ c = (bs.map box)[p] := by
        constructor
        · intro e2
          rw [h] at e2
          have : (((bs.map box).take p ++ c :: (bs.map box).drop (p + 1)))[p]? = (bs.map box)[p]? := by rw [e2]
          rw [List.getElem?_append_right (by rw [List.length_take]; omega), List.length_take, Nat.min_eq_left (by omega), Nat.sub_self] at this
          have h8 : (bs.map box)[p]? = some ((bs.map box)[p]'(by omega)) := List.getElem?_eq_getElem _
          rw [h8] at this
          exact Option.some.inj this
        · intro e2; rw [h, e2]; exact hsplit.symm
      have hlr : y.map lo1 = bs.map box ↔ lo1 c = (bs.map box)[p] := by
        have hm : y.map lo1 = (bs.map box).take p ++ lo1 c :: (bs.map box).drop (p + 1) := by
          rw [h, List.map_append, List.map_cons]
          congr 1
          · rw [← List.map_take, lo_boxes]
          · rw [← List.map_drop, lo_boxes]
        constructor
        · intro e2
          rw [hm] at e2
          have : (((bs.map box).take p ++ lo1 c :: (bs.map box).drop (p + 1)))[p]? = (bs.map box)[p]? := by rw [e2]
          rw [List.getElem?_append_right (by rw [List.length_take]; omega), List.length_take, Nat.min_eq_left (by omega), Nat.sub_self] at this
          have h8 : (bs.map box)[p]? = some ((bs.map box)[p]'(by omega)) := List.getElem?_eq_getElem _
          rw [h8] at this
          exact Option.some.inj this
        · intro e2; rw [hm, e2]; exact hsplit.symm
      rw [heq]
      have ht := sign_tab c hcc (bs[p]'(by omega))
      rw [← hbp] at ht
      rcases ht with ⟨a1, a2⟩ | ⟨a1, a2, a3⟩ | ⟨a1, a2, a3⟩
      · rw [if_pos (hyr.mpr a1), a2]
      · rw [if_neg (fun q => a1 (hyr.mp q)), if_pos (hlr.mpr a2), a3]
      · rw [if_neg (fun q => a1 (hyr.mp q)), if_neg (fun q => a2 (hlr.mp q)), a3]
    · have hp10 : p = 10 := by omega
      subst hp10
      have e9 : y = (bs.map box) ++ [c] := by
        rw [h, List.drop_eq_nil_of_le (by omega), List.take_of_length_le (by omega)]
      refine price_len ?_ ?_
      · rw [e9, List.length_append, hr, List.length_singleton]; omega
      · have := ed_pre cc cc0 cc_self (bs.map box) [c] []
        rw [List.append_nil] at this
        rw [e9, this, ed_nil_r]
        exact Int.le_refl _
end Mine
end
section
set_option maxHeartbeats 3000000
open PySem PySem.W PyProof.Rows
namespace Mine
theorem five {ds : List Int} (h : ds.length = 5) : ∃ a b c d e, ds = [a, b, c, d, e] := by
  match ds, h with
  | [a, b, c, d, e], _ => exact ⟨a, b, c, d, e, rfl⟩
theorem drawn_len (ns : List Int) : (ns.take 5 ++ ([3, 4, 2, 0, 136] : List Int).drop ns.length).length = 5 := by
  rw [List.length_append, List.length_take, List.length_drop]
  simp only [List.length_cons, List.length_nil]
  omega
def sumsAt (L : Int) : Nat → List Int
  | 0 => [L]
  | i + 1 => sumsAt L i ++ (sumsAt L i).map (· + (6 + (i : Int)))
theorem sumsAt_len (L : Int) : ∀ i, (sumsAt L i).length = 2 ^ i
  | 0 => rfl
  | i + 1 => by rw [sumsAt, List.length_append, List.length_map, sumsAt_len L i, Nat.pow_succ]; omega
theorem sumsAt_shift (L : Int) : ∀ i, sumsAt L i = (sumsAt 0 i).map (L + ·)
  | 0 => by simp [sumsAt]
  | i + 1 => by
    rw [sumsAt, sumsAt, sumsAt_shift L i, List.map_append, List.map_map, List.map_map]
    congr 1
    apply List.map_congr_left
    intro a _
    show L + a + (6 + (i : Int)) = L + (a + (6 + (i : Int)))
    omega
def sumL (x : Int) (i : Nat) : List Int := ((List.range i).filter (hasBit x)).map fun j : Nat => (1 : Int) + j
theorem sums_tab : ∀ l, l < 32 → ∀ h, h < 32 → (sumL ((l : Nat) : Int) 10).sum + (sumsAt 0 5).getD h 0 = (sumL ((l : Int) + 32 * ((h : Nat) : Int)) 10).sum := by decide +kernel
theorem sums_at {l : Int} (h0 : 0 ≤ l) (h1 : l < 32) {h : Nat} (hh : h < 32) : (sumsAt (sumL l 10).sum 5).getD h 0 = (sumL (l + 32 * (h : Int)) 10).sum := by
  obtain ⟨n, rfl⟩ := Int.eq_ofNat_of_zero_le h0
  have := sums_tab n (by omega) h hh
  rw [sumsAt_shift, ← this]
  have hl : h < (sumsAt 0 5).length := by rw [sumsAt_len]; exact hh
  simp [List.getD_eq_getElem?_getD, hl]
def bits (n : Int) : List Bool := (List.range 10).map (hasBit n)
theorem bits_len (n : Int) : (bits n).length = 10 := by simp [bits]
theorem bits_box (n : Int) : (bits n).map box = (List.range 10).map fun j => if hasBit n j then 120 else 111 := by
  rw [bits, List.map_map]; rfl
theorem So_bits (n : Int) : ∀ (m i : Nat), So i ((List.range' i m).map (hasBit n)) = (((List.range' i m).filter (hasBit n)).map fun j : Nat => (1 : Int) + j).sum
  | 0, _ => rfl
  | m + 1, i => by
    rw [List.range'_succ, List.map_cons, List.filter_cons]
    have ih := So_bits n m (i + 1)
    show (if hasBit n i then (i : Int) + 1 else 0) + So ((i : Int) + 1) _ = _
    rw [show ((i : Int) + 1) = ((i + 1 : Nat) : Int) by omega, ih]
    cases hasBit n i
    · simp
    · simp; omega
theorem S_bits (n : Int) : S (bits n) = (sumL n 10).sum := by
  rw [S_So, bits, List.range_eq_range']
  have := So_bits n 10 0
  rw [sumL, List.range_eq_range']
  exact this
theorem mod_bits {n m : Int} : ∀ i : Nat, (∀ j, j < i → hasBit n j = hasBit m j) → n % 2 ^ i = m % 2 ^ i
  | 0, _ => by simp [Int.emod_one]
  | i + 1, h => by
    have ih := mod_bits i fun j hj => h j (by omega)
    have hi := h i (by omega)
    have key : ∀ x : Int, x % 2 ^ (i + 1) = x % 2 ^ i + (x / 2 ^ i % 2) * 2 ^ i := by
      intro x
      have e1 := cut_succ x i
      have h1 := Int.emod_def x (2 ^ i)
      have h2 := Int.emod_def x (2 ^ (i + 1))
      rw [Int.mul_comm] at h1 h2
      omega
    have hb : n / 2 ^ i % 2 = m / 2 ^ i % 2 := by
      unfold hasBit at hi
      have a1 : n / 2 ^ i % 2 = 0 ∨ n / 2 ^ i % 2 = 1 := by omega
      have a2 : m / 2 ^ i % 2 = 0 ∨ m / 2 ^ i % 2 = 1 := by omega
      rcases a1 with a1 | a1 <;> rcases a2 with a2 | a2 <;> rw [a1, a2] at hi ⊢ <;> simp at hi
    rw [key, key, ih, hb]
theorem bits_inj {n m : Int} (hn0 : 0 ≤ n) (hn : n < 1024) (hm0 : 0 ≤ m) (hm : m < 1024) (h : bits n = bits m) : n = m := by
  have := mod_bits (n := n) (m := m) 10 fun j hj => by
    have e : (bits n)[j]? = (bits m)[j]? := by rw [h]
    simpa [bits, hj] using e
  omega
/-- what is told of the number's own row -/
theorem told_own {n r : Int} {own spoilt : Str} (hown : sl own = (bits n).map box) (hsp : Spoil (sl own) (sl spoilt)) (hr : LevSpec (ed cc (sl spoilt) (sl own)) 2 r) :
    r = (if spoilt = own then 0 else if Txt.lower spoilt = own then 1 else 2) := by
  rw [hown] at hsp hr
  have hp := price (bits_len n) hsp
  have hle : ed cc (sl spoilt) ((bits n).map box) ≤ 2 := by rw [hp]; split; decide; split <;> decide
  have hD : r = ed cc (sl spoilt) ((bits n).map box) := by
    rcases hr with h | ⟨h1, h2⟩
    · exact h
    · omega
  rw [hD, hp]
  have e1 : (sl spoilt = (bits n).map box) ↔ spoilt = own := by
    rw [← hown]; exact ⟨sl_inj, fun h => by rw [h]⟩
  have hasc : ∀ c ∈ spoilt.cps.toList, c < 128 := by
    intro c hc
    have hc' : c ∈ sl spoilt := hc
    obtain ⟨p, s, _, hs, h | h | h⟩ := hsp <;> rw [h] at hc'
    all_goals
      have hb : ∀ c ∈ (bits n).map box, c < 128 := fun c hc => by rcases mem_boxes hc with h | h <;> omega
      have hss : s < 128 := by
        simp only [List.mem_cons, List.not_mem_nil, or_false] at hs
        omega
      simp only [List.mem_append, List.mem_cons] at hc'
    · rcases hc' with h | h
      · exact hb _ (List.mem_of_mem_take h)
      · exact hb _ (List.mem_of_mem_drop h)
    · rcases hc' with h | h | h
      · exact hb _ (List.mem_of_mem_take h)
      · omega
      · exact hb _ (List.mem_of_mem_drop h)
    · rcases hc' with h | h | h
      · exact hb _ (List.mem_of_mem_take h)
      · omega
      · exact hb _ (List.mem_of_mem_drop h)
  have e2 : ((sl spoilt).map lo1 = (bits n).map box) ↔ Txt.lower spoilt = own := by
    have hl : sl (Txt.lower spoilt) = (sl spoilt).map lo1 := by
      rw [lower_ascii hasc]; simp [sl]
    rw [← hl, ← hown]
    exact ⟨sl_inj, fun h => by rw [h]⟩
  simp only [e1, e2]
/-- and of another's -/
theorem told_other {n o r : Int} {own spoilt row : Str} (hn0 : 0 ≤ n) (hn : n < 1024) (ho0 : 0 ≤ o) (ho : o < 1024) (hown : sl own = (bits n).map box) (hrow : sl row = (bits o).map box) (hsp : Spoil (sl own) (sl spoilt))
    (hS : ((sumL o 10).sum - (sumL n 10).sum) % 20 = 0) (hr : LevSpec (ed cc (sl spoilt) (sl row)) 2 r) : decide (r ≤ 2) = decide (o = n) := by
  rw [decide_eq_decide]
  rw [← S_bits, ← S_bits] at hS
  constructor
  · intro h2
    have hle : ed cc (sl spoilt) ((bits o).map box) ≤ 2 := by
      rw [hrow] at hr
      rcases hr with h | ⟨h1, _⟩
      · omega
      · omega
    rw [hown] at hsp
    have := vt_main (bits_len n) (bits_len o) hsp (by omega) hle
    exact (bits_inj hn0 hn ho0 ho this).symm
  · intro e
    subst e
    have e2 : row = own := sl_inj (by rw [hrow, hown])
    rw [e2] at hr
    rw [told_own hown hsp hr]
    split
    · decide
    · split <;> decide
end Mine
namespace Mine
def othersL (num low : Int) (j : Nat) : List Int := ((List.range j).filter fun h : Nat => decide (((sumL (low + 32 * (h : Int)) 10).sum - (sumL num 10).sum) % 20 = 0)).map fun h : Nat => low + 32 * (h : Int)
theorem othersL_succ (num low : Int) (j : Nat) : othersL num low (j + 1) = if ((sumL (low + 32 * (j : Int)) 10).sum - (sumL num 10).sum) % 20 = 0 then othersL num low j ++ [low + 32 * (j : Int)] else othersL num low j := by
  unfold othersL
  rw [List.range_succ, List.filter_append, List.map_append]
  by_cases h : ((sumL (low + 32 * (j : Int)) 10).sum - (sumL num 10).sum) % 20 = 0
  · simp [h]
  · simp [h]
end Mine
namespace Mine
theorem othersL_range {num low o : Int} (h0 : 0 ≤ low) (h1 : low < 32) (h : o ∈ othersL num low 32) : 0 ≤ o ∧ o < 1024 := by
  obtain ⟨k, hk, rfl⟩ := List.mem_map.mp h
  have := List.mem_range.mp (List.mem_filter.mp hk).1
  omega
theorem othersL_sum {num low o : Int} (h : o ∈ othersL num low 32) : ((sumL o 10).sum - (sumL num 10).sum) % 20 = 0 := by
  obtain ⟨k, hk, rfl⟩ := List.mem_map.mp h
  exact of_decide_eq_true (List.mem_filter.mp hk).2
end Mine
end
section
set_option maxHeartbeats 8000000
open PySem PySem.W PyProof.Rows
namespace Mine
open_top hd for PySem.Challenge.rw_ny0089_02
end Mine
end
section
set_option maxHeartbeats 3000000
open PySem PySem.W PyProof.Rows
namespace Mine
theorem sub_claim (w : World) (mean : ExcName → Option Value) (mg mb : Str → Option Value) (a : Str) (ta : Tok) (b : Str) (tb : Tok) (news : List (Addr × Obj)) :
    Claim 2 PySem.Challenge.rw_ny0089_02.row.prog w (hd.heap_39 w.params) hd.view_39 (looseW hd.view_39 [Str.ofString "COMPILER_FLAG_NAMES"]) mean mg mb 21 news
      (a.length ≤ 1000 ∧ b.length ≤ 1000) [.str a ta, .str b tb] (fun v => ∃ t, v = .int (subCost a b) t) := by
  k_fill
  w_top off
  dsimp only [Claim, Ret]
  intros
  rename_i hpre hd1 hu1 hret
  obtain ⟨hp1, hp2⟩ := hpre
  refine wpAny_call ?_
  k_dflt cell_enter
  k_steps
  · rename (a == b) = true => he
    have e : subCost a b = 0 := by rw [eq_of_beq he, sub_self]
    rw [e] at hret
    exact hret _ _ _ ⟨_, rfl⟩ (by assumption) (by assumption)
  · rename (a == b) = false => he
    rename (Txt.lower a == Txt.lower b) = true => he2
    have e : subCost a b = 1 := by rw [subCost, if_neg (ne_of_beq_false he), if_pos (eq_of_beq he2)]
    rw [e] at hret
    exact hret _ _ _ ⟨_, rfl⟩ (by assumption) (by assumption)
  · rename (a == b) = false => he
    rename (Txt.lower a == Txt.lower b) = false => he2
    have e : subCost a b = 2 := by rw [subCost, if_neg (ne_of_beq_false he), if_neg (ne_of_beq_false he2)]
    rw [e] at hret
    exact hret _ _ _ ⟨_, rfl⟩ (by assumption) (by assumption)
end Mine
end
section
set_option maxHeartbeats 3000000
open PySem PySem.W PyProof.Rows
namespace Mine
local macro_rules | `(tactic| walk_at "exec While BoolOp cons nil") => `(tactic| refine Stop.out ?_)
local macro_rules | `(tactic| walk_at "execs cons") => `(tactic| ((with_reducible refine wpAny_execs_cons ?_); try dsimp only))
local macro_rules | `(tactic| walk_at "execs nil") => `(tactic| ((with_reducible refine wpAny_execs_nil ?_); try dsimp only))
local macro_rules | `(tactic| walk_at "CutPost") => `(tactic| with_reducible refine CutPost.ret ?_)
local macro_rules | `(tactic| walk_at "TurnPost") => `(tactic| first | with_reducible refine TurnPost.ret ?_ | with_reducible refine TurnPost.brk ?_)
local macro_rules | `(tactic| walk_at "exec Assign") => `(tactic| first | ((with_reducible show wpAny _ _ (exec (Stmt.Assign _ _ ⟨22, _, _, _⟩) _) _ _ _); refine Stop.out ?_) | ((with_reducible show wpAny _ _ (exec (Stmt.Assign _ _ ⟨23, _, _, _⟩) _) _ _ _); refine Stop.out ?_))
local macro_rules | `(tactic| walk_at "exec If") => `(tactic| ((with_reducible show wpAny _ _ (exec (Stmt.If _ _ _ ⟨28, _, _, _⟩) _) _ _ _); refine Stop.out ?_))
local macro_rules | `(tactic| walk_at "pyIter ref") => `(tactic| refine Stop.out ?_)
local macro_rules | `(tactic| walk_at "subscriptTail Name Slice str ref") => `(tactic| ((with_reducible show wpAny _ _ (subscriptTail _ (Expr.Slice none (some _) none _) _ _) _ _ _); (with_reducible rename Fr _ _ _ _ => F'); (with_reducible rename News _ _ _ _ => N'); (refine slice_whole (hsz := ?hsz) (s := ⟨_, _, _, _, _⟩) F' N' ?_); (case hsz => size_fits); intro _ _ _ _ _))
local macro_rules | `(tactic| walk_at "call type:list") => `(tactic| ((with_reducible show wpAny _ _ (call (Value.type _) [Value.ref _]) _ _ _); refine Stop.out ?_))
local macro_rules | `(tactic| walk_at "call ref") => `(tactic| ((with_reducible show wpAny _ _ (call (Value.ref 21) _) _ _ _); k_dflt (refine' sub_claim _ _ _ _ _ _ _ _ _ _ _ _ _ _ _ _ _ _ _ _ _ _ _ _ _ _ ?k1 ?k2 ?k3 ?k4 ?k5 ?kK ?kp ?kd ?ku ?_; (case k1 => k_asm); (case k2 => k_asm); (case k3 => k_asm); (case k4 => k_asm); (case k5 => k_asm); (case kK => first | exact rfl | assumption); (case kd => (dsimp only [ktrTop]; omega)); (case ku => (dsimp only [ktrTop]; omega)); (case kp => exact ⟨by omega, by omega⟩)); (rintro v9 h9 tk9 ⟨t9, e9⟩ F9 N9); subst e9; try dsimp only))
local macro_rules | `(tactic| walk_at "setItem ref int") => `(tactic| ((with_reducible show wpAny _ _ (setItem (Value.ref _) (Value.int _ _) (Value.int _ _)) _ _ _); k_dflt (refine' ksa_set ?k1 ?k2 (Upd.head ?k3) ?k4 ?k5 ?k6 ?k7 ?_; (case k1 => k_asm); (case k2 => k_asm); (case k3 => assumption); (case k4 => with_reducible assumption); (case k5 => omega); (case k6 => (simp only [List.length_map, List.length_range]; omega)); (case k7 => omega)); intro h' F' N' hi' hl' hs'))
theorem lev_claim (w : World) (mean : ExcName → Option Value) (mg mb : Str → Option Value) (a : Str) (ta : Tok) (b : Str) (tb : Tok) (mx : Int) (tm : Tok) (news : List (Addr × Obj)) :
    Claim 4 PySem.Challenge.rw_ny0089_02.row.prog w (hd.heap_39 w.params) hd.view_39 (looseW hd.view_39 [Str.ofString "COMPILER_FLAG_NAMES"]) mean mg mb 28 news
      (a.length ≤ 40 ∧ b.length ≤ 40) [.str a ta, .str b tb, .int mx tm] (fun v => ∃ r t, v = .int r t ∧ LevSpec (ed cc (sl a) (sl b)) mx r) := by
  k_fill
  w_top off
  dsimp only [Claim, Ret]
  intros
  rename_i hpre hd1 hu1 hret
  obtain ⟨hp1, hp2⟩ := hpre
  have hla := sl_len a
  have hlb := sl_len b
  refine wpAny_call ?_
  k_dflt cell_enter
  k_steps
  · rename (a == b) = true => he
    refine hret _ _ _ ⟨0, _, rfl, .inl ?_⟩ (by assumption) (by assumption)
    rw [eq_of_beq he, ed_self cc cc0 cc_self]
  · constructor
    rename Fr _ _ _ _ => F
    rename News _ _ _ _ => N
    refine cut_st (σ := Nat × Tok) F (fun c => [(Str.ofString "pre", .int c.1 c.2), (Str.ofString "a", .str a ta), (Str.ofString "b", .str b tb), (Str.ofString "max_cost", .int mx tm)]) (fun _ => news)
      (fun c => c.1 ≤ (sl a).length ∧ c.1 ≤ (sl b).length ∧ (sl a).take c.1 = (sl b).take c.1) ?_ ?_
    · refine while_st (σ := Nat × Tok) (fun c => [(Str.ofString "pre", .int c.1 c.2), (Str.ofString "a", .str a ta), (Str.ofString "b", .str b tb), (Str.ofString "max_cost", .int mx tm)]) (fun _ => news)
        (fun c => c.1 ≤ (sl a).length ∧ c.1 ≤ (sl b).length ∧ (sl a).take c.1 = (sl b).take c.1) (fun c => (sl a).length - c.1) (0, _) F N (fun _ h => h) (by kst_all) ⟨Nat.zero_le _, Nat.zero_le _, rfl⟩ ?_
      clear F N
      rintro ⟨k, t⟩ u h tk ⟨hk1, hk2, hk3⟩ F N
      dsimp only at hk1 hk2 hk3 F N
      k_steps
      · rename _ = true => he
        have hk4 : k < (sl a).length := by omega
        have hk5 : k < (sl b).length := by omega
        have he2 := eq_of_beq he
        rw [item_at hk4, item_at hk5] at he2
        exact .next (.mk (k + 1, _) (by assumption) (by assumption) (fun _ h => h) (fun _ h => nomatch h) (by kst_all) ⟨⟨by dsimp only; omega, by dsimp only; omega, take_more hk3 hk4 hk5 (one_inj he2)⟩, by dsimp only; omega⟩)
      all_goals exact .next (.mk (k, _) (by assumption) (by assumption) (fun _ h => h) (fun _ h => nomatch h) (by kst_all) ⟨hk1, hk2, hk3⟩)
    · clear F N
      rintro ⟨k, t⟩ u h tk ⟨hk1, hk2, hk3⟩ F N
      dsimp only at hk1 hk2 hk3 F N ⊢
      have ha1 := sl_from (x := a) (k := k) (by omega)
      have hb1 := sl_from (x := b) (k := k) (by omega)
      have hD : ed cc (sl a) (sl b) = ed cc (sl (Txt.slice a (some (k : Int)) none)) (sl (Txt.slice b (some (k : Int)) none)) := by
        rw [ha1, hb1]; exact strip_pre cc0 cc_self hk3
      k_steps
      constructor
      generalize ea1 : Txt.slice a (some (k : Int)) none = a1 at *
      generalize eb1 : Txt.slice b (some (k : Int)) none = b1 at *
      rename Fr _ _ _ _ => F
      rename News _ _ _ _ => N
      clear ha1 hb1 ea1 eb1 hk1 hk2 hk3 hla hlb
      have hla1 := sl_len a1
      have hlb1 := sl_len b1
      refine cut_st (σ := Int × Tok × Tok × Tok) F (fun c => [(Str.ofString "post", .int c.1 c.2.1), (Str.ofString "a", .str a1 c.2.2.1), (Str.ofString "b", .str b1 c.2.2.2), (Str.ofString "max_cost", .int mx tm)]) (fun _ => news)
        (fun c => ∃ j : Nat, c.1 = -(j : Int) ∧ j ≤ (sl a1).length ∧ j ≤ (sl b1).length ∧ (sl a1).drop ((sl a1).length - j) = (sl b1).drop ((sl b1).length - j)) ?_ ?_
      · refine while_st (σ := Int × Tok × Tok × Tok) (fun c => [(Str.ofString "post", .int c.1 c.2.1), (Str.ofString "a", .str a1 c.2.2.1), (Str.ofString "b", .str b1 c.2.2.2), (Str.ofString "max_cost", .int mx tm)]) (fun _ => news)
          (fun c => ∃ j : Nat, c.1 = -(j : Int) ∧ j ≤ (sl a1).length ∧ j ≤ (sl b1).length ∧ (sl a1).drop ((sl a1).length - j) = (sl b1).drop ((sl b1).length - j)) (fun c => ((sl a1).length + c.1).toNat) (0, _, _, _) F N (fun _ h => h) (by kst_all) ⟨0, rfl, Nat.zero_le _, Nat.zero_le _, by simp⟩ ?_
        clear F N
        rintro ⟨p, t1, t2, t3⟩ u h tk ⟨j, hj0, hj1, hj2, hj3⟩ F N
        dsimp only at hj0 hj1 hj2 hj3 F N
        by_cases hp : p = 0
        · k_steps
          all_goals first
            | (exfalso; omega)
            | exact .next (.mk (p, _, _, _) (by assumption) (by assumption) (fun _ h => h) (fun _ h => nomatch h) (by kst_all) ⟨j, hj0, hj1, hj2, hj3⟩)
            | exact .next (.mk (p - 1, _, _, _) (by assumption) (by assumption) (fun _ h => h) (fun _ h => nomatch h) (by kst_all) ⟨⟨j + 1, by dsimp only; omega, by omega, by omega, suff_more hj0 (by omega) (by omega) hj3 (by assumption)⟩, by dsimp only; omega⟩)
        · have hs1 := sl_len (Txt.slice a1 none (some (-(j : Int))))
          have hs2 := sl_len (Txt.slice b1 none (some (-(j : Int))))
          rw [sl_to_neg (by omega) (by omega), List.length_take] at hs1 hs2
          rw [← hj0] at hs1 hs2
          k_steps
          all_goals first
            | (exfalso; omega)
            | exact .next (.mk (p, _, _, _) (by assumption) (by assumption) (fun _ h => h) (fun _ h => nomatch h) (by kst_all) ⟨j, hj0, hj1, hj2, hj3⟩)
            | exact .next (.mk (p - 1, _, _, _) (by assumption) (by assumption) (fun _ h => h) (fun _ h => nomatch h) (by kst_all) ⟨⟨j + 1, by dsimp only; omega, by omega, by omega, suff_more hj0 (by omega) (by omega) hj3 (by assumption)⟩, by dsimp only; omega⟩)
      · clear F N
        rintro ⟨p, t1, t2, t3⟩ u h tk ⟨j, hj0, hj1, hj2, hj3⟩ F N
        dsimp only at hj0 hj1 hj2 hj3 F N ⊢
        k_steps
        constructor
        rename Fr _ _ _ _ => F
        rename News _ _ _ _ => N
        refine cut_st (σ := Str × Tok) F (fun c => [(Str.ofString "post", .int p t1), (Str.ofString "a", .str c.1 c.2), (Str.ofString "b", .str b1 t3), (Str.ofString "max_cost", .int mx tm)]) (fun _ => news)
          (fun c => sl c.1 = (sl a1).take ((sl a1).length - j)) ?_ ?_
        · refine wpAny_Assign_Name ?_
          by_cases hp : p = 0
          · k_steps
            all_goals first
              | (exfalso; omega)
              | exact .next (.mk (a1, _) (by assumption) (by assumption) (fun _ h => h) (fun _ h => nomatch h) (by kst_all) (by rw [show j = 0 by omega, Nat.sub_zero, List.take_length]))
          · k_steps
            all_goals first
              | (exfalso; omega)
              | exact .next (.mk (_, _) (by assumption) (by assumption) (fun _ h => h) (fun _ h => nomatch h) (by kst_all) (by rw [hj0, sl_to_neg (by omega) (by omega), sl_len]))
        clear F N
        rintro ⟨a2, t2'⟩ u h tk ha2 F N
        dsimp only at ha2 F N ⊢
        k_steps
        constructor
        rename Fr _ _ _ _ => F
        rename News _ _ _ _ => N
        refine cut_st (σ := Str × Tok) F (fun c => [(Str.ofString "a", .str a2 t2'), (Str.ofString "b", .str c.1 c.2), (Str.ofString "max_cost", .int mx tm)]) (fun _ => news)
          (fun c => sl c.1 = (sl b1).take ((sl b1).length - j)) ?_ ?_
        · refine wpAny_Assign_Name ?_
          by_cases hp : p = 0
          · k_steps
            all_goals first
              | (exfalso; omega)
              | exact .next (.mk (b1, _) (by assumption) (by assumption) (fun _ h => h) (fun _ h => nomatch h) (by kst_all) (by rw [show j = 0 by omega, Nat.sub_zero, List.take_length]))
          · k_steps
            all_goals first
              | (exfalso; omega)
              | exact .next (.mk (_, _) (by assumption) (by assumption) (fun _ h => h) (fun _ h => nomatch h) (by kst_all) (by rw [hj0, sl_to_neg (by omega) (by omega), sl_len]))
        clear F N
        rintro ⟨b2, t3'⟩ u h tk hb2 F N
        dsimp only at hb2 F N ⊢
        have hD2 : ed cc (sl a) (sl b) = ed cc (sl a2) (sl b2) := by
          rw [hD, ha2, hb2]; exact strip_post cc0 cc_self hj3
        have hla2 : (sl a2).length ≤ a1.length := by rw [ha2, List.length_take]; omega
        have hlb2 : (sl b2).length ≤ b1.length := by rw [hb2, List.length_take]; omega
        rw [sl_len] at hla2 hlb2
        clear hD ha2 hb2 hj0 hj1 hj2 hj3
        k_steps
        · constructor
          rename Fr _ _ _ _ => F
          rename News _ _ _ _ => N
          have hla3 := sl_len a2
          have hlb3 := sl_len b2
          refine cut_st (σ := Str × Str × Tok × Tok) F (fun c => [(Str.ofString "a", .str c.1 c.2.2.1), (Str.ofString "b", .str c.2.1 c.2.2.2), (Str.ofString "max_cost", .int mx tm)]) (fun _ => news)
            (fun c => ed cc (sl a) (sl b) = ed cc (sl c.2.1) (sl c.1) ∧ 0 < (sl c.1).length ∧ (sl c.1).length ≤ (sl c.2.1).length ∧ (sl c.2.1).length ≤ 40) ?_ ?_
          · refine wpAny_If ?_
            k_steps
            · exact .next (.mk (b2, a2, _, _) (by assumption) (by assumption) (by intro p hp; repeat (first | exact hp | apply List.mem_cons_of_mem)) (fun _ h => nomatch h) (by kst_all) ⟨hD2, by dsimp only; omega, by dsimp only; omega, by dsimp only; omega⟩)
            · exact .next (.mk (a2, b2, _, _) (by assumption) (by assumption) (fun _ h => h) (fun _ h => nomatch h) (by kst_all) ⟨hD2.trans (ed_comm cc cc0 cc_comm _ _), by dsimp only; omega, by dsimp only; omega, by dsimp only; omega⟩)
          clear F N
          rintro ⟨x, y, tx, ty⟩ u h tk ⟨hE, hx0, hxy, hy40⟩ F N
          dsimp only at hE hx0 hxy hy40 F N ⊢
          have hlx := sl_len x
          have hly := sl_len y
          k_steps
          · refine hret _ _ _ ⟨_, _, rfl, .inr ⟨rfl, ?_⟩⟩ (by assumption) (by assumption)
            have := (ed_len cc cc0 (sl y) (sl x)).1
            rw [hE]; omega
          constructor
          refine list_range_st (n := x.length) rfl (by assumption) (by assumption) (by assumption) (rsmall2 (by omega)) rsize2 (by omega) ?_
          intro h' tk' ys nn R F N hRn hys
          k_steps
          constructor
          refine range_st (σ := List Value × Int × Tok) (n := y.length) (fun c => [(Str.ofString "a", .str x tx), (Str.ofString "b", .str y ty), (Str.ofString "max_cost", .int mx tm), (Str.ofString "row", .ref R), (Str.ofString "result", .int c.2.1 c.2.2)])
            (fun c => (R, listOf c.1.toArray nn) :: news)
            (fun i c => IntsAre c.1 ((List.range x.length).map fun j => dd cc (sl y) (sl x) i (j + 1)) ∧ (0 < i → c.2.1 = dd cc (sl y) (sl x) i x.length)) (ys, 0, _)
            (fun _ _ => rfl) rfl (by assumption) (small_one (by omega) (by omega) (by omega) (by omega)) rsize1 (by assumption) (by assumption) (fun _ h => h) (by kst_all) ⟨?_, fun h => absurd h (Nat.lt_irrefl _)⟩ ?_ ?_
          · exact Eq.mp (congrArg (IntsAre _) (row_start hlx.symm)) hys
          · rintro i ⟨vs, res, tr⟩ v t h9 tk9 own hi hoff ⟨hvs, hres⟩ F N
            dsimp only at hvs hres F N hoff
            have hne : ∀ p ∈ news ++ own, p.1 ≠ R := by
              intro p hp
              rcases List.mem_append.mp hp with hp | hp
              · exact hRn p hp
              · exact hoff p hp R (List.Mem.head _)
            rw [List.cons_append] at N
            k_steps
            constructor
            refine range_st (σ := List Value × (Int × Tok) × (Int × Tok) × (Int × Tok)) (n := x.length)
              (fun c => [(Str.ofString "a", .str x tx), (Str.ofString "b", .str y ty), (Str.ofString "max_cost", .int mx tm), (Str.ofString "row", .ref R), (Str.ofString "bchar", .str (Txt.item y (0 + (i : Int))) _),
                (Str.ofString "distance", .int c.2.1.1 c.2.1.2), (Str.ofString "result", .int c.2.2.1.1 c.2.2.1.2), (Str.ofString "minimum", .int c.2.2.2.1 c.2.2.2.2)])
              (fun c => (R, listOf c.1.toArray nn) :: (news ++ own))
              (fun j c => IntsAre c.1 ((List.range x.length).map fun q => if q < j then dd cc (sl y) (sl x) (i + 1) (q + 1) else dd cc (sl y) (sl x) i (q + 1)) ∧ c.2.1.1 = dd cc (sl y) (sl x) i j ∧
                c.2.2.1.1 = (if j = 0 then 2 * (i : Int) else dd cc (sl y) (sl x) (i + 1) j) ∧ ∀ q, q < j → c.2.2.2.1 ≤ dd cc (sl y) (sl x) (i + 1) (q + 1)) (vs, (_, _), (_, _), (_, _))
              (fun _ _ => rfl) rfl (by assumption) (small_one (by omega) (by omega) (by omega) (by omega)) rsize1 (by assumption) (by assumption) (fun _ h => h) (by kst_all) ?_ ?_ ?_
            · dsimp only
              refine ⟨Eq.mp (congrArg (IntsAre _) ?_) hvs, ?_, ?_, fun q hq => absurd hq (Nat.not_lt_zero _)⟩
              · apply List.map_congr_left
                intro q hq
                rw [if_neg (Nat.not_lt_zero _)]
              · rw [dd_zero_r cc (sl y) (sl x) i (by omega)]; omega
              · rw [if_pos rfl]; omega
            · rintro j ⟨vs', ⟨ds, td⟩, ⟨rs, tr'⟩, ⟨mn, tmn⟩⟩ v' t' h10 tk10 own' hj hoff' ⟨hvs', hds, hrs, hmn⟩ F N
              dsimp only at hvs' hds hrs hmn F N hoff'
              have hne' : ∀ p ∈ news ++ own ++ own', p.1 ≠ R := by
                intro p hp
                rcases List.mem_append.mp hp with hp | hp
                · exact hne p hp
                · exact hoff' p hp R (List.Mem.head _)
              rw [List.cons_append] at N
              have hj0 : (0 + (j : Int)).toNat = j := by omega
              have hro : ((List.range x.length).map fun q => if q < j then dd cc (sl y) (sl x) (i + 1) (q + 1) else dd cc (sl y) (sl x) i (q + 1)).getD (0 + (j : Int)).toNat 0 = dd cc (sl y) (sl x) i (j + 1) := by
                rw [hj0]; exact getD_row _ _ hj
              have hiy : i < (sl y).length := by omega
              have hjx : j < (sl x).length := by omega
              have hsc : subCost (Txt.item y (0 + (i : Int))) (Txt.item x (0 + (j : Int))) = cc (sl y)[i] (sl x)[j] := by
                rw [show (0 + (i : Int)) = (i : Int) by omega, show (0 + (j : Int)) = (j : Int) by omega, item_at hiy, item_at hjx]; rfl
              have hst := step_vals cc0 cc2 hiy hjx hds hrs hro hsc
              k_steps
              all_goals
                (rename IntsAre _ _ => hi9)
                refine .next (.mk (_, (_, _), (_, _), (_, _)) (by assumption) (by assumption) (List.forall_mem_cons.mpr ⟨List.Mem.head _, fun p hp => .tail _ (List.mem_append_left _ hp)⟩) (fun p hp => .tail _ (List.mem_append_right _ hp)) (by kst_all) ?_)
                dsimp only
                refine ⟨Eq.mp (congrArg (IntsAre _) ?_) hi9, hro, ?_, fun q hq => ?_⟩
                · rw [hst, hj0]
                  exact set_row (fun q => dd cc (sl y) (sl x) (i + 1) (q + 1)) (fun q => dd cc (sl y) (sl x) i (q + 1))
                · rw [if_neg (Nat.succ_ne_zero j)]; exact hst
                · have hq' := hmn q
                  by_cases e : q = j
                  · subst e
                    first
                      | (rw [hst]; done)
                      | exact Int.le_of_eq hst
                      | (rename ¬ (_ < mn) => hlt; rw [hst] at hlt; omega)
                  · have h9 := hq' (by omega)
                    first
                      | exact h9
                      | (rename _ < mn => hlt; omega)
            · rintro ⟨vs', ⟨ds, td⟩, ⟨rs, tr'⟩, ⟨mn, tmn⟩⟩ v' h10 tk10 ⟨hvs', hds, hrs, hmn⟩ F N
              dsimp only at hvs' hds hrs hmn F N ⊢
              k_steps
              · rename News _ _ _ _ => N9
                refine hret _ _ _ ⟨_, _, rfl, .inr ⟨rfl, ?_⟩⟩ (by assumption) (fun p hp => N9 p (.tail _ (List.mem_append_left _ hp)))
                obtain ⟨q, hq1, hq2⟩ := dd_min cc cc0 cc2 (sl y) (sl x) i (by omega) hx0
                have := hmn q (by omega)
                rw [hE]; omega
              · refine .next (.mk (_, _, _) (by assumption) (by assumption) (List.forall_mem_cons.mpr ⟨List.Mem.head _, fun p hp => .tail _ (List.mem_append_left _ hp)⟩) (fun p hp => .tail _ (List.mem_append_right _ hp)) (by kst_all) ?_)
                dsimp only
                refine ⟨Eq.mp (congrArg (IntsAre _) ?_) hvs', fun _ => ?_⟩
                · apply List.map_congr_left
                  intro q hq
                  rw [if_pos (List.mem_range.mp hq)]
                · rw [hrs, if_neg (by omega)]
          · rintro ⟨vs, res, tr⟩ v h9 tk9 ⟨hvs, hres⟩ F N
            dsimp only at hvs hres F N ⊢
            k_steps
            rename News _ _ _ _ => N9
            refine hret _ _ _ ⟨_, _, rfl, .inl ?_⟩ (by assumption) (fun p hp => N9 p (.tail _ hp))
            rw [hE, hres (by omega), ← hly, ← hlx]
            exact dd_full cc (sl y) (sl x)
        all_goals
          refine hret _ _ _ ⟨_, _, rfl, .inl ?_⟩ (by assumption) (by assumption)
          rw [hD2]
        · have : sl b2 = [] := List.eq_nil_of_length_eq_zero (by rw [sl_len]; omega)
          rw [this, ed_nil_r, sl_len]; have := sl_len b2; simp_all
        · have : sl a2 = [] := List.eq_nil_of_length_eq_zero (by rw [sl_len]; omega)
          rw [this, ed_nil, sl_len]; have := sl_len a2; simp_all
end Mine
end
section
set_option maxHeartbeats 3000000
open PySem PySem.W PyProof.Rows
namespace Mine
local macro_rules | `(tactic| walk_at "execs cons") => `(tactic| ((with_reducible refine wpAny_execs_cons ?_); try dsimp only))
local macro_rules | `(tactic| walk_at "execs nil") => `(tactic| ((with_reducible refine wpAny_execs_nil ?_); try dsimp only))
local macro_rules | `(tactic| walk_at "CutPost") => `(tactic| with_reducible refine CutPost.ret ?_)
local macro_rules | `(tactic| walk_at "TurnPost") => `(tactic| first | with_reducible refine TurnPost.ret ?_ | with_reducible refine TurnPost.brk ?_)
local macro_rules | `(tactic| walk_at "exec For") => `(tactic| refine Stop.out ?_)
local macro_rules | `(tactic| walk_at "pyIter ref") => `(tactic| refine Stop.out ?_)
local macro_rules | `(tactic| walk_at "call builtin:hex") => `(tactic| (refine P.hex_of_int ?_ (by assumption)))
local macro_rules | `(tactic| walk_at "call builtin:dict.get") => `(tactic| ((with_reducible rename KTD.Keyed _ _ _ => kyX); (with_unfolding_all refine get_flag (T := flagTab) kyX (by kt_keeps) ?_); intro tG))
local macro_rules | `(tactic| walk_at "call builtin:list.append") => `(tactic| (k_dflt (refine' append_st ?k1 ?k2 ?k3 ?k4 ?_; (case k1 => k_asm); (case k2 => k_asm); (case k3 => assumption); (case k4 => assumption)); intro h' F' N'))
theorem flags_claim (w : World) (mean : ExcName → Option Value) (mg mb : Str → Option Value) (x : Int) (tx : Tok) (news : List (Addr × Obj)) :
    Claim 2 PySem.Challenge.rw_ny0089_02.row.prog w (hd.heap_39 w.params) hd.view_39 (looseW hd.view_39 [Str.ofString "COMPILER_FLAG_NAMES"]) mean mg mb 36 news
      ((baseText "0x" 16 (x / 2 ^ 32 * 2 ^ 32)).length ≤ 100) [.int x tx] (fun v => ∃ t, v = .str (Txt.join (Str.ofString ", ") (pfAll x)) t) := by
  k_fill
  w_top off
  dsimp only [Claim, Ret]
  intros
  rename_i hp1 hd1 hu1 hret
  refine wpAny_call ?_
  k_dflt cell_enter
  k_steps
  constructor
  rename Fr _ _ _ _ => F
  rename News _ _ _ _ => N
  rename ∀ p ∈ news, p.1 < _ => hlt
  rename Addr => l
  refine cut_st (σ := List Value × Nat × List Str) F (fun c => [(Str.ofString "names", .ref l)]) (fun c => (l, listOf c.1.toArray c.2.1) :: news) (fun c => StrsAre c.1 c.2.2 ∧ c.2.2 = pfAll x) ?_ ?_
  · refine wpAny_For ?_
    k_steps
    constructor
    refine range_else_st (σ := Int × Tok × List Value × Nat × List Str) (n := 32) (fun c => [(Str.ofString "flags", .int c.1 c.2.1), (Str.ofString "names", .ref l)])
      (fun c => (l, listOf c.2.2.1.toArray c.2.2.2.1) :: news)
      (fun i c => StrsAre c.2.2.1 c.2.2.2.2 ∧ c.1 = x / 2 ^ i * 2 ^ i ∧ c.2.2.2.2 = pfw x i ∧ (c.2.2.2.2 ≠ [] → c.1 ≠ 0)) (x, tx, [], 0, []) (fun _ _ => rfl) rfl (by assumption) (by decide) (by decide) (by assumption) (by assumption) (fun _ h => h) (by kst_all) ?_ ?_ ?_
    · exact ⟨.nil, by simp, rfl, fun h => absurd rfl h⟩
    · rintro i ⟨fl, tf, vs, nn, ws⟩ v t h9 tk9 own hi hoff ⟨hvs, hc1, hc2, hc3⟩ F N
      dsimp only at hvs hc1 hc2 hc3 F N hoff
      rw [List.cons_append] at N
      have hi0 : (1 : Int) * 2 ^ (0 + (i : Int)).toNat = 2 ^ i := by rw [Int.one_mul]; congr 1; omega
      have hhx : (baseText "0x" 16 (1 * 2 ^ (0 + (i : Int)).toNat)).length ≤ sizeLine := by rw [hi0]; exact hex_fits i hi
      have hne : ∀ p ∈ news ++ own, p.1 ≠ l := by
        intro p hp
        rcases List.mem_append.mp hp with hp | hp
        · exact Nat.ne_of_lt (hlt p hp)
        · exact hoff p hp l (List.Mem.head _)
      have hsz : vs.length ≤ sizeLine := by
        have h1 := hvs.length
        have h2 := pfw_len x i
        rw [← hc2] at h2
        exact Nat.le_trans (by omega : vs.length ≤ 32) (by decide)
      have hwd : (List.lookup (1 * 2 ^ (0 + (i : Int)).toNat) flagTab).getD (baseText "0x" 16 (1 * 2 ^ (0 + (i : Int)).toNat)) = flagWord i := by rw [hi0]; rfl
      k_steps
      · rename Builtin.bitAnd _ _ ≠ 0 => hb
        rename Builtin.bitXor _ _ ≠ 0 => hx
        obtain ⟨e1, e2, e3⟩ := turn_bit hi0 hc1 hc2 hb
        refine .next (.mk (_, _, _, _, ws ++ [flagWord i]) (by assumption) (by assumption) (List.forall_mem_cons.mpr ⟨List.Mem.head _, fun p hp => .tail _ (List.mem_append_left _ hp)⟩) (fun p hp => .tail _ (List.mem_append_right _ hp)) (by kst_all) ?_)
        dsimp only
        exact ⟨hvs.append' (hwd ▸ .cons _ _ .nil), e2, e3, fun _ => hx⟩
      · rename Builtin.bitAnd _ _ ≠ 0 => hb
        rename Builtin.bitXor _ _ = 0 => hx
        obtain ⟨e1, e2, e3⟩ := turn_bit hi0 hc1 hc2 hb
        refine .next (.mk (_, _, ws ++ [flagWord i]) (by assumption) (by assumption) (List.forall_mem_cons.mpr ⟨List.Mem.head _, fun p hp => .tail _ (List.mem_append_left _ hp)⟩) (fun _ h => nomatch h) (by kst_all) ?_)
        dsimp only
        exact ⟨hvs.append' (hwd ▸ .cons _ _ .nil), by rw [hc2]; exact (pfAll_brk hi e1 (e2 ▸ hx)).symm⟩
      · rename Builtin.bitAnd _ _ = 0 => hb
        obtain ⟨e2, e3⟩ := turn_none hi0 hc1 hc2 hb
        refine .next (.mk (_, _, _, _, ws) (by assumption) (by assumption) (List.forall_mem_cons.mpr ⟨List.Mem.head _, fun p hp => .tail _ (List.mem_append_left _ hp)⟩) (fun p hp => .tail _ (List.mem_append_right _ hp)) (by kst_all) ?_)
        dsimp only
        exact ⟨hvs, e2, e3, hc3⟩
    · rintro ⟨fl, tf, vs, nn, ws⟩ v h9 tk9 ⟨hvs, hc1, hc2, hc3⟩ F N
      dsimp only at hvs hc1 hc2 hc3 F N
      have hsz : vs.length ≤ sizeLine := by
        have h1 := hvs.length
        have h2 := pfw_len x 32
        rw [← hc2] at h2
        exact Nat.le_trans (by omega : vs.length ≤ 32) (by decide)
      have hne : ∀ p ∈ news, p.1 ≠ l := fun p hp => Nat.ne_of_lt (hlt p hp)
      have hhx : (baseText "0x" 16 fl).length ≤ sizeLine := by rw [hc1]; exact Nat.le_trans hp1 (by decide)
      k_steps
      refine .next (.mk (_, _, ws ++ [baseText "0x" 16 fl]) (by assumption) (by assumption) (List.forall_mem_cons.mpr ⟨List.Mem.head _, fun p hp => .tail _ hp⟩) (fun _ h => nomatch h) (by kst_all) ?_)
      dsimp only
      refine ⟨hvs.append' (.cons _ _ .nil), ?_⟩
      rw [hc2, hc1] at hc3
      rw [hc2, hc1]
      exact (pfAll_else hc3).symm
  · clear F N
    rintro ⟨vs, nn, ws⟩ v h9 tk9 ⟨hvs, hws⟩ F N
    dsimp only at hvs hws F N ⊢
    k_steps
    have hwt := pfAll_weight hp1
    rw [← hws] at hwt
    refine join_listW (PySem.IsL.isList (n := nn) (N (l, listOf vs.toArray nn) (.head _)).1) (by simpa using hvs) (by decide) hwt ?_
    intro t' k'
    k_steps
    rename News _ _ _ _ => N9
    exact hret _ _ _ ⟨_, by rw [hws]⟩ (by assumption) (fun p hp => N9 p (.tail _ hp))
end Mine
end
section
set_option maxHeartbeats 3000000
open PySem PySem.W PyProof.Rows
namespace Mine
local macro_rules | `(tactic| walk_at "execs cons") => `(tactic| ((with_reducible refine wpAny_execs_cons ?_); try dsimp only))
local macro_rules | `(tactic| walk_at "execs nil") => `(tactic| ((with_reducible refine wpAny_execs_nil ?_); try dsimp only))
local macro_rules | `(tactic| walk_at "eval ListComp") => `(tactic| k_dflt (refine LCt.ListComp_T (F₀ := by k_asm) (by with_unfolding_all rfl) (by decide) (by rfl) (by decide) (by rfl) ?_))
local macro_rules | `(tactic| walk_at "CompSrcT") => `(tactic| refine Stop.out ?_)
theorem bit_py {x : Int} {i : Nat} {k : Int} (hk : k.toNat = i) : (x.fdiv (2 ^ k.toNat)).fmod 2 = 1 ↔ hasBit x i = true := by
  rw [hk, hasBit, decide_eq_true_eq, Int.fdiv_eq_ediv_of_nonneg _ (Int.le_of_lt (kbt_pos i)), Int.fmod_eq_emod_of_nonneg _ (by decide)]
theorem sum_claim (w : World) (mean : ExcName → Option Value) (mg mb : Str → Option Value) (x : Int) (tx : Tok) (news : List (Addr × Obj)) :
    Claim 4 PySem.Challenge.rw_ny0089_02.row.prog w (hd.heap_39 w.params) hd.view_39 (looseW hd.view_39 [Str.ofString "COMPILER_FLAG_NAMES"]) mean mg mb 46 news
      (0 ≤ x ∧ x < 1024) [.int x tx] (fun v => ∃ t, v = .int (sumL x 10).sum t) := by
  k_fill
  w_top off
  dsimp only [Claim, Ret]
  intros
  rename_i hpre hd1 hu1 hret
  obtain ⟨hp1, hp2⟩ := hpre
  refine wpAny_call ?_
  first
    | (k_dflt (refine' code_defC ?k1 ?k2 ?k3 ?k4 ?k5 ?kA ?kF ?kK ?k6 ?k7 ?k8 ?k9 ?kB ?kD ?_ ?c2 ?c3 ?c4; (case kA => exact rfl); (case kF => exact rfl); (case kK => assumption); (case k1 => k_asm); (case k2 => k_asm); (case k3 => k_asm); (case k4 => k_asm); (case k5 => k_asm); (case k6 => k_is); (case k7 => k_is); (case k8 => (dsimp only [ktrTop]; omega)); (case k9 => exact BindsTo.of_eq rfl); (case kB => exact rfl); (case kD => decide +kernel); (case c2 => exact rfl); (case c3 => exact rfl); (case c4 => exact rfl); k_whole; intro g' L' h' tk' cells' FG' F' N' Y' B' X' T' l1; k_cells Y'; (try simp only [List.cons_append, List.nil_append] at N'); (try dsimp only); (try k_lift B'); (try k_fold)))
    | fail "enter"
  k_steps
  constructor
  refine comp_rangeT (n := 10) (fun i ys => IntsAre ys (sumL x i)) rfl (by assumption) (by assumption) (by assumption) (by decide) (by decide) (by decide) .nil ?_ ?_
  · intro i ti I oI C oC D m₂ g h tk ys E' hi hys hns hm F N
    have hsL : sumL x (i + 1) = if hasBit x i = true then sumL x i ++ [(1 : Int) + i] else sumL x i := by
      unfold sumL
      rw [List.range_succ, List.filter_append, List.map_append]
      by_cases h : hasBit x i
      · simp [h]
      · simp [h]
    k_steps
    · rename Int.fmod _ _ = 1 => hb
      have hb' := (bit_py (x := x) (i := i) (k := 1 + (i : Int) - 1) (by omega)).mp hb
      rw [if_pos hb'] at hsL
      refine .mk (by assumption) (by assumption) (fun _ h => h) ?_
      rw [hsL]
      exact IntsAre.append hys (.cons _ _ .nil)
    · rename Int.fmod _ _ ≠ 1 => hb
      have hb' : ¬ hasBit x i = true := fun h => hb ((bit_py (x := x) (i := i) (k := 1 + (i : Int) - 1) (by omega)).mpr h)
      rw [if_neg hb'] at hsL
      exact .mk (by assumption) (by assumption) (fun _ h => h) (by rw [hsL]; exact hys)
  · intro ys D h tk hys F N hD
    k_steps
    rename News _ _ _ _ => N9
    exact hret _ _ _ ⟨_, rfl⟩ (by assumption) (fun p hp => N9 p (.tail _ (.tail _ hp)))
end Mine
end
section
set_option maxHeartbeats 3000000
open PySem PySem.W PyProof.Rows
namespace Mine
local macro_rules | `(tactic| walk_at "execs cons") => `(tactic| ((with_reducible refine wpAny_execs_cons ?_); try dsimp only))
local macro_rules | `(tactic| walk_at "execs nil") => `(tactic| ((with_reducible refine wpAny_execs_nil ?_); try dsimp only))
theorem spoilt_claim (w : World) (mean : ExcName → Option Value) (mg mb : Str → Option Value) (a : Str) (ta : Tok) (x : Int) (tx : Tok) (news : List (Addr × Obj)) :
    Claim 2 PySem.Challenge.rw_ny0089_02.row.prog w (hd.heap_39 w.params) hd.view_39 (looseW hd.view_39 [Str.ofString "COMPILER_FLAG_NAMES"]) mean mg mb 53 news
      (a.length = 10) [.str a ta, .int x tx] (fun v => ∃ y t, v = .str y t ∧ Spoil (sl a) (sl y)) := by
  k_fill
  w_top off
  dsimp only [Claim, Ret]
  intros
  rename_i hpre hd1 hu1 hret
  refine wpAny_call ?_
  first | k_dflt cell_enter | fail "enter"
  have hp := fmod_range (x := x.fdiv 3) (n := 11) (by decide)
  have hq := fmod_range (x := x.fdiv 33) (n := 5) (by decide)
  obtain ⟨h1, h2, h3⟩ := spoil_of hpre hp.1 hp.2 hq.1 hq.2
  k_steps
  · exact hret _ _ _ ⟨_, _, rfl, h1⟩ (by assumption) (by assumption)
  · exact hret _ _ _ ⟨_, _, rfl, h2⟩ (by assumption) (by assumption)
  · exact hret _ _ _ ⟨_, _, rfl, h3⟩ (by assumption) (by assumption)
end Mine
end
section
set_option maxHeartbeats 3000000
open PySem PySem.W PyProof.Rows
namespace Mine
local macro_rules | `(tactic| walk_at "execs cons") => `(tactic| ((with_reducible refine wpAny_execs_cons ?_); try dsimp only))
local macro_rules | `(tactic| walk_at "execs nil") => `(tactic| ((with_reducible refine wpAny_execs_nil ?_); try dsimp only))
local macro_rules | `(tactic| walk_at "eval ListComp") => `(tactic| k_dflt (refine LCg.ListComp_U (F₀ := by k_asm) (by with_unfolding_all rfl) (by decide) (by rfl) (by decide) (by rfl) ?_))
local macro_rules | `(tactic| walk_at "CompSrc") => `(tactic| refine Stop.out ?_)
local macro_rules | `(tactic| walk_at "call ref") => `(tactic| ((with_reducible show wpAny _ _ (call (Value.ref 36) _) _ _ _); k_dflt (refine' flags_claim _ _ _ _ _ _ _ _ _ _ _ _ _ _ _ _ _ _ _ _ _ _ _ _ ?k1 ?k2 ?k3 ?k4 ?k5 ?kK ?kp ?kd ?ku ?_; (case k1 => k_asm); (case k2 => k_asm); (case k3 => k_asm); (case k4 => k_asm); (case k5 => k_asm); (case kK => first | exact rfl | assumption); (case kd => (dsimp only [ktrTop]; omega)); (case ku => (dsimp only [ktrTop]; omega)); (case kp => assumption)); (rintro v9 h9 tk9 ⟨t9, e9⟩ F9 N9); subst e9; try dsimp only))
local macro_rules | `(tactic| walk_at "call builtin:str.split") => `(tactic| (k_dflt (refine' split_st ?k1 ?k2 ?k3 ?k4 ?k5 ?_; (case k1 => k_asm); (case k2 => k_asm); (case k3 => assumption); (case k4 => assumption); (case k5 => assumption)); intro vsS DS hS kS hvS FS NS hnS; (have hnS1 : @Ne Nat _ _ := hnS _ (List.Mem.head _)); dsimp only at hnS1))
local macro_rules | `(tactic| k_all) => `(tactic| assumption)
def names10 : List Str := [Str.ofString "OPTIMIZED", Str.ofString "NEWLOCALS", Str.ofString "VARARGS", Str.ofString "VARKEYWORDS", Str.ofString "NESTED", Str.ofString "GENERATOR", Str.ofString "NOFREE", Str.ofString "COROUTINE", Str.ofString "ITERABLE_COROUTINE", Str.ofString "ASYNC_GENERATOR"]
theorem names10_eq : names10 = (List.range 10).map flagWord := by decide +kernel
def boxStr (b : Bool) : Str := if b then Str.ofString "x" else Str.ofString "o"
theorem names_item {t0 t1 t2 t3 t4 t5 t6 t7 t8 t9 : Tok} {i : Nat} {v : Value} (h : ([.str (Str.ofString "OPTIMIZED") t0, .str (Str.ofString "NEWLOCALS") t1, .str (Str.ofString "VARARGS") t2, .str (Str.ofString "VARKEYWORDS") t3, .str (Str.ofString "NESTED") t4, .str (Str.ofString "GENERATOR") t5, .str (Str.ofString "NOFREE") t6, .str (Str.ofString "COROUTINE") t7, .str (Str.ofString "ITERABLE_COROUTINE") t8, .str (Str.ofString "ASYNC_GENERATOR") t9] : List Value)[i]? = some v) (hi : i < 10) : ∃ t, v = .str (flagWord i) t := by
  have hnm : StrsAre ([.str (Str.ofString "OPTIMIZED") t0, .str (Str.ofString "NEWLOCALS") t1, .str (Str.ofString "VARARGS") t2, .str (Str.ofString "VARKEYWORDS") t3, .str (Str.ofString "NESTED") t4, .str (Str.ofString "GENERATOR") t5, .str (Str.ofString "NOFREE") t6, .str (Str.ofString "COROUTINE") t7, .str (Str.ofString "ITERABLE_COROUTINE") t8, .str (Str.ofString "ASYNC_GENERATOR") t9] : List Value) names10 := .cons _ _ (.cons _ _ (.cons _ _ (.cons _ _ (.cons _ _ (.cons _ _ (.cons _ _ (.cons _ _ (.cons _ _ (.cons _ _ .nil)))))))))
  obtain ⟨y, ty, rfl, hy⟩ := StrsAre.item hnm i v h
  rw [names10_eq, List.getElem?_map, List.getElem?_range hi] at hy
  exact ⟨ty, by rw [← Option.some.inj hy]⟩
theorem box_len : ∀ b, (boxStr b).length = 1 := by decide +kernel
theorem sl_glue0 : ∀ (ws : List Str), sl (Txt.join (Str.ofString "") ws) = (ws.map sl).flatten
  | [] => rfl
  | w :: r => by
    have e : Txt.join (Str.ofString "") (w :: r) = Str.join (Str.ofString "") (w :: r) := StrLaws.glued_eq_join _ _
    rw [e]
    induction r generalizing w with
    | nil => simp [Str.join]
    | cons v r ih =>
      show sl (w ++ Str.ofString "" ++ Str.join (Str.ofString "") (v :: r)) = _
      rw [sl_append, sl_append, ih v (StrLaws.glued_eq_join _ _), show sl (Str.ofString "") = [] from by decide +kernel]
      simp
theorem flat_one {α β : Type} (f : α → β) : ∀ l : List α, (l.map fun j => [f j]).flatten = l.map f
  | [] => rfl
  | a :: l => by simp [flat_one f l]
theorem boxes_sl (x : Int) : sl (Txt.join (Str.ofString "") ((List.range 10).map fun j => boxStr (hasBit x j))) = (List.range 10).map fun j => if hasBit x j then 120 else 111 := by
  rw [sl_glue0, List.map_map]
  have h : ∀ j, (sl ∘ fun j => boxStr (hasBit x j)) j = [if hasBit x j then 120 else 111] := by
    intro j
    show sl (boxStr (hasBit x j)) = _
    cases hasBit x j <;> decide +kernel
  rw [show (sl ∘ fun j => boxStr (hasBit x j)) = fun j => [if hasBit x j then 120 else 111] from funext h]
  exact flat_one _ _
theorem boxes_claim (w : World) (mean : ExcName → Option Value) (mg mb : Str → Option Value) (x : Int) (tx : Tok) (news : List (Addr × Obj)) :
    Claim 4 PySem.Challenge.rw_ny0089_02.row.prog w (hd.heap_39 w.params) hd.view_39 (looseW hd.view_39 [Str.ofString "COMPILER_FLAG_NAMES"]) mean mg mb 41 news
      (0 ≤ x ∧ x < 1024) [.int x tx] (fun v => ∃ y t, v = .str y t ∧ sl y = (List.range 10).map fun j => if hasBit x j then 120 else 111) := by
  k_fill
  w_top off
  dsimp only [Claim, Ret]
  intros
  rename_i hpre hd1 hu1 hret
  obtain ⟨hp1, hp2⟩ := hpre
  have hx0 : x / 2 ^ 32 = 0 := by omega
  have hhx : (baseText "0x" 16 (x / 2 ^ 32 * 2 ^ 32)).length ≤ 100 := by rw [hx0]; decide +kernel
  have hwt := pfAll_weight hhx
  have hfr := pfAll_free (x := x) (by rw [hx0]; decide +kernel)
  have hne := pfAll_ne x
  refine wpAny_call ?_
  first
    | (k_dflt (refine' code_defC ?k1 ?k2 ?k3 ?k4 ?k5 ?kA ?kF ?kK ?k6 ?k7 ?k8 ?k9 ?kB ?kD ?_ ?c2 ?c3 ?c4; (case kA => exact rfl); (case kF => exact rfl); (case kK => assumption); (case k1 => k_asm); (case k2 => k_asm); (case k3 => k_asm); (case k4 => k_asm); (case k5 => k_asm); (case k6 => k_is); (case k7 => k_is); (case k8 => (dsimp only [ktrTop]; omega)); (case k9 => exact BindsTo.of_eq rfl); (case kB => exact rfl); (case kD => decide +kernel); (case c2 => exact rfl); (case c3 => exact rfl); (case c4 => exact rfl); k_whole; intro g' L' h' tk' cells' FG' F' N' Y' B' X' T' l1; k_cells Y'; (try simp only [List.cons_append, List.nil_append] at N'); (try dsimp only); (try k_lift B'); (try k_fold)))
    | fail "enter"
  have l2 : ∀ p ∈ news, p.1 ≠ L' + 1 := fun p hp => Nat.ne_of_lt (Nat.lt_succ_of_lt (l1 p hp))
  k_steps
  constructor
  refine comp_list (fun i ys => StrsAre ys ((List.range i).map fun j => boxStr (hasBit x j))) rfl (by assumption) (by assumption) (List.Mem.head _) (by show 10 ≤ sizeLine; decide) .nil ?_ ?_
  · intro i v I oI C oC D m₂ g h tk ys E' hi hys hv hns hm F N
    have hi' : i < 10 := hi
    obtain ⟨ty, rfl⟩ := names_item hv hi'
    clear hv
    have hmem := mem_pfAll hx0 (j := i) (by omega)
    have hsucc : ((List.range (i + 1)).map fun j => boxStr (hasBit x j)) = ((List.range i).map fun j => boxStr (hasBit x j)) ++ [boxStr (hasBit x i)] := by
      rw [List.range_succ, List.map_append]; rfl
    k_steps
    · refine .mk (by assumption) (by assumption) (fun _ h => h) ?_
      rw [hsucc]
      have hb : hasBit x i = true := by
        rename ((pfAll x).any _) = true => ha
        obtain ⟨y, h1, h2⟩ := List.any_eq_true.mp ha
        exact hmem.mp (eq_of_beq h2 ▸ h1)
      rw [hb]
      exact hys.append' (.cons _ _ .nil)
    · refine .mk (by assumption) (by assumption) (fun _ h => h) ?_
      rw [hsucc]
      have hb : hasBit x i = false := by
        rename ((pfAll x).any _) = false => ha
        cases hb : hasBit x i with
        | false => rfl
        | true =>
          have h2 : ((pfAll x).any fun y => y == flagWord i) = true := List.any_eq_true.mpr ⟨flagWord i, hmem.mpr hb, by simp⟩
          rw [h2] at ha
          exact ha
      rw [hb]
      exact hys.append' (.cons _ _ .nil)
  · intro ys D h tk hys F N hD
    k_steps
    refine join_listW (PySem.IsL.isList (n := ys.length) (N (D, listOf ys.toArray ys.length) (.head _)).1) (by simpa using hys) (by decide) ?_ ?_
    · have h3 : ∀ y ∈ (List.range (10 : Nat)).map (fun j => boxStr (hasBit x j)), y.length ≤ 1 := by
        intro y hy
        obtain ⟨j, _, rfl⟩ := List.mem_map.mp hy
        exact Nat.le_of_eq (box_len _)
      have h4 := sum_le h3
      show (List.map (fun x => x.length) ((List.range (10 : Nat)).map (fun j => boxStr (hasBit x j)))).sum + ((List.range (10 : Nat)).map (fun j => boxStr (hasBit x j))).length ≤ 1048576
      rw [List.length_map, List.length_range] at h4 ⊢
      omega
    intro t' k'
    k_steps
    rename News _ _ _ _ => N9
    exact hret _ _ _ ⟨_, _, rfl, boxes_sl x⟩ (by assumption) (fun p hp => N9 p (by repeat' (first | exact hp | refine List.Mem.tail _ ?_)))
end Mine
end
section
set_option maxHeartbeats 3000000
open PySem PySem.W PyProof.Rows
namespace Mine
local macro_rules | `(tactic| walk_at "execs cons") => `(tactic| ((with_reducible refine wpAny_execs_cons ?_); try dsimp only))
local macro_rules | `(tactic| walk_at "execs nil") => `(tactic| ((with_reducible refine wpAny_execs_nil ?_); try dsimp only))
local macro_rules | `(tactic| walk_at "eval ListComp") => `(tactic| refine Stop.out ?_)
local macro_rules | `(tactic| walk_at "exec Assign cons ListComp") => `(tactic| refine Stop.out ?_)
local macro_rules | `(tactic| walk_at "exec For") => `(tactic| refine Stop.out ?_)
local macro_rules | `(tactic| walk_at "exec For Name Call cons nil") => `(tactic| refine Stop.out ?_)
local macro_rules | `(tactic| walk_at "exec Assign") => `(tactic| ((with_reducible show wpAny _ _ (exec (Stmt.Assign _ _ ⟨80, _, _, _⟩) _) _ _ _); refine Stop.out ?_))
local macro_rules | `(tactic| walk_at "exec Assign") => `(tactic| ((with_reducible show wpAny _ _ (exec (Stmt.Assign _ _ ⟨92, _, _, _⟩) _) _ _ _); refine Stop.out ?_))
local macro_rules | `(tactic| walk_at "CutPost") => `(tactic| with_reducible refine CutPost.ret ?_)
local macro_rules | `(tactic| walk_at "pyIter ref") => `(tactic| refine Stop.out ?_)
local macro_rules | `(tactic| walk_at "call ref") => `(tactic| refine Stop.out ?_)
local macro_rules | `(tactic| walk_at "subscriptTail Name Slice ref ref") => `(tactic| (first
  | ((with_reducible show wpAny _ _ (subscriptTail _ (Expr.Slice none (some _) none _) _ _) _ _ _); (with_reducible rename Fr _ _ _ _ => F'); (with_reducible rename News _ _ _ _ => N'); k_dflt (refine' slice_upto_ints (s := ⟨_, _, _, _, _⟩) F' N' ?hl ?hi ?h0 ?hz ?_; (case hl => first | assumption | is_list); (case hi => assumption); (case h0 => decide); (case hz => omega)))
  | ((with_reducible show wpAny _ _ (subscriptTail _ (Expr.Slice (some _) none none _) _ _) _ _ _); (with_reducible rename Fr _ _ _ _ => F'); (with_reducible rename News _ _ _ _ => N'); k_dflt (refine' slice_from_ints (s := ⟨_, _, _, _, _⟩) F' N' ?hl ?hi ?h0 ?hz ?_; (case hl => first | assumption | is_list); (case hi => with_reducible (first | assumption | exact (IntsAre.cons _ _ (IntsAre.cons _ _ (IntsAre.cons _ _ (IntsAre.cons _ _ (IntsAre.cons _ _ IntsAre.nil))))))); (case h0 => first | decide | omega); (case hz => first | omega | decide)))); intro D' h' us' F' N' l1 hI'; (try k_lt l1))
local macro_rules | `(tactic| walk_at "subscriptTail List cons Slice ref ref") => `(tactic| k_dflt (refine kba_turn (value' := PySem.Expr.Name (PySem.Str.ofString "_") ⟨0, 0, 0, 0⟩) (fun _ => rfl) ?_))
local macro_rules | `(tactic| walk_at "CompSrc") => `(tactic| refine Stop.out ?_)
local macro_rules | `(tactic| walk_at "CompSrcT") => `(tactic| refine Stop.out ?_)
local macro_rules | `(tactic| walk_at "binaryOp Add ref ref") => `(tactic| refine Stop.out ?_)
local macro_rules | `(tactic| k_all) => `(tactic| assumption)
theorem spoil_len {r y : List Nat} (h : Spoil r y) (hr : r.length = 10) : y.length ≤ 11 := by
  obtain ⟨p, c, hp, _, h | h | h⟩ := h <;> rw [h] <;> simp only [List.length_append, List.length_cons, List.length_take, List.length_drop] <;> omega
theorem law_holds : PySem.Challenge.rw_ny0089_02.Holds := hd (by
  k_go0
  (all_goals try k_fold)
  (rename Flt.MathXP _ _ _ => x1); clear x1
  (rename LooseAre _ _ _ => x1); clear x1
  (rename Glob _ _ _ _ _ _ _ _ => x1); clear x1
  (rename Tables _ _ _ _ => x1); clear x1
  (rename TopE _ _ _ _ => x1); clear x1
  (rename TopW _ _ _ => x1); clear x1
  (rename BMod _ _ _ _ _ => x1); clear x1
  (rename Ground _ _ _ _ _ _ _ _ _ => x1); try clear x1
  (rename Heap.CodeRec _ _ _ => x1); try clear x1
  (rename Fr _ _ _ _ => F)
  have F2 := fr_say [(Str.ofString "script", Value.ref _)] F (by kst_all)
  clear F
  revert F2
  generalize bindL _ _ _ = rest
  intro F2
  try ((rename Dflts _ _ _ _ _ => x1); clear x1)
  try ((rename Dflts _ _ _ _ _ _ => x1); clear x1)
  try ((rename CellsAre _ _ _ => x1); clear x1)
  (rename IntsAre _ _ => hI)
  rename List Int => w9
  (rename (Obj.data _ = Data.cell _) => d1); (have e1 : _ = Data.cell none := d1); clear d1
  (rename (Obj.data _ = Data.cell (bindC _ _ _ _)) => d1); (have e2 : _ = Data.cell none := d1); clear d1
  (rename (Obj.data _ = Data.cell (bindC _ _ _ _)) => d1); (have e3 : _ = Data.cell none := d1); clear d1
  (rename (Obj.data _ = Data.cell (bindC _ _ _ _)) => d1); (have e4 : _ = Data.cell none := d1); clear d1
  dsimp only
  rename_i p4 p3 p2 p1 hN0
  rename Shared => s1
  have hlen : w9.length ≤ 63 := by omega
  k_steps
  constructor
  rename Fr _ _ _ _ => F
  rename News _ _ _ _ => N
  obtain ⟨d0, d1, d2, d3, d4, hds⟩ := five (drawn_len w9)
  refine cut_st (σ := Addr × List Value × Nat) F (fun c => [(Str.ofString "drawn", .ref c.1)]) (fun c => [(c.1, listOf c.2.1.toArray c.2.2), (s1.heap.objs.size + 1 + 1 + 1 + 1, p4), (s1.heap.objs.size + 1 + 1 + 1, p3), (s1.heap.objs.size + 1 + 1, p2), (s1.heap.objs.size + 1, p1)]) (fun c => IntsAre c.2.1 [d0, d1, d2, d3, d4] ∧ s1.heap.objs.size + 1 + 1 + 1 + 1 < c.1) ?_ ?_
  · refine wpAny_Assign_Name ?_
    k_steps
    constructor
    (rename IntsAre _ (List.drop _ _) => hq2)
    (rename IntsAre _ (List.take _ _) => hq1)
    have z1 := hq1.length
    have z2 := hq2.length
    rw [List.length_take] at z1
    rw [List.length_drop] at z2
    simp only [List.length_cons, List.length_nil] at z2
    refine add_st (by assumption) (by assumption) (by k_mem) (by k_mem) (Nat.le_trans (by omega : _ ≤ 100) (by decide)) ?_
    intro D8 h8 F8 N8 hl8
    have hl9 : (@LT.lt Nat _ (s1.heap.objs.size + 1 + 1 + 1 + 1) D8) := hl8 (s1.heap.objs.size + 1 + 1 + 1 + 1, p4) (by k_mem)
    k_steps
    refine .next (.mk (_, _, _) (by assumption) (by assumption) (by kst_in) (fun _ h => nomatch h) (by kst_all) ⟨?_, ?_⟩)
    · have e : w9.take (Int.toNat 5) ++ ([3, 4, 2, 0, 136] : List Int).drop (w9.length : Int).toNat = [d0, d1, d2, d3, d4] := hds
      have hq := IntsAre.append hq1 hq2
      rw [e] at hq
      exact hq
    · exact hl9
  clear F N
  rintro ⟨D, vs, nn⟩ u h tk ⟨hvs, hDL⟩ F N
  dsimp only at hvs hDL F N ⊢
  generalize hnum : d0.fmod 1024 = num
  have hnum0 : 0 ≤ num ∧ num < 1024 := by rw [← hnum]; exact fmod_range (by decide)
  generalize hlow : d1.fmod 32 = low
  have hlow0 : 0 ≤ low ∧ low < 32 := by rw [← hlow]; exact fmod_range (by decide)
  have g0 : ([d0, d1, d2, d3, d4] : List Int).getD (Int.toNat 0) 0 = d0 := rfl
  have g1 : ([d0, d1, d2, d3, d4] : List Int).getD (Int.toNat 1) 0 = d1 := rfl
  k_steps
  simp only [g0, hnum] at *
  constructor
  k_dflt (refine' sum_claim _ _ _ _ _ _ _ _ _ _ _ _ _ _ _ _ _ _ _ _ _ _ _ _ ?k1 ?k2 ?k3 ?k4 ?k5 ?kK ?kp ?kd ?ku ?_)
  (case k1 => k_asm)
  (case k2 => k_asm)
  (case k3 => k_asm)
  (case k4 => k_asm)
  (case k5 => k_asm)
  (case kK => first | exact rfl | assumption)
  (case kd => decide)
  (case ku => decide)
  (case kp => exact hnum0)
  rintro _ h2 tk2 ⟨t2, rfl⟩ F2 N2
  try dsimp only
  k_steps
  simp only [g1, hlow] at *
  constructor
  k_dflt (refine' sum_claim _ _ _ _ _ _ _ _ _ _ _ _ _ _ _ _ _ _ _ _ _ _ _ _ ?k1 ?k2 ?k3 ?k4 ?k5 ?kK ?kp ?kd ?ku ?_)
  (case k1 => k_asm)
  (case k2 => k_asm)
  (case k3 => k_asm)
  (case k4 => k_asm)
  (case k5 => k_asm)
  (case kK => first | exact rfl | assumption)
  (case kd => decide)
  (case ku => decide)
  (case kp => exact ⟨hlow0.1, Int.lt_trans hlow0.2 (by decide)⟩)
  rintro _ h3 tk3 ⟨t3, rfl⟩ F3 N3
  try dsimp only
  k_steps
  constructor
  rename_i oW dW tL hA oL dL lS0 hB l1S hC oS0 F4 N4 dS0
  refine cut_st (σ := Addr × List Value × Nat × Obj × Obj × Tok) F4 (fun c => [(Str.ofString "number", .int num c.2.2.2.2.2), (Str.ofString "drawn", .ref D)])
    (fun c => [(c.1, listOf c.2.1.toArray c.2.2.1), (D, listOf vs.toArray nn), (s1.heap.objs.size + 1 + 1 + 1 + 1, c.2.2.2.2.1), (s1.heap.objs.size + 1 + 1 + 1, c.2.2.2.1), (s1.heap.objs.size + 1 + 1, oL), (s1.heap.objs.size + 1, oW)])
    (fun c => IntsAre c.2.1 (sumsAt (sumL low 10).sum 5) ∧ c.2.2.2.1.data = Data.cell (some (.ref c.1)) ∧ (@LT.lt Nat _ D c.1)) ?_ ?_
  · refine wpAny_For ?_
    k_steps
    constructor
    refine range_new_st (σ := Addr × List Value × Nat × Obj × Obj × Tok) (n := 5) (fun c => [(Str.ofString "number", .int num c.2.2.2.2.2), (Str.ofString "drawn", .ref D)])
      (fun c => [(c.1, listOf c.2.1.toArray c.2.2.1), (D, listOf vs.toArray nn), (s1.heap.objs.size + 1 + 1 + 1 + 1, c.2.2.2.2.1), (s1.heap.objs.size + 1 + 1 + 1, c.2.2.2.1), (s1.heap.objs.size + 1 + 1, oL), (s1.heap.objs.size + 1, oW)])
      (fun i c => IntsAre c.2.1 (sumsAt (sumL low 10).sum i) ∧ c.2.2.2.1.data = Data.cell (some (.ref c.1)) ∧ (∃ v, c.2.2.2.2.1.data = Data.cell v) ∧ (@LT.lt Nat _ D c.1))
      (lS0, [.int _ _], 0, oS0, p4, _) rfl (by assumption) (by decide) (by decide) (by assumption) (by assumption) (fun _ h => h) (by kst_all) ⟨.cons _ _ .nil, dS0, ⟨_, e4⟩, l1S.1⟩ ?_ ?_
    · rintro i ⟨lS, us, n, oS, oP, tN⟩ v t h9 tk9 own hi hoff ⟨hus, hdS, ⟨vP, hdP⟩, hlS⟩ F N
      dsimp only at hus hdS hdP hlS F N hoff
      have ow4 : ∀ p ∈ own, p.1 ≠ s1.heap.objs.size + 1 + 1 + 1 + 1 := fun p hp => hoff p hp _ (by simp)
      have ow3 : ∀ p ∈ own, p.1 ≠ s1.heap.objs.size + 1 + 1 + 1 := fun p hp => hoff p hp _ (by simp)
      simp only [List.cons_append, List.nil_append] at N
      have husl : us.length ≤ 32 := by
        have h1 := hus.length
        rw [sumsAt_len] at h1
        have h2 : 2 ^ i ≤ 2 ^ 5 := Nat.pow_le_pow_right (by decide) (by omega)
        omega
      k_steps
      constructor
      k_dflt (refine LCg.ListComp_U (F₀ := by k_asm) (by with_unfolding_all rfl) (by decide) (by rfl) (by decide) (by rfl) ?_)
      k_steps
      constructor
      refine comp_list (fun j ys => IntsAre ys (((sumsAt (sumL low 10).sum i).take j).map (· + (6 + (i : Int))))) rfl (by assumption) (by assumption) (List.Mem.head _) (Nat.le_trans husl (by decide)) .nil ?_ ?_
      · intro j v I oI C oC D9 m₂ g h tk ys E' hj hys hv hns hm F N
        obtain ⟨nv, tv, rfl, hnv⟩ := ints_item hus hv
        clear hv
        k_steps
        refine .mk (by assumption) (by assumption) (fun _ h => h) ?_
        rw [take_map_succ _ hnv]
        exact IntsAre.append hys (.cons _ _ .nil)
      · intro ys D9 h tk hys F N hD9
        rw [hus.length, List.take_length] at hys
        have hysl : ys.length ≤ 32 := by
          have h1 := hys.length
          rw [List.length_map, ← hus.length] at h1
          omega
        k_steps
        constructor
        refine add_st (by assumption) (by assumption) (List.Mem.tail _ (List.Mem.head _)) (List.Mem.head _) (Nat.le_trans (by omega : _ ≤ 64) (by decide)) ?_
        intro D8 h8 F8 N8 hl8
        have l8 : (@LT.lt Nat _ D9 D8) := hl8 _ (List.Mem.head _)
        have l7 : (@LT.lt Nat _ lS D8) := hl8 _ (List.Mem.tail _ (List.Mem.head _))
        have l6 : (@LT.lt Nat _ D D8) := hl8 _ (List.Mem.tail _ (List.Mem.tail _ (List.Mem.head _)))
        have lo8 : ∀ p ∈ own, p.1 ≠ D8 := fun p hp => Nat.ne_of_lt (hl8 p (by simp [hp]))
        have hD93 : @Ne Nat (s1.heap.objs.size + 1 + 1 + 1) D9 := hD9 (_, oS) (by k_mem)
        k_steps
        (rename (Obj.data _ = Data.cell (some (Value.ref D8))) => d8)
        refine .next (.mk (D8, _, _, _, _, tN) (by assumption) (by assumption) (by kst_in) (by intro p hp; simp [hp]) (by kst_all) ⟨⟨?_, d8, ⟨_, by assumption⟩, l6⟩, ?_⟩)
        · exact IntsAre.append hus hys
        · intro p hp b hb
          simp only [List.map_cons, List.map_nil, List.mem_cons, List.not_mem_nil, or_false] at hb
          rcases hb with e | e | e | e | e | e
          · rw [e]; exact lo8 p hp
          all_goals (rw [e]; exact hoff p hp _ (by simp))
    · rintro ⟨lS, us, n, oS, oP, tN⟩ v h9 tk9 ⟨hus, hdS, ⟨vP, hdP⟩, hlS⟩ F N
      dsimp only at hus hdS hdP hlS F N
      k_steps
      exact .next (.mk (lS, us, n, oS, oP, tN) (by assumption) (by assumption) (fun _ h => h) (fun _ h => nomatch h) (by kst_all) ⟨hus, hdS, hlS⟩)
  clear F4 N4
  rintro ⟨lS, us, n, oS, oP, tN⟩ u4 h4 tk4 ⟨hus, hdS, hlS⟩ F N
  dsimp only at hus hdS hlS F N ⊢
  k_steps
  constructor
  k_dflt (refine LCt.Assign_ListComp_T (F₀ := by k_asm) (by rfl) (by with_unfolding_all rfl) (by with_unfolding_all rfl) (by decide) (by rfl) (by decide) (by rfl) (by rfl) (by rfl) ?_)
  k_steps
  constructor
  refine comp_rangeTA (n := 32) (fun j ys => IntsAre ys (othersL num low j)) rfl (by assumption) (by assumption) (by assumption) (by decide) (by decide) (by decide) .nil ?_ ?_
  · intro j ti I oI C oC D9 m₂ g h tk ys E' hj hys hns hm F N
    have hsl : (sumsAt (sumL low 10).sum 5).length = 32 := sumsAt_len _ 5
    have hsat := sums_at hlow0.1 hlow0.2 (h := j) hj
    have hj0 : (0 + (j : Int)).toNat = j := by omega
    rw [← hj0] at hsat
    have hsu := othersL_succ num low j
    k_steps
    · (rename (Int.fmod _ 20 = 0) => hb)
      rw [hsat, Int.fmod_eq_emod_of_nonneg _ (by decide), hj0] at hb
      rw [if_pos hb] at hsu
      refine .mk (by assumption) (by assumption) (fun _ h => h) ?_
      rw [hsu, show low + 32 * (j : Int) = low + 32 * (0 + (j : Int)) by omega]
      exact IntsAre.append hys (.cons _ _ .nil)
    · (rename (Int.fmod _ 20 ≠ 0) => hb)
      rw [hsat, Int.fmod_eq_emod_of_nonneg _ (by decide), hj0] at hb
      rw [if_neg hb] at hsu
      exact .mk (by assumption) (by assumption) (fun _ h => h) (by rw [hsu]; exact hys)
  intro os D5 h5 tk5 hos F N hD5
  have hosl : os.length ≤ 32 := by
    rw [hos.length, othersL, List.length_map]
    exact Nat.le_trans (List.length_filter_le _ _) (by simp)
  k_steps
  constructor
  k_dflt (refine' boxes_claim _ _ _ _ _ _ _ _ _ _ _ _ _ _ _ _ _ _ _ _ _ _ _ _ ?k1 ?k2 ?k3 ?k4 ?k5 ?kK ?kp ?kd ?ku ?_)
  (case k1 => k_asm)
  (case k2 => k_asm)
  (case k3 => k_asm)
  (case k4 => k_asm)
  (case k5 => k_asm)
  (case kK => first | exact rfl | assumption)
  (case kd => decide)
  (case ku => decide)
  (case kp => exact hnum0)
  rintro _ h6 tk6 ⟨own9, t6, rfl, hown⟩ F6 N6
  try dsimp only
  k_steps
  constructor
  k_dflt (refine LCg.Assign_ListComp_U (F₀ := by k_asm) (by rfl) (by with_unfolding_all rfl) (by with_unfolding_all rfl) (by decide) (by rfl) (by decide) (by rfl) (by rfl) (by rfl) ?_)
  k_steps
  constructor
  refine comp_listA (fun j ys => ∃ rs : List Str, StrsAre ys rs ∧ rs.length = j ∧ ∀ q o, q < j → (othersL num low 32)[q]? = some o → ∃ r, rs[q]? = some r ∧ sl r = (bits o).map box) rfl (by assumption) (by assumption) (by k_mem) (Nat.le_trans hosl (by decide)) ⟨[], .nil, rfl, fun _ _ h => absurd h (Nat.not_lt_zero _)⟩ ?_ ?_
  · intro j v I oI C oC D9 m₂ g h tk ys E' hj hys hv hns hm F N
    obtain ⟨nv, tv, rfl, hnv⟩ := ints_item hos hv
    clear hv
    have hnv0 : 0 ≤ nv ∧ nv < 1024 := othersL_range hlow0.1 hlow0.2 (List.mem_of_getElem? hnv)
    k_steps
    constructor
    k_dflt (refine' boxes_claim _ _ _ _ _ _ _ _ _ _ _ _ _ _ _ _ _ _ _ _ _ _ _ _ ?k1 ?k2 ?k3 ?k4 ?k5 ?kK ?kp ?kd ?ku ?_)
    (case k1 => k_asm)
    (case k2 => k_asm)
    (case k3 => k_asm)
    (case k4 => k_asm)
    (case k5 => k_asm)
    (case kK => first | exact rfl | assumption)
    (case kd => decide)
    (case ku => decide)
    (case kp => exact hnv0)
    rintro _ h6 tk6 ⟨own9, t6, rfl, hrow⟩ F6 N6
    try dsimp only
    obtain ⟨rs, hrs1, hrs2, hrs3⟩ := hys
    refine .mk (by assumption) (by assumption) (fun _ h => h) ⟨rs ++ [own9], hrs1.append' (.cons _ _ .nil), by simp [hrs2], fun q o hq ho => ?_⟩
    by_cases e : q = j
    · subst e
      rw [hnv] at ho
      cases ho
      exact ⟨own9, by rw [← hrs2]; simp, by rw [hrow, bits_box]⟩
    · obtain ⟨r, hr1, hr2⟩ := hrs3 q o (by omega) ho
      exact ⟨r, by rw [List.getElem?_append_left (by omega)]; exact hr1, hr2⟩
  intro rs D6 h7 tk7 hrs F N hD6
  obtain ⟨rs9, hrs1, hrs2, hrs3⟩ := hrs
  have hown2 : sl own9 = (bits num).map box := by rw [hown, bits_box]
  have hownl : own9.length = 10 := by rw [← sl_len, hown2, List.length_map, bits_len]
  k_steps
  constructor
  (rename Fr _ _ _ _ => lF')
  (with_unfolding_all refine' For_invVF lF' ?k1 ?k2 ?_)
  (case k1 => exact rfl)
  (case k2 => exact rfl)
  k_steps
  constructor
  rename_i D9 ws9 _ F5 N5 hI5 _ _ l5
  refine list_st (σ := Unit) (fun _ => [(Str.ofString "number", .int num tN), (Str.ofString "own", .str own9 t6), (Str.ofString "others", .ref D5), (Str.ofString "rows", .ref D6)])
     (fun _ => [(D9, listOf ws9.toArray 0), (D6, listOf rs.toArray rs.length), (D5, listOf os.toArray os.length)]) (fun _ _ => True) () (fun _ _ => rfl) (fun _ => .head _) rfl hI5 F5 N5 (by kst_in) (by kst_all) trivial ?_ ?_
  · rintro i x9 ⟨⟩ u9 tx9 h9 tk9 own hx hoff _ F N
    try dsimp only at F N hoff
    simp only [List.cons_append, List.nil_append] at N
    k_steps
    constructor
    k_dflt (refine' spoilt_claim _ _ _ _ _ _ _ _ _ _ _ _ _ _ _ _ _ _ _ _ _ _ _ _ _ _ ?k1 ?k2 ?k3 ?k4 ?k5 ?kK ?kp ?kd ?ku ?_)
    (case k1 => k_asm)
    (case k2 => k_asm)
    (case k3 => k_asm)
    (case k4 => k_asm)
    (case k5 => k_asm)
    (case kK => first | exact rfl | assumption)
    (case kd => decide)
    (case ku => decide)
    (case kp => exact hownl)
    rintro _ h6 tk6 ⟨sp9, tsp, rfl, hsp⟩ F6 N6
    try dsimp only
    have hspl : sp9.length ≤ 11 := by rw [← sl_len]; exact spoil_len hsp (by rw [sl_len]; exact hownl)
    k_steps
    constructor
    rename Fr _ _ _ _ => F7
    rename News _ _ _ _ => N7
    refine cut_st (σ := Int × Tok) F7 (fun c => [(Str.ofString "number", .int num tN), (Str.ofString "own", .str own9 t6), (Str.ofString "others", .ref D5), (Str.ofString "rows", .ref D6), (Str.ofString "spoilt", .str sp9 tsp), (Str.ofString "price", .int c.1 c.2)])
      (fun _ => (D9, listOf ws9.toArray 0) :: (D6, listOf rs.toArray rs.length) :: (D5, listOf os.toArray os.length) :: own) (fun c => c.1 = (if sp9 = own9 then 0 else if Txt.lower sp9 = own9 then 1 else 2)) ?_ ?_
    · refine wpAny_Assign_Name ?_
      k_steps
      · rename (sp9 == own9) = true => he
        exact .next (.mk (_, _) (by assumption) (by assumption) (fun _ h => h) (fun _ h => nomatch h) (by kst_all) (by dsimp only; rw [if_pos (eq_of_beq he)]))
      · rename (sp9 == own9) = false => he
        rename (Txt.lower sp9 == own9) = true => he2
        exact .next (.mk (_, _) (by assumption) (by assumption) (fun _ h => h) (fun _ h => nomatch h) (by kst_all) (by dsimp only; rw [if_neg (ne_of_beq_false he), if_pos (eq_of_beq he2)]))
      · rename (sp9 == own9) = false => he
        rename (Txt.lower sp9 == own9) = false => he2
        exact .next (.mk (_, _) (by assumption) (by assumption) (fun _ h => h) (fun _ h => nomatch h) (by kst_all) (by dsimp only; rw [if_neg (ne_of_beq_false he), if_neg (ne_of_beq_false he2)]))
    clear F7 N7
    rintro ⟨pr, tpr⟩ u7 h7 tk7 hpr F7 N7
    dsimp only at hpr F7 N7 ⊢
    k_steps
    constructor
    k_dflt (refine' lev_claim _ _ _ _ _ _ _ _ _ _ _ _ _ _ _ _ _ _ _ _ _ _ _ _ _ _ _ _ ?k1 ?k2 ?k3 ?k4 ?k5 ?kK ?kp ?kd ?ku ?_)
    (case k1 => k_asm)
    (case k2 => k_asm)
    (case k3 => k_asm)
    (case k4 => k_asm)
    (case k5 => k_asm)
    (case kK => first | exact rfl | assumption)
    (case kd => decide)
    (case ku => decide)
    (case kp => exact ⟨by omega, by omega⟩)
    rintro _ h8 tk8 ⟨r8, t8, rfl, hr8⟩ F8 N8
    try dsimp only
    have hr9 := told_own hown2 hsp hr8
    rw [← hpr] at hr9
    subst hr9
    k_steps
    · exact absurd rfl (by assumption)
    constructor
    (rename Fr _ _ _ _ => lF')
    (with_unfolding_all refine' For_invVF lF' ?k1 ?k2 ?_)
    (case k1 => exact rfl)
    (case k2 => exact rfl)
    k_steps
    constructor
    refine range_st (σ := Unit) (n := rs9.length) (fun _ => [(Str.ofString "number", .int num tN), (Str.ofString "own", .str own9 t6), (Str.ofString "others", .ref D5), (Str.ofString "rows", .ref D6), (Str.ofString "spoilt", .str sp9 tsp)])
      (fun _ => (D9, listOf ws9.toArray 0) :: (D6, listOf rs.toArray rs.length) :: (D5, listOf os.toArray os.length) :: own) (fun _ _ => True) () (fun _ _ => rfl) rfl (by assumption) (small_one (by omega) (by omega) (by omega) (by omega)) rsize1 (by assumption) (by assumption) (fun _ h => h) (by kst_all) trivial ?_ ?_
    · rintro k ⟨⟩ u10 t10 h10 tk10 own10 hk hoff10 _ F N
      try dsimp only at F N hoff10
      simp only [List.cons_append, List.nil_append] at N
      have hkk : (0 + (k : Int)).toNat = k := by omega
      have hol9 := hos.length
      have hkl : k < (othersL num low 32).length := by omega
      obtain ⟨o, ho⟩ : ∃ o, (othersL num low 32)[k]? = some o := ⟨_, List.getElem?_eq_getElem hkl⟩
      obtain ⟨r, hr1, hr2⟩ := hrs3 k o (by omega) ho
      have hgr : rs9.getD (0 + (k : Int)).toNat Str.empty = r := by rw [hkk, List.getD_eq_getElem?_getD, hr1]; rfl
      have hgo : (othersL num low 32).getD (0 + (k : Int)).toNat 0 = o := by rw [hkk, List.getD_eq_getElem?_getD, ho]; rfl
      have hrl : r.length = 10 := by rw [← sl_len, hr2, List.length_map, bits_len]
      have hom := List.mem_of_getElem? ho
      have ho0 : 0 ≤ o ∧ o < 1024 := othersL_range hlow0.1 hlow0.2 hom
      have hoS := othersL_sum hom
      k_steps
      rw [hgr]
      constructor
      k_dflt (refine' lev_claim _ _ _ _ _ _ _ _ _ _ _ _ _ _ _ _ _ _ _ _ _ _ _ _ _ _ _ _ ?k1 ?k2 ?k3 ?k4 ?k5 ?kK ?kp ?kd ?ku ?_)
      (case k1 => k_asm)
      (case k2 => k_asm)
      (case k3 => k_asm)
      (case k4 => k_asm)
      (case k5 => k_asm)
      (case kK => first | exact rfl | assumption)
      (case kd => decide)
      (case ku => decide)
      (case kp => exact ⟨by omega, by omega⟩)
      rintro _ h12 tk12 ⟨r12, t12, rfl, hr12⟩ F12 N12
      try dsimp only
      have hmain := told_other hnum0.1 hnum0.2 ho0.1 ho0.2 hown2 hr2 hsp hoS hr12
      k_steps
      · rename (_ != _) = true => hb
        rw [hgo, hmain] at hb
        exfalso
        revert hb
        by_cases e : o = num <;> simp [e]
      · exact .next (.mk () (by assumption) (by assumption) (List.forall_mem_cons.mpr ⟨List.Mem.head _, List.forall_mem_cons.mpr ⟨.tail _ (.head _), List.forall_mem_cons.mpr ⟨.tail _ (.tail _ (.head _)), fun p hp => .tail _ (.tail _ (.tail _ (List.mem_append_left _ hp)))⟩⟩⟩) (fun p hp => .tail _ (.tail _ (.tail _ (List.mem_append_right _ hp)))) (by kst_all) trivial)
    · rintro ⟨⟩ u10 h10 tk10 _ F N
      k_steps
      exact .next (.mk () (by assumption) (by assumption) (by kst_in) (by intro p hp; repeat (first | exact hp | apply List.mem_cons_of_mem)) (by kst_all) trivial)
  · rintro ⟨⟩ u10 h10 tk10 _ F N
    k_steps)
end Mine
end
set_option maxHeartbeats 8000000 in
theorem PySem.Challenge.cw_ny0089_02_holds : PySem.Challenge.rw_ny0089_02.Holds :=
  Mine.law_holds
