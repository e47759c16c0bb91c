import PyProof.Rows.All
import Wide.All
import OpenK.AllK
import Wide.FinOn
import PySem.Challenge.RW_ny0089_01
set_option Elab.async false
set_option maxRecDepth 100000
set_option linter.all false
section
set_option maxHeartbeats 8000000
open PySem PySem.W PyProof.Rows
namespace Mine

abbrev Ret (h₀ : Heap) (L : Addr) (m : Str → Option Value) (news : List (Addr × Obj)) (s : Shared) (Q : Value → Shared → Prop) (Ok : Value → Prop) : Prop :=
  ∀ (v : Value) (h' : Heap) (tk' : Nat), Ok v → Fr h₀ L h' m → News h₀ L h' news → Q v { s with heap := h', toks := tk' }

abbrev Claim (lv : Nat) (prog : Program) (w : World) (K : Frag) (p : Program) (loose : List Str) (mean : ExcName → Option Value) (mg mb : Str → Option Value) (f : Addr) (news : List (Addr × Obj)) (pre : Prop) (vs : List Value) (Ok : Value → Prop) : Prop :=
  ∀ (dp un : Nat) (gd : Option (List Code)) (cn : Str) (cs : Scope) (a : Addr) (ccd : Value) (cl : List (Str × Addr)) (outer : List Env) (A₀ : Around) (base h₀ : Heap) (L : Addr) (m : Str → Option Value) (s : Shared) (Q E : Value → Shared → Prop),
    Below A₀ base outer h₀ → Fr h₀ L s.heap m → K.In h₀ → News h₀ L s.heap news → Top p loose mean mg mb h₀ → cs.kind = .function →
    pre → dp + lv < recursionLimit → un + 4 * lv < cLine → Ret h₀ L m news s Q Ok →
      wpAny (model prog w) (ktrTop dp un gd cn cs L a ccd cl outer) (call (.ref f) vs) Q E s

/-- a halt of the walk -/
structure Stop (P : Prop) : Prop where
  here : P
theorem Stop.out {P : Prop} (h : Stop P) : P := h.here

theorem fr_say {h₀ h : Heap} {L : Addr} {m : Str → Option Value} (ps : List (Str × Value)) (F : Fr h₀ L h m) (hk : ∀ p ∈ ps, m p.1 = some p.2) : Fr h₀ L h (kstB m ps) := by
  have e : kstB m ps = m := by
    funext z
    exact kstB_eq hk fun _ => rfl
  rw [e]; exact F

section
variable {prog : Program} {w : World} {A : Around} {E : Value → Shared → Prop} {Q : Flow → Shared → Prop} {s : Shared} {env : Env} {h₀ : Heap} {L : Addr}

/-- what stands at the end of a turn, or of a statement -/
inductive TurnEnd {σ : Type} (h₀ : Heap) (L : Addr) (s : Shared) (PS : σ → List (Str × Value)) (LED : σ → List (Addr × Obj)) (own : List (Addr × Obj)) (P : σ → Prop) : Shared → Prop
  | mk (c' : σ) {h' : Heap} {tk : Nat} {m' : Str → Option Value} {news' : List (Addr × Obj)} (F : Fr h₀ L h' m') (N : News h₀ L h' news') (hl : ∀ p ∈ LED c', p ∈ news') (ho : ∀ p ∈ own, p ∈ news') (hk : ∀ p ∈ PS c', m' p.1 = some p.2) (hp : P c') :
      TurnEnd h₀ L s PS LED own P { s with heap := h', toks := tk }
inductive TurnPost {σ : Type} (h₀ : Heap) (L : Addr) (s : Shared) (PS : σ → List (Str × Value)) (LED : σ → List (Addr × Obj)) (own : List (Addr × Obj)) (P : σ → Prop) (Q : Flow → Shared → Prop) : Flow → Shared → Prop
  | ret {v : Value} {s₂ : Shared} (h : Q (.ret v) s₂) : TurnPost h₀ L s PS LED own P Q (.ret v) s₂
  | brk {s₂ : Shared} (h : Q .next s₂) : TurnPost h₀ L s PS LED own P Q .brk s₂
  | next {s₂ : Shared} (h : TurnEnd h₀ L s PS LED own P s₂) : TurnPost h₀ L s PS LED own P Q .next s₂
  | cont {s₂ : Shared} (h : TurnEnd h₀ L s PS LED own P s₂) : TurnPost h₀ L s PS LED own P Q .cont s₂

theorem while_st {σ : Type} {test : Expr} {body : List Stmt} {pos : Pos} {m : Str → Option Value} {news : List (Addr × Obj)} (PS : σ → List (Str × Value)) (LED : σ → List (Addr × Obj)) (P : σ → Prop) (μ : σ → Nat) (c₀ : σ)
    (F : Fr h₀ L s.heap m) (N : News h₀ L s.heap news) (hled : ∀ p ∈ LED c₀, p ∈ news) (hps : ∀ p ∈ PS c₀, m p.1 = some p.2) (hp : P c₀)
    (turn : ∀ (c : σ) (u : Str → Option Value) h tk, P c → Fr h₀ L h (kstB u (PS c)) → News h₀ L h (LED c) →
      wpAny (model prog w) A (isTrue test env (eval test env)) (fun b s₂ =>
        if b = true then wpAny (model prog w) A (execs body env) (TurnPost h₀ L s PS LED [] (fun c' => P c' ∧ μ c' < μ c) Q) E s₂ else Q .next s₂) E { s with heap := h, toks := tk })
    (hE : PassesOwn (model prog w) A env E := by passes_own) :
    wpAny (model prog w) A (exec (.While test body [] pos) env) Q E s := by
  refine While_inv2 (fun n m nx => ∃ c : σ, nx = LED c ∧ μ c = n ∧ (∀ p ∈ PS c, m p.1 = some p.2) ∧ P c) (n₀ := μ c₀) (news := LED c₀) F (fun p hp => N p (hled p hp)) ⟨c₀, rfl, rfl, hps, hp⟩ ?_ hE
  rintro n m₁ nx h tk F₁ N₁ ⟨c, rfl, rfl, h1, hp'⟩
  refine wpAny_mono (turn c m₁ h tk hp' (fr_say _ F₁ h1) N₁) (fun b s₂ p => ?_) fun _ _ x => x
  cases b with
  | false => simpa using p
  | true =>
    simp only [if_true] at p ⊢
    refine wpAny_mono p (fun f s₃ q => ?_) fun _ _ x => x
    have fin : ∀ s₃, TurnEnd h₀ L s PS LED [] (fun c' => P c' ∧ μ c' < μ c) s₃ → ∃ h' tk m₂ news₂ n', s₃ = { s with heap := h', toks := tk } ∧ Fr h₀ L h' m₂ ∧ News h₀ L h' news₂ ∧ n' < μ c ∧ ∃ c : σ, news₂ = LED c ∧ μ c = n' ∧ (∀ p ∈ PS c, m₂ p.1 = some p.2) ∧ P c := by
      rintro _ ⟨c', F', N', hn, _, hk, hp9, hm9⟩
      exact ⟨_, _, _, LED c', μ c', rfl, F', fun p hp => N' p (hn p hp), hm9, c', rfl, rfl, hk, hp9⟩
    cases q with
    | ret h => exact h
    | brk h => exact h
    | next h => exact fin _ h
    | cont h => exact fin _ h

theorem range_st {σ : Type} {x : Str} {body : List Stmt} {r : Addr} {a₀ b₀ : Int} {t₀ u₀ v₀ : Tok} {n : Nat} {m₀ : Str → Option Value} {news : List (Addr × Obj)} (PS : σ → List (Str × Value)) (LED : σ → List (Addr × Obj)) (P : Nat → σ → Prop) (c₀ : σ)
    (hadr : ∀ c c', (LED c).map (·.1) = (LED c').map (·.1))
    (hh : A.handled = none) (hr : IsRange s.heap r a₀ b₀ 1 t₀ u₀ v₀) (hsmall : Builtin.Range.small a₀ b₀ 1 = true) (hn : Builtin.Range.rangeSize a₀ b₀ 1 = (n : Int))
    (F : Fr h₀ env.locals s.heap m₀) (N : News h₀ env.locals s.heap news) (hled : ∀ p ∈ LED c₀, p ∈ news) (hps : ∀ p ∈ PS c₀, m₀ p.1 = some p.2) (hp : P 0 c₀)
    (turn : ∀ (i : Nat) (c : σ) (u : Str → Option Value) (t : Tok) (h : Heap) (tk : Nat) (own : List (Addr × Obj)), i < n → OwnOff own ((LED c).map (·.1)) → P i c →
      Fr h₀ env.locals h (fun y => if y = x then some (.int (a₀ + i) t) else kstB u (PS c) y) → News h₀ env.locals h (LED c ++ own) →
      wpAny (model prog w) A (execs body env) (TurnPost h₀ env.locals s PS LED own (P (i + 1)) Q) E { s with heap := h, toks := tk })
    (done : ∀ (c : σ) (u : Str → Option Value) (h : Heap) (tk : Nat), P n c → Fr h₀ env.locals h (kstB u (PS c)) → News h₀ env.locals h (LED c) → Q .next { s with heap := h, toks := tk }) :
    wpAny (model prog w) A (pyIter (.ref r)) (fun it s₂ => LoopAtV prog w A h₀ env x body Q E it s₂) E s := by
  refine kpr_invN (news := LED c₀) (fun i m nx => ∃ c : σ, nx = LED c ∧ (∀ p ∈ PS c, m p.1 = some p.2) ∧ P i c) hh hr hsmall hn F (fun p hp => N p (hled p hp)) ⟨c₀, rfl, hps, hp⟩ ?_ ?_
  · rintro i k t m₁ nx h tk own hk hoff ⟨c, rfl, h1, hp'⟩ F₁ N₁
    have hi : i < n := by
      have := (List.getElem?_eq_some_iff.mp hk).1
      rwa [rangeKs_length] at this
    have hk' : k = a₀ + i := by
      have := hk
      simp only [rangeKs, List.getElem?_map, List.getElem?_range hi, Option.map_some] at this
      exact (Option.some.inj this).symm
    subst hk'
    have e : kstB m₁ (PS c) = m₁ := by
      funext z
      exact kstB_eq h1 fun _ => rfl
    have F₂ : Fr h₀ env.locals h (fun y => if y = x then some (.int (a₀ + i) t) else kstB m₁ (PS c) y) := by rw [e]; exact F₁
    refine wpAny_mono (turn i c m₁ t h tk own hi (by rw [hadr c c₀]; exact hoff) hp' F₂ N₁) (fun f s₂ q => ?_) fun _ _ x => x
    have fin : ∀ s₃, TurnEnd h₀ env.locals s PS LED own (P (i + 1)) s₃ → InvEndN h₀ env.locals (fun m nx => ∃ c : σ, nx = LED c ∧ (∀ p ∈ PS c, m p.1 = some p.2) ∧ P (i + 1) c) own ((LED c₀).map (·.1)) { s with heap := h, toks := tk } s₃ := by
      rintro _ ⟨c', F', N', hn', ho', hk', hp9⟩
      exact ⟨_, _, _, _, LED c', rfl, F', N', hn', ho', hadr _ _, c', rfl, hk', hp9⟩
    cases q with
    | ret h => exact h
    | brk h => exact h
    | next h => exact fin _ h
    | cont h => exact fin _ h
  · rintro m₁ nx h tk ⟨c, rfl, h1, hp'⟩ F₁ N₁
    rw [rangeKs_length] at hp'
    exact done c m₁ h tk hp' (fr_say _ F₁ h1) N₁
end

section
variable {M : Model} {A : Around} {E : Value → Shared → Prop} {Q : Flow → Shared → Prop} {s : Shared} {h₀ : Heap} {L : Addr}
inductive CutPost {σ : Type} (h₀ : Heap) (L : Addr) (s : Shared) (PS : σ → List (Str × Value)) (LED : σ → List (Addr × Obj)) (P : σ → Prop) (Q : Flow → Shared → Prop) : Flow → Shared → Prop
  | ret {v : Value} {s₂ : Shared} (h : Q (.ret v) s₂) : CutPost h₀ L s PS LED P Q (.ret v) s₂
  | brk {s₂ : Shared} (h : Q .brk s₂) : CutPost h₀ L s PS LED P Q .brk s₂
  | cont {s₂ : Shared} (h : Q .cont s₂) : CutPost h₀ L s PS LED P Q .cont s₂
  | next {s₂ : Shared} (h : TurnEnd h₀ L s PS LED [] P s₂) : CutPost h₀ L s PS LED P Q .next s₂
theorem cut_st {σ : Type} {m : Str → Option Value} (_F : Fr h₀ L s.heap m) (PS : σ → List (Str × Value)) (LED : σ → List (Addr × Obj)) (P : σ → Prop) {t : Sem Flow}
    (h1 : wpAny M A t (CutPost h₀ L s PS LED P Q) E s)
    (h2 : ∀ (c : σ) (u : Str → Option Value) (h : Heap) (tk : Nat), P c → Fr h₀ L h (kstB u (PS c)) → News h₀ L h (LED c) → Q .next { s with heap := h, toks := tk }) :
    wpAny M A t Q E s := by
  refine wpAny_mono h1 (fun f s₂ q => ?_) fun _ _ e => e
  cases q with
  | ret h => exact h
  | brk h => exact h
  | cont h => exact h
  | next h =>
    obtain ⟨c, F, N, hl, _, hk, hp⟩ := h
    exact h2 c _ _ _ hp (fr_say _ F hk) fun p hp => N p (hl p hp)
end
end Mine
end
section
set_option maxHeartbeats 3000000
open PySem PyProof.Rows
namespace Mine
section
variable {α : Type} (c : α → α → Int)
/-- the edit distance: two for a move, c for a change -/
def ed : List α → List α → Int
  | [], b => 2 * b.length
  | _ :: a, [] => 2 * (a.length + 1 : Nat)
  | x :: a, y :: b => min (min (ed a (y :: b)) (ed (x :: a) b) + 2) (ed a b + c x y)
termination_by a b => a.length + b.length

/-- a way from one list to the other, and its price -/
inductive Al : List α → List α → Int → Prop
  | nil : Al [] [] 0
  | ins {a b k} (y) : Al a b k → Al a (y :: b) (k + 2)
  | del {a b k} (x) : Al a b k → Al (x :: a) b (k + 2)
  | sub {a b k} (x y) : Al a b k → Al (x :: a) (y :: b) (k + c x y)

theorem Al.cast {a b : List α} {k k' : Int} (h : Al c a b k) (e : k = k') : Al c a b k' := e ▸ h
theorem al_nil (b : List α) : Al c [] b (2 * b.length) := by
  induction b with
  | nil => exact .nil
  | cons y b ih => exact (Al.ins y ih).cast c (by simp only [List.length_cons]; omega)
theorem al_del (a : List α) : Al c a [] (2 * a.length) := by
  induction a with
  | nil => exact .nil
  | cons y b ih => exact (Al.del y ih).cast c (by simp only [List.length_cons]; omega)
theorem ed_al : ∀ a b : List α, Al c a b (ed c a b)
  | [], b => by rw [ed]; exact al_nil c b
  | x :: a, [] => by rw [ed]; exact (al_del c (x :: a)).cast c (by simp only [List.length_cons])
  | x :: a, y :: b => by
    rw [ed]
    have h1 := ed_al a (y :: b)
    have h2 := ed_al (x :: a) b
    have h3 := ed_al a b
    by_cases e : min (ed c a (y :: b)) (ed c (x :: a) b) + 2 ≤ ed c a b + c x y
    · rw [Int.min_eq_left e]
      by_cases e' : ed c a (y :: b) ≤ ed c (x :: a) b
      · rw [Int.min_eq_left e']; exact .del x h1
      · rw [Int.min_eq_right (by omega)]; exact .ins y h2
    · rw [Int.min_eq_right (by omega)]; exact .sub x y h3
termination_by a b => a.length + b.length

theorem al_len {a b : List α} {k : Int} (c0 : ∀ x y, 0 ≤ c x y) (h : Al c a b k) : 2 * ((a.length : Int) - b.length) ≤ k ∧ 2 * ((b.length : Int) - a.length) ≤ k ∧ 0 ≤ k := by
  induction h with
  | nil => simp
  | ins y _ ih => simp only [List.length_cons]; omega
  | del x _ ih => simp only [List.length_cons]; omega
  | sub x y _ ih => have := c0 x y; simp only [List.length_cons]; omega
theorem ed_le {a b : List α} {k : Int} (c0 : ∀ x y, 0 ≤ c x y) (h : Al c a b k) : ed c a b ≤ k := by
  induction h with
  | nil => simp [ed]
  | @ins a b k y h ih =>
    cases a with
    | nil => have := (al_len c c0 h).2.1; rw [ed]; simp only [List.length_cons, List.length_nil] at *; omega
    | cons x a => rw [ed]; omega
  | @del a b k x h ih =>
    cases b with
    | nil => have := (al_len c c0 h).1; rw [ed]; simp only [List.length_nil] at *; omega
    | cons y b => rw [ed]; omega
  | sub x y _ ih => rw [ed]; omega
theorem Al.append {a b : List α} {k : Int} (h : Al c a b k) : ∀ {a' b' : List α} {k' : Int}, Al c a' b' k' → Al c (a ++ a') (b ++ b') (k + k') := by
  induction h with
  | nil => intro a' b' k' h'; exact h'.cast c (by omega)
  | ins y _ ih => intro a' b' k' h'; exact (Al.ins y (ih h')).cast c (by omega)
  | del x _ ih => intro a' b' k' h'; exact (Al.del x (ih h')).cast c (by omega)
  | sub x y _ ih => intro a' b' k' h'; exact (Al.sub x y (ih h')).cast c (by omega)
theorem Al.rev {a b : List α} {k : Int} (h : Al c a b k) : Al c a.reverse b.reverse k := by
  induction h with
  | nil => exact .nil
  | ins y _ ih => rw [List.reverse_cons]; have := Al.append c ih (Al.ins (c := c) y .nil); rw [List.append_nil] at this; exact this.cast c (by omega)
  | del x _ ih => rw [List.reverse_cons]; have := Al.append c ih (Al.del (c := c) x .nil); rw [List.append_nil] at this; exact this.cast c (by omega)
  | sub x y _ ih => rw [List.reverse_cons, List.reverse_cons]; exact (Al.append c ih (Al.sub (c := c) x y .nil)).cast c (by omega)
theorem ed_rev (c0 : ∀ x y, 0 ≤ c x y) (a b : List α) : ed c a.reverse b.reverse = ed c a b := by
  have h1 := ed_le c c0 (ed_al c a b).rev
  have h2 := ed_le c c0 (ed_al c a.reverse b.reverse).rev
  rw [List.reverse_reverse, List.reverse_reverse] at h2
  omega
theorem Al.comm {a b : List α} {k : Int} (cs : ∀ x y, c x y = c y x) (h : Al c a b k) : Al c b a k := by
  induction h with
  | nil => exact .nil
  | ins y _ ih => exact .del y ih
  | del x _ ih => exact .ins x ih
  | sub x y _ ih => rw [cs]; exact .sub y x ih
theorem ed_comm (c0 : ∀ x y, 0 ≤ c x y) (cs : ∀ x y, c x y = c y x) (a b : List α) : ed c a b = ed c b a := by
  have h1 := ed_le c c0 ((ed_al c a b).comm c cs)
  have h2 := ed_le c c0 ((ed_al c b a).comm c cs)
  omega
theorem al_drop_l {x : α} {a b : List α} {k : Int} (c0 : ∀ x y, 0 ≤ c x y) : ∀ {a' : List α}, Al c a' b k → a' = x :: a → ∃ k', k' ≤ k + 2 ∧ Al c a b k' := by
  intro a' h
  induction h with
  | nil => intro e; cases e
  | ins y _ ih => intro e; obtain ⟨k', h1, h2⟩ := ih e; exact ⟨k' + 2, by omega, .ins y h2⟩
  | @del a0 b0 k0 x0 h ih => intro e; cases e; exact ⟨k0, by omega, h⟩
  | @sub a0 b0 k0 x0 y0 h ih => intro e; have := c0 x0 y0; cases e; exact ⟨k0 + 2, by omega, .ins y0 h⟩
theorem al_drop_r {y : α} {a b : List α} {k : Int} (c0 : ∀ x y, 0 ≤ c x y) : ∀ {b' : List α}, Al c a b' k → b' = y :: b → ∃ k', k' ≤ k + 2 ∧ Al c a b k' := by
  intro b' h
  induction h with
  | nil => intro e; cases e
  | del x _ ih => intro e; obtain ⟨k', h1, h2⟩ := ih e; exact ⟨k' + 2, by omega, .del x h2⟩
  | @ins a0 b0 k0 x0 h ih => intro e; cases e; exact ⟨k0, by omega, h⟩
  | @sub a0 b0 k0 x0 y0 h ih => intro e; have := c0 x0 y0; cases e; exact ⟨k0 + 2, by omega, .del x0 h⟩
theorem ed_cons (c0 : ∀ x y, 0 ≤ c x y) (cx : ∀ x, c x x = 0) (x : α) (a b : List α) : ed c (x :: a) (x :: b) = ed c a b := by
  have h1 : ed c (x :: a) (x :: b) ≤ ed c a b := by
    have := ed_le c c0 (Al.sub x x (ed_al c a b)); rw [cx] at this; omega
  obtain ⟨k1, h2, h3⟩ := al_drop_r (y := x) c c0 (ed_al c a (x :: b)) rfl
  obtain ⟨k2, h4, h5⟩ := al_drop_l (x := x) c c0 (ed_al c (x :: a) b) rfl
  have h6 := ed_le c c0 h3
  have h7 := ed_le c c0 h5
  have h8 := cx x
  rw [ed] at h1 ⊢
  omega
theorem ed_pre (c0 : ∀ x y, 0 ≤ c x y) (cx : ∀ x, c x x = 0) (p a b : List α) : ed c (p ++ a) (p ++ b) = ed c a b := by
  induction p with
  | nil => rfl
  | cons x p ih => rw [List.cons_append, List.cons_append, ed_cons c c0 cx, ih]
theorem ed_post (c0 : ∀ x y, 0 ≤ c x y) (cx : ∀ x, c x x = 0) (p a b : List α) : ed c (a ++ p) (b ++ p) = ed c a b := by
  rw [← ed_rev c c0, List.reverse_append, List.reverse_append, ed_pre c c0 cx, ed_rev c c0]
theorem ed_self (c0 : ∀ x y, 0 ≤ c x y) (cx : ∀ x, c x x = 0) (a : List α) : ed c a a = 0 := by
  have := ed_post c c0 cx a [] []
  rw [List.nil_append] at this
  rw [this]; simp [ed]
theorem ed_nil (b : List α) : ed c [] b = 2 * b.length := by rw [ed]
theorem ed_nil_r (a : List α) : ed c a [] = 2 * a.length := by
  cases a with
  | nil => rw [ed]
  | cons x a => rw [ed]; rfl
theorem ed_len (c0 : ∀ x y, 0 ≤ c x y) (a b : List α) : 2 * ((a.length : Int) - b.length) ≤ ed c a b ∧ 2 * ((b.length : Int) - a.length) ≤ ed c a b ∧ 0 ≤ ed c a b := al_len c c0 (ed_al c a b)

/-- the table -/
def dd (b a : List α) (i j : Nat) : Int := ed c (b.take i) (a.take j)
theorem dd_zero_l (b a : List α) (j : Nat) (h : j ≤ a.length) : dd c b a 0 j = 2 * j := by
  rw [dd, List.take_zero, ed_nil, List.length_take, Nat.min_eq_left h]
theorem dd_zero_r (b a : List α) (i : Nat) (h : i ≤ b.length) : dd c b a i 0 = 2 * i := by
  rw [dd, List.take_zero, ed_nil_r, List.length_take, Nat.min_eq_left h]
theorem dd_step (c0 : ∀ x y, 0 ≤ c x y) (b a : List α) (i j : Nat) (hi : i < b.length) (hj : j < a.length) :
    dd c b a (i + 1) (j + 1) = min (min (dd c b a i (j + 1)) (dd c b a (i + 1) j) + 2) (dd c b a i j + c b[i] a[j]) := by
  have e1 : (b.take (i + 1)).reverse = b[i] :: (b.take i).reverse := by
    rw [List.take_succ_eq_append_getElem hi, List.reverse_append]; rfl
  have e2 : (a.take (j + 1)).reverse = a[j] :: (a.take j).reverse := by
    rw [List.take_succ_eq_append_getElem hj, List.reverse_append]; rfl
  simp only [dd]
  rw [← ed_rev c c0 (b.take (i + 1)) (a.take (j + 1)), ← ed_rev c c0 (b.take i) (a.take (j + 1)), ← ed_rev c c0 (b.take (i + 1)) (a.take j), ← ed_rev c c0 (b.take i) (a.take j), e1, e2, ed]
theorem dd_full (b a : List α) : dd c b a b.length a.length = ed c b a := by rw [dd, List.take_length, List.take_length]
theorem al_split {a b : List α} {k : Int} (c0 : ∀ x y, 0 ≤ c x y) (h : Al c a b k) : ∀ i, i ≤ a.length → ∃ j k', j ≤ b.length ∧ k' ≤ k ∧ Al c (a.take i) (b.take j) k' := by
  induction h with
  | nil => intro i hi; exact ⟨0, 0, Nat.le_refl _, Int.le_refl _, by simpa using Al.nil⟩
  | @ins a0 b0 k0 y h ih =>
    intro i hi
    obtain ⟨j, k', h1, h2, h3⟩ := ih i hi
    exact ⟨j + 1, k' + 2, by simp; omega, by omega, by rw [List.take_succ_cons]; exact .ins y h3⟩
  | @del a0 b0 k0 x h ih =>
    intro i hi
    cases i with
    | zero => have := (al_len c c0 h).2.2; exact ⟨0, 0, Nat.zero_le _, by omega, by simpa using Al.nil⟩
    | succ i =>
      obtain ⟨j, k', h1, h2, h3⟩ := ih i (by simpa using hi)
      exact ⟨j, k' + 2, h1, by omega, by rw [List.take_succ_cons]; exact .del x h3⟩
  | @sub a0 b0 k0 x y h ih =>
    intro i hi
    cases i with
    | zero => have := (al_len c c0 h).2.2; have := c0 x y; exact ⟨0, 0, Nat.zero_le _, by omega, by simpa using Al.nil⟩
    | succ i =>
      obtain ⟨j, k', h1, h2, h3⟩ := ih i (by simpa using hi)
      exact ⟨j + 1, k' + c x y, by simp; omega, by omega, by rw [List.take_succ_cons, List.take_succ_cons]; exact .sub x y h3⟩
theorem dd_min (c0 : ∀ x y, 0 ≤ c x y) (c2 : ∀ x y, c x y ≤ 2) (b a : List α) (i : Nat) (hi : i < b.length) (ha : 0 < a.length) : ∃ j, j < a.length ∧ dd c b a (i + 1) (j + 1) ≤ ed c b a := by
  obtain ⟨j, k', h1, h2, h3⟩ := al_split c c0 (ed_al c b a) (i + 1) hi
  cases j with
  | succ j => exact ⟨j, h1, Int.le_trans (ed_le c c0 h3) h2⟩
  | zero =>
    refine ⟨0, ha, ?_⟩
    have h4 := (al_len c c0 h3).1
    have h5 : dd c b a (i + 1) 0 = 2 * (i + 1 : Nat) := dd_zero_r c b a (i + 1) hi
    have h6 : dd c b a i 0 = 2 * i := dd_zero_r c b a i (Nat.le_of_lt hi)
    have h7 := dd_step c c0 b a i 0 hi ha
    have h8 := c2 b[i] a[0]
    rw [List.length_take, Nat.min_eq_left (Nat.succ_le_of_lt hi), List.take_zero, List.length_nil] at h4
    omega
end
def LevSpec (D mx r : Int) : Prop := r = D ∨ (r = mx + 1 ∧ mx + 1 ≤ D)
end Mine
namespace Mine
section
variable {α : Type} {c : α → α → Int}
theorem step_vals (c0 : ∀ x y, 0 ≤ c x y) (c2 : ∀ x y, c x y ≤ 2) {Y X : List α} {i j : Nat} (hi : i < Y.length) (hj : j < X.length) {ds rs ro sc : Int}
    (hds : ds = dd c Y X i j) (hrs : rs = if j = 0 then 2 * (i : Int) else dd c Y X (i + 1) j) (hro : ro = dd c Y X i (j + 1)) (hsc : sc = c Y[i] X[j]) :
    (if ds + sc < (if ro < rs then ro else rs) + 2 then ds + sc else (if ro < rs then ro else rs) + 2) = dd c Y X (i + 1) (j + 1) := by
  have h1 := dd_step c c0 Y X i j hi hj
  rw [← hro, ← hds, ← hsc] at h1
  have h2 := c2 Y[i] X[j]
  rw [← hsc] at h2
  by_cases h : j = 0
  · rw [if_pos h] at hrs
    have h3 : dd c Y X i j = 2 * i := by rw [h]; exact dd_zero_r c Y X i (Nat.le_of_lt hi)
    have h4 : dd c Y X (i + 1) j = 2 * ((i + 1 : Nat) : Int) := by rw [h]; exact dd_zero_r c Y X (i + 1) hi
    split <;> split <;> omega
  · rw [if_neg h] at hrs
    rw [← hrs] at h1
    split <;> split <;> omega
theorem set_row {n j : Nat} (f g : Nat → Int) : ((List.range n).map (fun q => if q < j then f q else g q)).set j (f j) = (List.range n).map (fun q => if q < j + 1 then f q else g q) := by
  apply List.ext_getElem (by simp)
  intro k h1 h2
  simp only [List.length_map, List.length_range] at h2
  rw [List.getElem_set]
  simp only [List.getElem_map, List.getElem_range]
  by_cases h : j = k
  · subst h; simp
  · rw [if_neg h]
    by_cases h3 : k < j
    · rw [if_pos h3, if_pos (by omega)]
    · rw [if_neg h3, if_neg (by omega)]
theorem getD_row {n j : Nat} (f g : Nat → Int) (h : j < n) : ((List.range n).map (fun q => if q < j then f q else g q)).getD j 0 = g j := by
  simp [List.getD_eq_getElem?_getD, h]
theorem row_start {Y X : List α} {n : Nat} (hn : n = X.length) : (List.range n).map (fun i => (2 : Int) + (i : Nat) * 2) = (List.range n).map fun j => dd c Y X 0 (j + 1) := by
  apply List.map_congr_left
  intro j hj
  have := List.mem_range.mp hj
  rw [dd_zero_l c Y X (j + 1) (by omega)]
  omega
end
end Mine
end
section
set_option maxHeartbeats 3000000
open PySem PySem.W PyProof.Rows
namespace Mine
def sl (x : Str) : List Nat := x.cps.toList
theorem sl_len (x : Str) : (sl x).length = x.length := by simp [sl, Str.length]
theorem sl_inj {x y : Str} (h : sl x = sl y) : x = y := Str.ext' (Array.toList_inj.mp h)
theorem sl_from {x : Str} {k : Nat} (h : k ≤ x.length) : sl (Txt.slice x (some (k : Int)) none) = (sl x).drop k := by
  rw [slice_from_eq (b := x.length) (by omega) (by omega) rfl]
  show List.take _ _ = _
  rw [List.take_of_length_le]
  · rfl
  · have := sl_len x; rw [sl] at this; rw [List.length_drop]; omega
theorem sl_to {x : Str} {k : Nat} (h : k ≤ x.length) : sl (Txt.slice x none (some (k : Int))) = (sl x).take k := by
  have h1 := slice_closes_toL (x := x) (j := k) (by omega) (by omega)
  have h2 := eq_of_beq h1
  rw [h2]
  simp [sl]
theorem sl_to_neg {x : Str} {k : Nat} (h0 : 0 < k) (h : k ≤ x.length) : sl (Txt.slice x none (some (-(k : Int)))) = (sl x).take (x.length - k) := by
  rw [slice_to_neg (by omega)]
  have e : max 0 ((x.length : Int) + -(k : Int)) = ((x.length - k : Nat) : Int) := by omega
  rw [e, sl_to (by omega)]
theorem seqIdx_nat {k n : Nat} (h : k < n) : seqIndex? (k : Int) n = some k := by
  unfold seqIndex?
  have h1 : ¬ ((k : Int) < 0) := by omega
  have h2 : (k : Int) < n := by omega
  simp [h1, h2]
theorem seqIdx_neg {k n : Nat} (h0 : 0 < k) (h : k ≤ n) : seqIndex? (-(k : Int)) n = some (n - k) := by
  unfold seqIndex?
  have h1 : (-(k : Int) < 0) := by omega
  have h2 : (-(k : Int) + n) < n := by omega
  have h3 : 0 ≤ (-(k : Int) + n) := by omega
  have h4 : (-(k : Int) + n).toNat = n - k := by omega
  simp only [h1, if_true, h2, h3, h4, decide_true, Bool.and_self]
theorem item_at {x : Str} {k : Nat} (h : k < (sl x).length) : Txt.item x (k : Int) = ⟨#[(sl x)[k]]⟩ := by
  have hk : k < x.cps.size := by simpa [sl] using h
  unfold Txt.item Txt.charAt
  rw [seqIdx_nat (by simpa [Str.length] using hk)]
  simp [hk, sl]
theorem item_neg {x : Str} {k : Nat} (h0 : 0 < k) (h : k ≤ (sl x).length) : Txt.item x (-(k : Int)) = ⟨#[(sl x)[(sl x).length - k]'(by omega)]⟩ := by
  have hk : k ≤ x.cps.size := by simpa [sl] using h
  unfold Txt.item Txt.charAt
  rw [seqIdx_neg h0 (by simpa [Str.length] using hk)]
  have h3 : x.cps.size - k < x.cps.size := by omega
  simp [h3, sl, Str.length]
/-- one more sign of a like beginning -/
theorem take_more {α : Type} {a b : List α} {k : Nat} (h : a.take k = b.take k) (ha : k < a.length) (hb : k < b.length) (e : a[k] = b[k]) : a.take (k + 1) = b.take (k + 1) := by
  rw [List.take_succ_eq_append_getElem ha, List.take_succ_eq_append_getElem hb, h, e]
theorem drop_more {α : Type} {a b : List α} {k : Nat} (h : a.drop (a.length - k) = b.drop (b.length - k)) (ha : k < a.length) (hb : k < b.length) (e : a[a.length - (k + 1)]'(by omega) = b[b.length - (k + 1)]'(by omega)) :
    a.drop (a.length - (k + 1)) = b.drop (b.length - (k + 1)) := by
  have h1 : a.length - (k + 1) < a.length := by omega
  have h2 : b.length - (k + 1) < b.length := by omega
  rw [List.drop_eq_getElem_cons h1, List.drop_eq_getElem_cons h2, e]
  have e1 : a.length - (k + 1) + 1 = a.length - k := by omega
  have e2 : b.length - (k + 1) + 1 = b.length - k := by omega
  rw [e1, e2, h]
theorem one_inj {x y : Nat} (h : (⟨#[x]⟩ : Str) = ⟨#[y]⟩) : x = y := by
  injection h with h
  simpa using h

theorem slice_nn (x : Str) : Txt.slice x none none = x := by
  have e : Builtin.Str.strSliceIndices none none 1 x.length = Builtin.Str.strSliceIndices (some ((0 : Nat) : Int)) none 1 x.length := by
    have h1 : ¬ (((0 : Nat) : Int) < 0) := by omega
    have h2 : (1 : Int) > 0 := by decide
    have h3 : min ((0 : Nat) : Int) (x.length : Int) = 0 := by omega
    simp only [Builtin.Str.strSliceIndices, h1, h2, if_false, if_true, h3, Int.max_self]
  have e2 : Txt.slice x none none = Txt.slice x (some ((0 : Nat) : Int)) none := by
    unfold Txt.slice
    rw [e]
  rw [e2]
  exact sl_inj ((sl_from (Nat.zero_le _)).trans List.drop_zero)
section
variable {prog : Program} {w : World} {A : Around} {E : Value → Shared → Prop} {s : Shared} {value slice : Expr} {x : Str} {t : Tok} {h₀ : Heap} {L : Addr} {m : Str → Option Value} {news : List (Addr × Obj)} {Q : Value → Shared → Prop}
theorem slice_whole (hF : Fr h₀ L s.heap m) (hN : News h₀ L s.heap news) (h : ∀ h' t' k, Fr h₀ L h' m → News h₀ L h' news → Q (.str x t') { s with heap := h', toks := k })
    (hs : subscripted slice false (.str x t) (.ref s.heap.objs.size) = operate [.ref s.heap.objs.size, .str x t] (getItem (.str x t) (.ref s.heap.objs.size)) := by with_unfolding_all rfl)
    (ht : ∀ r, letTemporaryGo value (.str x t) r = pure () := by intro _; with_unfolding_all rfl) (hsz : x.length ≤ sizeLine := by size_fits) :
    wpAny (model prog w) A (subscriptTail value slice (.str x t) (.ref s.heap.objs.size)) Q E { s with heap := s.heap.push { cls := .type "slice", data := .fields #[.none, .none, .none] } } :=
  slice_strN_nn hF hN (by rw [slice_nn]; exact h) hs ht hsz
end
end Mine
namespace Mine
theorem suff_more {a b : Str} {p : Int} {j : Nat} (hj0 : p = -(j : Int)) (h1 : j < (sl a).length) (h2 : j < (sl b).length) (hj3 : (sl a).drop ((sl a).length - j) = (sl b).drop ((sl b).length - j))
    (he : (Txt.item a (p - 1) == Txt.item b (p - 1)) = true) : (sl a).drop ((sl a).length - (j + 1)) = (sl b).drop ((sl b).length - (j + 1)) := by
  have e : p - 1 = -((j + 1 : Nat) : Int) := by omega
  rw [e] at he
  have he2 := eq_of_beq he
  rw [item_neg (by omega) (by omega), item_neg (by omega) (by omega)] at he2
  exact drop_more hj3 h1 h2 (one_inj he2)
def subCost (a b : Str) : Int := if a = b then 0 else if Txt.lower a = Txt.lower b then 1 else 2
theorem sub0 (a b : Str) : 0 ≤ subCost a b := by unfold subCost; split; decide; split <;> decide
theorem sub2 (a b : Str) : subCost a b ≤ 2 := by unfold subCost; split; decide; split <;> decide
theorem sub_self (a : Str) : subCost a a = 0 := by simp [subCost]
theorem sub_comm (a b : Str) : subCost a b = subCost b a := by
  unfold subCost
  by_cases h : a = b
  · simp [h]
  · rw [if_neg h, if_neg (Ne.symm h)]
    by_cases h' : Txt.lower a = Txt.lower b
    · rw [if_pos h', if_pos h'.symm]
    · rw [if_neg h', if_neg (Ne.symm h')]
def cc (x y : Nat) : Int := subCost ⟨#[x]⟩ ⟨#[y]⟩
theorem cc0 (a b : Nat) : 0 ≤ cc a b := sub0 _ _
theorem cc2 (a b : Nat) : cc a b ≤ 2 := sub2 _ _
theorem cc_self (a : Nat) : cc a a = 0 := sub_self _
theorem cc_comm (a b : Nat) : cc a b = cc b a := sub_comm _ _
theorem strip_pre {α : Type} {c : α → α → Int} (c0 : ∀ x y, 0 ≤ c x y) (cx : ∀ x, c x x = 0) {a b : List α} {k : Nat} (h : a.take k = b.take k) : ed c a b = ed c (a.drop k) (b.drop k) := by
  have := ed_pre c c0 cx (a.take k) (a.drop k) (b.drop k)
  rw [List.take_append_drop, h, List.take_append_drop] at this
  exact this
theorem strip_post {α : Type} {c : α → α → Int} (c0 : ∀ x y, 0 ≤ c x y) (cx : ∀ x, c x x = 0) {a b : List α} {i j : Nat} (h : a.drop i = b.drop j) : ed c a b = ed c (a.take i) (b.take j) := by
  have := ed_post c c0 cx (a.drop i) (a.take i) (b.take j)
  rw [List.take_append_drop, h, List.take_append_drop] at this
  exact this
end Mine
namespace Mine
theorem rsize2 {n : Nat} : Builtin.Range.rangeSize 2 (2 * ((n : Int) + 1)) 2 = (n : Int) := by
  unfold Builtin.Range.rangeSize
  rw [if_pos (by decide)]
  split <;> omega
theorem rsmall2 {n : Nat} (h : n ≤ 1000) : Builtin.Range.small 2 (2 * ((n : Int) + 1)) 2 = true := by
  unfold Builtin.Range.small
  rw [rsize2]
  generalize hb : 2 * ((n : Int) + 1) = b
  generalize hn : (n : Int) = k at *
  simp only [Builtin.Range.rangeFitsLong, Bool.and_eq_true, Bool.or_eq_true, decide_eq_true_eq, beq_iff_eq]
  refine ⟨⟨⟨⟨⟨by decide, by decide⟩, by omega, by omega⟩, by decide, by decide⟩, by omega, by omega⟩, .inr ?_⟩
  rw [if_pos (by decide), Bool.and_eq_true, decide_eq_true_eq, decide_eq_true_eq]
  exact ⟨by omega, by omega⟩
theorem rsize1 {n : Nat} : Builtin.Range.rangeSize 0 (n : Int) 1 = (n : Int) := by
  unfold Builtin.Range.rangeSize
  rw [if_pos (by decide)]
  split <;> omega
section
variable {prog : Program} {w : World} {A : Around} {E : Value → Shared → Prop} {s : Shared} {h₀ : Heap} {L : Addr} {m : Str → Option Value} {Q : Value → Shared → Prop}
theorem ints_of_items {a c : Int} {n : Nat} {acc : Array Value} (h : ItemsOf (fun i v => ∃ t, v = Value.int (a + i * c) t) acc n) : IntsAre acc.toList (rangeInts a c n) := by
  obtain ⟨h1, h2⟩ := h
  have key : ∀ (l : List Value) (k : Nat), (∀ j v, l[j]? = some v → ∃ t, v = Value.int (a + ((k + j : Nat) : Int) * c) t) → IntsAre l ((List.range' k l.length).map fun i => a + (i : Nat) * c) := by
    intro l
    induction l with
    | nil => intro k _; exact .nil
    | cons v l ih =>
      intro k hl
      obtain ⟨t, rfl⟩ := hl 0 v rfl
      rw [List.length_cons, List.range'_succ, List.map_cons]
      refine .cons _ _ (ih (k + 1) fun j v hv => ?_)
      obtain ⟨t, e⟩ := hl (j + 1) v hv
      exact ⟨t, by rw [e]; congr 3; omega⟩
  have := key acc.toList 0 (fun j v hv => by
    obtain ⟨t, e⟩ := h2 j v (by simpa using hv)
    exact ⟨t, by rw [e]; simp⟩)
  rw [Array.length_toList, h1, ← List.range_eq_range'] at this
  exact this
theorem list_range_st {r : Addr} {a b c : Int} {t u v : Tok} {n : Nat} {news : List (Addr × Obj)} (hh : A.handled = none) (Fh : Fr h₀ L s.heap m) (N : News h₀ L s.heap news)
    (hr : IsRange s.heap r a b c t u v) (hsmall : Builtin.Range.small a b c = true) (hn : Builtin.Range.rangeSize a b c = (n : Int)) (hlen : n ≤ 2 ^ 24)
    (hQ : ∀ h' tk (ys : List Value) nn (R : Addr), Fr h₀ L h' m → News h₀ L h' ((R, listOf ys.toArray nn) :: news) → (∀ p ∈ news, p.1 ≠ R) → IntsAre ys (rangeInts a c n) → Q (.ref R) { s with heap := h', toks := tk }) :
    wpAny (model prog w) A (call (.type "list") [.ref r]) Q E s := by
  refine call_list_range hh hr hsmall hn hlen fun h' tk acc' c' hk hS' hacc => ?_
  refine hQ h' tk acc'.toList c' _ (Fh.keeps hk) (fun p hp => ?_) (fun p hp e => ?_) (ints_of_items hacc)
  · rcases List.mem_cons.mp hp with rfl | hp
    · refine ⟨by simpa using hS', Nat.ne_of_gt Fh.ns.lt, ?_⟩
      cases e : h₀.get? s.heap.objs.size with
      | none => rfl
      | some o => exact absurd (Heap.lt_size (Fh.keep _ _ e)) (Nat.lt_irrefl _)
    · exact ⟨hk _ _ (N p hp).1, (N p hp).2⟩
  · exact absurd (Heap.lt_size (N p hp).1) (by rw [e]; exact Nat.lt_irrefl _)
end
end Mine
namespace Mine
theorem sl_append (x y : Str) : sl (x ++ y) = sl x ++ sl y := by rw [sl, Str.cps_append, Array.toList_append]; rfl
theorem sl_from_any {x : Str} {k : Nat} : sl (Txt.slice x (some (k : Int)) none) = (sl x).drop k := by
  by_cases h : k ≤ x.length
  · exact sl_from h
  · rw [slice_beyond (by omega), List.drop_eq_nil_of_le (by rw [sl_len]; omega)]
    rfl
/-- one fault in a row -/
def Spoil (r y : List Nat) : Prop := ∃ p c, p ≤ 10 ∧ c ∈ [111, 120, 79, 88, 63] ∧ (y = r.take p ++ r.drop (p + 1) ∨ y = r.take p ++ c :: r.drop p ∨ y = r.take p ++ c :: r.drop (p + 1))
theorem sign_at {k : Int} (h0 : 0 ≤ k) (h1 : k < 5) : ∃ c ∈ [111, 120, 79, 88, 63], sl (Txt.item (Str.ofString "oxOX?") k) = [c] := by
  have h : k = 0 ∨ k = 1 ∨ k = 2 ∨ k = 3 ∨ k = 4 := by omega
  rcases h with rfl | rfl | rfl | rfl | rfl
  · exact ⟨111, by decide, by decide +kernel⟩
  · exact ⟨120, by decide, by decide +kernel⟩
  · exact ⟨79, by decide, by decide +kernel⟩
  · exact ⟨88, by decide, by decide +kernel⟩
  · exact ⟨63, by decide, by decide +kernel⟩
theorem fmod_range {x n : Int} (h : 0 < n) : 0 ≤ x.fmod n ∧ x.fmod n < n := by
  rw [Int.fmod_eq_emod_of_nonneg _ (Int.le_of_lt h)]
  exact ⟨Int.emod_nonneg _ (Int.ne_of_gt h), Int.emod_lt_of_pos _ h⟩
theorem spoil_of {a : Str} (ha : a.length = 10) {p q : Int} (hp0 : 0 ≤ p) (hp1 : p < 11) (hq0 : 0 ≤ q) (hq1 : q < 5) :
    Spoil (sl a) (sl (Txt.slice a none (some p) ++ Txt.slice a (some (p + 1)) none)) ∧
    Spoil (sl a) (sl (Txt.slice a none (some p) ++ Txt.item (Str.ofString "oxOX?") q ++ Txt.slice a (some p) none)) ∧
    Spoil (sl a) (sl (Txt.slice a none (some p) ++ Txt.item (Str.ofString "oxOX?") q ++ Txt.slice a (some (p + 1)) none)) := by
  obtain ⟨n, rfl⟩ := Int.eq_ofNat_of_zero_le hp0
  obtain ⟨c, hc, hs⟩ := sign_at hq0 hq1
  have e1 : sl (Txt.slice a none (some (n : Int))) = (sl a).take n := sl_to (by omega)
  have e2 : sl (Txt.slice a (some (n : Int)) none) = (sl a).drop n := sl_from_any
  have e3 : sl (Txt.slice a (some ((n : Int) + 1)) none) = (sl a).drop (n + 1) := by
    have := sl_from_any (x := a) (k := n + 1)
    rwa [show ((n + 1 : Nat) : Int) = (n : Int) + 1 by omega] at this
  simp only [sl_append, e1, e2, e3, hs]
  refine ⟨⟨n, c, by omega, hc, .inl rfl⟩, ⟨n, c, by omega, hc, .inr (.inl (by simp))⟩, ⟨n, c, by omega, hc, .inr (.inr (by simp))⟩⟩
end Mine
end
section
set_option maxHeartbeats 3000000
open PySem PySem.W PyProof.Rows
namespace Mine
section
variable {prog : Program} {w : World} {A : Around} {E : Value → Shared → Prop} {Q : Flow → Shared → Prop} {s : Shared} {env : Env} {h₀ : Heap}
/-- a for over a range, with an else -/
theorem range_else_st {σ : Type} {x : Str} {px : Pos} {body orelse : List Stmt} {r : Addr} {a₀ b₀ : Int} {t₀ u₀ v₀ : Tok} {n : Nat} {m₀ : Str → Option Value} {news : List (Addr × Obj)} (PS : σ → List (Str × Value)) (LED : σ → List (Addr × Obj)) (P : Nat → σ → Prop) (c₀ : σ)
    (hadr : ∀ c c', (LED c).map (·.1) = (LED c').map (·.1))
    (hh : A.handled = none) (hr : IsRange s.heap r a₀ b₀ 1 t₀ u₀ v₀) (hsmall : Builtin.Range.small a₀ b₀ 1 = true) (hn : Builtin.Range.rangeSize a₀ b₀ 1 = (n : Int))
    (F : Fr h₀ env.locals s.heap m₀) (N : News h₀ env.locals s.heap news) (hled : ∀ p ∈ LED c₀, p ∈ news) (hps : ∀ p ∈ PS c₀, m₀ p.1 = some p.2) (hp : P 0 c₀)
    (turn : ∀ (i : Nat) (c : σ) (u : Str → Option Value) (t : Tok) (h : Heap) (tk : Nat) (own : List (Addr × Obj)), i < n → OwnOff own ((LED c).map (·.1)) → P i c →
      Fr h₀ env.locals h (fun y => if y = x then some (.int (a₀ + i) t) else kstB u (PS c) y) → News h₀ env.locals h (LED c ++ own) →
      wpAny (model prog w) A (execs body env) (TurnPost h₀ env.locals s PS LED own (P (i + 1)) Q) E { s with heap := h, toks := tk })
    (done : ∀ (c : σ) (u : Str → Option Value) (h : Heap) (tk : Nat), P n c → Fr h₀ env.locals h (kstB u (PS c)) → News h₀ env.locals h (LED c) → wpAny (model prog w) A (execs orelse env) Q E { s with heap := h, toks := tk })
    (hx : env.kindOf x = some .local := by rfl) (hk : (env.scope.kind == .class || (env.scope.kind == .module && env.locals != env.globals)) = false := by rfl)
    (hE : PassesOwn (model prog w) A env E := by passes_own) :
    wpAny (model prog w) A (pyIter (.ref r)) (fun it s₂ => codeAny (model prog w) A (.forLoop (.Name x px) it body orelse env) (fun r s' => match r with | .ok f => Q f s' | .error e => cameBackBy (model prog w) A env E e s') s₂) E s := by
  refine wpAny_pyIter_range hr hsmall ?_
  have W := Walks.range (prog := prog) (w := w) hh s.heap.objs.size a₀ 1 n
  have hI0 : h₀.get? s.heap.objs.size = none := next_is_new F
  have hIL : s.heap.objs.size ≠ env.locals := Nat.ne_of_gt F.ns.lt
  have hIled : ∀ c, ∀ p ∈ LED c, p.1 ≠ s.heap.objs.size := by
    intro c p hp e
    have h1 : p.1 ∈ (LED c).map (·.1) := List.mem_map.mpr ⟨p, hp, rfl⟩
    rw [hadr c c₀] at h1
    obtain ⟨q, hq, hq'⟩ := List.mem_map.mp h1
    exact absurd (Heap.lt_size (N q (hled q hq)).1) (by rw [hq', e]; exact Nat.lt_irrefl _)
  refine codeAny_forLoop (fun k s' => ∃ (i : Nat) (c : σ) (h' : Heap) (tk : Nat) (m' : Str → Option Value), i ≤ n ∧ k = n + 1 - i ∧ s' = { s with heap := h', toks := tk } ∧
    IsRangeIter h' s.heap.objs.size (a₀ + (i : Nat) * 1) ((n : Int) - (i : Nat)) 1 ∧ Fr h₀ env.locals h' m' ∧ News h₀ env.locals h' (LED c) ∧ (∀ p ∈ PS c, m' p.1 = some p.2) ∧ P i c) ?_ (n + 1)
    ⟨0, c₀, _, _, m₀, Nat.zero_le _, rfl, rfl, by show IsRangeIter _ _ _ _ _; rw [hn]; simpa using Heap.get?_push_size _ rfl, F.push _, fun p hp => ⟨Heap.get?_push_of_some _ (N p (hled p hp)).1, (N p (hled p hp)).2⟩, hps, hp⟩
  rintro k s' ⟨i, c, h', tk, m', hi, rfl, rfl, hst, F', N', hk', hp'⟩
  have next : ∀ h₁ : Heap, (∀ b o, b ∉ [s.heap.objs.size] → h'.get? b = some o → h₁.get? b = some o) → Fr h₀ env.locals h₁ m' ∧ News h₀ env.locals h₁ (LED c) := fun h₁ hk₁ =>
    ⟨⟨F'.ns.at' fun o e => hk₁ _ o (fun hm => hIL (List.mem_singleton.mp hm).symm) e, fun b o e => hk₁ b o (fun hm => by rw [List.mem_singleton.mp hm, hI0] at e; cases e) (F'.keep b o e), F'.above⟩,
      fun p hp => ⟨hk₁ _ _ (fun hm => hIled c p hp (List.mem_singleton.mp hm)) (N' p hp).1, (N' p hp).2⟩⟩
  by_cases hlt : i < n
  · refine W.item i _ _ _ hlt hst fun v h₁ tk₁ hP hst₁ hk₁ => ?_
    obtain ⟨F₁, N₁⟩ := next h₁ hk₁
    obtain ⟨t, rfl⟩ := hP
    refine wpAny_assign_Name (wpAny_storeName_local hx F₁.ns (fun h₂ hn₂ hs₂ => ?_) hk)
    have F₂ := F₁.set hn₂ hs₂
    have hst₂ : IsRangeIter h₂ s.heap.objs.size (a₀ + ((i + 1 : Nat) : Int) * 1) ((n : Int) - ((i + 1 : Nat) : Int)) 1 := (hs₂.2 _ hIL).trans hst₁
    have e : kstB m' (PS c) = m' := by
      funext z
      exact kstB_eq hk' fun _ => rfl
    have F₃ : Fr h₀ env.locals h₂ (fun y => if y = x then some (.int (a₀ + i) t) else kstB m' (PS c) y) := by
      rw [e]
      simpa only [Int.mul_one] using F₂
    obtain ⟨o, ho⟩ : ∃ o, h₂.get? s.heap.objs.size = some o := ⟨_, hst₂⟩
    have hown : OwnOff [(s.heap.objs.size, o)] ((LED c).map (·.1)) := by
      intro p hp b hb e
      obtain ⟨q, hq, rfl⟩ := List.mem_map.mp hb
      rw [List.mem_singleton.mp hp] at e
      exact hIled c q hq e.symm
    have N₃ : News h₀ env.locals h₂ (LED c ++ [(s.heap.objs.size, o)]) := by
      intro p hp
      rcases List.mem_append.mp hp with hp | hp
      · exact N₁.set hs₂ p hp
      · rw [List.mem_singleton.mp hp]; exact ⟨ho, hIL, hI0⟩
    refine wpAny_passesOwn hE (wpAny_mono (turn i c m' t h₂ _ [(s.heap.objs.size, o)] hlt hown hp' F₃ N₃) (fun f s₃ q => ?_) fun _ _ e => e)
    have fin : ∀ s₃, TurnEnd h₀ env.locals s PS LED [(s.heap.objs.size, o)] (P (i + 1)) s₃ → ∃ k, k < n + 1 - i ∧ ∃ (i : Nat) (c : σ) (h' : Heap) (tk : Nat) (m' : Str → Option Value), i ≤ n ∧ k = n + 1 - i ∧ s₃ = { s with heap := h', toks := tk } ∧
        IsRangeIter h' s.heap.objs.size (a₀ + (i : Nat) * 1) ((n : Int) - (i : Nat)) 1 ∧ Fr h₀ env.locals h' m' ∧ News h₀ env.locals h' (LED c) ∧ (∀ p ∈ PS c, m' p.1 = some p.2) ∧ P i c := by
      rintro _ ⟨c', F9, N9, hl9, ho9, hk9, hp9⟩
      refine ⟨n + 1 - (i + 1), by omega, i + 1, c', _, _, _, hlt, rfl, rfl, ?_, F9, fun p hp => N9 p (hl9 p hp), hk9, hp9⟩
      have h1 := (N9 _ (ho9 _ (List.mem_singleton.mpr rfl))).1
      show _ = _
      rw [h1, ← ho]; exact hst₂
    cases q with
    | ret h => exact h
    | brk h => exact h
    | next h => exact fin _ h
    | cont h => exact fin _ h
  · have hin : i = n := by omega
    subst hin
    refine W.done _ _ _ hst fun h₁ tk₁ hk₁ => ?_
    obtain ⟨F₁, N₁⟩ := next h₁ hk₁
    exact wpAny_passesOwn hE (done c m' h₁ tk₁ hp' (fr_say _ F₁ hk') N₁)
/-- a for over a range, whatever its target is -/
theorem range_any_st {σ : Type} {x : Str} {px : Pos} {body orelse : List Stmt} {r : Addr} {a₀ b₀ : Int} {t₀ u₀ v₀ : Tok} {n : Nat} {m₀ : Str → Option Value} {news : List (Addr × Obj)} (PS : σ → List (Str × Value)) (LED : σ → List (Addr × Obj)) (P : Nat → σ → Prop) (c₀ : σ)
    (hadr : ∀ c c', (LED c).map (·.1) = (LED c').map (·.1))
    (hh : A.handled = none) (hr : IsRange s.heap r a₀ b₀ 1 t₀ u₀ v₀) (hsmall : Builtin.Range.small a₀ b₀ 1 = true) (hn : Builtin.Range.rangeSize a₀ b₀ 1 = (n : Int))
    (F : Fr h₀ env.locals s.heap m₀) (N : News h₀ env.locals s.heap news) (hled : ∀ p ∈ LED c₀, p ∈ news) (hps : ∀ p ∈ PS c₀, m₀ p.1 = some p.2) (hp : P 0 c₀)
    (turn : ∀ (i : Nat) (c : σ) (u : Str → Option Value) (t : Tok) (h : Heap) (tk : Nat) (own : List (Addr × Obj)), i < n → OwnOff own ((LED c).map (·.1)) → P i c →
      Fr h₀ env.locals h (kstB u (PS c)) → News h₀ env.locals h (LED c ++ own) →
      wpAny (model prog w) A (storeName env x (.int (a₀ + i) t)) (fun _ s₂ => wpAny (model prog w) A (execs body env) (TurnPost h₀ env.locals s PS LED own (P (i + 1)) Q) E s₂) E { s with heap := h, toks := tk })
    (done : ∀ (c : σ) (u : Str → Option Value) (h : Heap) (tk : Nat), P n c → Fr h₀ env.locals h (kstB u (PS c)) → News h₀ env.locals h (LED c) → wpAny (model prog w) A (execs orelse env) Q E { s with heap := h, toks := tk })
    (hE : PassesOwn (model prog w) A env E := by passes_own) :
    wpAny (model prog w) A (pyIter (.ref r)) (fun it s₂ => codeAny (model prog w) A (.forLoop (.Name x px) it body orelse env) (fun r s' => match r with | .ok f => Q f s' | .error e => cameBackBy (model prog w) A env E e s') s₂) E s := by
  refine wpAny_pyIter_range hr hsmall ?_
  have W := Walks.range (prog := prog) (w := w) hh s.heap.objs.size a₀ 1 n
  have hI0 : h₀.get? s.heap.objs.size = none := next_is_new F
  have hIL : s.heap.objs.size ≠ env.locals := Nat.ne_of_gt F.ns.lt
  have hIled : ∀ c, ∀ p ∈ LED c, p.1 ≠ s.heap.objs.size := by
    intro c p hp e
    have h1 : p.1 ∈ (LED c).map (·.1) := List.mem_map.mpr ⟨p, hp, rfl⟩
    rw [hadr c c₀] at h1
    obtain ⟨q, hq, hq'⟩ := List.mem_map.mp h1
    exact absurd (Heap.lt_size (N q (hled q hq)).1) (by rw [hq', e]; exact Nat.lt_irrefl _)
  refine codeAny_forLoop (fun k s' => ∃ (i : Nat) (c : σ) (h' : Heap) (tk : Nat) (m' : Str → Option Value), i ≤ n ∧ k = n + 1 - i ∧ s' = { s with heap := h', toks := tk } ∧
    IsRangeIter h' s.heap.objs.size (a₀ + (i : Nat) * 1) ((n : Int) - (i : Nat)) 1 ∧ Fr h₀ env.locals h' m' ∧ News h₀ env.locals h' (LED c) ∧ (∀ p ∈ PS c, m' p.1 = some p.2) ∧ P i c) ?_ (n + 1)
    ⟨0, c₀, _, _, m₀, Nat.zero_le _, rfl, rfl, by show IsRangeIter _ _ _ _ _; rw [hn]; simpa using Heap.get?_push_size _ rfl, F.push _, fun p hp => ⟨Heap.get?_push_of_some _ (N p (hled p hp)).1, (N p (hled p hp)).2⟩, hps, hp⟩
  rintro k s' ⟨i, c, h', tk, m', hi, rfl, rfl, hst, F', N', hk', hp'⟩
  have next : ∀ h₁ : Heap, (∀ b o, b ∉ [s.heap.objs.size] → h'.get? b = some o → h₁.get? b = some o) → Fr h₀ env.locals h₁ m' ∧ News h₀ env.locals h₁ (LED c) := fun h₁ hk₁ =>
    ⟨⟨F'.ns.at' fun o e => hk₁ _ o (fun hm => hIL (List.mem_singleton.mp hm).symm) e, fun b o e => hk₁ b o (fun hm => by rw [List.mem_singleton.mp hm, hI0] at e; cases e) (F'.keep b o e), F'.above⟩,
      fun p hp => ⟨hk₁ _ _ (fun hm => hIled c p hp (List.mem_singleton.mp hm)) (N' p hp).1, (N' p hp).2⟩⟩
  by_cases hlt : i < n
  · refine W.item i _ _ _ hlt hst fun v h₁ tk₁ hP hst₁ hk₁ => ?_
    obtain ⟨F₁, N₁⟩ := next h₁ hk₁
    obtain ⟨t, rfl⟩ := hP
    obtain ⟨o, ho⟩ : ∃ o, h₁.get? s.heap.objs.size = some o := ⟨_, hst₁⟩
    have hown : OwnOff [(s.heap.objs.size, o)] ((LED c).map (·.1)) := by
      intro p hp b hb e
      obtain ⟨q, hq, rfl⟩ := List.mem_map.mp hb
      rw [List.mem_singleton.mp hp] at e
      exact hIled c q hq e.symm
    have N₃ : News h₀ env.locals h₁ (LED c ++ [(s.heap.objs.size, o)]) := by
      intro p hp
      rcases List.mem_append.mp hp with hp | hp
      · exact N₁ p hp
      · rw [List.mem_singleton.mp hp]; exact ⟨ho, hIL, hI0⟩
    have go := turn i c m' t h₁ tk₁ [(s.heap.objs.size, o)] hlt hown hp' (fr_say _ F₁ hk') N₃
    have ei : a₀ + (i : Int) * 1 = a₀ + i := by omega
    rw [ei]
    refine wpAny_assign_Name (wpAny_mono (wpAny_passesOwn hE go) (fun _ s₂ go₂ => ?_) fun _ _ e => e)
    refine wpAny_passesOwn hE (wpAny_mono go₂ (fun f s₃ q => ?_) fun _ _ e => e)
    have hst₂ := hst₁
    have fin : ∀ s₃, TurnEnd h₀ env.locals s PS LED [(s.heap.objs.size, o)] (P (i + 1)) s₃ → ∃ k, k < n + 1 - i ∧ ∃ (i : Nat) (c : σ) (h' : Heap) (tk : Nat) (m' : Str → Option Value), i ≤ n ∧ k = n + 1 - i ∧ s₃ = { s with heap := h', toks := tk } ∧
        IsRangeIter h' s.heap.objs.size (a₀ + (i : Nat) * 1) ((n : Int) - (i : Nat)) 1 ∧ Fr h₀ env.locals h' m' ∧ News h₀ env.locals h' (LED c) ∧ (∀ p ∈ PS c, m' p.1 = some p.2) ∧ P i c := by
      rintro _ ⟨c', F9, N9, hl9, ho9, hk9, hp9⟩
      refine ⟨n + 1 - (i + 1), by omega, i + 1, c', _, _, _, hlt, rfl, rfl, ?_, F9, fun p hp => N9 p (hl9 p hp), hk9, hp9⟩
      have h1 := (N9 _ (ho9 _ (List.mem_singleton.mpr rfl))).1
      show _ = _
      rw [h1, ← ho]; exact hst₂
    cases q with
    | ret h => exact h
    | brk h => exact h
    | next h => exact fin _ h
    | cont h => exact fin _ h
  · have hin : i = n := by omega
    subst hin
    refine W.done _ _ _ hst fun h₁ tk₁ hk₁ => ?_
    obtain ⟨F₁, N₁⟩ := next h₁ hk₁
    exact wpAny_passesOwn hE (done c m' h₁ tk₁ hp' (fr_say _ F₁ hk') N₁)
/-- a for over a range, whatever its target is; the ledger may change -/
theorem range_new_st {σ : Type} {x : Str} {px : Pos} {body orelse : List Stmt} {r : Addr} {a₀ b₀ : Int} {t₀ u₀ v₀ : Tok} {n : Nat} {m₀ : Str → Option Value} {news : List (Addr × Obj)} (PS : σ → List (Str × Value)) (LED : σ → List (Addr × Obj)) (P : Nat → σ → Prop) (c₀ : σ)
    (hh : A.handled = none) (hr : IsRange s.heap r a₀ b₀ 1 t₀ u₀ v₀) (hsmall : Builtin.Range.small a₀ b₀ 1 = true) (hn : Builtin.Range.rangeSize a₀ b₀ 1 = (n : Int))
    (F : Fr h₀ env.locals s.heap m₀) (N : News h₀ env.locals s.heap news) (hled : ∀ p ∈ LED c₀, p ∈ news) (hps : ∀ p ∈ PS c₀, m₀ p.1 = some p.2) (hp : P 0 c₀)
    (turn : ∀ (i : Nat) (c : σ) (u : Str → Option Value) (t : Tok) (h : Heap) (tk : Nat) (own : List (Addr × Obj)), i < n → OwnOff own ((LED c).map (·.1)) → P i c →
      Fr h₀ env.locals h (kstB u (PS c)) → News h₀ env.locals h (LED c ++ own) →
      wpAny (model prog w) A (storeName env x (.int (a₀ + i) t)) (fun _ s₂ => wpAny (model prog w) A (execs body env) (TurnPost h₀ env.locals s PS LED own (fun c' => P (i + 1) c' ∧ OwnOff own ((LED c').map (·.1))) Q) E s₂) E { s with heap := h, toks := tk })
    (done : ∀ (c : σ) (u : Str → Option Value) (h : Heap) (tk : Nat), P n c → Fr h₀ env.locals h (kstB u (PS c)) → News h₀ env.locals h (LED c) → wpAny (model prog w) A (execs orelse env) Q E { s with heap := h, toks := tk })
    (hE : PassesOwn (model prog w) A env E := by passes_own) :
    wpAny (model prog w) A (pyIter (.ref r)) (fun it s₂ => codeAny (model prog w) A (.forLoop (.Name x px) it body orelse env) (fun r s' => match r with | .ok f => Q f s' | .error e => cameBackBy (model prog w) A env E e s') s₂) E s := by
  refine wpAny_pyIter_range hr hsmall ?_
  have W := Walks.range (prog := prog) (w := w) hh s.heap.objs.size a₀ 1 n
  have hI0 : h₀.get? s.heap.objs.size = none := next_is_new F
  have hIL : s.heap.objs.size ≠ env.locals := Nat.ne_of_gt F.ns.lt
  have hIled₀ : ∀ p ∈ LED c₀, p.1 ≠ s.heap.objs.size := fun p hp e => absurd (Heap.lt_size (N p (hled p hp)).1) (by rw [e]; exact Nat.lt_irrefl _)
  refine codeAny_forLoop (fun k s' => ∃ (i : Nat) (c : σ) (h' : Heap) (tk : Nat) (m' : Str → Option Value), i ≤ n ∧ k = n + 1 - i ∧ s' = { s with heap := h', toks := tk } ∧
    IsRangeIter h' s.heap.objs.size (a₀ + (i : Nat) * 1) ((n : Int) - (i : Nat)) 1 ∧ Fr h₀ env.locals h' m' ∧ News h₀ env.locals h' (LED c) ∧ (∀ p ∈ PS c, m' p.1 = some p.2) ∧ P i c ∧ ∀ p ∈ LED c, p.1 ≠ s.heap.objs.size) ?_ (n + 1)
    ⟨0, c₀, _, _, m₀, Nat.zero_le _, rfl, rfl, by show IsRangeIter _ _ _ _ _; rw [hn]; simpa using Heap.get?_push_size _ rfl, F.push _, fun p hp => ⟨Heap.get?_push_of_some _ (N p (hled p hp)).1, (N p (hled p hp)).2⟩, hps, hp, hIled₀⟩
  rintro k s' ⟨i, c, h', tk, m', hi, rfl, rfl, hst, F', N', hk', hp', hIled⟩
  have next : ∀ h₁ : Heap, (∀ b o, b ∉ [s.heap.objs.size] → h'.get? b = some o → h₁.get? b = some o) → Fr h₀ env.locals h₁ m' ∧ News h₀ env.locals h₁ (LED c) := fun h₁ hk₁ =>
    ⟨⟨F'.ns.at' fun o e => hk₁ _ o (fun hm => hIL (List.mem_singleton.mp hm).symm) e, fun b o e => hk₁ b o (fun hm => by rw [List.mem_singleton.mp hm, hI0] at e; cases e) (F'.keep b o e), F'.above⟩,
      fun p hp => ⟨hk₁ _ _ (fun hm => hIled p hp (List.mem_singleton.mp hm)) (N' p hp).1, (N' p hp).2⟩⟩
  by_cases hlt : i < n
  · refine W.item i _ _ _ hlt hst fun v h₁ tk₁ hP hst₁ hk₁ => ?_
    obtain ⟨F₁, N₁⟩ := next h₁ hk₁
    obtain ⟨t, rfl⟩ := hP
    obtain ⟨o, ho⟩ : ∃ o, h₁.get? s.heap.objs.size = some o := ⟨_, hst₁⟩
    have hown : OwnOff [(s.heap.objs.size, o)] ((LED c).map (·.1)) := by
      intro p hp b hb e
      obtain ⟨q, hq, rfl⟩ := List.mem_map.mp hb
      rw [List.mem_singleton.mp hp] at e
      exact hIled q hq e.symm
    have N₃ : News h₀ env.locals h₁ (LED c ++ [(s.heap.objs.size, o)]) := by
      intro p hp
      rcases List.mem_append.mp hp with hp | hp
      · exact N₁ p hp
      · rw [List.mem_singleton.mp hp]; exact ⟨ho, hIL, hI0⟩
    have go := turn i c m' t h₁ tk₁ [(s.heap.objs.size, o)] hlt hown hp' (fr_say _ F₁ hk') N₃
    have ei : a₀ + (i : Int) * 1 = a₀ + i := by omega
    rw [ei]
    refine wpAny_assign_Name (wpAny_mono (wpAny_passesOwn hE go) (fun _ s₂ go₂ => ?_) fun _ _ e => e)
    refine wpAny_passesOwn hE (wpAny_mono go₂ (fun f s₃ q => ?_) fun _ _ e => e)
    have hst₂ := hst₁
    have fin : ∀ s₃, TurnEnd h₀ env.locals s PS LED [(s.heap.objs.size, o)] (fun c' => P (i + 1) c' ∧ OwnOff [(s.heap.objs.size, o)] ((LED c').map (·.1))) s₃ → ∃ k, k < n + 1 - i ∧ ∃ (i : Nat) (c : σ) (h' : Heap) (tk : Nat) (m' : Str → Option Value), i ≤ n ∧ k = n + 1 - i ∧ s₃ = { s with heap := h', toks := tk } ∧
        IsRangeIter h' s.heap.objs.size (a₀ + (i : Nat) * 1) ((n : Int) - (i : Nat)) 1 ∧ Fr h₀ env.locals h' m' ∧ News h₀ env.locals h' (LED c) ∧ (∀ p ∈ PS c, m' p.1 = some p.2) ∧ P i c ∧ ∀ p ∈ LED c, p.1 ≠ s.heap.objs.size := by
      rintro _ ⟨c', F9, N9, hl9, ho9, hk9, hp9, hoff9⟩
      refine ⟨n + 1 - (i + 1), by omega, i + 1, c', _, _, _, hlt, rfl, rfl, ?_, F9, fun p hp => N9 p (hl9 p hp), hk9, hp9, fun p hp e => hoff9 _ (List.mem_singleton.mpr rfl) p.1 (List.mem_map.mpr ⟨p, hp, rfl⟩) e.symm⟩
      have h1 := (N9 _ (ho9 _ (List.mem_singleton.mpr rfl))).1
      show _ = _
      rw [h1, ← ho]; exact hst₂
    cases q with
    | ret h => exact h
    | brk h => exact h
    | next h => exact fin _ h
    | cont h => exact fin _ h
  · have hin : i = n := by omega
    subst hin
    refine W.done _ _ _ hst fun h₁ tk₁ hk₁ => ?_
    obtain ⟨F₁, N₁⟩ := next h₁ hk₁
    exact wpAny_passesOwn hE (done c m' h₁ tk₁ hp' (fr_say _ F₁ hk') N₁)
end
end Mine
end
section
set_option maxHeartbeats 3000000
open PySem PySem.W PyProof.Rows
namespace Mine
def flagTab : List (Int × Str) := [(1, Str.ofString "OPTIMIZED"), (2, Str.ofString "NEWLOCALS"), (4, Str.ofString "VARARGS"), (8, Str.ofString "VARKEYWORDS"), (16, Str.ofString "NESTED"), (32, Str.ofString "GENERATOR"), (64, Str.ofString "NOFREE"), (128, Str.ofString "COROUTINE"), (256, Str.ofString "ITERABLE_COROUTINE"), (512, Str.ofString "ASYNC_GENERATOR")]
def flagWord (i : Nat) : Str := (flagTab.lookup (2 ^ i)).getD (baseText "0x" 16 (2 ^ i))
def hasBit (x : Int) (j : Nat) : Bool := decide (x / 2 ^ j % 2 = 1)
def pfw (x : Int) (i : Nat) : List Str := ((List.range i).filter (hasBit x)).map flagWord
def pfAll (x : Int) : List Str := if x / 2 ^ 32 = 0 ∧ x % 2 ^ 32 ≠ 0 then pfw x 32 else pfw x 32 ++ [baseText "0x" 16 (x / 2 ^ 32 * 2 ^ 32)]

theorem pfw_succ (x : Int) (i : Nat) : pfw x (i + 1) = if hasBit x i then pfw x i ++ [flagWord i] else pfw x i := by
  unfold pfw
  rw [List.range_succ, List.filter_append, List.map_append]
  by_cases h : hasBit x i
  · simp [h]
  · simp [h]
theorem div_succ (x : Int) (i : Nat) : x / 2 ^ (i + 1) = x / 2 ^ i / 2 := by
  rw [Int.pow_succ, Int.ediv_ediv_of_nonneg (Int.le_of_lt (kbt_pos i))]
theorem cut_succ (x : Int) (i : Nat) : x / 2 ^ (i + 1) * 2 ^ (i + 1) = x / 2 ^ i * 2 ^ i - (x / 2 ^ i % 2) * 2 ^ i := by
  rw [div_succ, Int.pow_succ, Int.mul_comm (2 ^ i) 2, ← Int.mul_assoc, ← Int.sub_mul]
  congr 1
  omega
theorem cut_div (x : Int) (i : Nat) : x / 2 ^ i * 2 ^ i / 2 ^ i = x / 2 ^ i := Int.mul_ediv_cancel _ (Int.ne_of_gt (kbt_pos i))
theorem and_cut (x : Int) (i : Nat) : Builtin.bitAnd (x / 2 ^ i * 2 ^ i) (2 ^ i) = (x / 2 ^ i % 2) * 2 ^ i := by
  rw [kbt_bit, cut_div]
theorem and_ne (x : Int) (i : Nat) : Builtin.bitAnd (x / 2 ^ i * 2 ^ i) (2 ^ i) ≠ 0 ↔ hasBit x i = true := by
  rw [and_cut, hasBit, decide_eq_true_eq]
  have h1 := kbt_pos i
  have h2 : x / 2 ^ i % 2 = 0 ∨ x / 2 ^ i % 2 = 1 := by omega
  rcases h2 with h | h
  · rw [h]; simp
  · rw [h]; simp; omega
theorem xor_cut (x : Int) (i : Nat) (h : hasBit x i = true) : Builtin.bitXor (x / 2 ^ i * 2 ^ i) (2 ^ i) = x / 2 ^ (i + 1) * 2 ^ (i + 1) := by
  rw [bitXor_and, and_cut, cut_succ]
  rw [hasBit, decide_eq_true_eq] at h
  rw [h]; omega
theorem cut_same (x : Int) (i : Nat) (h : hasBit x i = false) : x / 2 ^ i * 2 ^ i = x / 2 ^ (i + 1) * 2 ^ (i + 1) := by
  rw [cut_succ]
  rw [hasBit, decide_eq_false_iff_not] at h
  have h2 : x / 2 ^ i % 2 = 0 := by omega
  rw [h2]; omega
theorem div_zero_mono {x : Int} {i : Nat} (h : x / 2 ^ i = 0) : ∀ k, x / 2 ^ (i + k) = 0
  | 0 => h
  | k + 1 => by rw [← Nat.add_assoc, div_succ, div_zero_mono h k]; rfl
theorem pfw_stay {x : Int} {i : Nat} (h : x / 2 ^ i = 0) : ∀ k, pfw x (i + k) = pfw x i
  | 0 => rfl
  | k + 1 => by
    rw [← Nat.add_assoc, pfw_succ, hasBit, div_zero_mono h k]
    simpa using pfw_stay h k
theorem pfw_nil {x : Int} : ∀ {i : Nat}, pfw x i = [] → x % 2 ^ i = 0
  | 0, _ => by simp [Int.emod_one]
  | i + 1, h => by
    rw [pfw_succ] at h
    cases hb : hasBit x i with
    | true => rw [hb] at h; simp at h
    | false =>
      rw [hb] at h
      have ih := pfw_nil (x := x) (i := i) (by simpa using h)
      have e1 := cut_same x i hb
      have h1 := Int.emod_def x (2 ^ i)
      have h2 := Int.emod_def x (2 ^ (i + 1))
      rw [Int.mul_comm] at h1 h2
      omega
/-- where the loop is left in turn i -/
theorem pfAll_brk {x : Int} {i : Nat} (hi : i < 32) (hb : hasBit x i = true) (h0 : x / 2 ^ (i + 1) * 2 ^ (i + 1) = 0) : pfAll x = pfw x i ++ [flagWord i] := by
  have hp := kbt_pos (i + 1)
  have hz : x / 2 ^ (i + 1) = 0 := by
    rcases Int.mul_eq_zero.mp h0 with h | h
    · exact h
    · omega
  have e32 : i + 1 + (31 - i) = 32 := by omega
  have h1 := div_zero_mono hz (31 - i)
  have h2 := pfw_stay hz (31 - i)
  rw [e32] at h1 h2
  have h3 : pfw x (i + 1) = pfw x i ++ [flagWord i] := by rw [pfw_succ, if_pos hb]
  have h4 : x % 2 ^ 32 ≠ 0 := by
    intro h
    have h5 := Int.emod_def x (2 ^ 32)
    rw [h, h1] at h5
    have : x = 0 := by omega
    subst this
    simp [hasBit] at hb
  rw [pfAll, if_pos ⟨h1, h4⟩, h2, h3]
theorem pfAll_else {x : Int} (h : pfw x 32 ≠ [] → x / 2 ^ 32 * 2 ^ 32 ≠ 0) : pfAll x = pfw x 32 ++ [baseText "0x" 16 (x / 2 ^ 32 * 2 ^ 32)] := by
  rw [pfAll, if_neg]
  rintro ⟨h1, h2⟩
  by_cases e : pfw x 32 = []
  · exact h2 (pfw_nil e)
  · exact h e (by rw [h1]; rfl)
theorem hex_fits : ∀ i, i < 32 → (baseText "0x" 16 (2 ^ i)).length ≤ sizeLine := by decide +kernel
section
variable {prog : Program} {w : World} {A : Around} {E : Value → Shared → Prop} {s : Shared} {h₀ : Heap} {a : Addr}
theorem datum_tab (k : Int) : ∀ T : List (Int × Str), KTD.datumAt k (T.map fun p => (p.1, PyData.str p.2)) = (T.lookup k).map PyData.str
  | [] => rfl
  | (i, x) :: T => by
    have ih := datum_tab k T
    show (if decide (k = i) = true then some (PyData.str x) else KTD.datumAt k (T.map fun p => (p.1, PyData.str p.2))) = _
    rw [List.lookup_cons]
    by_cases e : k = i
    · simp [e]
    · have e' : (k == i) = false := by simpa using e
      rw [e', ih]; simp [e]
theorem get_flag {k : Int} {tk ty : Tok} {y : Str} {T : List (Int × Str)} {Q : Value → Shared → Prop} (Ky : KTD.Keyed h₀ a (T.map fun p => (p.1, PyData.str p.2))) (hk : ∀ b o, h₀.get? b = some o → s.heap.get? b = some o)
    (h : ∀ t, Q (.str ((T.lookup k).getD y) t) { s with toks := s.toks + 1 }) :
    wpAny (model prog w) A (call (.builtin "dict.get") [.ref a, .int k tk, .str y ty]) Q E s :=
  call_get2_intTab (Ky.keep hk prog w) (PyProof.V.Flat.str y ty) fun v hv => by
    rw [KTD.lookup_keyed, datum_tab] at hv
    have e : ((T.lookup k).map PyData.str).getD (.str y) = .str ((T.lookup k).getD y) := by cases T.lookup k <;> rfl
    rw [e] at hv
    obtain ⟨t, rfl, _⟩ := reads_str_inv (hv s.heap)
    exact h t
end
end Mine
namespace Mine
section
variable {prog : Program} {w : World} {A : Around} {E : Value → Shared → Prop} {s : Shared} {h₀ : Heap} {L D : Addr} {m : Str → Option Value}
theorem append_st {vs : List Value} {n : Nat} {x : Value} {r : List (Addr × Obj)} {Q : Value → Shared → Prop} (F : Fr h₀ L s.heap m) (N : News h₀ L s.heap ((D, listOf vs.toArray n) :: r)) (hne : ∀ p ∈ r, p.1 ≠ D) (hsz : vs.length ≤ sizeLine)
    (h : ∀ h', Fr h₀ L h' m → News h₀ L h' ((D, listOf (vs ++ [x]).toArray (n + 1)) :: r) → Q .none { s with heap := h' }) : wpAny (model prog w) A (call (.builtin "list.append") [.ref D, x]) Q E s := by
  refine append_K F N (Upd.head hne) (fun h' F' N' => h h' F' ?_) (by simpa using hsz)
  rw [List.push_toArray] at N'
  exact N'
end
end Mine

namespace Mine
theorem flag_len : ∀ i, i < 32 → (flagWord i).length ≤ 20 := by decide +kernel
theorem sum_le {ys : List Str} {b : Nat} (h : ∀ y ∈ ys, y.length ≤ b) : (ys.map (·.length)).sum ≤ ys.length * b := by
  induction ys with
  | nil => simp
  | cons y r ih =>
    have h1 := h y (.head _)
    have h2 := ih fun z hz => h z (.tail _ hz)
    simp only [List.map_cons, List.sum_cons, List.length_cons, Nat.succ_mul]
    omega
theorem pfw_len (x : Int) (i : Nat) : (pfw x i).length ≤ i := by
  unfold pfw
  rw [List.length_map]
  exact Nat.le_trans (List.length_filter_le _ _) (by simp)
theorem pfAll_weight {x : Int} (h : (baseText "0x" 16 (x / 2 ^ 32 * 2 ^ 32)).length ≤ 100) : ((pfAll x).map (·.length)).sum + (pfAll x).length ≤ 1048576 := by
  have h1 : ∀ y ∈ pfw x 32, y.length ≤ 100 := by
    intro y hy
    obtain ⟨i, hi, rfl⟩ := List.mem_map.mp hy
    have := flag_len i (by have := (List.mem_filter.mp hi).1; simpa using this)
    omega
  have h2 := pfw_len x 32
  have h3 : ∀ y ∈ pfAll x, y.length ≤ 100 := by
    intro y hy
    unfold pfAll at hy
    split at hy
    · exact h1 y hy
    · rcases List.mem_append.mp hy with hy | hy
      · exact h1 y hy
      · rw [List.mem_singleton.mp hy]; exact h
  have h4 : (pfAll x).length ≤ 33 := by
    unfold pfAll
    split
    · omega
    · rw [List.length_append, List.length_singleton]; omega
  have h5 := sum_le h3
  have h6 : (pfAll x).length * 100 ≤ 33 * 100 := Nat.mul_le_mul_right _ h4
  omega
end Mine

namespace Mine
/-- what a turn of the flags' loop makes of its state -/
theorem turn_bit {x fl k : Int} {i : Nat} {ws : List Str} (hk : k = 2 ^ i) (hc1 : fl = x / 2 ^ i * 2 ^ i) (hc2 : ws = pfw x i) (hb : Builtin.bitAnd fl k ≠ 0) :
    hasBit x i = true ∧ Builtin.bitXor fl k = x / 2 ^ (i + 1) * 2 ^ (i + 1) ∧ ws ++ [flagWord i] = pfw x (i + 1) := by
  subst hk hc1
  have h := (and_ne x i).mp hb
  exact ⟨h, xor_cut x i h, by rw [hc2, pfw_succ, if_pos h]⟩
theorem turn_none {x fl k : Int} {i : Nat} {ws : List Str} (hk : k = 2 ^ i) (hc1 : fl = x / 2 ^ i * 2 ^ i) (hc2 : ws = pfw x i) (hb : Builtin.bitAnd fl k = 0) :
    fl = x / 2 ^ (i + 1) * 2 ^ (i + 1) ∧ ws = pfw x (i + 1) := by
  subst hk hc1
  have h : hasBit x i = false := by
    cases h : hasBit x i with
    | false => rfl
    | true => exact absurd hb ((and_ne x i).mpr h)
  exact ⟨cut_same x i h, by rw [hc2, pfw_succ, h]; rfl⟩
end Mine
namespace Mine
theorem flag_free : ∀ i, i < 32 → 44 ∉ sl (flagWord i) := by decide +kernel
theorem pfAll_ne (x : Int) : pfAll x ≠ [] := by
  unfold pfAll
  split
  · rename_i h
    intro e
    exact h.2 (pfw_nil e)
  · simp
theorem pfAll_free {x : Int} (h : 44 ∉ sl (baseText "0x" 16 (x / 2 ^ 32 * 2 ^ 32))) : ∀ w ∈ pfAll x, 44 ∉ sl w := by
  have h1 : ∀ y ∈ pfw x 32, 44 ∉ sl y := by
    intro y hy
    obtain ⟨i, hi, rfl⟩ := List.mem_map.mp hy
    exact flag_free i (by have := (List.mem_filter.mp hi).1; simpa using this)
  intro y hy
  unfold pfAll at hy
  split at hy
  · exact h1 y hy
  · rcases List.mem_append.mp hy with hy | hy
    · exact h1 y hy
    · rw [List.mem_singleton.mp hy]; exact h
theorem flag_inj : ∀ i, i < 32 → ∀ j, j < 32 → flagWord i = flagWord j → i = j := by decide +kernel
theorem flag_zero : ∀ i, i < 32 → flagWord i ≠ baseText "0x" 16 0 := by decide +kernel
theorem mem_pfAll {x : Int} (hx : x / 2 ^ 32 = 0) {j : Nat} (hj : j < 32) : flagWord j ∈ pfAll x ↔ hasBit x j = true := by
  have h1 : flagWord j ∈ pfw x 32 ↔ hasBit x j = true := by
    unfold pfw
    rw [List.mem_map]
    constructor
    · rintro ⟨i, hi, e⟩
      obtain ⟨h2, h3⟩ := List.mem_filter.mp hi
      have := flag_inj i (by simpa using h2) j hj e
      rwa [← this]
    · intro h
      exact ⟨j, List.mem_filter.mpr ⟨by simpa using hj, h⟩, rfl⟩
  unfold pfAll
  split
  · exact h1
  · rw [List.mem_append, List.mem_singleton, hx, h1]
    constructor
    · rintro (h | h)
      · exact h
      · exact absurd h (flag_zero j hj)
    · exact .inl
end Mine
end
section
set_option maxHeartbeats 3000000
open PySem PySem.W PyProof.Rows
namespace Mine
/-- what stands when an item of a comprehension is reckoned -/
inductive ElEnd (h₀ : Heap) (L : Addr) (m : Str → Option Value) (s : Shared) (all : List (Addr × Obj)) (Ok : Value → Prop) : Value → Shared → Prop
  | mk {y : Value} {h' : Heap} {tk : Nat} {news' : List (Addr × Obj)} (F : Fr h₀ L h' m) (N : News h₀ L h' news') (hl : ∀ p ∈ all, p ∈ news') (ok : Ok y) : ElEnd h₀ L m s all Ok y { s with heap := h', toks := tk }
section
variable {prog : Program} {w : World} {A : Around} {E : Value → Shared → Prop} {s : Shared} {h₀ : Heap} {L : Addr} {m : Str → Option Value} {env : Env} {elt ct : Expr} {x : Str} {scope : Scope} {cl : List (Str × Addr)}
theorem comp_rest {S : List (Addr × Obj) → Prop} {P : Nat → Value → Prop} {Fin : List Value → List (Addr × Obj) → Prop} {n : Nat} {news : List (Addr × Obj)} (Ys : Nat → List Value → Prop) (h0 : Ys 0 []) (hS : S news)
    (turn : ∀ i v I oI C oC D m₂ h tk ys (E' : Value → Shared → Prop), i < n → Ys i ys → P i v → LCg.NsObj oC m₂ → m₂ x = some v → Fr h₀ L h m → News h₀ L h ((I, oI) :: (C, oC) :: (D, LCg.lst ys) :: news) →
      wpAny (model prog w) A (eval elt (compEnvC scope cl C env)) (ElEnd h₀ L m s ((I, oI) :: (C, oC) :: (D, LCg.lst ys) :: news) (fun y => Ys (i + 1) (ys ++ [y]))) E' { s with heap := h, toks := tk })
    (fin : ∀ ys, Ys n ys → Fin ys news) : LCg.CompRest prog w A h₀ L m env elt x scope cl s S P Fin n 0 [] news := by
  have key : ∀ k i ys, i + k = n → Ys i ys → LCg.CompRest prog w A h₀ L m env elt x scope cl s S P Fin k i ys news := by
    intro k
    induction k with
    | zero => intro i ys e hy; exact fin ys (by rw [Nat.add_zero] at e; exact e ▸ hy)
    | succ k ih =>
      intro i ys e hy v I oI C oC D m₂ h tk E' hP hns hm F N off ne
      refine wpAny_mono (turn i v I oI C oC D m₂ h tk ys E' (by omega) hy hP hns hm F N) (fun y s₂ q => ?_) fun _ _ e => e
      obtain ⟨F', N', hl, ok⟩ := q
      exact ⟨_, _, news, rfl, F', fun p hp => N' p (hl p hp), off, hS, ih (i + 1) _ (by omega) ok⟩
  exact key n 0 [] (by omega) h0
theorem comp_restT {S : List (Addr × Obj) → Prop} {P : Nat → Value → Prop} {Fin : List Value → List (Addr × Obj) → Prop} {n : Nat} {news : List (Addr × Obj)} (Ys : Nat → List Value → Prop) (h0 : Ys 0 []) (hS : S news)
    (turn : ∀ i v I oI C oC D m₂ h tk ys (E' : Value → Shared → Prop), i < n → Ys i ys → P i v → LCg.NsObj oC m₂ → m₂ x = some v → Fr h₀ L h m → News h₀ L h ((I, oI) :: (C, oC) :: (D, LCg.lst ys) :: news) →
      wpAny (model prog w) A (isTrue ct (compEnvC scope cl C env) (eval ct (compEnvC scope cl C env))) (fun ok s' => if ok = true then
        wpAny (model prog w) A (eval elt (compEnvC scope cl C env)) (ElEnd h₀ L m s ((I, oI) :: (C, oC) :: (D, LCg.lst ys) :: news) (fun y => Ys (i + 1) (ys ++ [y]))) E' s'
        else ElEnd h₀ L m s ((I, oI) :: (C, oC) :: (D, LCg.lst ys) :: news) (fun _ => Ys (i + 1) ys) Value.none s') E' { s with heap := h, toks := tk })
    (fin : ∀ ys, Ys n ys → Fin ys news) : LCt.CompRestT prog w A h₀ L m env ct elt x scope cl s S P Fin n 0 [] news := by
  have key : ∀ k i ys, i + k = n → Ys i ys → LCt.CompRestT prog w A h₀ L m env ct elt x scope cl s S P Fin k i ys news := by
    intro k
    induction k with
    | zero => intro i ys e hy; exact fin ys (by rw [Nat.add_zero] at e; exact e ▸ hy)
    | succ k ih =>
      intro i ys e hy v I oI C oC D m₂ h tk E' hP hns hm F N off ne
      refine wpAny_mono (turn i v I oI C oC D m₂ h tk ys E' (by omega) hy hP hns hm F N) (fun b s₂ q => ?_) fun _ _ e => e
      cases b with
      | true =>
        simp only [if_true] at q ⊢
        refine wpAny_mono q (fun y s₂ q => ?_) fun _ _ e => e
        obtain ⟨F', N', hl, ok⟩ := q
        exact ⟨_, _, news, rfl, F', fun p hp => N' p (hl p hp), off, hS, ih (i + 1) _ (by omega) ok⟩
      | false =>
        simp only [Bool.false_eq_true, if_false] at q ⊢
        obtain ⟨F', N', hl, ok⟩ := q
        exact ⟨_, _, news, rfl, F', fun p hp => N' p (hl p hp), off, hS, ih (i + 1) _ (by omega) ok⟩
  exact key n 0 [] (by omega) h0
theorem off1_mem {D : Addr} : ∀ {l : List (Addr × Obj)}, LCg.Off1 D l → ∀ p ∈ l, p.1 ≠ D
  | [], _, _, h => nomatch h
  | _ :: _, o, p, h => by
    rcases List.mem_cons.mp h with rfl | h
    · exact o.1
    · exact off1_mem o.2 p h
/-- a comprehension over a range -/
theorem comp_range {r : Addr} {a b : Int} {t u v : Tok} {n : Nat} {news : List (Addr × Obj)} {s₁ : Shared} {Q : Value → Shared → Prop} (Ys : Nat → List Value → Prop) (hh : A.handled = none) (F : Fr h₀ L s₁.heap m) (N : News h₀ L s₁.heap news)
    (hr : IsRange s₁.heap r a b 1 t u v) (hsm : Builtin.Range.small a b 1 = true) (hn : Builtin.Range.rangeSize a b 1 = ((n : Nat) : Int)) (hsz : n ≤ sizeLine) (h0 : Ys 0 [])
    (turn : ∀ (i : Nat) (ti : Tok) I oI C oC D m₂ g h tk ys (E' : Value → Shared → Prop), i < n → Ys i ys → LCg.NsObj oC m₂ → m₂ x = some (.int (a + (i : Int)) ti) → Fr h₀ L h m → News h₀ L h ((I, oI) :: (C, oC) :: (D, LCg.lst ys) :: news) →
      wpAny (model prog w) A (eval elt (compEnvC scope cl C env)) (ElEnd h₀ L m { s₁ with heap := g } ((I, oI) :: (C, oC) :: (D, LCg.lst ys) :: news) (fun y => Ys (i + 1) (ys ++ [y]))) E' { s₁ with heap := h, toks := tk })
    (fin : ∀ ys D h tk, Ys n ys → Fr h₀ L h m → News h₀ L h ((D, listOf ys.toArray ys.length) :: news) → (∀ p ∈ news, p.1 ≠ D) → Q (.ref D) { s₁ with heap := h, toks := tk }) :
    LCg.CompSrc prog w A h₀ L m env elt x scope cl (fun s₂ => LCg.FinE h₀ L m s₂ Q) (.ref r) s₁ :=
  .range hh F N hr hsm hn hsz fun g => comp_rest Ys h0 trivial (fun i v I oI C oC D m₂ h tk ys E' hi hy hP hns hm F N => by obtain ⟨ti, rfl⟩ := hP; exact turn i ti I oI C oC D m₂ g h tk ys E' hi hy hns hm F N)
    fun ys hy D h tk F N off => fin ys D h tk hy F N (off1_mem off)
theorem comp_rangeT {r : Addr} {a b : Int} {t u v : Tok} {n : Nat} {news : List (Addr × Obj)} {s₁ : Shared} {Q : Value → Shared → Prop} (Ys : Nat → List Value → Prop) (hh : A.handled = none) (F : Fr h₀ L s₁.heap m) (N : News h₀ L s₁.heap news)
    (hr : IsRange s₁.heap r a b 1 t u v) (hsm : Builtin.Range.small a b 1 = true) (hn : Builtin.Range.rangeSize a b 1 = ((n : Nat) : Int)) (hsz : n ≤ sizeLine) (h0 : Ys 0 [])
    (turn : ∀ (i : Nat) (ti : Tok) I oI C oC D m₂ g h tk ys (E' : Value → Shared → Prop), i < n → Ys i ys → LCg.NsObj oC m₂ → m₂ x = some (.int (a + (i : Int)) ti) → Fr h₀ L h m → News h₀ L h ((I, oI) :: (C, oC) :: (D, LCg.lst ys) :: news) →
      wpAny (model prog w) A (isTrue ct (compEnvC scope cl C env) (eval ct (compEnvC scope cl C env))) (fun ok s' => if ok = true then
        wpAny (model prog w) A (eval elt (compEnvC scope cl C env)) (ElEnd h₀ L m { s₁ with heap := g } ((I, oI) :: (C, oC) :: (D, LCg.lst ys) :: news) (fun y => Ys (i + 1) (ys ++ [y]))) E' s'
        else ElEnd h₀ L m { s₁ with heap := g } ((I, oI) :: (C, oC) :: (D, LCg.lst ys) :: news) (fun _ => Ys (i + 1) ys) Value.none s') E' { s₁ with heap := h, toks := tk })
    (fin : ∀ ys D h tk, Ys n ys → Fr h₀ L h m → News h₀ L h ((D, listOf ys.toArray ys.length) :: news) → (∀ p ∈ news, p.1 ≠ D) → Q (.ref D) { s₁ with heap := h, toks := tk }) :
    LCt.CompSrcT prog w A h₀ L m env ct elt x scope cl (fun s₂ => LCg.FinE h₀ L m s₂ Q) (.ref r) s₁ :=
  .range hh F N hr hsm hn hsz fun g => comp_restT Ys h0 trivial (fun i v I oI C oC D m₂ h tk ys E' hi hy hP hns hm F N => by obtain ⟨ti, rfl⟩ := hP; exact turn i ti I oI C oC D m₂ g h tk ys E' hi hy hns hm F N)
    fun ys hy D h tk F N off => fin ys D h tk hy F N (off1_mem off)
/-- a comprehension over a list of the ledger -/
theorem comp_list {ax : Addr} {vs : List Value} {k : Nat} {news : List (Addr × Obj)} {s₁ : Shared} {Q : Value → Shared → Prop} (Ys : Nat → List Value → Prop) (hh : A.handled = none) (F : Fr h₀ L s₁.heap m) (N : News h₀ L s₁.heap news)
    (hm : (ax, listOf vs.toArray k) ∈ news) (hsz : vs.length ≤ sizeLine) (h0 : Ys 0 [])
    (turn : ∀ (i : Nat) (v : Value) I oI C oC D m₂ g h tk ys (E' : Value → Shared → Prop), i < vs.length → Ys i ys → vs[i]? = some v → LCg.NsObj oC m₂ → m₂ x = some v → Fr h₀ L h m → News h₀ L h ((I, oI) :: (C, oC) :: (D, LCg.lst ys) :: news) →
      wpAny (model prog w) A (eval elt (compEnvC scope cl C env)) (ElEnd h₀ L m { s₁ with heap := g } ((I, oI) :: (C, oC) :: (D, LCg.lst ys) :: news) (fun y => Ys (i + 1) (ys ++ [y]))) E' { s₁ with heap := h, toks := tk })
    (fin : ∀ ys D h tk, Ys vs.length ys → Fr h₀ L h m → News h₀ L h ((D, listOf ys.toArray ys.length) :: news) → (∀ p ∈ news, p.1 ≠ D) → Q (.ref D) { s₁ with heap := h, toks := tk }) :
    LCg.CompSrc prog w A h₀ L m env elt x scope cl (fun s₂ => LCg.FinE h₀ L m s₂ Q) (.ref ax) s₁ :=
  .ledger hh F N hm (by simpa using hsz) fun g => by
    have e : vs.toArray.size = vs.length := by simp
    rw [e]
    exact comp_rest Ys h0 (.inr ⟨_, hm, rfl, _, rfl⟩) (fun i v I oI C oC D m₂ h tk ys E' hi hy hP hns hm F N => turn i v I oI C oC D m₂ g h tk ys E' hi hy (by simpa using hP) hns hm F N)
      fun ys hy D h tk F N off => fin ys D h tk hy F N (off1_mem off)
theorem comp_rangeTA {r : Addr} {a b : Int} {t u v : Tok} {n : Nat} {news : List (Addr × Obj)} {s₁ : Shared} {yn : Str} {Q : Flow → Shared → Prop} (Ys : Nat → List Value → Prop) (hh : A.handled = none) (F : Fr h₀ L s₁.heap m) (N : News h₀ L s₁.heap news)
    (hr : IsRange s₁.heap r a b 1 t u v) (hsm : Builtin.Range.small a b 1 = true) (hn : Builtin.Range.rangeSize a b 1 = ((n : Nat) : Int)) (hsz : n ≤ sizeLine) (h0 : Ys 0 [])
    (turn : ∀ (i : Nat) (ti : Tok) I oI C oC D m₂ g h tk ys (E' : Value → Shared → Prop), i < n → Ys i ys → LCg.NsObj oC m₂ → m₂ x = some (.int (a + (i : Int)) ti) → Fr h₀ L h m → News h₀ L h ((I, oI) :: (C, oC) :: (D, LCg.lst ys) :: news) →
      wpAny (model prog w) A (isTrue ct (compEnvC scope cl C env) (eval ct (compEnvC scope cl C env))) (fun ok s' => if ok = true then
        wpAny (model prog w) A (eval elt (compEnvC scope cl C env)) (ElEnd h₀ L m { s₁ with heap := g } ((I, oI) :: (C, oC) :: (D, LCg.lst ys) :: news) (fun y => Ys (i + 1) (ys ++ [y]))) E' s'
        else ElEnd h₀ L m { s₁ with heap := g } ((I, oI) :: (C, oC) :: (D, LCg.lst ys) :: news) (fun _ => Ys (i + 1) ys) Value.none s') E' { s₁ with heap := h, toks := tk })
    (fin : ∀ ys D h tk, Ys n ys → Fr h₀ L h (fun z => if z = yn then some (.ref D) else m z) → News h₀ L h ((D, listOf ys.toArray ys.length) :: news) → (∀ p ∈ news, p.1 ≠ D) → Q .next { s₁ with heap := h, toks := tk }) :
    LCt.CompSrcT prog w A h₀ L m env ct elt x scope cl (fun s₂ => LCg.FinA h₀ L m s₂ yn Q) (.ref r) s₁ :=
  .range hh F N hr hsm hn hsz fun g => comp_restT Ys h0 trivial (fun i v I oI C oC D m₂ h tk ys E' hi hy hP hns hm F N => by obtain ⟨ti, rfl⟩ := hP; exact turn i ti I oI C oC D m₂ g h tk ys E' hi hy hns hm F N)
    fun ys hy D h tk F N off => fin ys D h tk hy F N (off1_mem off)
/-- a comprehension over a list of the ledger -/
theorem comp_listA {ax : Addr} {vs : List Value} {k : Nat} {news : List (Addr × Obj)} {s₁ : Shared} {yn : Str} {Q : Flow → Shared → Prop} (Ys : Nat → List Value → Prop) (hh : A.handled = none) (F : Fr h₀ L s₁.heap m) (N : News h₀ L s₁.heap news)
    (hm : (ax, listOf vs.toArray k) ∈ news) (hsz : vs.length ≤ sizeLine) (h0 : Ys 0 [])
    (turn : ∀ (i : Nat) (v : Value) I oI C oC D m₂ g h tk ys (E' : Value → Shared → Prop), i < vs.length → Ys i ys → vs[i]? = some v → LCg.NsObj oC m₂ → m₂ x = some v → Fr h₀ L h m → News h₀ L h ((I, oI) :: (C, oC) :: (D, LCg.lst ys) :: news) →
      wpAny (model prog w) A (eval elt (compEnvC scope cl C env)) (ElEnd h₀ L m { s₁ with heap := g } ((I, oI) :: (C, oC) :: (D, LCg.lst ys) :: news) (fun y => Ys (i + 1) (ys ++ [y]))) E' { s₁ with heap := h, toks := tk })
    (fin : ∀ ys D h tk, Ys vs.length ys → Fr h₀ L h (fun z => if z = yn then some (.ref D) else m z) → News h₀ L h ((D, listOf ys.toArray ys.length) :: news) → (∀ p ∈ news, p.1 ≠ D) → Q .next { s₁ with heap := h, toks := tk }) :
    LCg.CompSrc prog w A h₀ L m env elt x scope cl (fun s₂ => LCg.FinA h₀ L m s₂ yn Q) (.ref ax) s₁ :=
  .ledger hh F N hm (by simpa using hsz) fun g => by
    have e : vs.toArray.size = vs.length := by simp
    rw [e]
    exact comp_rest Ys h0 (.inr ⟨_, hm, rfl, _, rfl⟩) (fun i v I oI C oC D m₂ h tk ys E' hi hy hP hns hm F N => turn i v I oI C oC D m₂ g h tk ys E' hi hy (by simpa using hP) hns hm F N)
      fun ys hy D h tk F N off => fin ys D h tk hy F N (off1_mem off)
end
end Mine
end
section
set_option maxHeartbeats 3000000
open PySem PySem.W PyProof.Rows PySem.StrLaws PySem.Builtin PySem.Builtin.Str
namespace Mine
abbrev comma : Str := Str.ofString ", "
theorem sl_comma : sl comma = [44, 32] := by decide +kernel
theorem comma_len : comma.length = 2 := by decide +kernel
def jl : List (List Nat) → List Nat
  | [] => []
  | [w] => w
  | w :: v :: r => w ++ 44 :: 32 :: jl (v :: r)
theorem sl_join : ∀ ws : List Str, sl (Str.join comma ws) = jl (ws.map sl)
  | [] => rfl
  | [w] => rfl
  | w :: v :: r => by
    show sl (w ++ comma ++ Str.join comma (v :: r)) = _
    rw [sl_append, sl_append, sl_comma, sl_join (v :: r)]
    simp [jl]
theorem at_iff (x : Str) (k : Nat) : At x comma x.length k ↔ (sl x)[k]? = some 44 ∧ (sl x)[k + 1]? = some 32 := by
  unfold At
  rw [subAt_eq, comma_len, beq_iff_eq]
  show _ ∧ ((sl x).drop k).take 2 = sl comma ↔ _
  rw [sl_comma]
  have hl := sl_len x
  constructor
  · rintro ⟨h1, h2⟩
    have e1 : (((sl x).drop k).take 2)[0]? = some 44 := by rw [h2]; rfl
    have e2 : (((sl x).drop k).take 2)[1]? = some 32 := by rw [h2]; rfl
    rw [List.getElem?_take_of_lt (by decide), List.getElem?_drop] at e1 e2
    exact ⟨e1, e2⟩
  · rintro ⟨h1, h2⟩
    have l1 := (List.getElem?_eq_some_iff.mp h2).1
    refine ⟨by omega, ?_⟩
    apply List.ext_getElem?
    intro j
    rcases j with _ | _ | j
    · rw [List.getElem?_take_of_lt (by decide), List.getElem?_drop]; exact h1
    · rw [List.getElem?_take_of_lt (by decide), List.getElem?_drop]; exact h2
    · rw [List.getElem?_take_eq_none (by omega)]; rfl
theorem parts_join (x : Str) : ∀ (ws : List Str) (a f : Nat) (cuts : List Nat), ws ≠ [] → (∀ w ∈ ws, 44 ∉ sl w) → (sl x).drop a = jl (ws.map sl) → a ≤ x.length → ChainG x comma x.length a cuts f → (∀ k, f ≤ k → ¬ At x comma x.length k) →
    partsFrom x 2 a cuts = ws
  | [], _, _, _, h, _, _, _, _, _ => absurd rfl h
  | [w], a, f, cuts, _, hf, hd, ha, hG, hn => by
    have hd' : (sl x).drop a = sl w := hd
    have no : ∀ k, a ≤ k → ¬ At x comma x.length k := by
      intro k hk hA
      have h1 := ((at_iff x k).mp hA).1
      have h2 : (sl w)[k - a]? = some 44 := by rw [← hd', List.getElem?_drop, show a + (k - a) = k by omega]; exact h1
      exact hf w (.head _) (List.mem_of_getElem? h2)
    cases cuts with
    | cons c r => exact absurd hG.2.1 (no c hG.1)
    | nil =>
      show [strSub x a x.length] = [w]
      congr 1
      apply sl_inj
      show (strSub x a x.length).cps.toList = _
      rw [strSub_toList]
      show List.take _ ((sl x).drop a) = _
      rw [hd', List.take_of_length_le]
      have := congrArg List.length hd'
      rw [List.length_drop, sl_len] at this
      omega
  | w :: v :: r, a, f, cuts, _, hf, hd, ha, hG, hn => by
    have hd' : (sl x).drop a = sl w ++ 44 :: 32 :: jl ((v :: r).map sl) := hd
    have hfw := hf w (.head _)
    have no : ∀ k, a ≤ k → k < a + (sl w).length → ¬ At x comma x.length k := by
      intro k hk hk2 hA
      have h1 := ((at_iff x k).mp hA).1
      have h2 : ((sl x).drop a)[k - a]? = some 44 := by rw [List.getElem?_drop, show a + (k - a) = k by omega]; exact h1
      rw [hd', List.getElem?_append_left (by omega)] at h2
      exact hfw (List.mem_of_getElem? h2)
    have yes : At x comma x.length (a + (sl w).length) := by
      rw [at_iff]
      have e1 : ((sl x).drop a)[(sl w).length]? = some 44 := by rw [hd', List.getElem?_append_right (Nat.le_refl _), Nat.sub_self]; rfl
      have e2 : ((sl x).drop a)[(sl w).length + 1]? = some 32 := by rw [hd', List.getElem?_append_right (by omega), show (sl w).length + 1 - (sl w).length = 1 by omega]; rfl
      rw [List.getElem?_drop] at e1 e2
      exact ⟨e1, e2⟩
    cases cuts with
    | nil =>
      have ef : f = a := hG
      exact absurd yes (hn _ (by omega))
    | cons c t =>
      obtain ⟨g1, g2, g3, g4⟩ := hG
      have hc : c = a + (sl w).length := by
        rcases Nat.lt_trichotomy c (a + (sl w).length) with h | h | h
        · exact absurd g2 (no c g1 h)
        · exact h
        · exact absurd yes (g3 _ (by omega) h)
      subst hc
      rw [comma_len] at g4
      have hlen := yes.1
      rw [comma_len] at hlen
      have hdr : (sl x).drop (a + (sl w).length + 2) = jl ((v :: r).map sl) := by
        have : ((sl x).drop a).drop ((sl w).length + 2) = jl ((v :: r).map sl) := by
          rw [hd', List.drop_append, List.drop_eq_nil_of_le (by omega), show (sl w).length + 2 - (sl w).length = 2 by omega]; rfl
        rw [List.drop_drop] at this
        rw [← this]; first | rfl | (congr 1; omega)
      have ih := parts_join x (v :: r) (a + (sl w).length + 2) f t (by simp) (fun u hu => hf u (.tail _ hu)) hdr hlen g4 hn
      show strSub x a (a + (sl w).length) :: partsFrom x 2 (a + (sl w).length + 2) t = w :: v :: r
      rw [ih]
      congr 1
      apply sl_inj
      show (strSub x a (a + (sl w).length)).cps.toList = _
      rw [strSub_toList]
      show List.take _ ((sl x).drop a) = _
      rw [hd', show a + (sl w).length - a = (sl w).length by omega, List.take_left' rfl]
theorem split_join {ws : List Str} (hne : ws ≠ []) (hf : ∀ w ∈ ws, 44 ∉ sl w) : Txt.split (Txt.join comma ws) comma = ws := by
  have hj : Txt.join comma ws = Str.join comma ws := glued_eq_join comma ws
  rw [hj]
  have hsl := sl_join ws
  generalize hx : Str.join comma ws = x at hsl ⊢
  obtain ⟨f, hG, hn⟩ := occ_tight x comma (by rw [comma_len]; decide)
  have main := parts_join x ws 0 f _ hne hf (by rw [List.drop_zero]; exact hsl) (Nat.zero_le _) hG hn
  unfold Txt.split
  split
  · rename_i hc
    rw [Bool.or_eq_true, decide_eq_true_eq, decide_eq_true_eq, comma_len] at hc
    rcases hc with h | h
    · match ws, hne, hx, hsl with
      | [w], _, hx, _ => rw [← hx]; rfl
      | w :: v :: r, _, _, hsl =>
        have := congrArg List.length hsl
        rw [sl_len] at this
        simp [jl] at this
        omega
    · have k1 : Builtin.Str.strKind comma = 1 := by decide +kernel
      rw [k1] at h
      unfold Builtin.Str.strKind at h
      split at h
      · omega
      · split at h <;> omega
  · split
    · rename_i he
      have e0 := List.isEmpty_iff.mp he
      rw [e0] at main
      have h2 : [strSub x 0 x.length] = ws := main
      rw [sub_whole] at h2
      exact h2
    · rw [partsBetween_eq, comma_len]
      exact main
end Mine
namespace Mine
theorem strs_values : ∀ l : List (Str × Tok), StrsAre (strValues l) (l.map (·.1))
  | [] => .nil
  | (x, t) :: l => .cons x t (strs_values l)
section
variable {prog : Program} {w : World} {A : Around} {E : Value → Shared → Prop} {s : Shared} {h₀ : Heap} {L : Addr} {m : Str → Option Value} {news : List (Addr × Obj)} {Q : Value → Shared → Prop}
theorem split_st {ws : List Str} {t u : Tok} (hF : Fr h₀ L s.heap m) (hN : News h₀ L s.heap news) (hne : ws ≠ []) (hf : ∀ w ∈ ws, 44 ∉ sl w) (hw : (ws.map (·.length)).sum + ws.length ≤ 1048576)
    (h : ∀ vs D h' k, StrsAre vs ws → Fr h₀ L h' m → News h₀ L h' ((D, listOf vs.toArray 0) :: news) → (∀ p ∈ news, p.1 ≠ D) → Q (.ref D) { s with heap := h', toks := k }) :
    wpAny (model prog w) A (call (.builtin "str.split") [.str (Txt.join comma ws) t, .str comma u]) Q E s := by
  refine splitN1 hF hN (by decide +kernel) (fun l h' k e F' N' => ?_) ?_
  · rw [split_join hne hf] at e
    exact h (strValues l) _ h' k (e ▸ strs_values l) F' N' fun p hp => Nat.ne_of_lt (Heap.lt_size (hN p hp).1)
  · have h1 := size_glued comma ws
    rw [comma_len] at h1
    show (glued comma ws).length + 2 ≤ sizeLine
    rw [h1, sizeLine_eq]
    omega
end
end Mine
end
section
set_option maxHeartbeats 3000000
open PySem PySem.W PyProof.Rows
namespace Mine
section
variable {prog : Program} {w : World} {A : Around} {E : Value → Shared → Prop} {s : Shared} {h₀ : Heap} {L : Addr} {m : Str → Option Value} {news : List (Addr × Obj)}
theorem slice_from_st {value slice : Expr} {l : Addr} {vs : List Value} {k : Int} {tk : Tok} {Q : Value → Shared → Prop}
    (F : Fr h₀ L s.heap m) (N : News h₀ L s.heap news) (hl : s.heap.IsList l vs.toArray) (h0 : 0 ≤ k) (hsz : vs.length ≤ sizeLine)
    (h : ∀ D h', Fr h₀ L h' m → News h₀ L h' ((D, listOf (vs.drop k.toNat).toArray 0) :: news) → (∀ p ∈ news, p.1 < D) → Q (.ref D) { s with heap := h' })
    (hs : subscripted slice false (.ref l) (.ref s.heap.objs.size) = operate [.ref s.heap.objs.size, .ref l] (getItem (.ref l) (.ref s.heap.objs.size)) := by with_unfolding_all rfl)
    (ht : ∀ r, letTemporaryGo value (.ref l) r = pure () := by intro _; with_unfolding_all rfl) :
    wpAny (model prog w) A (subscriptTail value slice (.ref l) (.ref s.heap.objs.size)) Q E { s with heap := s.heap.push { cls := .type "slice", data := .fields #[.int k tk, .none, .none] } } := by
  refine slice_list F N hl (.int k tk) .none (fun h' F' N' => h _ h' F' ?_ fun p hp => Nat.lt_succ_of_lt (Heap.lt_size (N p hp).1)) hs ht (by simpa using hsz)
  have ex : k = (k.toNat : Int) := by omega
  rw [ex, slicePick_from' vs.toArray k.toNat] at N'
  exact N'
theorem slice_upto_st {value slice : Expr} {l : Addr} {vs : List Value} {k : Int} {tk : Tok} {Q : Value → Shared → Prop}
    (F : Fr h₀ L s.heap m) (N : News h₀ L s.heap news) (hl : s.heap.IsList l vs.toArray) (h0 : 0 ≤ k) (hsz : vs.length ≤ sizeLine)
    (h : ∀ D h', Fr h₀ L h' m → News h₀ L h' ((D, listOf (vs.take k.toNat).toArray 0) :: news) → (∀ p ∈ news, p.1 < D) → Q (.ref D) { s with heap := h' })
    (hs : subscripted slice false (.ref l) (.ref s.heap.objs.size) = operate [.ref s.heap.objs.size, .ref l] (getItem (.ref l) (.ref s.heap.objs.size)) := by with_unfolding_all rfl)
    (ht : ∀ r, letTemporaryGo value (.ref l) r = pure () := by intro _; with_unfolding_all rfl) :
    wpAny (model prog w) A (subscriptTail value slice (.ref l) (.ref s.heap.objs.size)) Q E { s with heap := s.heap.push { cls := .type "slice", data := .fields #[.none, .int k tk, .none] } } := by
  refine slice_list F N hl .none (.int k tk) (fun h' F' N' => h _ h' F' ?_ fun p hp => Nat.lt_succ_of_lt (Heap.lt_size (N p hp).1)) hs ht (by simpa using hsz)
  have ex : k = (k.toNat : Int) := by omega
  rw [ex, slicePick_upto' vs.toArray k.toNat] at N'
  exact N'
end
end Mine
namespace Mine
section
variable {prog : Program} {w : World} {A : Around} {E : Value → Shared → Prop} {s : Shared} {h₀ : Heap} {L : Addr} {m : Str → Option Value} {news : List (Addr × Obj)}
theorem slice_from_ints {value slice : Expr} {l : Addr} {vs : List Value} {ns : List Int} {k : Int} {tk : Tok} {Q : Value → Shared → Prop}
    (F : Fr h₀ L s.heap m) (N : News h₀ L s.heap news) (hl : s.heap.IsList l vs.toArray) (hi : IntsAre vs ns) (h0 : 0 ≤ k) (hsz : ns.length ≤ 1000)
    (h : ∀ D h' us, Fr h₀ L h' m → News h₀ L h' ((D, listOf us.toArray 0) :: news) → (∀ p ∈ news, p.1 < D) → IntsAre us (ns.drop k.toNat) → Q (.ref D) { s with heap := h' })
    (hs : subscripted slice false (.ref l) (.ref s.heap.objs.size) = operate [.ref s.heap.objs.size, .ref l] (getItem (.ref l) (.ref s.heap.objs.size)) := by with_unfolding_all rfl)
    (ht : ∀ r, letTemporaryGo value (.ref l) r = pure () := by intro _; with_unfolding_all rfl) :
    wpAny (model prog w) A (subscriptTail value slice (.ref l) (.ref s.heap.objs.size)) Q E { s with heap := s.heap.push { cls := .type "slice", data := .fields #[.int k tk, .none, .none] } } :=
  slice_from_st F N hl h0 (by have := hi.length; exact Nat.le_trans (by omega : vs.length ≤ 1000) (by decide)) (fun D h' F' N' hlt => h D h' _ F' N' hlt (hi.drop _)) hs ht
theorem slice_upto_ints {value slice : Expr} {l : Addr} {vs : List Value} {ns : List Int} {k : Int} {tk : Tok} {Q : Value → Shared → Prop}
    (F : Fr h₀ L s.heap m) (N : News h₀ L s.heap news) (hl : s.heap.IsList l vs.toArray) (hi : IntsAre vs ns) (h0 : 0 ≤ k) (hsz : ns.length ≤ 1000)
    (h : ∀ D h' us, Fr h₀ L h' m → News h₀ L h' ((D, listOf us.toArray 0) :: news) → (∀ p ∈ news, p.1 < D) → IntsAre us (ns.take k.toNat) → Q (.ref D) { s with heap := h' })
    (hs : subscripted slice false (.ref l) (.ref s.heap.objs.size) = operate [.ref s.heap.objs.size, .ref l] (getItem (.ref l) (.ref s.heap.objs.size)) := by with_unfolding_all rfl)
    (ht : ∀ r, letTemporaryGo value (.ref l) r = pure () := by intro _; with_unfolding_all rfl) :
    wpAny (model prog w) A (subscriptTail value slice (.ref l) (.ref s.heap.objs.size)) Q E { s with heap := s.heap.push { cls := .type "slice", data := .fields #[.none, .int k tk, .none] } } :=
  slice_upto_st F N hl h0 (by have := hi.length; exact Nat.le_trans (by omega : vs.length ≤ 1000) (by decide)) (fun D h' F' N' hlt => h D h' _ F' N' hlt (hi.take _)) hs ht
end
end Mine
namespace Mine
theorem ints_item : ∀ {vs : List Value} {ns : List Int}, IntsAre vs ns → ∀ {j : Nat} {v : Value}, vs[j]? = some v → ∃ n t, v = .int n t ∧ ns[j]? = some n
  | _, _, .nil, j, v, h => by simp at h
  | _, _, .cons n t hr, 0, v, h => ⟨n, t, by simpa using h.symm, rfl⟩
  | _, _, .cons n t hr, j + 1, v, h => by
    obtain ⟨m, u, e1, e2⟩ := ints_item hr (j := j) (v := v) (by simpa using h)
    exact ⟨m, u, e1, by simpa using e2⟩
theorem take_map_succ {α β : Type} {l : List α} {j : Nat} {a : α} (f : α → β) (h : l[j]? = some a) : (l.take (j + 1)).map f = (l.take j).map f ++ [f a] := by
  rw [List.take_add_one, h, List.map_append]; rfl
end Mine
namespace Mine
section
variable {prog : Program} {w : World} {A : Around} {E : Value → Shared → Prop} {s : Shared} {h₀ : Heap} {L : Addr} {m : Str → Option Value} {news : List (Addr × Obj)}
theorem add_st {l b : Addr} {vs ws : List Value} {i j : Nat} {Q : Value → Shared → Prop} (F : Fr h₀ L s.heap m) (N : News h₀ L s.heap news) (hl : (l, listOf vs.toArray i) ∈ news) (hb : (b, listOf ws.toArray j) ∈ news) (hsz : vs.length + ws.length ≤ sizeLine)
    (h : ∀ D h', Fr h₀ L h' m → News h₀ L h' ((D, listOf (vs ++ ws).toArray 0) :: news) → (∀ p ∈ news, p.1 < D) → Q (.ref D) { s with heap := h' }) :
    wpAny (model prog w) A (binaryOp .Add (.ref l) (.ref b)) Q E s :=
  add_lists F N (PySem.IsL.isList (n := i) (N _ hl).1) (PySem.IsL.isList (n := j) (N _ hb).1) (fun h' F' N' => h _ h' F' N' fun p hp => Heap.lt_size (N p hp).1) hsz
end
end Mine
end
section
set_option maxHeartbeats 3000000
open PySem PySem.W PyProof.Rows
namespace Mine
theorem ss_canLayAll0 : ∀ ns : List Str, (∀ x ∈ ns, PyData.strOk x = true) → PyData.canLayAll0 (ns.map PyData.str) = true
  | [], _ => rfl
  | a :: r, h => by
    have h1 := h a (List.Mem.head _)
    have h2 := ss_canLayAll0 r fun x hx => h x (List.Mem.tail _ hx)
    simp [PyData.canLayAll0, PyData.canLay0, h1, h2]
theorem ss_depthAll : ∀ ns : List Str, PyData.depthAll (ns.map PyData.str) = 0
  | [] => rfl
  | _ :: r => by simp [PyData.depthAll, PyData.depth, ss_depthAll r]
theorem ss_shaped (ns : List Str) (h : ∀ x ∈ ns, PyData.strOk x = true) : SeqAt.shaped (.list (ns.map PyData.str)) = true := by
  simp [SeqAt.shaped, PyData.canLay0, PyData.depth, ss_canLayAll0 ns h, ss_depthAll]
theorem ss_sameAll : ∀ ns ms : List Str, PySem.Spec.sameAll (ns.map PyData.str) (ms.map PyData.str) = decide (ns = ms)
  | [], [] => by simp [PySem.Spec.sameAll]
  | [], _ :: _ => by simp [PySem.Spec.sameAll]
  | _ :: _, [] => by simp [PySem.Spec.sameAll]
  | a :: r, b :: t => by
    simp only [List.map_cons, PySem.Spec.sameAll, PySem.Spec.same, ss_sameAll r t]
    by_cases h : a = b <;> by_cases h' : r = t <;> simp [h, h']
theorem ss_same (ns ms : List Str) : PySem.Spec.same (.list (ns.map PyData.str)) (.list (ms.map PyData.str)) = decide (ns = ms) := by
  simp only [PySem.Spec.same]; exact ss_sameAll ns ms
theorem ss_carried : ∀ {vs : List Value} {ns : List Str}, StrsAre vs ns → CarriedAll vs (ns.map PyData.str)
  | _, _, .nil => .nil
  | _, _, .cons _ t r => .cons (.str _ t) (ss_carried r)
section
variable {prog : Program} {w : World} {A : Around} {E : Value → Shared → Prop} {s : Shared} {h₀ : Heap} {L : Addr} {m : Str → Option Value} {news : List (Addr × Obj)}
theorem eq_strs {a b : Addr} {xs ys : List Value} {ns ms : List Str} {i j : Nat} {Q : Value → Shared → Prop} (N : News h₀ L s.heap news) (ha : (a, listOf xs.toArray i) ∈ news) (hb : (b, listOf ys.toArray j) ∈ news) (hi : StrsAre xs ns) (hj : StrsAre ys ms) (oi : ∀ x ∈ ns, PyData.strOk x = true) (oj : ∀ x ∈ ms, PyData.strOk x = true) (hu : A.units + 64 < cLine) (h : Q (.bool (decide (ns = ms))) s) :
    wpAny (model prog w) A (compareOp .Eq (.ref a) (.ref b)) Q E s :=
  eq_dataH_same (reads_newData (PySem.IsL.isList (n := i) (N _ ha).1) (ss_carried hi)) (reads_newData (PySem.IsL.isList (n := j) (N _ hb).1) (ss_carried hj)) (ss_shaped _ oi) (ss_shaped _ oj) hu (SeqAt.noMix_of_shape (.list .str) rfl _ _ (list_map_has fun _ => rfl) (list_map_has fun _ => rfl)) (by rw [ss_same]; exact h)
theorem truthy_strs {a : Addr} {xs : List Value} {ns : List Str} {i : Nat} {Q : Bool → Shared → Prop} (N : News h₀ L s.heap news) (ha : (a, listOf xs.toArray i) ∈ news) (hi : StrsAre xs ns) (hz : ns.length ≤ 1000)
    (h1 : 0 < ns.length → Q true { s with toks := s.toks + 1 + 1 }) (h2 : ns.length = 0 → Q false { s with toks := s.toks + 1 + 1 }) : wpAny (model prog w) A (truthy (.ref a)) Q E s := by
  have hl := hi.length
  refine wpAny_truthy_list (PySem.IsL.isList (n := i) (N _ ha).1) (by rw [List.size_toArray]; omega) ?_
  cases xs with
  | nil => exact h2 (by simpa using hl.symm)
  | cons x r => exact h1 (by rw [← hl]; simp)
theorem slice_from_strs {value slice : Expr} {l : Addr} {vs : List Value} {ns : List Str} {k : Int} {tk : Tok} {i : Nat} {Q : Value → Shared → Prop}
    (F : Fr h₀ L s.heap m) (N : News h₀ L s.heap news) (hl : (l, listOf vs.toArray i) ∈ news) (hi : StrsAre vs ns) (h0 : 0 ≤ k) (hsz : ns.length ≤ 1000)
    (h : ∀ D h' us, Fr h₀ L h' m → News h₀ L h' ((D, listOf us.toArray 0) :: news) → (∀ p ∈ news, p.1 < D) → StrsAre us (ns.drop k.toNat) → Q (.ref D) { s with heap := h' })
    (hs : subscripted slice false (.ref l) (.ref s.heap.objs.size) = operate [.ref s.heap.objs.size, .ref l] (getItem (.ref l) (.ref s.heap.objs.size)) := by with_unfolding_all rfl)
    (ht : ∀ r, letTemporaryGo value (.ref l) r = pure () := by intro _; with_unfolding_all rfl) :
    wpAny (model prog w) A (subscriptTail value slice (.ref l) (.ref s.heap.objs.size)) Q E { s with heap := s.heap.push { cls := .type "slice", data := .fields #[.int k tk, .none, .none] } } :=
  slice_from_st F N (PySem.IsL.isList (n := i) (N _ hl).1) h0 (by have := hi.length; exact Nat.le_trans (by omega : vs.length ≤ 1000) (by decide)) (fun D h' F' N' hlt => h D h' _ F' N' hlt (hi.drop' _)) hs ht
theorem slice_all_strs {value slice : Expr} {l : Addr} {vs : List Value} {ns : List Str} {i : Nat} {Q : Value → Shared → Prop}
    (F : Fr h₀ L s.heap m) (N : News h₀ L s.heap news) (hl : (l, listOf vs.toArray i) ∈ news) (hi : StrsAre vs ns) (hsz : ns.length ≤ 1000)
    (h : ∀ D h' us, Fr h₀ L h' m → News h₀ L h' ((D, listOf us.toArray 0) :: news) → (∀ p ∈ news, p.1 < D) → StrsAre us ns → Q (.ref D) { s with heap := h' })
    (hs : subscripted slice false (.ref l) (.ref s.heap.objs.size) = operate [.ref s.heap.objs.size, .ref l] (getItem (.ref l) (.ref s.heap.objs.size)) := by with_unfolding_all rfl)
    (ht : ∀ r, letTemporaryGo value (.ref l) r = pure () := by intro _; with_unfolding_all rfl) :
    wpAny (model prog w) A (subscriptTail value slice (.ref l) (.ref s.heap.objs.size)) Q E { s with heap := s.heap.push { cls := .type "slice", data := .fields #[.none, .none, .none] } } := by
  refine slice_list F N (PySem.IsL.isList (n := i) (N _ hl).1) .none .none (fun h' F' N' => h _ h' vs F' ?_ (fun p hp => Nat.lt_succ_of_lt (Heap.lt_size (N p hp).1)) hi) hs ht (by have := hi.length; rw [List.size_toArray]; exact Nat.le_trans (by omega : vs.length ≤ 1000) (by decide))
  rw [slicePick_all] at N'
  exact N'
theorem slice_neg_strs {value slice : Expr} {l : Addr} {vs : List Value} {ns : List Str} {i : Nat} {k : Int} {tk : Tok} {Q : Value → Shared → Prop}
    (F : Fr h₀ L s.heap m) (N : News h₀ L s.heap news) (hl : (l, listOf vs.toArray i) ∈ news) (hi : StrsAre vs ns) (h0 : k < 0) (hsz : ns.length ≤ 1000)
    (h : ∀ D h' us, Fr h₀ L h' m → News h₀ L h' ((D, listOf us.toArray 0) :: news) → (∀ p ∈ news, p.1 < D) → StrsAre us (ns.take (ns.length - (-k).toNat)) → Q (.ref D) { s with heap := h' })
    (hs : subscripted slice false (.ref l) (.ref s.heap.objs.size) = operate [.ref s.heap.objs.size, .ref l] (getItem (.ref l) (.ref s.heap.objs.size)) := by with_unfolding_all rfl)
    (ht : ∀ r, letTemporaryGo value (.ref l) r = pure () := by intro _; with_unfolding_all rfl) :
    wpAny (model prog w) A (subscriptTail value slice (.ref l) (.ref s.heap.objs.size)) Q E { s with heap := s.heap.push { cls := .type "slice", data := .fields #[.none, .int k tk, .none] } } := by
  refine slice_list F N (PySem.IsL.isList (n := i) (N _ hl).1) .none (.int k tk) (fun h' F' N' => h _ h' (vs.take (ns.length - (-k).toNat)) F' ?_ (fun p hp => Nat.lt_succ_of_lt (Heap.lt_size (N p hp).1)) (hi.take' _)) hs ht (by have := hi.length; rw [List.size_toArray]; exact Nat.le_trans (by omega : vs.length ≤ 1000) (by decide))
  have ex : k = -((-k).toNat : Int) := by omega
  have hv : vs.toArray.size = ns.length := by rw [List.size_toArray, hi.length]
  rw [ex, slicePick_butLast vs.toArray (-k).toNat (by omega), hv] at N'
  exact N'
end
end Mine
end
section
set_option maxHeartbeats 3000000
open PySem PySem.W PyProof.Rows
namespace Mine
section
variable {prog : Program} {w : World} {A : Around} {E : Value → Shared → Prop} {Q : Flow → Shared → Prop} {s : Shared} {env : Env} {h₀ : Heap}
/-- a for over a list of ints of the ledger -/
theorem list_st {σ : Type} {x : Str} {body : List Stmt} {l : Addr} {vs : List Value} {ns : List Int} {nn : Nat} {m₀ : Str → Option Value} {news : List (Addr × Obj)} (PS : σ → List (Str × Value)) (LED : σ → List (Addr × Obj)) (P : Nat → σ → Prop) (c₀ : σ)
    (hadr : ∀ c c', (LED c).map (·.1) = (LED c').map (·.1)) (hin : ∀ c, (l, listOf vs.toArray nn) ∈ LED c)
    (hh : A.handled = none) (hi : IntsAre vs ns)
    (F : Fr h₀ env.locals s.heap m₀) (N : News h₀ env.locals s.heap news) (hled : ∀ p ∈ LED c₀, p ∈ news) (hps : ∀ p ∈ PS c₀, m₀ p.1 = some p.2) (hp : P 0 c₀)
    (turn : ∀ (i : Nat) (k : Int) (c : σ) (u : Str → Option Value) (t : Tok) (h : Heap) (tk : Nat) (own : List (Addr × Obj)), ns[i]? = some k → OwnOff own ((LED c).map (·.1)) → P i c →
      Fr h₀ env.locals h (fun y => if y = x then some (.int k t) else kstB u (PS c) y) → News h₀ env.locals h (LED c ++ own) →
      wpAny (model prog w) A (execs body env) (TurnPost h₀ env.locals s PS LED own (P (i + 1)) Q) E { s with heap := h, toks := tk })
    (done : ∀ (c : σ) (u : Str → Option Value) (h : Heap) (tk : Nat), P ns.length c → Fr h₀ env.locals h (kstB u (PS c)) → News h₀ env.locals h (LED c) → Q .next { s with heap := h, toks := tk }) :
    wpAny (model prog w) A (pyIter (.ref l)) (fun it s₂ => LoopAtV prog w A h₀ env x body Q E it s₂) E s := by
  refine iter_invNL (news := LED c₀) (fun i m nx => ∃ c : σ, nx = LED c ∧ (∀ p ∈ PS c, m p.1 = some p.2) ∧ P i c) hh (hin c₀) hi F (fun p hp => N p (hled p hp)) ⟨c₀, rfl, hps, hp⟩ ?_ ?_
  · rintro i k t m₁ nx h tk own hk _ hoff _ ⟨c, rfl, h1, hp'⟩ F₁ N₁
    have e : kstB m₁ (PS c) = m₁ := by
      funext z
      exact kstB_eq h1 fun _ => rfl
    have F₂ : Fr h₀ env.locals h (fun y => if y = x then some (.int k t) else kstB m₁ (PS c) y) := by rw [e]; exact F₁
    refine wpAny_mono (turn i k c m₁ t h tk own hk (by rw [hadr c c₀]; exact hoff) hp' F₂ N₁) (fun f s₂ q => ?_) fun _ _ x => x
    have fin : ∀ s₃, TurnEnd h₀ env.locals s PS LED own (P (i + 1)) s₃ → InvEndN h₀ env.locals (fun m' nx => (l, listOf vs.toArray nn) ∈ nx ∧ ∃ c : σ, nx = LED c ∧ (∀ p ∈ PS c, m' p.1 = some p.2) ∧ P (i + 1) c) own ((LED c₀).map (·.1)) { s with heap := h, toks := tk } s₃ := by
      rintro _ ⟨c', F', N', hn', ho', hk', hp9⟩
      exact ⟨_, _, _, _, LED c', rfl, F', N', hn', ho', hadr _ _, hin c', c', rfl, hk', hp9⟩
    cases q with
    | ret h => exact h
    | brk h => exact h
    | next h => exact fin _ h
    | cont h => exact fin _ h
  · rintro m₁ nx h tk _ ⟨c, rfl, h1, hp'⟩ F₁ N₁
    exact done c m₁ h tk hp' (fr_say _ F₁ h1) N₁
end
end Mine
end
section
set_option maxHeartbeats 3000000
open PySem PySem.W PyProof.Rows
namespace Mine
section
variable {prog : Program} {w : World} {A : Around} {E : Value → Shared → Prop} {Q : Flow → Shared → Prop} {s : Shared} {env : Env} {h₀ : Heap}
/-- a for over whatever can be walked; the ledger may change -/
theorem walk_new_st {σ : Type} {x : Str} {px : Pos} {body orelse : List Stmt} {I : Addr} {fp : List Addr} {n : Nat} {P0 : Nat → Value → Prop} {St : Nat → Heap → Prop} {S : List (Addr × Obj) → Prop} {m₀ : Str → Option Value} {news : List (Addr × Obj)} (PS : σ → List (Str × Value)) (LED : σ → List (Addr × Obj)) (P : Nat → σ → Prop) (c₀ : σ)
    (W : Walks prog w A I fp [I] n P0 St) (hIo : ∀ i h, St i h → ∃ o, h.get? I = some o)
    (hSt : ∀ i h h' o nw, St i h → h.get? I = some o → h'.get? I = some o → (∀ b o, h₀.get? b = some o → h'.get? b = some o) → News h₀ env.locals h' nw → S nw → St i h')
    (hS : ∀ c, S (LED c)) (hst0 : St 0 s.heap)
    (F : Fr h₀ env.locals s.heap m₀) (N : News h₀ env.locals s.heap news) (hIL : I ≠ env.locals) (hI0 : h₀.get? I = none) (hled : ∀ p ∈ LED c₀, p ∈ news) (hoff0 : ∀ p ∈ LED c₀, p.1 ≠ I) (hps : ∀ p ∈ PS c₀, m₀ p.1 = some p.2) (hp : P 0 c₀)
    (turn : ∀ (i : Nat) (v : Value) (c : σ) (u : Str → Option Value) (h : Heap) (tk : Nat) (own : List (Addr × Obj)), i < n → P0 i v → OwnOff own ((LED c).map (·.1)) → P i c →
      Fr h₀ env.locals h (kstB u (PS c)) → News h₀ env.locals h (LED c ++ own) →
      wpAny (model prog w) A (storeName env x v) (fun _ s₂ => wpAny (model prog w) A (execs body env) (TurnPost h₀ env.locals s PS LED own (fun c' => P (i + 1) c' ∧ OwnOff own ((LED c').map (·.1))) Q) E s₂) E { s with heap := h, toks := tk })
    (done : ∀ (c : σ) (u : Str → Option Value) (h : Heap) (tk : Nat), P n c → Fr h₀ env.locals h (kstB u (PS c)) → News h₀ env.locals h (LED c) → wpAny (model prog w) A (execs orelse env) Q E { s with heap := h, toks := tk })
    (hE : PassesOwn (model prog w) A env E) :
    codeAny (model prog w) A (.forLoop (.Name x px) (.ref I) body orelse env) (fun r s' => match r with | .ok f => Q f s' | .error e => cameBackBy (model prog w) A env E e s') s := by
  refine codeAny_forLoop (fun k s' => ∃ (i : Nat) (c : σ) (h' : Heap) (tk : Nat) (m' : Str → Option Value), i ≤ n ∧ k = n + 1 - i ∧ s' = { s with heap := h', toks := tk } ∧
    St i h' ∧ Fr h₀ env.locals h' m' ∧ News h₀ env.locals h' (LED c) ∧ (∀ p ∈ PS c, m' p.1 = some p.2) ∧ P i c ∧ ∀ p ∈ LED c, p.1 ≠ I) ?_ (n + 1)
    ⟨0, c₀, _, _, m₀, Nat.zero_le _, rfl, rfl, hst0, F, fun p hp => N p (hled p hp), hps, hp, hoff0⟩
  rintro k s' ⟨i, c, h', tk, m', hi, rfl, rfl, hst, F', N', hk', hp', hIled⟩
  have next : ∀ h₁ : Heap, (∀ b o, b ∉ [I] → h'.get? b = some o → h₁.get? b = some o) → Fr h₀ env.locals h₁ m' ∧ News h₀ env.locals h₁ (LED c) := fun h₁ hk₁ =>
    ⟨⟨F'.ns.at' fun o e => hk₁ _ o (fun hm => hIL (List.mem_singleton.mp hm).symm) e, fun b o e => hk₁ b o (fun hm => by rw [List.mem_singleton.mp hm, hI0] at e; cases e) (F'.keep b o e), F'.above⟩,
      fun p hp => ⟨hk₁ _ _ (fun hm => hIled p hp (List.mem_singleton.mp hm)) (N' p hp).1, (N' p hp).2⟩⟩
  by_cases hlt : i < n
  · refine W.item i _ _ _ hlt hst fun v h₁ tk₁ hP hst₁ hk₁ => ?_
    obtain ⟨F₁, N₁⟩ := next h₁ hk₁
    obtain ⟨o, ho⟩ := hIo _ _ hst₁
    have hown : OwnOff [(I, o)] ((LED c).map (·.1)) := by
      intro p hp b hb e
      obtain ⟨q, hq, rfl⟩ := List.mem_map.mp hb
      rw [List.mem_singleton.mp hp] at e
      exact hIled q hq e.symm
    have N₃ : News h₀ env.locals h₁ (LED c ++ [(I, o)]) := by
      intro p hp
      rcases List.mem_append.mp hp with hp | hp
      · exact N₁ p hp
      · rw [List.mem_singleton.mp hp]; exact ⟨ho, hIL, hI0⟩
    have go := turn i v c m' h₁ tk₁ [(I, o)] hlt hP hown hp' (fr_say _ F₁ hk') N₃
    refine wpAny_assign_Name (wpAny_mono (wpAny_passesOwn hE go) (fun _ s₂ go₂ => ?_) fun _ _ e => e)
    refine wpAny_passesOwn hE (wpAny_mono go₂ (fun f s₃ q => ?_) fun _ _ e => e)
    have fin : ∀ s₃, TurnEnd h₀ env.locals s PS LED [(I, o)] (fun c' => P (i + 1) c' ∧ OwnOff [(I, o)] ((LED c').map (·.1))) s₃ → ∃ k, k < n + 1 - i ∧ ∃ (i : Nat) (c : σ) (h' : Heap) (tk : Nat) (m' : Str → Option Value), i ≤ n ∧ k = n + 1 - i ∧ s₃ = { s with heap := h', toks := tk } ∧
        St i h' ∧ Fr h₀ env.locals h' m' ∧ News h₀ env.locals h' (LED c) ∧ (∀ p ∈ PS c, m' p.1 = some p.2) ∧ P i c ∧ ∀ p ∈ LED c, p.1 ≠ I := by
      rintro _ ⟨c', F9, N9, hl9, ho9, hk9, hp9, hoff9⟩
      have N8 : News h₀ env.locals _ (LED c') := fun p hp => N9 p (hl9 p hp)
      exact ⟨n + 1 - (i + 1), by omega, i + 1, c', _, _, _, hlt, rfl, rfl, hSt _ _ _ o (LED c') hst₁ ho (N9 _ (ho9 _ (List.mem_singleton.mpr rfl))).1 F9.keep N8 (hS c'), F9, N8, hk9, hp9, fun p hp e => hoff9 _ (List.mem_singleton.mpr rfl) p.1 (List.mem_map.mpr ⟨p, hp, rfl⟩) e.symm⟩
    cases q with
    | ret h => exact h
    | brk h => exact h
    | next h => exact fin _ h
    | cont h => exact fin _ h
  · have hin : i = n := by omega
    subst hin
    refine W.done _ _ _ hst fun h₁ tk₁ hk₁ => ?_
    obtain ⟨F₁, N₁⟩ := next h₁ hk₁
    exact wpAny_passesOwn hE (done c m' h₁ tk₁ hp' (fr_say _ F₁ hk') N₁)
/-- a for over a list of the ledger -/
theorem list_new_st {σ : Type} {x : Str} {px : Pos} {body orelse : List Stmt} {l : Addr} {vs : List Value} {nn : Nat} {m₀ : Str → Option Value} {news : List (Addr × Obj)} (PS : σ → List (Str × Value)) (LED : σ → List (Addr × Obj)) (P : Nat → σ → Prop) (c₀ : σ)
    (hh : A.handled = none) (hin : ∀ c, (l, listOf vs.toArray nn) ∈ LED c)
    (F : Fr h₀ env.locals s.heap m₀) (N : News h₀ env.locals s.heap news) (hled : ∀ p ∈ LED c₀, p ∈ news) (hps : ∀ p ∈ PS c₀, m₀ p.1 = some p.2) (hp : P 0 c₀)
    (turn : ∀ (i : Nat) (v : Value) (c : σ) (u : Str → Option Value) (g h : Heap) (tk : Nat) (own : List (Addr × Obj)), i < vs.length → vs[i]? = some v → OwnOff own ((LED c).map (·.1)) → P i c →
      Fr h₀ env.locals h (kstB u (PS c)) → News h₀ env.locals h (LED c ++ own) →
      wpAny (model prog w) A (storeName env x v) (fun _ s₂ => wpAny (model prog w) A (execs body env) (TurnPost h₀ env.locals { s with heap := g } PS LED own (fun c' => P (i + 1) c' ∧ OwnOff own ((LED c').map (·.1))) Q) E s₂) E { s with heap := h, toks := tk })
    (done : ∀ (c : σ) (u : Str → Option Value) (h : Heap) (tk : Nat), P vs.length c → Fr h₀ env.locals h (kstB u (PS c)) → News h₀ env.locals h (LED c) → wpAny (model prog w) A (execs orelse env) Q E { s with heap := h, toks := tk })
    (hE : PassesOwn (model prog w) A env E := by passes_own) :
    wpAny (model prog w) A (pyIter (.ref l)) (fun it s₂ => codeAny (model prog w) A (.forLoop (.Name x px) it body orelse env) (fun r s' => match r with | .ok f => Q f s' | .error e => cameBackBy (model prog w) A env E e s') s₂) E s := by
  have hol := (N _ (hled _ (hin c₀))).1
  have hls : s.heap.IsList l vs.toArray := ⟨_, hol, rfl, nn, rfl⟩
  have hne : l ≠ s.heap.objs.size := Nat.ne_of_lt (Heap.lt_size hol)
  refine wpAny_pyIter_list hls ?_
  have W := Walks.list (prog := prog) (w := w) hh s.heap.objs.size l hne vs.toArray
  have up : ∀ b o, s.heap.get? b = some o → (s.heap.push { cls := .type "list_iterator", data := .fields #[.ref l, .int 0 0] }).get? b = some o := fun b o e => Heap.get?_push_of_some _ e
  have e : vs.toArray.size = vs.length := by simp
  rw [e] at W
  refine walk_new_st (s := { s with heap := s.heap.push { cls := .type "list_iterator", data := .fields #[.ref l, .int 0 0] } }) PS LED P c₀ W (S := fun nw => (l, listOf vs.toArray nn) ∈ nw) (fun i h st => by obtain ⟨o, e, _⟩ := st.1; exact ⟨o, e⟩) ?_ hin
    ⟨⟨_, Heap.get?_push_size _ rfl, rfl, rfl⟩, hls.push _⟩ (F.push _) (N.grown up) (Nat.ne_of_gt F.ns.lt) (next_is_new F) hled (fun p hp => Nat.ne_of_lt (Heap.lt_size (N p (hled p hp)).1)) hps hp
    (fun i v c u h tk own hi hv => turn i v c u _ h tk own hi (by simpa using hv)) done hE
  intro i h h' o nw st e e' k N' S
  exact ⟨by obtain ⟨o', q, r⟩ := st.1; rw [e] at q; cases q; exact ⟨o, e', r⟩, ⟨_, (N' _ S).1, rfl, nn, rfl⟩⟩
/-- a for over a dict of the ledger -/
theorem dict_new_st {K : Type} [DecidableEq K] {knd : KeyKind prog w K} {σ : Type} {x : Str} {px : Pos} {body orelse : List Stmt} {d : Addr} {od : Obj} {kvs : List (K × Value)} {m₀ : Str → Option Value} {news : List (Addr × Obj)} (PS : σ → List (Str × Value)) (LED : σ → List (Addr × Obj)) (P : Nat → σ → Prop) (c₀ : σ)
    (hh : A.handled = none) (hin : ∀ c, (d, od) ∈ LED c) (hd : od.IsDictOf knd kvs) (lo : (d == sysModules) = false)
    (F : Fr h₀ env.locals s.heap m₀) (N : News h₀ env.locals s.heap news) (hled : ∀ p ∈ LED c₀, p ∈ news) (hps : ∀ p ∈ PS c₀, m₀ p.1 = some p.2) (hp : P 0 c₀)
    (turn : ∀ (i : Nat) (v : Value) (k : K) (y : Value) (c : σ) (u : Str → Option Value) (g h : Heap) (tk : Nat) (own : List (Addr × Obj)), i < kvs.length → kvs[i]? = some (k, y) → knd.is k v = true → OwnOff own ((LED c).map (·.1)) → P i c →
      Fr h₀ env.locals h (kstB u (PS c)) → News h₀ env.locals h (LED c ++ own) →
      wpAny (model prog w) A (storeName env x v) (fun _ s₂ => wpAny (model prog w) A (execs body env) (TurnPost h₀ env.locals { s with heap := g } PS LED own (fun c' => P (i + 1) c' ∧ OwnOff own ((LED c').map (·.1))) Q) E s₂) E { s with heap := h, toks := tk })
    (done : ∀ (c : σ) (u : Str → Option Value) (h : Heap) (tk : Nat), P kvs.length c → Fr h₀ env.locals h (kstB u (PS c)) → News h₀ env.locals h (LED c) → wpAny (model prog w) A (execs orelse env) Q E { s with heap := h, toks := tk })
    (hE : PassesOwn (model prog w) A env E := by passes_own) :
    wpAny (model prog w) A (pyIter (.ref d)) (fun it s₂ => codeAny (model prog w) A (.forLoop (.Name x px) it body orelse env) (fun r s' => match r with | .ok f => Q f s' | .error e => cameBackBy (model prog w) A env E e s') s₂) E s := by
  obtain ⟨ep, ha⟩ := KdkAt.of hd
  have hol := (N _ (hled _ (hin c₀))).1
  have hne : d ≠ s.heap.objs.size := Nat.ne_of_lt (Heap.lt_size hol)
  refine wpAny_pyIter_dict lo (ha.dictAt hol) ?_
  have W := Walks.dictKeys (prog := prog) (w := w) (knd := knd) hh s.heap.objs.size d hne kvs ep
  have up : ∀ b o, s.heap.get? b = some o → (s.heap.push { cls := .type "dict_keyiterator", data := .fields #[.ref d, .int 0 0, .int kvs.length 0, .int ep 0] }).get? b = some o := fun b o e => Heap.get?_push_of_some _ e
  refine walk_new_st (s := { s with heap := s.heap.push { cls := .type "dict_keyiterator", data := .fields #[.ref d, .int 0 0, .int kvs.length 0, .int ep 0] } }) PS LED P c₀ W (S := fun nw => (d, od) ∈ nw) (fun i h st => by obtain ⟨o, e, _⟩ := st.1; exact ⟨o, e⟩) ?_ hin
    ⟨⟨_, Heap.get?_push_size _ rfl, rfl, rfl⟩, ha.dictAt (up _ _ hol)⟩ (F.push _) (N.grown up) (Nat.ne_of_gt F.ns.lt) (next_is_new F) hled (fun p hp => Nat.ne_of_lt (Heap.lt_size (N p (hled p hp)).1)) hps hp
    (fun i v c u h tk own hi hv => by obtain ⟨k, y, h1, h2⟩ := hv; exact turn i v k y c u _ h tk own hi h1 h2) done hE
  intro i h h' o nw st e e' k N' S
  exact ⟨by obtain ⟨o', q, r⟩ := st.1; rw [e] at q; cases q; exact ⟨o, e', r⟩, ha.dictAt (N' _ S).1⟩
end
/-- a comprehension over a dict of the ledger -/
def CompSrcD (prog : Program) (w : World) (A : Around) (h₀ : Heap) (L : Addr) (m : Str → Option Value) (env : Env) (elt : Expr) (x : Str) (scope : Scope) (cl : List (Str × Addr)) (Fin : Shared → List Value → List (Addr × Obj) → Prop) (xv : Value) (s₁ : Shared) : Prop :=
  ∃ (d : Addr) (o : Obj) (kvs : List (Int × Value)) (news : List (Addr × Obj)), xv = .ref d ∧ A.handled = none ∧ (d == sysModules) = false ∧ Fr h₀ L s₁.heap m ∧ News h₀ L s₁.heap news ∧ (d, o) ∈ news ∧ o.IsDictOf (intKind prog w) kvs ∧ kvs.length ≤ sizeLine ∧
    ∀ s₂ : Shared, (∃ h, s₂ = { s₁ with heap := h }) → LCg.CompRest prog w A h₀ L m env elt x scope cl s₂ (fun nw => (d, o) ∈ nw) (fun i v => ∃ k y, kvs[i]? = some (k, y) ∧ (intKind prog w).is k v = true) (Fin s₂) kvs.length 0 [] news
section
variable {prog : Program} {w : World} {A : Around} {E : Value → Shared → Prop} {s : Shared} {h₀ : Heap} {L : Addr} {m : Str → Option Value} {env : Env}
theorem ListComp_D {elt iter : Expr} {x : Str} {px : Pos} {scope : Scope} {cl : List (Str × Addr)} {pos : Pos} {Q : Value → Shared → Prop} (F₀ : Fr h₀ L s.heap m)
    (hclos : closureFor scope env = pure cl) (hcell : ∀ y ∈ scope.names, y.2 ≠ .cell) (hkind : scope.kind = .function)
    (hnames : ∀ y ∈ scope.names, y.2 = .local → scope.names.lookup y.1 = some .local) (hx : scope.names.lookup x = some .local)
    (h : wpAny (model prog w) A (eval iter env) (CompSrcD prog w A h₀ L m env elt x scope cl (fun s₂ => LCg.FinE h₀ L m s₂ Q)) E s)
    (hs : ∀ x, foldedSetIterable iter env x = pure x := by intro _; rfl) :
    wpAny (model prog w) A (eval (.ListComp elt [⟨.Name x px, iter, [], 0⟩] scope pos) env) Q E s := by
  rw [eval_ListComp]
  refine wpAny_comprehension_free (use := none) rfl hs hclos hkind hnames (wpAny_mono h (fun xv s₁ h₁ => ?_) fun _ _ e => e)
  obtain ⟨d, o, kvs, news, rfl, hh, lo, F, N, hm, hd, hsz, R⟩ := h₁
  obtain ⟨ep, ha⟩ := KdkAt.of hd
  have hol := (N _ hm).1
  have hlt : d < s₁.heap.objs.size := Heap.lt_size hol
  refine wpAny_pyIter_dict lo (ha.dictAt hol) ?_
  have up : ∀ b o, s₁.heap.get? b = some o → (s₁.heap.push { cls := .type "dict_keyiterator", data := .fields #[.ref d, .int 0 0, .int kvs.length 0, .int ep 0] }).get? b = some o := fun b o e => Heap.get?_push_of_some _ e
  refine LCg.block_U (Walks.dictKeys (knd := intKind prog w) hh s₁.heap.objs.size d (Nat.ne_of_lt hlt) kvs ep) hsz (fun i h st => by obtain ⟨o, e, _⟩ := st.1; exact ⟨o, e⟩) ?_ hcell hkind hx ⟨⟨_, Heap.get?_push_size _ rfl, rfl, rfl⟩, ha.dictAt (up _ _ hol)⟩ (fun b hb => ?_)
    (F.keeps up) (N.grown up) (Nat.ne_of_lt F.ns.lt) (next_is_new F) (fun p hp => Nat.ne_of_lt (Heap.lt_size (N p hp).1)) hm (R _ ⟨_, rfl⟩) ?_
  · intro i h h' o' nw st e e' k N' S
    exact ⟨by obtain ⟨o2, q, r⟩ := st.1; rw [e] at q; cases q; exact ⟨o', e', r⟩, ha.dictAt (N' _ S).1⟩
  · show b < (s₁.heap.push _).objs.size
    rw [Heap.size_push]
    rcases List.mem_cons.mp hb with rfl | hb
    · exact Nat.lt_succ_self _
    · rw [List.mem_singleton.mp hb]; exact Nat.lt_succ_of_lt hlt
  · intro D C h tk m' ys news' F' N' o1 hn hC₀ hD₀ hCL hDL hCD offC fin
    refine ⟨m', hn, fun h'' hs'' => fin D h'' tk (F'.change hs'' hCL hC₀) (fun p hp => ?_) o1⟩
    refine ⟨hs''.extBut _ _ ?_ (N' p hp).1, (N' p hp).2⟩
    rcases List.mem_cons.mp hp with rfl | hp
    · exact Ne.symm hCD
    · exact offC p hp
theorem comp_dict {elt : Expr} {x : Str} {scope : Scope} {cl : List (Str × Addr)} {d : Addr} {o : Obj} {kvs : List (Int × Value)} {news : List (Addr × Obj)} {s₁ : Shared} {Q : Value → Shared → Prop} (Ys : Nat → List Value → Prop) (hh : A.handled = none) (lo : (d == sysModules) = false) (F : Fr h₀ L s₁.heap m) (N : News h₀ L s₁.heap news)
    (hm : (d, o) ∈ news) (hd : o.IsDictOf (intKind prog w) kvs) (hsz : kvs.length ≤ sizeLine) (h0 : Ys 0 [])
    (turn : ∀ (i : Nat) (v : Value) (k : Int) (y : Value) I oI C oC D m₂ g h tk ys (E' : Value → Shared → Prop), i < kvs.length → Ys i ys → kvs[i]? = some (k, y) → (intKind prog w).is k v = true → LCg.NsObj oC m₂ → m₂ x = some v → Fr h₀ L h m → News h₀ L h ((I, oI) :: (C, oC) :: (D, LCg.lst ys) :: news) →
      wpAny (model prog w) A (eval elt (compEnvC scope cl C env)) (ElEnd h₀ L m { s₁ with heap := g } ((I, oI) :: (C, oC) :: (D, LCg.lst ys) :: news) (fun y => Ys (i + 1) (ys ++ [y]))) E' { s₁ with heap := h, toks := tk })
    (fin : ∀ ys D h tk, Ys kvs.length ys → Fr h₀ L h m → News h₀ L h ((D, listOf ys.toArray ys.length) :: news) → (∀ p ∈ news, p.1 ≠ D) → Q (.ref D) { s₁ with heap := h, toks := tk }) :
    CompSrcD prog w A h₀ L m env elt x scope cl (fun s₂ => LCg.FinE h₀ L m s₂ Q) (.ref d) s₁ :=
  ⟨d, o, kvs, news, rfl, hh, lo, F, N, hm, hd, hsz, fun s₂ ⟨g, e⟩ => e ▸ comp_rest Ys h0 hm (fun i v I oI C oC D m₂ h tk ys E' hi hy hP hns hm F N => by obtain ⟨k, y, h1, h2⟩ := hP; exact turn i v k y I oI C oC D m₂ g h tk ys E' hi hy h1 h2 hns hm F N)
    fun ys hy D h tk F N off => fin ys D h tk hy F N (off1_mem off)⟩
end
end Mine
end
section
set_option maxHeartbeats 3000000
open PySem PySem.W PyProof.Rows
namespace Mine
/-- a comprehension over a tuple of the ledger -/
def CompSrcP (prog : Program) (w : World) (A : Around) (h₀ : Heap) (L : Addr) (m : Str → Option Value) (env : Env) (elt : Expr) (x : Str) (scope : Scope) (cl : List (Str × Addr)) (Fin : Shared → List Value → List (Addr × Obj) → Prop) (xv : Value) (s₁ : Shared) : Prop :=
  ∃ (ax : Addr) (its : Array Value) (k : Nat) (news : List (Addr × Obj)), xv = .ref ax ∧ A.handled = none ∧ Fr h₀ L s₁.heap m ∧ News h₀ L s₁.heap news ∧ (ax, ({ cls := .type "tuple", data := .seq its k } : Obj)) ∈ news ∧ its.size ≤ sizeLine ∧
    ∀ s₂ : Shared, (∃ h, s₂ = { s₁ with heap := h }) → LCg.CompRest prog w A h₀ L m env elt x scope cl s₂ (fun nw => (ax, ({ cls := .type "tuple", data := .seq its k } : Obj)) ∈ nw) (fun i v => its[i]? = some v) (Fin s₂) its.size 0 [] news
section
variable {prog : Program} {w : World} {A : Around} {E : Value → Shared → Prop} {s : Shared} {h₀ : Heap} {L : Addr} {m : Str → Option Value} {env : Env}
theorem Assign_ListComp_P {elt iter : Expr} {x y : Str} {px py : Pos} {scope : Scope} {cl : List (Str × Addr)} {pos spos : Pos} {Q : Flow → Shared → Prop} (_F₀ : Fr h₀ L s.heap m) (hLe : env.locals = L)
    (hsw : swapsWith (.ListComp elt [⟨.Name x px, iter, [], 0⟩] scope pos) (some (.Name y py)) spos.line env = pure true)
    (hclos : closureFor scope env = pure cl) (hcell : ∀ z ∈ scope.names, z.2 ≠ .cell) (hkind : scope.kind = .function)
    (hnames : ∀ z ∈ scope.names, z.2 = .local → scope.names.lookup z.1 = some .local) (hx : scope.names.lookup x = some .local)
    (hy : env.kindOf y = some .local) (hp : (env.scope.kind == .class || (env.scope.kind == .module && env.locals != env.globals)) = false)
    (h : wpAny (model prog w) A (eval iter env) (CompSrcP prog w A h₀ L m env elt x scope cl (fun s₂ => LCg.FinA h₀ L m s₂ y Q)) E s)
    (hs : ∀ x, foldedSetIterable iter env x = pure x := by intro _; rfl) :
    wpAny (model prog w) A (exec (.Assign [.Name y py] (.ListComp elt [⟨.Name x px, iter, [], 0⟩] scope pos) spos) env) Q E s := by
  subst hLe
  rw [exec_Assign_Name_used _ _ _ _ hsw]
  refine wpAny_bind (wpAny_standAt (wpAny_bind ?_))
  show wpAny _ A (do let _ ← comprehension (.ListComp elt [⟨.Name x px, iter, [], 0⟩] scope pos) scope env _ (newList []) false (eval iter env) (some (assign (.Name y py) env))) _ _ s
  refine wpAny_bind (wpAny_mono (wpAny_comprehension_free (use := some (assign (.Name y py) env)) (Q := fun _ s' => Q .next s') rfl hs hclos hkind hnames
    (wpAny_mono h (fun xv s₁ h₁ => ?_) fun _ _ e => e)) (fun _ s' hq => wpAny_pure (wpAny_pure hq)) fun _ _ e => e)
  obtain ⟨ax, its, k, news, rfl, hh, F, N, S, hsz, R⟩ := h₁
  have hl : s₁.heap.IsTuple ax its := ⟨_, (N _ S).1, rfl, k, rfl⟩
  have hlt : ax < s₁.heap.objs.size := Heap.lt_size (N _ S).1
  refine wpAny_pyIter_tuple hl ?_
  have up : ∀ b o, s₁.heap.get? b = some o → (s₁.heap.push { cls := .type "tuple_iterator", data := .fields #[.ref ax, .int 0 0] }).get? b = some o := fun b o e => Heap.get?_push_of_some _ e
  refine LCg.block_U (Walks.tuple hh s₁.heap.objs.size ax (Nat.ne_of_lt hlt) its) hsz (fun i h st => by obtain ⟨o, e, _⟩ := st.1; exact ⟨o, e⟩) ?_ hcell hkind hx ⟨⟨_, Heap.get?_push_size _ rfl, rfl, rfl⟩, hl.at (up ax)⟩ (fun b hb => ?_)
    (F.keeps up) (N.grown up) (Nat.ne_of_lt F.ns.lt) (next_is_new F) (fun p hp => Nat.ne_of_lt (Heap.lt_size (N p hp).1)) S (R _ ⟨_, rfl⟩) ?_
  · intro i h h' o nw st e e' k' N' S'
    exact ⟨by obtain ⟨o', q, r⟩ := st.1; rw [e] at q; cases q; exact ⟨o, e', r⟩, ⟨_, (N' _ S').1, rfl, k, rfl⟩⟩
  · show b < (s₁.heap.push _).objs.size
    rw [Heap.size_push]
    rcases List.mem_cons.mp hb with rfl | hb
    · exact Nat.lt_succ_self _
    · rw [List.mem_singleton.mp hb]; exact Nat.lt_succ_of_lt hlt
  · intro D C h' tk m' ys news' F' N' o1 hn hC₀ hD₀ hCL hDL hCD offC fin
    show wpAny _ A (assign (.Name y py) env (.ref D)) _ _ _
    refine wpAny_assign_Name (wpAny_storeName_local hy F'.ns (fun h₂ hn₂ hs₂ => ?_) hp)
    have hL₀ : h₀.get? env.locals = none := Heap.get?_none_of_le F'.above
    have F₂ : Fr h₀ env.locals h₂ (fun z => if z = y then some (.ref D) else m z) := ⟨hn₂, fun b o e => hs₂.extBut b o (fun q => by rw [q, hL₀] at e; cases e) (F'.keep b o e), F'.above⟩
    refine ⟨m', hn.sameBut hs₂ hCL, fun h'' hs'' => fin D h'' _ (F₂.change hs'' hCL hC₀) (fun p hp => ?_) o1⟩
    have z : h₂.get? p.1 = some p.2 := hs₂.extBut _ _ (N' p hp).2.1 (N' p hp).1
    refine ⟨hs''.extBut _ _ ?_ z, (N' p hp).2⟩
    rcases List.mem_cons.mp hp with rfl | hp
    · exact Ne.symm hCD
    · exact offC p hp
theorem comp_tupA {elt : Expr} {x : Str} {scope : Scope} {cl : List (Str × Addr)} {ax : Addr} {its : List Value} {k : Nat} {news : List (Addr × Obj)} {s₁ : Shared} {yn : Str} {Q : Flow → Shared → Prop} (Ys : Nat → List Value → Prop) (hh : A.handled = none) (F : Fr h₀ L s₁.heap m) (N : News h₀ L s₁.heap news)
    (hm : (ax, ({ cls := .type "tuple", data := .seq its.toArray k } : Obj)) ∈ news) (hsz : its.length ≤ sizeLine) (h0 : Ys 0 [])
    (turn : ∀ (i : Nat) (v : Value) I oI C oC D m₂ g h tk ys (E' : Value → Shared → Prop), i < its.length → Ys i ys → its[i]? = some v → LCg.NsObj oC m₂ → m₂ x = some v → Fr h₀ L h m → News h₀ L h ((I, oI) :: (C, oC) :: (D, LCg.lst ys) :: news) →
      wpAny (model prog w) A (eval elt (compEnvC scope cl C env)) (ElEnd h₀ L m { s₁ with heap := g } ((I, oI) :: (C, oC) :: (D, LCg.lst ys) :: news) (fun y => Ys (i + 1) (ys ++ [y]))) E' { s₁ with heap := h, toks := tk })
    (fin : ∀ ys D h tk, Ys its.length ys → Fr h₀ L h (fun z => if z = yn then some (.ref D) else m z) → News h₀ L h ((D, listOf ys.toArray ys.length) :: news) → (∀ p ∈ news, p.1 ≠ D) → Q .next { s₁ with heap := h, toks := tk }) :
    CompSrcP prog w A h₀ L m env elt x scope cl (fun s₂ => LCg.FinA h₀ L m s₂ yn Q) (.ref ax) s₁ :=
  ⟨ax, its.toArray, k, news, rfl, hh, F, N, hm, by simpa using hsz, fun s₂ ⟨g, e⟩ => by
    have e2 : its.toArray.size = its.length := by simp
    rw [e2]
    subst e
    exact comp_rest Ys h0 hm (fun i v I oI C oC D m₂ h tk ys E' hi hy hP hns hm F N => turn i v I oI C oC D m₂ g h tk ys E' hi hy (by simpa using hP) hns hm F N)
      fun ys hy D h tk F N off => fin ys D h tk hy F N (off1_mem off)⟩
theorem comp_listT {elt ct : Expr} {x : Str} {scope : Scope} {cl : List (Str × Addr)} {ax : Addr} {vs : List Value} {k : Nat} {news : List (Addr × Obj)} {s₁ : Shared} {Q : Value → Shared → Prop} (Ys : Nat → List Value → Prop) (hh : A.handled = none) (F : Fr h₀ L s₁.heap m) (N : News h₀ L s₁.heap news)
    (hm : (ax, listOf vs.toArray k) ∈ news) (hsz : vs.length ≤ sizeLine) (h0 : Ys 0 [])
    (turn : ∀ (i : Nat) (v : Value) I oI C oC D m₂ g h tk ys (E' : Value → Shared → Prop), i < vs.length → Ys i ys → vs[i]? = some v → LCg.NsObj oC m₂ → m₂ x = some v → Fr h₀ L h m → News h₀ L h ((I, oI) :: (C, oC) :: (D, LCg.lst ys) :: news) →
      wpAny (model prog w) A (isTrue ct (compEnvC scope cl C env) (eval ct (compEnvC scope cl C env))) (fun ok s' => if ok = true then
        wpAny (model prog w) A (eval elt (compEnvC scope cl C env)) (ElEnd h₀ L m { s₁ with heap := g } ((I, oI) :: (C, oC) :: (D, LCg.lst ys) :: news) (fun y => Ys (i + 1) (ys ++ [y]))) E' s'
        else ElEnd h₀ L m { s₁ with heap := g } ((I, oI) :: (C, oC) :: (D, LCg.lst ys) :: news) (fun _ => Ys (i + 1) ys) Value.none s') E' { s₁ with heap := h, toks := tk })
    (fin : ∀ ys D h tk, Ys vs.length ys → Fr h₀ L h m → News h₀ L h ((D, listOf ys.toArray ys.length) :: news) → (∀ p ∈ news, p.1 ≠ D) → Q (.ref D) { s₁ with heap := h, toks := tk }) :
    LCt.CompSrcT prog w A h₀ L m env ct elt x scope cl (fun s₂ => LCg.FinE h₀ L m s₂ Q) (.ref ax) s₁ :=
  .ledger hh F N hm (by simpa using hsz) fun g => by
    have e : vs.toArray.size = vs.length := by simp
    rw [e]
    exact comp_restT Ys h0 (.inr ⟨_, hm, rfl, _, rfl⟩) (fun i v I oI C oC D m₂ h tk ys E' hi hy hP hns hm F N => turn i v I oI C oC D m₂ g h tk ys E' hi hy (by simpa using hP) hns hm F N)
      fun ys hy D h tk F N off => fin ys D h tk hy F N (off1_mem off)
end
end Mine
end
section
set_option maxHeartbeats 3000000
open PySem PySem.W PyProof.Rows
namespace Mine
abbrev Tab := List (Int × Int)
/-- a dict's pairs as a table of ints -/
inductive TabIs : List (Int × Value) → Tab → Prop
  | nil : TabIs [] []
  | cons (k c : Int) (t : Tok) {r : List (Int × Value)} {r' : Tab} : TabIs r r' → TabIs ((k, .int c t) :: r) ((k, c) :: r')
theorem TabIs.length : ∀ {kvs : List (Int × Value)} {t : Tab}, TabIs kvs t → kvs.length = t.length
  | _, _, .nil => rfl
  | _, _, .cons _ _ _ h => by simp [h.length]
theorem TabIs.keys : ∀ {kvs : List (Int × Value)} {t : Tab}, TabIs kvs t → kvs.map (·.1) = t.map (·.1)
  | _, _, .nil => rfl
  | _, _, .cons _ _ _ h => by simp [h.keys]
theorem TabIs.item : ∀ {kvs : List (Int × Value)} {t : Tab}, TabIs kvs t → ∀ {i : Nat} {k : Int} {y : Value}, kvs[i]? = some (k, y) → ∃ c tk, y = .int c tk ∧ t[i]? = some (k, c)
  | _, _, .nil, i, k, y, h => by simp at h
  | _, _, .cons k c t hr, 0, k', y, h => by
    simp only [List.getElem?_cons_zero, Option.some.injEq, Prod.mk.injEq] at h
    exact ⟨c, t, h.2.symm, by simp [h.1]⟩
  | _, _, .cons k c t hr, i + 1, k', y, h => by
    obtain ⟨c', tk, e1, e2⟩ := hr.item (i := i) (k := k') (y := y) (by simpa using h)
    exact ⟨c', tk, e1, by simpa using e2⟩
theorem TabIs.append : ∀ {a b : List (Int × Value)} {s t : Tab}, TabIs a s → TabIs b t → TabIs (a ++ b) (s ++ t)
  | _, _, _, _, .nil, h => h
  | _, _, _, _, .cons k c t hr, h => .cons k c t (hr.append h)
def putT (t : Tab) (k c : Int) : Tab := if t.any (fun p => p.1 = k) then t.map (fun p => if p.1 = k then (p.1, c) else p) else t ++ [(k, c)]
theorem TabIs.any : ∀ {kvs : List (Int × Value)} {t : Tab}, TabIs kvs t → ∀ k : Int, kvs.any (fun kv => kv.1 = k) = t.any (fun p => p.1 = k)
  | _, _, .nil, _ => rfl
  | _, _, .cons _ _ _ h, k => by simp [h.any k]
theorem TabIs.mapPut : ∀ {kvs : List (Int × Value)} {t : Tab}, TabIs kvs t → ∀ (k c : Int) (tk : Tok), TabIs (kvs.map (fun kv => if kv.1 = k then (kv.1, .int c tk) else kv)) (t.map (fun p => if p.1 = k then (p.1, c) else p))
  | _, _, .nil, _, _, _ => .nil
  | _, _, .cons a b u h, k, c, tk => by
    simp only [List.map_cons]
    by_cases e : a = k
    · simp only [e, if_true]; exact .cons _ _ _ (h.mapPut k c tk)
    · simp only [e, if_false]; exact .cons _ _ _ (h.mapPut k c tk)
theorem TabIs.stored {kvs : List (Int × Value)} {t : Tab} (h : TabIs kvs t) (k c : Int) (tk : Tok) : TabIs (stored kvs k (.int c tk)) (putT t k c) := by
  unfold PySem.stored putT
  rw [h.any k]
  split
  · exact h.mapPut k c tk
  · exact h.append (.cons _ _ _ .nil)
theorem putT_new {t : Tab} {k c : Int} (h : ∀ p ∈ t, p.1 ≠ k) : putT t k c = t ++ [(k, c)] := by
  unfold putT
  rw [if_neg]
  intro e
  obtain ⟨p, hp, he⟩ := List.any_eq_true.mp e
  exact h p hp (of_decide_eq_true he)
theorem valueAt_of {kvs : List (Int × Value)} (hn : (kvs.map (·.1)).Nodup) {i : Nat} {k : Int} {y : Value} (h : kvs[i]? = some (k, y)) : valueAt kvs k = some y := by
  unfold valueAt
  induction kvs generalizing i with
  | nil => simp at h
  | cons p r ih =>
    obtain ⟨h1, h2⟩ := List.nodup_cons.mp hn
    cases i with
    | zero =>
      simp only [List.getElem?_cons_zero, Option.some.injEq] at h
      subst h; simp
    | succ i =>
      have hr : r[i]? = some (k, y) := by simpa using h
      have hne : p.1 ≠ k := fun e => h1 (List.mem_map.mpr ⟨(k, y), List.mem_of_getElem? hr, e.symm⟩)
      simp only [List.find?_cons, hne, decide_false]
      exact ih h2 hr
theorem isDict_nodup {prog : Program} {w : World} {o : Obj} {kvs : List (Int × Value)} (h : o.IsDictOf (intKind prog w) kvs) : (kvs.map (·.1)).Nodup := let ⟨_, _, _, _, _, _, r⟩ := h; r
/-- one word more -/
def stepP (sort : Int) (p : Int × Int) : Int × Int :=
  if sort = 0 then (p.1 + 1, p.2 + if 0 ≤ p.1 then 2 else 0) else if sort = 1 then (p.1 - 1, p.2 + if p.1 ≤ 0 then 2 else 0) else (p.1, p.2 + 2)
def LeastIs (t : Tab) (M : Int) : Prop := M ∈ t.map (·.2) ∧ ∀ a ∈ t.map (·.2), M ≤ a
def stepT (t : Tab) (sort M : Int) : Tab := if 1 < sort then putT (t.map (stepP sort)) 0 (M + sort - 2) else t.map (stepP sort)
/-- the tables of a walk -/
inductive Walked : List Int → Tab → Prop
  | nil : Walked [] [(0, 0)]
  | snoc {ss : List Int} {t : Tab} {sort M : Int} : Walked ss t → LeastIs t M → Walked (ss ++ [sort]) (stepT t sort M)
def LeastC (ss : List Int) (r : Int) : Prop := ∃ t, Walked ss t ∧ LeastIs t r
theorem stepP_inj {sort : Int} {p q : Int × Int} (h : (stepP sort p).1 = (stepP sort q).1) : p.1 = q.1 := by
  unfold stepP at h
  split at h
  · simp at h; omega
  · split at h
    · simp at h; omega
    · exact h
theorem nodup_take_new {t : Tab} {sort : Int} (hn : (t.map (·.1)).Nodup) {i : Nat} {p : Int × Int} (hi : t[i]? = some p) : ∀ q ∈ (t.take i).map (stepP sort), q.1 ≠ (stepP sort p).1 := by
  intro q hq e
  obtain ⟨r, hr, rfl⟩ := List.mem_map.mp hq
  have h1 := stepP_inj e
  obtain ⟨j, hj, hjr⟩ := List.mem_take_iff_getElem.mp hr
  have hji : j < i := by omega
  have hil := (List.getElem?_eq_some_iff.mp hi).1
  have e1 : (t.map (·.1))[j]'(by simp; omega) = (t.map (·.1))[i]'(by simpa using hil) := by
    rw [List.getElem_map, List.getElem_map, hjr, h1]
    have := (List.getElem?_eq_some_iff.mp hi).2
    rw [this]
  have hp := List.pairwise_iff_getElem.mp hn j i (by simp; omega) (by simpa using hil) hji
  exact hp e1
theorem putT_len (t : Tab) (k c : Int) : (putT t k c).length ≤ t.length + 1 := by
  unfold putT
  split <;> simp
theorem walked_len {ss : List Int} {t : Tab} (h : Walked ss t) : t.length ≤ ss.length + 1 ∧ 0 < t.length := by
  induction h with
  | nil => simp
  | @snoc ss t sort M h hM ih =>
    rw [List.length_append, List.length_singleton]
    unfold stepT
    split
    · refine ⟨?_, ?_⟩
      · have := putT_len (t.map (stepP sort)) 0 (M + sort - 2)
        rw [List.length_map] at this
        omega
      · unfold putT
        split <;> simp <;> omega
    · rw [List.length_map]; omega
end Mine
end
section
set_option maxHeartbeats 8000000
open PySem PySem.W PyProof.Rows
namespace Mine
open_top hd for PySem.Challenge.rw_ny0089_01
end Mine
end
section
set_option maxHeartbeats 3000000
open PySem PySem.W PyProof.Rows
namespace Mine
theorem sub_claim (w : World) (mean : ExcName → Option Value) (mg mb : Str → Option Value) (a : Str) (ta : Tok) (b : Str) (tb : Tok) (news : List (Addr × Obj)) :
    Claim 2 PySem.Challenge.rw_ny0089_01.row.prog w (hd.heap_39 w.params) hd.view_39 (looseW hd.view_39 [Str.ofString "COMPILER_FLAG_NAMES"]) mean mg mb 29 news
      (a.length ≤ 1000 ∧ b.length ≤ 1000) [.str a ta, .str b tb] (fun v => ∃ t, v = .int (subCost a b) t) := by
  k_fill
  w_top off
  dsimp only [Claim, Ret]
  intros
  rename_i hpre hd1 hu1 hret
  obtain ⟨hp1, hp2⟩ := hpre
  refine wpAny_call ?_
  k_dflt cell_enter
  k_steps
  · rename (a == b) = true => he
    have e : subCost a b = 0 := by rw [eq_of_beq he, sub_self]
    rw [e] at hret
    exact hret _ _ _ ⟨_, rfl⟩ (by assumption) (by assumption)
  · rename (a == b) = false => he
    rename (Txt.lower a == Txt.lower b) = true => he2
    have e : subCost a b = 1 := by rw [subCost, if_neg (ne_of_beq_false he), if_pos (eq_of_beq he2)]
    rw [e] at hret
    exact hret _ _ _ ⟨_, rfl⟩ (by assumption) (by assumption)
  · rename (a == b) = false => he
    rename (Txt.lower a == Txt.lower b) = false => he2
    have e : subCost a b = 2 := by rw [subCost, if_neg (ne_of_beq_false he), if_neg (ne_of_beq_false he2)]
    rw [e] at hret
    exact hret _ _ _ ⟨_, rfl⟩ (by assumption) (by assumption)
end Mine
end
section
set_option maxHeartbeats 3000000
open PySem PySem.W PyProof.Rows
namespace Mine
structure LevPre (news : List (Addr × Obj)) (la lb : Addr) (vs ws : List Value) (i j : Nat) (as bs : List Str) : Prop where
  ma : (la, listOf vs.toArray i) ∈ news
  mb : (lb, listOf ws.toArray j) ∈ news
  sa : StrsAre vs as
  sb : StrsAre ws bs
  za : as.length ≤ 40
  zb : bs.length ≤ 40
  wa : ∀ x ∈ as, x.length ≤ 1000
  wb : ∀ x ∈ bs, x.length ≤ 1000
  oa : ∀ x ∈ as, PyData.strOk x = true
  ob : ∀ x ∈ bs, PyData.strOk x = true
theorem News.of_mem {h₀ h : Heap} {L : Addr} {news : List (Addr × Obj)} {p q : Addr × Obj} (N : News h₀ L h news) (hp : p ∈ news) (hq : q ∈ news) : News h₀ L h (p :: q :: news) := by
  intro r hr
  rcases List.mem_cons.mp hr with rfl | hr
  · exact N _ hp
  rcases List.mem_cons.mp hr with rfl | hr
  · exact N _ hq
  exact N _ hr
theorem suff_moreL {a b : List Str} {p : Int} {j : Nat} (hj0 : p = -(j : Int)) (h1 : j < a.length) (h2 : j < b.length) (hj3 : a.drop (a.length - j) = b.drop (b.length - j))
    (he : (a.getD (p - 1 + a.length).toNat Str.empty == b.getD (p - 1 + b.length).toNat Str.empty) = true) : a.drop (a.length - (j + 1)) = b.drop (b.length - (j + 1)) := by
  have e1 : (p - 1 + a.length).toNat = a.length - (j + 1) := by omega
  have e2 : (p - 1 + b.length).toNat = b.length - (j + 1) := by omega
  have he2 := eq_of_beq he
  have l1 : a.length - (j + 1) < a.length := by omega
  have l2 : b.length - (j + 1) < b.length := by omega
  rw [e1, e2, List.getD_eq_getElem?_getD, List.getD_eq_getElem?_getD, List.getElem?_eq_getElem l1, List.getElem?_eq_getElem l2] at he2
  exact drop_more hj3 h1 h2 he2
theorem getD_at {a : List Str} {k : Nat} (h : k < a.length) : a.getD k Str.empty = a[k] := by
  rw [List.getD_eq_getElem?_getD, List.getElem?_eq_getElem h]; rfl
local macro_rules | `(tactic| walk_at "exec While BoolOp cons nil") => `(tactic| refine Stop.out ?_)
local macro_rules | `(tactic| walk_at "execs cons") => `(tactic| ((with_reducible refine wpAny_execs_cons ?_); try dsimp only))
local macro_rules | `(tactic| walk_at "execs nil") => `(tactic| ((with_reducible refine wpAny_execs_nil ?_); try dsimp only))
local macro_rules | `(tactic| walk_at "CutPost") => `(tactic| with_reducible refine CutPost.ret ?_)
local macro_rules | `(tactic| walk_at "TurnPost") => `(tactic| first | with_reducible refine TurnPost.ret ?_ | with_reducible refine TurnPost.brk ?_)
local macro_rules | `(tactic| walk_at "exec Assign") => `(tactic| first | ((with_reducible show wpAny _ _ (exec (Stmt.Assign _ _ ⟨31, _, _, _⟩) _) _ _ _); refine Stop.out ?_) | ((with_reducible show wpAny _ _ (exec (Stmt.Assign _ _ ⟨32, _, _, _⟩) _) _ _ _); refine Stop.out ?_) | ((with_reducible show wpAny _ _ (exec (Stmt.Assign _ _ ⟨36, _, _, _⟩) _) _ _ _); refine Stop.out ?_) | ((with_reducible show wpAny _ _ (exec (Stmt.Assign _ _ ⟨37, _, _, _⟩) _) _ _ _); refine Stop.out ?_))
local macro_rules | `(tactic| walk_at "exec If") => `(tactic| ((with_reducible show wpAny _ _ (exec (Stmt.If _ _ _ ⟨42, _, _, _⟩) _) _ _ _); refine Stop.out ?_))
local macro_rules | `(tactic| walk_at "pyIter ref") => `(tactic| refine Stop.out ?_)
local macro_rules | `(tactic| walk_at "call type:list") => `(tactic| ((with_reducible show wpAny _ _ (call (Value.type _) [Value.ref _]) _ _ _); refine Stop.out ?_))
local macro_rules | `(tactic| walk_at "compareOp Eq ref ref") => `(tactic| refine Stop.out ?_)
local macro_rules | `(tactic| walk_at "truthy ref") => `(tactic| (k_dflt (refine' truthy_strs ?k1 ?k2 ?k3 ?k4 ?_ ?_; (case k1 => k_asm); (case k2 => k_mem); (case k3 => assumption); (case k4 => ((try simp only [List.length_drop, List.length_take]); omega))) <;> (intro hT; try simp only [List.length_drop, List.length_take] at hT)))
local macro_rules | `(tactic| walk_at "subscriptTail Name Slice ref ref") => `(tactic| (first
  | ((with_reducible show wpAny _ _ (subscriptTail _ (Expr.Slice (some _) none none _) _ _) _ _ _); (with_reducible rename Fr _ _ _ _ => F'); (with_reducible rename News _ _ _ _ => N'); k_dflt (refine' slice_from_strs (s := ⟨_, _, _, _, _⟩) F' N' ?hl ?hi ?h0 ?hz ?_; (case hl => k_mem); (case hi => assumption); (case h0 => omega); (case hz => omega)))
  | ((with_reducible show wpAny _ _ (subscriptTail _ (Expr.Slice none (some _) none _) _ _) _ _ _); (with_reducible rename Fr _ _ _ _ => F'); (with_reducible rename News _ _ _ _ => N'); k_dflt (refine' slice_all_strs (s := ⟨_, _, _, _, _⟩) F' N' ?hl ?hi ?hz ?_; (case hl => k_mem); (case hi => assumption); (case hz => omega)))
  | ((with_reducible show wpAny _ _ (subscriptTail _ (Expr.Slice none (some _) none _) _ _) _ _ _); (with_reducible rename Fr _ _ _ _ => F'); (with_reducible rename News _ _ _ _ => N'); k_dflt (refine' slice_neg_strs (s := ⟨_, _, _, _, _⟩) F' N' ?hl ?hi ?h0 ?hz ?_; (case hl => k_mem); (case hi => assumption); (case h0 => omega); (case hz => omega)))); intro D' h' us' F' N' l1 hI')
local macro_rules | `(tactic| walk_at "call ref") => `(tactic| ((with_reducible show wpAny _ _ (call (Value.ref 29) _) _ _ _); k_dflt (refine' sub_claim _ _ _ _ _ _ _ _ _ _ _ _ _ _ _ _ _ _ _ _ _ _ _ _ _ _ ?k1 ?k2 ?k3 ?k4 ?k5 ?kK ?kp ?kd ?ku ?_; (case k1 => k_asm); (case k2 => k_asm); (case k3 => k_asm); (case k4 => k_asm); (case k5 => k_asm); (case kK => first | exact rfl | assumption); (case kd => (dsimp only [ktrTop]; omega)); (case ku => (dsimp only [ktrTop]; omega)); (case kp => exact ⟨by assumption, by assumption⟩)); (rintro v9 h9 tk9 ⟨t9, e9⟩ F9 N9); subst e9; try dsimp only))
local macro_rules | `(tactic| walk_at "setItem ref int") => `(tactic| ((with_reducible show wpAny _ _ (setItem (Value.ref _) (Value.int _ _) (Value.int _ _)) _ _ _); k_dflt (refine' ksa_set ?k1 ?k2 (Upd.head ?k3) ?k4 ?k5 ?k6 ?k7 ?_; (case k1 => k_asm); (case k2 => k_asm); (case k3 => assumption); (case k4 => with_reducible assumption); (case k5 => omega); (case k6 => (simp only [List.length_map, List.length_range]; omega)); (case k7 => omega)); intro h' F' N' hi' hl' hs'))
theorem lev_claim (w : World) (mean : ExcName → Option Value) (mg mb : Str → Option Value) (la lb : Addr) (vs ws : List Value) (i0 j0 : Nat) (as bs : List Str) (mx : Int) (tm : Tok) (news : List (Addr × Obj)) :
    Claim 30 PySem.Challenge.rw_ny0089_01.row.prog w (hd.heap_39 w.params) hd.view_39 (looseW hd.view_39 [Str.ofString "COMPILER_FLAG_NAMES"]) mean mg mb 36 news
      (LevPre news la lb vs ws i0 j0 as bs) [.ref la, .ref lb, .int mx tm] (fun v => ∃ r t, v = .int r t ∧ LevSpec (ed subCost as bs) mx r) := by
  k_fill
  w_top off
  dsimp only [Claim, Ret]
  intro _ unn _ _ _ _ _ _ _ _ _ _ _ _ _ _ _
  intros
  rename_i N0 _ _ hpre hd1 hu1 hret
  obtain ⟨hma, hmb, hsa, hsb, hza, hzb, hwa, hwb, hoa, hob⟩ := hpre
  have N1 := News.of_mem N0 hma hmb
  clear N0
  refine wpAny_call ?_
  k_dflt cell_enter
  k_steps
  constructor
  refine eq_strs (by assumption) (.head _) (.tail _ (.head _)) hsa hsb hoa hob ?_ ?_
  · show unn + 3 + 64 < cLine
    omega
  k_steps
  · rename as = bs => he
    rename News _ _ _ _ => N9
    refine hret _ _ _ ⟨0, _, rfl, .inl ?_⟩ (by assumption) (fun p hp => N9 p (.tail _ (.tail _ hp)))
    rw [he, ed_self subCost sub0 sub_self]
  constructor
  rename Fr _ _ _ _ => F
  rename News _ _ _ _ => N
  refine cut_st (σ := Nat × Tok) F (fun c => [(Str.ofString "pre", .int c.1 c.2), (Str.ofString "a", .ref la), (Str.ofString "b", .ref lb), (Str.ofString "max_cost", .int mx tm)]) (fun _ => (la, listOf vs.toArray i0) :: (lb, listOf ws.toArray j0) :: news) (fun c => c.1 ≤ as.length ∧ c.1 ≤ bs.length ∧ as.take c.1 = bs.take c.1) ?_ ?_
  · refine while_st (σ := Nat × Tok) (fun c => [(Str.ofString "pre", .int c.1 c.2), (Str.ofString "a", .ref la), (Str.ofString "b", .ref lb), (Str.ofString "max_cost", .int mx tm)]) (fun _ => (la, listOf vs.toArray i0) :: (lb, listOf ws.toArray j0) :: news) (fun c => c.1 ≤ as.length ∧ c.1 ≤ bs.length ∧ as.take c.1 = bs.take c.1) (fun c => as.length - c.1) (0, _) F N (fun _ h => h) (by kst_all) ⟨Nat.zero_le _, Nat.zero_le _, rfl⟩ ?_
    clear F N
    rintro ⟨k, t⟩ u h tk ⟨hk1, hk2, hk3⟩ F N
    dsimp only at hk1 hk2 hk3 F N
    have hkk : (k : Int).toNat = k := Int.toNat_natCast k
    k_steps
    · rename (_ == _) = true => he
      have hk4 : k < as.length := by omega
      have hk5 : k < bs.length := by omega
      have he2 := eq_of_beq he
      rw [hkk, getD_at hk4, getD_at hk5] at he2
      exact .next (.mk (k + 1, _) (by assumption) (by assumption) (fun p hp => .tail _ (.tail _ hp)) (fun _ h => nomatch h) (by kst_all) ⟨⟨by dsimp only; omega, by dsimp only; omega, take_more hk3 hk4 hk5 he2⟩, by dsimp only; omega⟩)
    · exact .next (.mk (k, _) (by assumption) (by assumption) (fun p hp => .tail _ (.tail _ hp)) (fun _ h => nomatch h) (by kst_all) ⟨hk1, hk2, hk3⟩)
    · exact .next (.mk (k, _) (by assumption) (by assumption) (fun p hp => .tail _ (.tail _ hp)) (fun _ h => nomatch h) (by kst_all) ⟨hk1, hk2, hk3⟩)
    · exact .next (.mk (k, _) (by assumption) (by assumption) (fun p hp => .tail _ hp) (fun _ h => nomatch h) (by kst_all) ⟨hk1, hk2, hk3⟩)
  clear F N
  rintro ⟨k, t⟩ u h tk ⟨hk1, hk2, hk3⟩ F N
  dsimp only at hk1 hk2 hk3 F N ⊢
  have hD : ed subCost as bs = ed subCost (as.drop k) (bs.drop k) := strip_pre sub0 sub_self hk3
  have hkk : (k : Int).toNat = k := Int.toNat_natCast k
  k_steps
  constructor
  rename Fr _ _ _ _ => F
  refine cut_st (σ := Addr × List Value) F (fun c => [(Str.ofString "pre", .int k t), (Str.ofString "a", .ref c.1), (Str.ofString "b", .ref lb), (Str.ofString "max_cost", .int mx tm)]) (fun c => (c.1, listOf c.2.toArray 0) :: (lb, listOf ws.toArray j0) :: news) (fun c => StrsAre c.2 (as.drop k)) ?_ ?_
  · refine wpAny_Assign_Name ?_
    k_steps
    exact .next (.mk (_, _) (by assumption) (by assumption) (List.forall_mem_cons.mpr ⟨.head _, fun p hp => .tail _ (.tail _ hp)⟩) (fun _ h => nomatch h) (by kst_all) (by dsimp only; rw [← hkk]; assumption))
  clear F N
  rintro ⟨A1, ua⟩ u h tk hua F N
  dsimp only at hua F N ⊢
  k_steps
  constructor
  rename Fr _ _ _ _ => F
  refine cut_st (σ := Addr × List Value) F (fun c => [(Str.ofString "a", .ref A1), (Str.ofString "b", .ref c.1), (Str.ofString "max_cost", .int mx tm)]) (fun c => (A1, listOf ua.toArray 0) :: (c.1, listOf c.2.toArray 0) :: news) (fun c => StrsAre c.2 (bs.drop k)) ?_ ?_
  · refine wpAny_Assign_Name ?_
    k_steps
    exact .next (.mk (_, _) (by assumption) (by assumption) (List.forall_mem_cons.mpr ⟨.tail _ (.head _), List.forall_mem_cons.mpr ⟨.head _, fun p hp => .tail _ (.tail _ (.tail _ hp))⟩⟩) (fun _ h => nomatch h) (by kst_all) (by dsimp only; rw [← hkk]; assumption))
  clear F N
  rintro ⟨B1, ub⟩ u h tk hub F N
  dsimp only at hub F N ⊢
  have hwa1 : ∀ x ∈ as.drop k, x.length ≤ 1000 := fun x hx => hwa x (List.mem_of_mem_drop hx)
  have hwb1 : ∀ x ∈ bs.drop k, x.length ≤ 1000 := fun x hx => hwb x (List.mem_of_mem_drop hx)
  have hza1 : (as.drop k).length ≤ 40 := by rw [List.length_drop]; omega
  have hzb1 : (bs.drop k).length ≤ 40 := by rw [List.length_drop]; omega
  generalize as.drop k = as1 at *
  generalize bs.drop k = bs1 at *
  clear hk1 hk2 hk3 hwa hwb hoa hob hsa hsb hma hmb
  k_steps
  constructor
  rename Fr _ _ _ _ => F
  rename News _ _ _ _ => N
  refine cut_st (σ := Int × Tok) F (fun c => [(Str.ofString "post", .int c.1 c.2), (Str.ofString "a", .ref A1), (Str.ofString "b", .ref B1), (Str.ofString "max_cost", .int mx tm)]) (fun _ => (A1, listOf ua.toArray 0) :: (B1, listOf ub.toArray 0) :: news) (fun c => ∃ j : Nat, c.1 = -(j : Int) ∧ j ≤ as1.length ∧ j ≤ bs1.length ∧ as1.drop (as1.length - j) = bs1.drop (bs1.length - j)) ?_ ?_
  · refine while_st (σ := Int × Tok) (fun c => [(Str.ofString "post", .int c.1 c.2), (Str.ofString "a", .ref A1), (Str.ofString "b", .ref B1), (Str.ofString "max_cost", .int mx tm)]) (fun _ => (A1, listOf ua.toArray 0) :: (B1, listOf ub.toArray 0) :: news) (fun c => ∃ j : Nat, c.1 = -(j : Int) ∧ j ≤ as1.length ∧ j ≤ bs1.length ∧ as1.drop (as1.length - j) = bs1.drop (bs1.length - j)) (fun c => (as1.length + c.1).toNat) (0, _) F N (fun _ h => h) (by kst_all) ⟨0, rfl, Nat.zero_le _, Nat.zero_le _, by simp⟩ ?_
    clear F N
    rintro ⟨p, t1⟩ u h tk ⟨j, hj0, hj1, hj2, hj3⟩ F N
    dsimp only at hj0 hj1 hj2 hj3 F N
    by_cases hp : p = 0
    · subst hp
      k_steps
      all_goals first
        | (exfalso; omega)
        | exact .next (.mk (0, _) (by assumption) (by assumption) (fun p hp => .tail _ hp) (fun _ h => nomatch h) (by kst_all) ⟨j, hj0, hj1, hj2, hj3⟩)
        | exact .next (.mk (0, _) (by assumption) (by assumption) (fun p hp => .tail _ (.tail _ hp)) (fun _ h => nomatch h) (by kst_all) ⟨j, hj0, hj1, hj2, hj3⟩)
        | exact .next (.mk (0 - 1, _) (by assumption) (by assumption) (fun p hp => .tail _ (.tail _ hp)) (fun _ h => nomatch h) (by kst_all) ⟨⟨j + 1, by dsimp only; omega, by omega, by omega, suff_moreL hj0 (by omega) (by omega) hj3 (by assumption)⟩, by dsimp only; omega⟩)
        | skip
    · k_steps
      all_goals first
        | (exfalso; omega)
        | exact .next (.mk (p, _) (by assumption) (by assumption) (fun p hp => .tail _ hp) (fun _ h => nomatch h) (by kst_all) ⟨j, hj0, hj1, hj2, hj3⟩)
        | exact .next (.mk (p, _) (by assumption) (by assumption) (fun p hp => .tail _ (.tail _ hp)) (fun _ h => nomatch h) (by kst_all) ⟨j, hj0, hj1, hj2, hj3⟩)
        | exact .next (.mk (p - 1, _) (by assumption) (by assumption) (fun p hp => .tail _ (.tail _ hp)) (fun _ h => nomatch h) (by kst_all) ⟨⟨j + 1, by dsimp only; omega, by omega, by omega, suff_moreL hj0 (by omega) (by omega) hj3 (by assumption)⟩, by dsimp only; omega⟩)
        | skip
  clear F N
  rintro ⟨p, t1⟩ u h tk ⟨j, hj0, hj1, hj2, hj3⟩ F N
  dsimp only at hj0 hj1 hj2 hj3 F N ⊢
  k_steps
  constructor
  rename Fr _ _ _ _ => F
  refine cut_st (σ := Addr × List Value) F (fun c => [(Str.ofString "post", .int p t1), (Str.ofString "a", .ref c.1), (Str.ofString "b", .ref B1), (Str.ofString "max_cost", .int mx tm)]) (fun c => (c.1, listOf c.2.toArray 0) :: (B1, listOf ub.toArray 0) :: news) (fun c => StrsAre c.2 (as1.take (as1.length - j))) ?_ ?_
  · refine wpAny_Assign_Name ?_
    by_cases hp : p = 0
    · subst hp
      have hj : as1.take (as1.length - j) = as1 := by rw [show j = 0 by omega, Nat.sub_zero, List.take_length]
      k_steps
      exact .next (.mk (_, _) (by assumption) (by assumption) (List.forall_mem_cons.mpr ⟨.head _, fun p hp => .tail _ (.tail _ hp)⟩) (fun _ h => nomatch h) (by kst_all) (by dsimp only; rw [hj]; assumption))
    · have hj : (-p).toNat = j := by omega
      k_steps
      all_goals first
        | (exfalso; omega)
        | exact .next (.mk (_, _) (by assumption) (by assumption) (List.forall_mem_cons.mpr ⟨.head _, fun p hp => .tail _ (.tail _ hp)⟩) (fun _ h => nomatch h) (by kst_all) (by dsimp only; rw [← hj]; assumption))
  clear F N
  rintro ⟨A2, ua2⟩ u h tk hua2 F N
  dsimp only at hua2 F N ⊢
  k_steps
  constructor
  rename Fr _ _ _ _ => F
  refine cut_st (σ := Addr × List Value) F (fun c => [(Str.ofString "a", .ref A2), (Str.ofString "b", .ref c.1), (Str.ofString "max_cost", .int mx tm)]) (fun c => (A2, listOf ua2.toArray 0) :: (c.1, listOf c.2.toArray 0) :: news) (fun c => StrsAre c.2 (bs1.take (bs1.length - j))) ?_ ?_
  · refine wpAny_Assign_Name ?_
    by_cases hp : p = 0
    · subst hp
      have hj : bs1.take (bs1.length - j) = bs1 := by rw [show j = 0 by omega, Nat.sub_zero, List.take_length]
      k_steps
      exact .next (.mk (_, _) (by assumption) (by assumption) (List.forall_mem_cons.mpr ⟨.tail _ (.head _), List.forall_mem_cons.mpr ⟨.head _, fun p hp => .tail _ (.tail _ (.tail _ hp))⟩⟩) (fun _ h => nomatch h) (by kst_all) (by dsimp only; rw [hj]; assumption))
    · have hj : (-p).toNat = j := by omega
      k_steps
      all_goals first
        | (exfalso; omega)
        | exact .next (.mk (_, _) (by assumption) (by assumption) (List.forall_mem_cons.mpr ⟨.tail _ (.head _), List.forall_mem_cons.mpr ⟨.head _, fun p hp => .tail _ (.tail _ (.tail _ hp))⟩⟩) (fun _ h => nomatch h) (by kst_all) (by dsimp only; rw [← hj]; assumption))
  clear F N
  rintro ⟨B2, ub2⟩ u h tk hub2 F N
  dsimp only at hub2 F N ⊢
  have hD2 : ed subCost as bs = ed subCost (as1.take (as1.length - j)) (bs1.take (bs1.length - j)) := by
    rw [hD]; exact strip_post sub0 sub_self hj3
  have hwa2 : ∀ x ∈ as1.take (as1.length - j), x.length ≤ 1000 := fun x hx => hwa1 x (List.mem_of_mem_take hx)
  have hwb2 : ∀ x ∈ bs1.take (bs1.length - j), x.length ≤ 1000 := fun x hx => hwb1 x (List.mem_of_mem_take hx)
  have hza2 : (as1.take (as1.length - j)).length ≤ 40 := by rw [List.length_take]; omega
  have hzb2 : (bs1.take (bs1.length - j)).length ≤ 40 := by rw [List.length_take]; omega
  generalize as1.take (as1.length - j) = as2 at *
  generalize bs1.take (bs1.length - j) = bs2 at *
  clear hD hj0 hj1 hj2 hj3 hwa1 hwb1 hua hub
  k_steps
  · constructor
    rename Fr _ _ _ _ => F
    refine cut_st (σ := (Addr × List Value × List Str) × (Addr × List Value × List Str)) F (fun c => [(Str.ofString "a", .ref c.1.1), (Str.ofString "b", .ref c.2.1), (Str.ofString "max_cost", .int mx tm)]) (fun c => (c.1.1, listOf c.1.2.1.toArray 0) :: (c.2.1, listOf c.2.2.1.toArray 0) :: news)
      (fun c => StrsAre c.1.2.1 c.1.2.2 ∧ StrsAre c.2.2.1 c.2.2.2 ∧ ed subCost as bs = ed subCost c.2.2.2 c.1.2.2 ∧ 0 < c.1.2.2.length ∧ c.1.2.2.length ≤ c.2.2.2.length ∧ c.2.2.2.length ≤ 40 ∧ (∀ x ∈ c.1.2.2, x.length ≤ 1000) ∧ ∀ x ∈ c.2.2.2, x.length ≤ 1000) ?_ ?_
    · refine wpAny_If ?_
      k_steps
      · exact .next (.mk ((B2, ub2, bs2), (A2, ua2, as2)) (by assumption) (by assumption) (List.forall_mem_cons.mpr ⟨.tail _ (.tail _ (.head _)), List.forall_mem_cons.mpr ⟨.tail _ (.head _), fun p hp => .tail _ (.tail _ (.tail _ hp))⟩⟩) (fun _ h => nomatch h) (by kst_all) ⟨by assumption, by assumption, hD2, by dsimp only; omega, by dsimp only; omega, by dsimp only; omega, hwb2, hwa2⟩)
      · exact .next (.mk ((A2, ua2, as2), (B2, ub2, bs2)) (by assumption) (by assumption) (fun _ h => h) (fun _ h => nomatch h) (by kst_all) ⟨by assumption, by assumption, hD2.trans (ed_comm subCost sub0 sub_comm _ _), by dsimp only; omega, by dsimp only; omega, by dsimp only; omega, hwa2, hwb2⟩)
    clear F N
    rintro ⟨⟨X, ux, xs⟩, ⟨Y, uy, ys⟩⟩ u h tk ⟨hux, huy, hE, hx0, hxy, hy40, hwx, hwy⟩ F N
    dsimp only at hux huy hE hx0 hxy hy40 hwx hwy F N ⊢
    clear hD2 hwa2 hwb2
    k_steps
    · rename News _ _ _ _ => N9
      refine hret _ _ _ ⟨_, _, rfl, .inr ⟨rfl, ?_⟩⟩ (by assumption) (fun p hp => N9 p (.tail _ (.tail _ hp)))
      have := (ed_len subCost sub0 ys xs).1
      rw [hE]; omega
    constructor
    refine list_range_st (n := xs.length) rfl (by assumption) (by assumption) (by assumption) (rsmall2 (by omega)) rsize2 (by omega) ?_
    intro h' tk' rs0 nn R F N hRn hys
    k_steps
    constructor
    refine range_st (σ := List Value × Int × Tok) (n := ys.length) (fun c => [(Str.ofString "a", .ref X), (Str.ofString "b", .ref Y), (Str.ofString "max_cost", .int mx tm), (Str.ofString "row", .ref R), (Str.ofString "result", .int c.2.1 c.2.2)])
      (fun c => (R, listOf c.1.toArray nn) :: (X, listOf ux.toArray 0) :: (Y, listOf uy.toArray 0) :: news)
      (fun i c => IntsAre c.1 ((List.range xs.length).map fun j => dd subCost ys xs i (j + 1)) ∧ (0 < i → c.2.1 = dd subCost ys xs i xs.length)) (rs0, 0, _)
      (fun _ _ => rfl) rfl (by assumption) (small_one (by omega) (by omega) (by omega) (by omega)) rsize1 (by assumption) (by assumption) (fun _ h => h) (by kst_all) ⟨?_, fun h => absurd h (Nat.lt_irrefl _)⟩ ?_ ?_
    · exact Eq.mp (congrArg (IntsAre _) (row_start rfl)) hys
    · rintro i ⟨us, res, tr⟩ v t h9 tk9 own hi hoff ⟨hus, hres⟩ F N
      dsimp only at hus hres F N hoff
      have hne : ∀ p ∈ (X, listOf ux.toArray 0) :: (Y, listOf uy.toArray 0) :: news ++ own, p.1 ≠ R := by
        intro p hp
        rcases List.mem_append.mp hp with hp | hp
        · exact hRn p hp
        · exact hoff p hp R (List.Mem.head _)
      simp only [List.cons_append] at N
      have hi0 : (0 + (i : Int)).toNat = i := by omega
      have hyi : ys.getD (0 + (i : Int)).toNat Str.empty = ys[i] := by rw [hi0]; exact getD_at hi
      have hyw : (ys.getD (0 + (i : Int)).toNat Str.empty).length ≤ 1000 := by rw [hyi]; exact hwy _ (List.getElem_mem _)
      k_steps
      constructor
      refine range_st (σ := List Value × (Int × Tok) × (Int × Tok) × (Int × Tok)) (n := xs.length)
        (fun c => [(Str.ofString "a", .ref X), (Str.ofString "b", .ref Y), (Str.ofString "max_cost", .int mx tm), (Str.ofString "row", .ref R), (Str.ofString "bchar", .str (ys.getD (0 + (i : Int)).toNat Str.empty) _),
          (Str.ofString "distance", .int c.2.1.1 c.2.1.2), (Str.ofString "result", .int c.2.2.1.1 c.2.2.1.2), (Str.ofString "minimum", .int c.2.2.2.1 c.2.2.2.2)])
        (fun c => (R, listOf c.1.toArray nn) :: (X, listOf ux.toArray 0) :: (Y, listOf uy.toArray 0) :: (news ++ own))
        (fun j c => IntsAre c.1 ((List.range xs.length).map fun q => if q < j then dd subCost ys xs (i + 1) (q + 1) else dd subCost ys xs i (q + 1)) ∧ c.2.1.1 = dd subCost ys xs i j ∧
          c.2.2.1.1 = (if j = 0 then 2 * (i : Int) else dd subCost ys xs (i + 1) j) ∧ ∀ q, q < j → c.2.2.2.1 ≤ dd subCost ys xs (i + 1) (q + 1)) (us, (_, _), (_, _), (_, _))
        (fun _ _ => rfl) rfl (by assumption) (small_one (by omega) (by omega) (by omega) (by omega)) rsize1 (by assumption) (by assumption) (fun _ h => h) (by kst_all) ?_ ?_ ?_
      · dsimp only
        refine ⟨Eq.mp (congrArg (IntsAre _) ?_) hus, ?_, ?_, fun q hq => absurd hq (Nat.not_lt_zero _)⟩
        · apply List.map_congr_left
          intro q hq
          rw [if_neg (Nat.not_lt_zero _)]
        · rw [dd_zero_r subCost ys xs i (by omega)]; omega
        · rw [if_pos rfl]; omega
      · rintro j ⟨us', ⟨ds, td⟩, ⟨rs, tr'⟩, ⟨mn, tmn⟩⟩ v' t' h10 tk10 own' hj hoff' ⟨hus', hds, hrs, hmn⟩ F N
        dsimp only at hus' hds hrs hmn F N hoff'
        have hne' : ∀ p ∈ (X, listOf ux.toArray 0) :: (Y, listOf uy.toArray 0) :: (news ++ own ++ own'), p.1 ≠ R := by
          refine List.forall_mem_cons.mpr ⟨hne _ (.head _), List.forall_mem_cons.mpr ⟨hne _ (.tail _ (.head _)), fun p hp => ?_⟩⟩
          rcases List.mem_append.mp hp with hp | hp
          · exact hne p (.tail _ (.tail _ hp))
          · exact hoff' p hp R (List.Mem.head _)
        simp only [List.cons_append] at N
        have hj0 : (0 + (j : Int)).toNat = j := by omega
        have hro : ((List.range xs.length).map fun q => if q < j then dd subCost ys xs (i + 1) (q + 1) else dd subCost ys xs i (q + 1)).getD (0 + (j : Int)).toNat 0 = dd subCost ys xs i (j + 1) := by
          rw [hj0]; exact getD_row _ _ hj
        have hxj : xs.getD (0 + (j : Int)).toNat Str.empty = xs[j] := by rw [hj0]; exact getD_at hj
        have hxw : (xs.getD (0 + (j : Int)).toNat Str.empty).length ≤ 1000 := by rw [hxj]; exact hwx _ (List.getElem_mem _)
        have hsc : subCost (ys.getD (0 + (i : Int)).toNat Str.empty) (xs.getD (0 + (j : Int)).toNat Str.empty) = subCost ys[i] xs[j] := by rw [hyi, hxj]
        have hst := step_vals sub0 sub2 hi hj hds hrs hro hsc
        k_steps
        all_goals
          (rename IntsAre _ _ => hi9)
          refine .next (.mk (_, (_, _), (_, _), (_, _)) (by assumption) (by assumption) (List.forall_mem_cons.mpr ⟨List.Mem.head _, List.forall_mem_cons.mpr ⟨.tail _ (.head _), List.forall_mem_cons.mpr ⟨.tail _ (.tail _ (.head _)), fun p hp => .tail _ (.tail _ (.tail _ (List.mem_append_left _ hp)))⟩⟩⟩) (fun p hp => .tail _ (.tail _ (.tail _ (List.mem_append_right _ hp)))) (by kst_all) ?_)
          dsimp only
          refine ⟨Eq.mp (congrArg (IntsAre _) ?_) hi9, hro, ?_, fun q hq => ?_⟩
          · rw [hst, hj0]
            exact set_row (fun q => dd subCost ys xs (i + 1) (q + 1)) (fun q => dd subCost ys xs i (q + 1))
          · rw [if_neg (Nat.succ_ne_zero j)]; exact hst
          · have hq' := hmn q
            by_cases e : q = j
            · subst e
              first
                | (rw [hst]; done)
                | exact Int.le_of_eq hst
                | (rename ¬ (_ < mn) => hlt; rw [hst] at hlt; omega)
            · have h9 := hq' (by omega)
              first
                | exact h9
                | (rename _ < mn => hlt; omega)
      · rintro ⟨us', ⟨ds, td⟩, ⟨rs, tr'⟩, ⟨mn, tmn⟩⟩ v' h10 tk10 ⟨hus', hds, hrs, hmn⟩ F N
        dsimp only at hus' hds hrs hmn F N ⊢
        k_steps
        · rename News _ _ _ _ => N9
          refine hret _ _ _ ⟨_, _, rfl, .inr ⟨rfl, ?_⟩⟩ (by assumption) (fun p hp => N9 p (.tail _ (.tail _ (.tail _ (List.mem_append_left _ hp)))))
          obtain ⟨q, hq1, hq2⟩ := dd_min subCost sub0 sub2 ys xs i (by omega) hx0
          have := hmn q (by omega)
          rw [hE]; omega
        · refine .next (.mk (_, _, _) (by assumption) (by assumption) (List.forall_mem_cons.mpr ⟨List.Mem.head _, List.forall_mem_cons.mpr ⟨.tail _ (.head _), List.forall_mem_cons.mpr ⟨.tail _ (.tail _ (.head _)), fun p hp => .tail _ (.tail _ (.tail _ (List.mem_append_left _ hp)))⟩⟩⟩) (fun p hp => .tail _ (.tail _ (.tail _ (List.mem_append_right _ hp)))) (by kst_all) ?_)
          dsimp only
          refine ⟨Eq.mp (congrArg (IntsAre _) ?_) hus', fun _ => ?_⟩
          · apply List.map_congr_left
            intro q hq
            rw [if_pos (List.mem_range.mp hq)]
          · rw [hrs, if_neg (by omega)]
    · rintro ⟨us, res, tr⟩ v h9 tk9 ⟨hus, hres⟩ F N
      dsimp only at hus hres F N ⊢
      k_steps
      rename News _ _ _ _ => N9
      refine hret _ _ _ ⟨_, _, rfl, .inl ?_⟩ (by assumption) (fun p hp => N9 p (.tail _ (.tail _ (.tail _ hp))))
      rw [hE, hres (by omega)]
      exact dd_full subCost ys xs
  all_goals
    rename News _ _ _ _ => N9
    refine hret _ _ _ ⟨_, _, rfl, .inl ?_⟩ (by assumption) (fun p hp => N9 p (.tail _ (.tail _ hp)))
    rw [hD2]
  · have : bs2 = [] := List.eq_nil_of_length_eq_zero (by omega)
    rw [this, ed_nil_r]; simp
  · have : as2 = [] := List.eq_nil_of_length_eq_zero (by omega)
    rw [this, ed_nil]; simp
end Mine
end
section
set_option maxHeartbeats 3000000
open PySem PySem.W PyProof.Rows
namespace Mine
local macro_rules | `(tactic| walk_at "execs cons") => `(tactic| ((with_reducible refine wpAny_execs_cons ?_); try dsimp only))
local macro_rules | `(tactic| walk_at "execs nil") => `(tactic| ((with_reducible refine wpAny_execs_nil ?_); try dsimp only))
local macro_rules | `(tactic| walk_at "CutPost") => `(tactic| with_reducible refine CutPost.ret ?_)
local macro_rules | `(tactic| walk_at "TurnPost") => `(tactic| first | with_reducible refine TurnPost.ret ?_ | with_reducible refine TurnPost.brk ?_)
local macro_rules | `(tactic| walk_at "exec For") => `(tactic| refine Stop.out ?_)
local macro_rules | `(tactic| walk_at "pyIter ref") => `(tactic| refine Stop.out ?_)
local macro_rules | `(tactic| walk_at "call builtin:hex") => `(tactic| (refine P.hex_of_int ?_ (by assumption)))
local macro_rules | `(tactic| walk_at "call builtin:dict.get") => `(tactic| ((with_reducible rename KTD.Keyed _ _ _ => kyX); (with_unfolding_all refine get_flag (T := flagTab) kyX (by kt_keeps) ?_); intro tG))
local macro_rules | `(tactic| walk_at "call builtin:list.append") => `(tactic| (k_dflt (refine' append_st ?k1 ?k2 ?k3 ?k4 ?_; (case k1 => k_asm); (case k2 => k_asm); (case k3 => assumption); (case k4 => assumption)); intro h' F' N'))
theorem flags_claim (w : World) (mean : ExcName → Option Value) (mg mb : Str → Option Value) (x : Int) (tx : Tok) (news : List (Addr × Obj)) :
    Claim 2 PySem.Challenge.rw_ny0089_01.row.prog w (hd.heap_39 w.params) hd.view_39 (looseW hd.view_39 [Str.ofString "COMPILER_FLAG_NAMES"]) mean mg mb 22 news
      ((baseText "0x" 16 (x / 2 ^ 32 * 2 ^ 32)).length ≤ 100) [.int x tx] (fun v => ∃ t, v = .str (Txt.join (Str.ofString ", ") (pfAll x)) t) := by
  k_fill
  w_top off
  dsimp only [Claim, Ret]
  intros
  rename_i hp1 hd1 hu1 hret
  refine wpAny_call ?_
  k_dflt cell_enter
  k_steps
  constructor
  rename Fr _ _ _ _ => F
  rename News _ _ _ _ => N
  rename ∀ p ∈ news, p.1 < _ => hlt
  rename Addr => l
  refine cut_st (σ := List Value × Nat × List Str) F (fun c => [(Str.ofString "names", .ref l)]) (fun c => (l, listOf c.1.toArray c.2.1) :: news) (fun c => StrsAre c.1 c.2.2 ∧ c.2.2 = pfAll x) ?_ ?_
  · refine wpAny_For ?_
    k_steps
    constructor
    refine range_else_st (σ := Int × Tok × List Value × Nat × List Str) (n := 32) (fun c => [(Str.ofString "flags", .int c.1 c.2.1), (Str.ofString "names", .ref l)])
      (fun c => (l, listOf c.2.2.1.toArray c.2.2.2.1) :: news)
      (fun i c => StrsAre c.2.2.1 c.2.2.2.2 ∧ c.1 = x / 2 ^ i * 2 ^ i ∧ c.2.2.2.2 = pfw x i ∧ (c.2.2.2.2 ≠ [] → c.1 ≠ 0)) (x, tx, [], 0, []) (fun _ _ => rfl) rfl (by assumption) (by decide) (by decide) (by assumption) (by assumption) (fun _ h => h) (by kst_all) ?_ ?_ ?_
    · exact ⟨.nil, by simp, rfl, fun h => absurd rfl h⟩
    · rintro i ⟨fl, tf, vs, nn, ws⟩ v t h9 tk9 own hi hoff ⟨hvs, hc1, hc2, hc3⟩ F N
      dsimp only at hvs hc1 hc2 hc3 F N hoff
      rw [List.cons_append] at N
      have hi0 : (1 : Int) * 2 ^ (0 + (i : Int)).toNat = 2 ^ i := by rw [Int.one_mul]; congr 1; omega
      have hhx : (baseText "0x" 16 (1 * 2 ^ (0 + (i : Int)).toNat)).length ≤ sizeLine := by rw [hi0]; exact hex_fits i hi
      have hne : ∀ p ∈ news ++ own, p.1 ≠ l := by
        intro p hp
        rcases List.mem_append.mp hp with hp | hp
        · exact Nat.ne_of_lt (hlt p hp)
        · exact hoff p hp l (List.Mem.head _)
      have hsz : vs.length ≤ sizeLine := by
        have h1 := hvs.length
        have h2 := pfw_len x i
        rw [← hc2] at h2
        exact Nat.le_trans (by omega : vs.length ≤ 32) (by decide)
      have hwd : (List.lookup (1 * 2 ^ (0 + (i : Int)).toNat) flagTab).getD (baseText "0x" 16 (1 * 2 ^ (0 + (i : Int)).toNat)) = flagWord i := by rw [hi0]; rfl
      k_steps
      · rename Builtin.bitAnd _ _ ≠ 0 => hb
        rename Builtin.bitXor _ _ ≠ 0 => hx
        obtain ⟨e1, e2, e3⟩ := turn_bit hi0 hc1 hc2 hb
        refine .next (.mk (_, _, _, _, ws ++ [flagWord i]) (by assumption) (by assumption) (List.forall_mem_cons.mpr ⟨List.Mem.head _, fun p hp => .tail _ (List.mem_append_left _ hp)⟩) (fun p hp => .tail _ (List.mem_append_right _ hp)) (by kst_all) ?_)
        dsimp only
        exact ⟨hvs.append' (hwd ▸ .cons _ _ .nil), e2, e3, fun _ => hx⟩
      · rename Builtin.bitAnd _ _ ≠ 0 => hb
        rename Builtin.bitXor _ _ = 0 => hx
        obtain ⟨e1, e2, e3⟩ := turn_bit hi0 hc1 hc2 hb
        refine .next (.mk (_, _, ws ++ [flagWord i]) (by assumption) (by assumption) (List.forall_mem_cons.mpr ⟨List.Mem.head _, fun p hp => .tail _ (List.mem_append_left _ hp)⟩) (fun _ h => nomatch h) (by kst_all) ?_)
        dsimp only
        exact ⟨hvs.append' (hwd ▸ .cons _ _ .nil), by rw [hc2]; exact (pfAll_brk hi e1 (e2 ▸ hx)).symm⟩
      · rename Builtin.bitAnd _ _ = 0 => hb
        obtain ⟨e2, e3⟩ := turn_none hi0 hc1 hc2 hb
        refine .next (.mk (_, _, _, _, ws) (by assumption) (by assumption) (List.forall_mem_cons.mpr ⟨List.Mem.head _, fun p hp => .tail _ (List.mem_append_left _ hp)⟩) (fun p hp => .tail _ (List.mem_append_right _ hp)) (by kst_all) ?_)
        dsimp only
        exact ⟨hvs, e2, e3, hc3⟩
    · rintro ⟨fl, tf, vs, nn, ws⟩ v h9 tk9 ⟨hvs, hc1, hc2, hc3⟩ F N
      dsimp only at hvs hc1 hc2 hc3 F N
      have hsz : vs.length ≤ sizeLine := by
        have h1 := hvs.length
        have h2 := pfw_len x 32
        rw [← hc2] at h2
        exact Nat.le_trans (by omega : vs.length ≤ 32) (by decide)
      have hne : ∀ p ∈ news, p.1 ≠ l := fun p hp => Nat.ne_of_lt (hlt p hp)
      have hhx : (baseText "0x" 16 fl).length ≤ sizeLine := by rw [hc1]; exact Nat.le_trans hp1 (by decide)
      k_steps
      refine .next (.mk (_, _, ws ++ [baseText "0x" 16 fl]) (by assumption) (by assumption) (List.forall_mem_cons.mpr ⟨List.Mem.head _, fun p hp => .tail _ hp⟩) (fun _ h => nomatch h) (by kst_all) ?_)
      dsimp only
      refine ⟨hvs.append' (.cons _ _ .nil), ?_⟩
      rw [hc2, hc1] at hc3
      rw [hc2, hc1]
      exact (pfAll_else hc3).symm
  · clear F N
    rintro ⟨vs, nn, ws⟩ v h9 tk9 ⟨hvs, hws⟩ F N
    dsimp only at hvs hws F N ⊢
    k_steps
    have hwt := pfAll_weight hp1
    rw [← hws] at hwt
    refine join_listW (PySem.IsL.isList (n := nn) (N (l, listOf vs.toArray nn) (.head _)).1) (by simpa using hvs) (by decide) hwt ?_
    intro t' k'
    k_steps
    rename News _ _ _ _ => N9
    exact hret _ _ _ ⟨_, by rw [hws]⟩ (by assumption) (fun p hp => N9 p (.tail _ hp))
end Mine
end
section
set_option maxHeartbeats 3000000
open PySem PySem.W PyProof.Rows
namespace Mine
local macro_rules | `(tactic| walk_at "execs cons") => `(tactic| ((with_reducible refine wpAny_execs_cons ?_); try dsimp only))
local macro_rules | `(tactic| walk_at "execs nil") => `(tactic| ((with_reducible refine wpAny_execs_nil ?_); try dsimp only))
local macro_rules | `(tactic| walk_at "CutPost") => `(tactic| with_reducible refine CutPost.ret ?_)
local macro_rules | `(tactic| walk_at "exec For") => `(tactic| refine Stop.out ?_)
local macro_rules | `(tactic| walk_at "exec For Name Name cons nil") => `(tactic| refine Stop.out ?_)
local macro_rules | `(tactic| walk_at "pyIter ref") => `(tactic| refine Stop.out ?_)
local macro_rules | `(tactic| walk_at "call builtin:min") => `(tactic| refine Stop.out ?_)
local macro_rules | `(tactic| walk_at "eval ListComp") => `(tactic| k_dflt (refine ListComp_D (F₀ := by k_asm) (by with_unfolding_all rfl) (by decide) (by rfl) (by decide) (by rfl) ?_))
local macro_rules | `(tactic| walk_at "subscriptTail Name Name ref int") => `(tactic| k_dflt (refine' kda_item (K := Int) ?k1 ?k2 ?k3 ?k4 ?k5 ?_; (case k1 => k_asm); (case k2 => k_mem); (case k3 => assumption); (case k4 => exact intKind_is _ _ _ _); (case k5 => assumption)))
local macro_rules | `(tactic| walk_at "setItem ref int") => `(tactic| (k_dflt (refine' kda_set (K := Int) ?k1 ?k2 (UpdF.head ?k3) ?k4 ?k5 ?k6 ?_; (case k1 => k_asm); (case k2 => k_asm); (case k3 => assumption); (case k4 => assumption); (case k5 => exact intKind_is _ _ _ _); (case k6 => assumption)); intro h' o' F' N' hd'))
local macro_rules | `(tactic| k_all) => `(tactic| assumption)
theorem allLt_mem {d : Nat} : ∀ {l : List (Addr × Obj)}, AllLt d l → ∀ p ∈ l, @LT.lt Nat _ p.1 d
  | [], _, _, h => nomatch h
  | _ :: _, o, p, h => by
    rcases List.mem_cons.mp h with rfl | h
    · exact o.1
    · exact allLt_mem o.2 p h
theorem tab_put {kf : List (Int × Value)} {tf : Tab} {sort : Int} {p : Int × Int} {k c : Int} {tk : Tok} (h : TabIs kf tf) (hn : ∀ q ∈ tf, q.1 ≠ (stepP sort p).1) (e : stepP sort p = (k, c)) : TabIs (stored kf k (.int c tk)) (tf ++ [stepP sort p]) := by
  rw [e] at hn ⊢
  have := h.stored k c tk
  rwa [putT_new hn] at this
theorem least_claim (w : World) (mean : ExcName → Option Value) (mg mb : Str → Option Value) (l : Addr) (vs : List Value) (n0 : Nat) (ns : List Int) (news : List (Addr × Obj)) :
    Claim 4 PySem.Challenge.rw_ny0089_01.row.prog w (hd.heap_39 w.params) hd.view_39 (looseW hd.view_39 [Str.ofString "COMPILER_FLAG_NAMES"]) mean mg mb 41 news
      ((l, listOf vs.toArray n0) ∈ news ∧ IntsAre vs ns ∧ ns.length ≤ 100) [.ref l] (fun v => ∃ r t, v = .int r t ∧ LeastC ns r) := by
  k_fill
  w_top off
  dsimp only [Claim, Ret]
  intros
  rename_i N0 _ _ hpre hd1 hu1 hret
  obtain ⟨hl, hns, hz⟩ := hpre
  have N1 : News _ _ _ ((l, listOf vs.toArray n0) :: news) := List.forall_mem_cons.mpr ⟨N0 _ hl, N0⟩
  clear N0
  refine wpAny_call ?_
  first
    | (k_dflt (refine' code_defC ?k1 ?k2 ?k3 ?k4 ?k5 ?kA ?kF ?kK ?k6 ?k7 ?k8 ?k9 ?kB ?kD ?_ ?c2 ?c3 ?c4; (case kA => exact rfl); (case kF => exact rfl); (case kK => assumption); (case k1 => k_asm); (case k2 => k_asm); (case k3 => k_asm); (case k4 => k_asm); (case k5 => k_asm); (case k6 => k_is); (case k7 => k_is); (case k8 => (dsimp only [ktrTop]; omega)); (case k9 => exact BindsTo.of_eq rfl); (case kB => exact rfl); (case kD => decide +kernel); (case c2 => exact rfl); (case c3 => exact rfl); (case c4 => exact rfl); k_whole; intro g' L' h' tk' cells' FG' F' N' Y' B' X' T' l1; k_cells Y'; (try simp only [List.cons_append, List.nil_append] at N'); (try dsimp only); (try k_lift B'); (try k_fold)))
    | fail "enter"
  have l2 : ∀ p ∈ (l, listOf vs.toArray n0) :: news, p.1 ≠ L' + 1 := fun p hp => Nat.ne_of_lt (Nat.lt_succ_of_lt (l1 p hp))
  have l3 : ∀ p ∈ news, p.1 ≠ L' + 1 := fun p hp => l2 p (.tail _ hp)
  have l4 : @Ne Nat l (L' + 1) := l2 _ (.head _)
  k_steps
  constructor
  refine wpAny_For ?_
  k_steps
  constructor
  rename_i hd0 _ _ l0 _ _ F0 N0 dc0
  refine list_new_st (σ := Addr × Obj × List (Int × Value) × Tab × Obj) (fun _ => []) (fun c => (c.1, c.2.1) :: (L' + 1, c.2.2.2.2) :: (l, listOf vs.toArray n0) :: news)
    (fun i c => c.2.1.IsDictOf (intKind PySem.Challenge.rw_ny0089_01.row.prog w) c.2.2.1 ∧ TabIs c.2.2.1 c.2.2.2.1 ∧ Walked (ns.take i) c.2.2.2.1 ∧ c.2.2.2.2.data = Data.cell (some (.ref c.1)) ∧ (c.1 == sysModules) = false ∧ (@LT.lt Nat _ (L' + 1) c.1))
    (_, _, [(0, .int 0 _)], [(0, 0)], _) rfl (fun c => .tail _ (.tail _ (.head _))) F0 N0 (fun _ h => h) (fun _ h => nomatch h) ⟨hd0, .cons _ _ _ .nil, .nil, dc0, by assumption, l0.1⟩ ?_ ?_
  · rintro i v ⟨d, o, kvs, t, oC⟩ u g h tk own hi hv hoff ⟨hdd, htab, hwk, hoC, hlo, hlt⟩ F N
    dsimp only at hdd htab hwk hoC hlo hlt F N hoff
    obtain ⟨sort, ts, rfl, hsort⟩ := ints_item hns hv
    clear hv
    simp only [List.cons_append] at N
    have hnod := isDict_nodup hdd
    have hwl := walked_len hwk
    have hkl := htab.length
    have hnl := hns.length
    have htk : (ns.take i).length ≤ 100 := by rw [List.length_take]; omega
    have hsz : kvs.length ≤ sizeLine := Nat.le_trans (by omega : kvs.length ≤ 101) (by decide)
    k_steps
    refine comp_dict (fun j ys => IntsAre ys ((t.take j).map (·.2))) rfl hlo (by assumption) (by assumption) (.head _) hdd hsz .nil ?_ ?_
    · intro j v k y I oI C oC2 D m₂ g2 h2 tk2 ys E' hj hys hky hkv hns2 hm F N
      obtain ⟨c, tc, rfl, htj⟩ := htab.item hky
      have hva := valueAt_of hnod hky
      obtain ⟨tv, rfl⟩ := Value.isInt_shape hkv
      clear hky hkv
      k_steps
      refine .mk (by assumption) (by assumption) (fun _ h => h) ?_
      rw [take_map_succ _ htj]
      exact IntsAre.append hys (.cons _ _ .nil)
    intro ys D h2 tk2 hys F N hD
    rw [hkl, List.take_length] at hys
    k_steps
    constructor
    refine kso_min (by assumption) (by assumption) (PySem.IsL.isList (n := ys.length) (N (D, listOf ys.toArray ys.length) (.head _)).1) hys (by rw [List.length_map]; omega) rfl ?_
    intro h3 M tM tk3 F N hM1 hM2
    k_steps
    constructor
    refine wpAny_For ?_
    k_steps
    constructor
    rename_i D2 _ o2 lo2 _ _ hi2 _ l2' h4 F4 N4
    have hne2 : ∀ p ∈ (d, o) :: (L' + 1, oC) :: (l, listOf vs.toArray n0) :: (news ++ own), p.1 ≠ D2 := List.forall_mem_cons.mpr ⟨Nat.ne_of_lt l2'.2.1, List.forall_mem_cons.mpr ⟨Nat.ne_of_lt l2'.2.2.1, List.forall_mem_cons.mpr ⟨Nat.ne_of_lt l2'.2.2.2.1, fun p hp => Nat.ne_of_lt (allLt_mem l2'.2.2.2.2 p hp)⟩⟩⟩
    refine dict_new_st (knd := intKind PySem.Challenge.rw_ny0089_01.row.prog w) (σ := Obj × List (Int × Value)) (fun _ => [(Str.ofString "sort", .int sort ts), (Str.ofString "least", .int M tM), (Str.ofString "further", .ref D2)])
      (fun c => (D2, c.1) :: (d, o) :: (L' + 1, oC) :: (l, listOf vs.toArray n0) :: (news ++ own))
      (fun j c => c.1.IsDictOf (intKind PySem.Challenge.rw_ny0089_01.row.prog w) c.2 ∧ TabIs c.2 ((t.take j).map (stepP sort))) (o2, []) rfl (fun _ => .tail _ (.head _)) hdd hlo F4 N4
      (List.forall_mem_cons.mpr ⟨.head _, fun p hp => .tail _ (.tail _ hp)⟩) (by kst_all) ⟨hi2, .nil⟩ ?_ ?_
    · rintro j v k y ⟨of, kf⟩ u5 g5 h5 tk5 own5 hj hky hkv hoff5 ⟨hof, htf⟩ F N
      dsimp only at hof htf F N hoff5
      obtain ⟨c, tc, rfl, htj⟩ := htab.item hky
      have hva := valueAt_of hnod hky
      obtain ⟨tv, rfl⟩ := Value.isInt_shape hkv
      clear hky hkv
      simp only [List.cons_append] at N
      have hne5 : ∀ p ∈ (d, o) :: (L' + 1, oC) :: (l, listOf vs.toArray n0) :: (news ++ own ++ own5), p.1 ≠ D2 := by
        refine List.forall_mem_cons.mpr ⟨hne2 _ (.head _), List.forall_mem_cons.mpr ⟨hne2 _ (.tail _ (.head _)), List.forall_mem_cons.mpr ⟨hne2 _ (.tail _ (.tail _ (.head _))), fun p hp => ?_⟩⟩⟩
        rcases List.mem_append.mp hp with hp | hp
        · exact hne2 p (.tail _ (.tail _ (.tail _ hp)))
        · exact hoff5 p hp D2 (List.Mem.head _)
      have hkf := htf.length
      have hszf : kf.length ≤ sizeLine := by
        rw [List.length_map, List.length_take] at hkf
        exact Nat.le_trans (by omega : kf.length ≤ 101) (by decide)
      have hnew := nodup_take_new (sort := sort) (by rw [← htab.keys]; exact hnod) htj
      have hsucc := take_map_succ (stepP sort) htj
      k_steps
      all_goals
        rename Obj.IsDictOf _ _ (stored _ _ _) => hd9
        refine .next (.mk (_, _) (by assumption) (by assumption) (List.forall_mem_cons.mpr ⟨.head _, List.forall_mem_cons.mpr ⟨.tail _ (.head _), List.forall_mem_cons.mpr ⟨.tail _ (.tail _ (.head _)), List.forall_mem_cons.mpr ⟨.tail _ (.tail _ (.tail _ (.head _))), fun p hp => .tail _ (.tail _ (.tail _ (.tail _ (List.mem_append_left _ hp))))⟩⟩⟩⟩) (fun p hp => .tail _ (.tail _ (.tail _ (.tail _ (List.mem_append_right _ hp))))) (by kst_all) ⟨⟨hd9, ?_⟩, hoff5⟩)
        dsimp only
        rw [hsucc]
        refine tab_put htf hnew ?_
        simp only [stepP]
        (repeat' split) <;> first | rfl | (exfalso; omega)
    · rintro ⟨of, kf⟩ u5 h5 tk5 ⟨hof, htf⟩ F N
      dsimp only at hof htf F N
      rw [hkl, List.take_length] at htf
      have hkf := htf.length
      have hszf : kf.length ≤ sizeLine := by
        rw [List.length_map] at hkf
        exact Nat.le_trans (by omega : kf.length ≤ 101) (by decide)
      have hnc : ∀ p ∈ news ++ own, p.1 ≠ L' + 1 := by
        intro p hp
        rcases List.mem_append.mp hp with hp | hp
        · exact l3 p hp
        · exact hoff p hp _ (.tail _ (.head _))
      have hD2 : @LT.lt Nat _ (L' + 1) D2 := l2'.2.2.1
      have hstep : ns.take (i + 1) = ns.take i ++ [sort] := by rw [List.take_add_one, hsort]; rfl
      have hoff2 : OwnOff own (D2 :: (L' + 1) :: l :: news.map (·.1)) := by
        intro p hp b hb
        rcases List.mem_cons.mp hb with e | hb
        · rw [e]; exact hne2 p (.tail _ (.tail _ (.tail _ (List.mem_append_right _ hp))))
        · exact hoff p hp b (.tail _ hb)
      have hmem : ∀ (p : Addr × Obj) (o1 o3 : Obj), p ∈ (D2, o1) :: (L' + 1, o3) :: (l, listOf vs.toArray n0) :: news → p ∈ (D2, o1) :: (d, o) :: (L' + 1, o3) :: (l, listOf vs.toArray n0) :: (news ++ own) := by
        intro p o1 o3 hp
        rcases List.mem_cons.mp hp with e | hp
        · rw [e]; exact .head _
        rcases List.mem_cons.mp hp with e | hp
        · rw [e]; exact .tail _ (.tail _ (.head _))
        rcases List.mem_cons.mp hp with e | hp
        · rw [e]; exact .tail _ (.tail _ (.tail _ (.head _)))
        · exact .tail _ (.tail _ (.tail _ (.tail _ (List.mem_append_left _ hp))))
      k_steps
      · rename Obj.IsDictOf _ _ (stored _ _ _) => hd9
        rename 1 < sort => hs9
        refine .next (.mk (D2, _, _, stepT t sort M, _) (by assumption) (by assumption) (fun p hp => hmem p _ _ hp) (fun p hp => .tail _ (.tail _ (.tail _ (.tail _ (List.mem_append_right _ hp))))) (fun _ h => nomatch h) ⟨⟨hd9, ?_, ?_, by assumption, lo2, hD2⟩, hoff2⟩)
        · dsimp only
          rw [stepT, if_pos hs9]
          exact htf.stored _ _ _
        · rw [hstep]; exact .snoc hwk ⟨hM1, hM2⟩
      · rename ¬ (1 < sort) => hs9
        refine .next (.mk (D2, _, _, stepT t sort M, _) (by assumption) (by assumption) (fun p hp => hmem p _ _ hp) (fun p hp => .tail _ (.tail _ (.tail _ (.tail _ (List.mem_append_right _ hp))))) (fun _ h => nomatch h) ⟨⟨hof, ?_, ?_, by assumption, lo2, hD2⟩, hoff2⟩)
        · dsimp only
          rw [stepT, if_neg hs9]
          exact htf
        · rw [hstep]; exact .snoc hwk ⟨hM1, hM2⟩
  · rintro ⟨d, o, kvs, t, oC⟩ u h tk ⟨hdd, htab, hwk, hoC, hlo, hlt⟩ F N
    dsimp only at hdd htab hwk hoC hlo hlt F N
    have hnod := isDict_nodup hdd
    have hnl := hns.length
    rw [hnl, List.take_length] at hwk
    have hwl := walked_len hwk
    have hkl := htab.length
    have hsz : kvs.length ≤ sizeLine := Nat.le_trans (by omega : kvs.length ≤ 101) (by decide)
    k_steps
    refine comp_dict (fun j ys => IntsAre ys ((t.take j).map (·.2))) rfl hlo (by assumption) (by assumption) (.head _) hdd hsz .nil ?_ ?_
    · intro j v k y I oI C oC2 D m₂ g2 h2 tk2 ys E' hj hys hky hkv hns2 hm F N
      obtain ⟨c, tc, rfl, htj⟩ := htab.item hky
      have hva := valueAt_of hnod hky
      obtain ⟨tv, rfl⟩ := Value.isInt_shape hkv
      clear hky hkv
      k_steps
      refine .mk (by assumption) (by assumption) (fun _ h => h) ?_
      rw [take_map_succ _ htj]
      exact IntsAre.append hys (.cons _ _ .nil)
    intro ys D h2 tk2 hys F N hD
    rw [hkl, List.take_length] at hys
    k_steps
    constructor
    refine kso_min (by assumption) (by assumption) (PySem.IsL.isList (n := ys.length) (N (D, listOf ys.toArray ys.length) (.head _)).1) hys (by rw [List.length_map]; omega) rfl ?_
    intro h3 M tM tk3 F N hM1 hM2
    k_steps
    rename News _ _ _ _ => N9
    exact hret _ _ _ ⟨M, tM, rfl, t, hwk, hM1, hM2⟩ (by assumption) (fun p hp => N9 p (by repeat' (first | exact hp | refine List.Mem.tail _ ?_)))
end Mine
end
section
set_option maxHeartbeats 3000000
open PySem PySem.W PyProof.Rows
namespace Mine
def leastOf : Tab → Int
  | [] => 0
  | [p] => p.2
  | p :: q :: r => min p.2 (leastOf (q :: r))
theorem leastOf_is : ∀ {t : Tab}, t ≠ [] → LeastIs t (leastOf t)
  | [], h => absurd rfl h
  | [p], _ => ⟨List.Mem.head _, fun a ha => by simp at ha; simp [leastOf, ha]⟩
  | p :: q :: r, _ => by
    obtain ⟨h1, h2⟩ := leastOf_is (t := q :: r) (by simp)
    constructor
    · show min p.2 (leastOf (q :: r)) ∈ _
      by_cases h : p.2 ≤ leastOf (q :: r)
      · rw [Int.min_eq_left h]; exact List.Mem.head _
      · rw [Int.min_eq_right (by omega)]; exact List.Mem.tail _ h1
    · intro a ha
      show min p.2 (leastOf (q :: r)) ≤ a
      rcases List.mem_cons.mp ha with e | ha
      · rw [e]; exact Int.min_le_left _ _
      · exact Int.le_trans (Int.min_le_right _ _) (h2 a ha)
theorem leastIs_unique {t : Tab} {a b : Int} (ha : LeastIs t a) (hb : LeastIs t b) : a = b := by
  have h1 := ha.2 b hb.1
  have h2 := hb.2 a ha.1
  omega
/-- the table of a walk, the last word first -/
def tabR : List Int → Tab
  | [] => [(0, 0)]
  | s :: r => stepT (tabR r) s (leastOf (tabR r))
theorem walked_tab {ss : List Int} {t : Tab} (h : Walked ss t) : t = tabR ss.reverse := by
  induction h with
  | nil => rfl
  | @snoc ss t sort M h hM ih =>
    rw [List.reverse_append]
    show _ = stepT (tabR ss.reverse) sort (leastOf (tabR ss.reverse))
    have hne : t ≠ [] := fun e => by have := (walked_len h).2; rw [e] at this; exact Nat.lt_irrefl _ this
    rw [← ih, leastIs_unique hM (leastOf_is hne)]
theorem putT_mem {t : Tab} {k c : Int} {p : Int × Int} (h : p ∈ putT t k c) : p ∈ t ∨ p = (k, c) := by
  unfold putT at h
  split at h
  · obtain ⟨q, hq, rfl⟩ := List.mem_map.mp h
    by_cases e : q.1 = k
    · rw [if_pos e, e]; exact .inr rfl
    · rw [if_neg e]; exact .inl hq
  · rcases List.mem_append.mp h with h | h
    · exact .inl h
    · exact .inr (List.mem_singleton.mp h)
theorem putT_at (t : Tab) (k c : Int) : (k, c) ∈ putT t k c := by
  unfold putT
  split
  · rename_i h
    obtain ⟨p, hp, he⟩ := List.any_eq_true.mp h
    have he' : p.1 = k := of_decide_eq_true he
    exact List.mem_map.mpr ⟨p, hp, by rw [if_pos he', he']⟩
  · exact List.mem_append_right _ (List.Mem.head _)
theorem putT_keep {t : Tab} {k c : Int} {p : Int × Int} (h : p ∈ t) (hk : p.1 ≠ k) : p ∈ putT t k c := by
  unfold putT
  split
  · exact List.mem_map.mpr ⟨p, h, by rw [if_neg hk]⟩
  · exact List.mem_append_left _ h
section
variable (k : Nat → Nat → Int)
/-- a word's sort and its place -/
abbrev Evs := List (Int × Nat)
def fsE (E : Evs) : List Nat := (E.filter fun e => decide (e.1 ≠ 1)).map (·.2)
def snE (E : Evs) : List Nat := (E.filter fun e => decide (e.1 ≠ 0)).map (·.2)
def T (E : Evs) : Tab := tabR (E.map (·.1)).reverse
theorem fs_one {e : Int × Nat} (h : e.1 ≠ 1) : (fsE [e]).length = 1 := by simp [fsE, List.filter_cons, h]
theorem sn_one {e : Int × Nat} (h : e.1 ≠ 0) : (snE [e]).length = 1 := by simp [snE, List.filter_cons, h]
theorem T_snoc (E : Evs) (e : Int × Nat) : T (E ++ [e]) = stepT (T E) e.1 (leastOf (T E)) := by
  unfold T
  rw [List.map_append, List.reverse_append]
  rfl
theorem fsE_app (E F : Evs) : fsE (E ++ F) = fsE E ++ fsE F := by simp [fsE]
theorem snE_app (E F : Evs) : snE (E ++ F) = snE E ++ snE F := by simp [snE]
theorem stepT_ne {t : Tab} (h : t ≠ []) (s M : Int) : stepT t s M ≠ [] := by
  unfold stepT putT
  split
  · split
    · simpa using h
    · simp
  · simpa using h
theorem T_ne (E : Evs) : T E ≠ [] := by
  unfold T
  generalize (E.map (·.1)).reverse = ss
  induction ss with
  | nil => simp [tabR]
  | cons s r ih => exact stepT_ne ih _ _
theorem T_least {E : Evs} {p : Int × Int} (h : p ∈ T E) : leastOf (T E) ≤ p.2 := (leastOf_is (T_ne E)).2 _ (List.mem_map.mpr ⟨p, h, rfl⟩)
/-- an open walk: p words of the first and q of the second since a stop that cost v -/
def Open (E : Evs) (p q : Nat) (v : Int) : Prop := ∃ c, ((p : Int) - q, c) ∈ T E ∧ c ≤ v + 2 * (max p q : Nat)
theorem open_step {E : Evs} {p q : Nat} {v : Int} (h : Open E p q v) (e : Int × Nat) (hs : 0 ≤ e.1 ∧ e.1 ≤ 3) : Open (E ++ [e]) (p + (fsE [e]).length) (q + (snE [e]).length) v := by
  obtain ⟨c, hm, hc⟩ := h
  obtain ⟨s, i⟩ := e
  have hM := T_least hm
  dsimp only at hs hM
  unfold Open
  rw [T_snoc]
  have hs' : s = 0 ∨ s = 1 ∨ s = 2 ∨ s = 3 := by omega
  have him : stepP s ((p : Int) - q, c) ∈ (T E).map (stepP s) := List.mem_map.mpr ⟨_, hm, rfl⟩
  rcases hs' with rfl | rfl | rfl | rfl
  · have e1 : (fsE [(0, i)]).length = 1 := rfl
    have e2 : (snE [(0, i)]).length = 0 := rfl
    rw [e1, e2]
    refine ⟨c + (if (0 : Int) ≤ (p : Int) - q then 2 else 0), ?_, ?_⟩
    · simp only [stepT]
      rw [if_neg (by decide)]
      have : stepP 0 ((p : Int) - q, c) = (((p + 1 : Nat) : Int) - (q + 0 : Nat), c + if (0 : Int) ≤ (p : Int) - q then 2 else 0) := by
        simp only [stepP, if_true]; congr 1; omega
      rw [← this]; exact him
    · split <;> omega
  · have e1 : (fsE [(1, i)]).length = 0 := rfl
    have e2 : (snE [(1, i)]).length = 1 := rfl
    rw [e1, e2]
    refine ⟨c + (if (p : Int) - q ≤ 0 then 2 else 0), ?_, ?_⟩
    · simp only [stepT]
      rw [if_neg (by decide)]
      have : stepP 1 ((p : Int) - q, c) = (((p + 0 : Nat) : Int) - (q + 1 : Nat), c + if (p : Int) - q ≤ 0 then 2 else 0) := by
        unfold stepP; rw [if_neg (by decide), if_pos rfl]; congr 1; omega
      rw [← this]; exact him
    · split <;> omega
  all_goals
    (first
      | (have e1 : (fsE [((2 : Int), i)]).length = 1 := rfl
         have e2 : (snE [((2 : Int), i)]).length = 1 := rfl
         rw [e1, e2])
      | (have e1 : (fsE [((3 : Int), i)]).length = 1 := rfl
         have e2 : (snE [((3 : Int), i)]).length = 1 := rfl
         rw [e1, e2]))
    simp only [stepT]
    rw [if_pos (by decide)]
    have hl : ((p + 1 : Nat) : Int) - (q + 1 : Nat) = (p : Int) - q := by omega
    rw [hl]
    simp only [stepP] at him
    rw [if_neg (by decide), if_neg (by decide)] at him
    by_cases hz : (p : Int) - q = 0
    · rw [hz]
      exact ⟨_, putT_at _ _ _, by omega⟩
    · exact ⟨c + 2, putT_keep him hz, by omega⟩
theorem open_many : ∀ (F E : Evs) (p q : Nat) (v : Int), (∀ e ∈ F, 0 ≤ e.1 ∧ e.1 ≤ 3) → Open E p q v → Open (E ++ F) (p + (fsE F).length) (q + (snE F).length) v
  | [], E, p, q, v, _, h => by simpa [fsE, snE] using h
  | e :: F, E, p, q, v, hs, h => by
    have h1 := open_many F (E ++ [e]) _ _ v (fun x hx => hs x (.tail _ hx)) (open_step h e (hs e (.head _)))
    have e1 : fsE (e :: F) = fsE [e] ++ fsE F := fsE_app [e] F
    have e2 : snE (e :: F) = snE [e] ++ snE F := snE_app [e] F
    rw [List.append_assoc, Nat.add_assoc, Nat.add_assoc, ← List.length_append, ← List.length_append, ← e1, ← e2] at h1
    exact h1
theorem open_stop {E : Evs} {e : Int × Nat} (hs : 1 < e.1) : Open (E ++ [e]) 0 0 (leastOf (T E) + e.1 - 2) := by
  refine ⟨leastOf (T E) + e.1 - 2, ?_, by simp⟩
  rw [T_snoc, stepT, if_pos hs]
  exact putT_at _ _ _
/-- no way from one row to the other costs less than the walk tells -/
theorem low_bound {E : Evs} (hs : ∀ e ∈ E, 0 ≤ e.1 ∧ e.1 ≤ 3) (k0 : ∀ i j, 0 ≤ k i j)
    (hc : ∀ m n (hm : m < (fsE E).length) (hn : n < (snE E).length), 2 ≤ k (fsE E)[m] (snE E)[n] ∨ ∃ E1 e E2, E = E1 ++ e :: E2 ∧ (fsE E1).length = m ∧ (snE E1).length = n ∧ 1 < e.1 ∧ e.1 - 2 ≤ k (fsE E)[m] (snE E)[n]) :
    ∀ N m n, m + n ≤ N → m ≤ (fsE E).length → n ≤ (snE E).length → ∃ E1 E2 v, E = E1 ++ E2 ∧ Open E1 0 0 v ∧ (fsE E1).length ≤ m ∧ (snE E1).length ≤ n ∧ v + 2 * (max (m - (fsE E1).length) (n - (snE E1).length) : Nat) ≤ dd k (fsE E) (snE E) m n := by
  have base : Open [] 0 0 0 := ⟨0, List.Mem.head _, by simp⟩
  intro N
  induction N with
  | zero =>
    intro m n h hm hn
    obtain rfl : m = 0 := by omega
    obtain rfl : n = 0 := by omega
    exact ⟨[], E, 0, rfl, base, Nat.le_refl _, Nat.le_refl _, by rw [dd_zero_l k _ _ 0 hn]; simp [fsE, snE]⟩
  | succ N ih =>
    intro m n h hm hn
    match m, n with
    | 0, n => exact ⟨[], E, 0, rfl, base, Nat.zero_le _, Nat.zero_le _, by rw [dd_zero_l k _ _ n hn]; simp [fsE, snE]⟩
    | m + 1, 0 => exact ⟨[], E, 0, rfl, base, Nat.zero_le _, Nat.zero_le _, by rw [dd_zero_r k _ _ (m + 1) hm]; simp [fsE, snE]⟩
    | m + 1, n + 1 =>
      have hm' : m < (fsE E).length := hm
      have hn' : n < (snE E).length := hn
      have st := dd_step k k0 (fsE E) (snE E) m n hm' hn'
      obtain ⟨A1, A2, v1, a1, a2, a3, a4, a5⟩ := ih m (n + 1) (by omega) (by omega) hn
      obtain ⟨B1, B2, v2, b1, b2, b3, b4, b5⟩ := ih (m + 1) n (by omega) hm (by omega)
      obtain ⟨C1, C2, v3, c1, c2, c3, c4, c5⟩ := ih m n (by omega) (by omega) (by omega)
      have h3 : dd k (fsE E) (snE E) (m + 1) (n + 1) = dd k (fsE E) (snE E) m (n + 1) + 2 ∨ dd k (fsE E) (snE E) (m + 1) (n + 1) = dd k (fsE E) (snE E) (m + 1) n + 2 ∨ dd k (fsE E) (snE E) (m + 1) (n + 1) = dd k (fsE E) (snE E) m n + k (fsE E)[m] (snE E)[n] := by
        rw [st]; omega
      rcases h3 with h3 | h3 | h3
      · exact ⟨A1, A2, v1, a1, a2, by omega, by omega, by rw [h3]; omega⟩
      · exact ⟨B1, B2, v2, b1, b2, by omega, by omega, by rw [h3]; omega⟩
      · rcases hc m n hm' hn' with hk | ⟨E1, e, E2, e1, e2, e3, e4, e5⟩
        · exact ⟨C1, C2, v3, c1, c2, by omega, by omega, by rw [h3]; omega⟩
        · have hle : leastOf (T E1) ≤ dd k (fsE E) (snE E) m n := by
            have hpre : ∃ D, E1 = C1 ++ D := by
              have hlen : C1.length ≤ E1.length := by
                refine Nat.le_of_not_lt fun hlt => ?_
                have h5 : C1 ++ C2 = (E1 ++ [e]) ++ E2 := by rw [← c1, e1]; simp
                have hll : (E1 ++ [e]).length ≤ C1.length := by simp; omega
                have h6 := congrArg (List.take (E1 ++ [e]).length) h5
                rw [List.take_left, List.take_append_of_le_length hll] at h6
                have h7 : C1 = (E1 ++ [e]) ++ C1.drop (E1 ++ [e]).length := by
                  conv => { lhs; rw [← List.take_append_drop (E1 ++ [e]).length C1] }
                  rw [h6]
                have h8 : (fsE C1).length ≥ (fsE (E1 ++ [e])).length := by rw [h7, fsE_app (E1 ++ [e]), List.length_append]; omega
                have h9 : (fsE [e]).length = 1 := fs_one (by omega)
                rw [fsE_app, List.length_append, h9] at h8
                omega
              have h5 : C1 ++ C2 = E1 ++ e :: E2 := by rw [← c1, e1]
              have h6 := congrArg (List.take C1.length) h5
              rw [List.take_left, List.take_append_of_le_length hlen] at h6
              exact ⟨E1.drop C1.length, by conv => { lhs; rw [← List.take_append_drop C1.length E1] }; rw [← h6]⟩
            obtain ⟨D, rfl⟩ := hpre
            have ho := open_many D C1 0 0 v3 (fun x hx => hs x (by rw [e1]; simp [hx])) c2
            obtain ⟨c', hc1, hc2⟩ := ho
            have hl := T_least hc1
            rw [fsE_app, List.length_append] at e2
            rw [snE_app, List.length_append] at e3
            dsimp only at hl
            have e6 : (m - (fsE C1).length) = 0 + (fsE D).length := by omega
            have e7 : (n - (snE C1).length) = 0 + (snE D).length := by omega
            rw [e6, e7] at c5
            omega
          refine ⟨E1 ++ [e], E2, leastOf (T E1) + e.1 - 2, by rw [e1]; simp, open_stop e4, ?_, ?_, ?_⟩
          · rw [fsE_app, List.length_append, e2]
            have : (fsE [e]).length ≤ 1 := by simp only [fsE, List.length_map]; exact List.length_filter_le _ _
            omega
          · rw [snE_app, List.length_append, e3]
            have : (snE [e]).length ≤ 1 := by simp only [snE, List.length_map]; exact List.length_filter_le _ _
            omega
          · rw [fsE_app, snE_app, List.length_append, List.length_append, e2, e3]
            have h8 : (fsE [e]).length = 1 := fs_one (by omega)
            have h9 : (snE [e]).length = 1 := sn_one (by omega)
            rw [h8, h9, h3, Nat.sub_self, Nat.sub_self]
            simp only [Nat.max_self]
            omega
end
end Mine
end
section
set_option maxHeartbeats 3000000
open PySem PySem.W PyProof.Rows
namespace Mine
section
variable {k : Nat → Nat → Int} (k0 : ∀ i j, 0 ≤ k i j) (k2 : ∀ i j, k i j ≤ 2)
include k0
theorem ed_snoc_l (a b : List Nat) (x : Nat) : ed k (a ++ [x]) b ≤ ed k a b + 2 := by
  rw [← ed_rev k k0 (a ++ [x]) b, ← ed_rev k k0 a b, List.reverse_append]
  exact ed_le k k0 (Al.del x (ed_al k _ _))
theorem ed_snoc_r (a b : List Nat) (y : Nat) : ed k a (b ++ [y]) ≤ ed k a b + 2 := by
  rw [← ed_rev k k0 a (b ++ [y]), ← ed_rev k k0 a b, List.reverse_append]
  exact ed_le k k0 (Al.ins y (ed_al k _ _))
theorem ed_snoc_lr (a b : List Nat) (x y : Nat) : ed k (a ++ [x]) (b ++ [y]) ≤ ed k a b + k x y := by
  rw [← ed_rev k k0 (a ++ [x]) (b ++ [y]), ← ed_rev k k0 a b, List.reverse_append, List.reverse_append]
  exact ed_le k k0 (Al.sub x y (ed_al k _ _))
include k2
theorem ed_tail : ∀ (P Q a b : List Nat), ed k (a ++ P) (b ++ Q) ≤ ed k a b + 2 * (max P.length Q.length : Nat)
  | [], [], a, b => by simp
  | x :: P, [], a, b => by
    have h1 := ed_tail P [] (a ++ [x]) b
    have h2 := ed_snoc_l k0 a b x
    rw [List.append_assoc] at h1
    simp only [List.cons_append, List.nil_append, List.length_cons, List.length_nil] at h1 ⊢
    omega
  | [], y :: Q, a, b => by
    have h1 := ed_tail [] Q a (b ++ [y])
    have h2 := ed_snoc_r k0 a b y
    rw [List.append_assoc] at h1
    simp only [List.cons_append, List.nil_append, List.length_cons, List.length_nil] at h1 ⊢
    omega
  | x :: P, y :: Q, a, b => by
    have h1 := ed_tail P Q (a ++ [x]) (b ++ [y])
    have h2 := ed_snoc_lr k0 a b x y
    have h3 := k2 x y
    rw [List.append_assoc, List.append_assoc] at h1
    simp only [List.cons_append, List.nil_append, List.length_cons] at h1 ⊢
    omega
omit k0 k2
variable (k) in
/-- what an entry of the table says -/
def Ent (E : Evs) (pr : Int × Int) : Prop := ∃ p q : Nat, pr.1 = (p : Int) - q ∧ p ≤ (fsE E).length ∧ q ≤ (snE E).length ∧ ed k ((fsE E).take ((fsE E).length - p)) ((snE E).take ((snE E).length - q)) + 2 * (max p q : Nat) ≤ pr.2
include k0 k2
theorem ent_ed {E : Evs} {pr : Int × Int} (h : Ent k E pr) : ed k (fsE E) (snE E) ≤ pr.2 := by
  obtain ⟨p, q, _, hp, hq, hc⟩ := h
  have h1 := ed_tail k0 k2 ((fsE E).drop ((fsE E).length - p)) ((snE E).drop ((snE E).length - q)) ((fsE E).take ((fsE E).length - p)) ((snE E).take ((snE E).length - q))
  rw [List.take_append_drop, List.take_append_drop, List.length_drop, List.length_drop] at h1
  have e1 : (fsE E).length - ((fsE E).length - p) = p := by omega
  have e2 : (snE E).length - ((snE E).length - q) = q := by omega
  rw [e1, e2] at h1
  omega
theorem take_more' {a : List Nat} {x : List Nat} {p : Nat} (hp : p ≤ a.length) : (a ++ x).take ((a ++ x).length - (p + x.length)) = a.take (a.length - p) := by
  rw [List.length_append, show a.length + x.length - (p + x.length) = a.length - p by omega, List.take_append_of_le_length (by omega)]
theorem up_bound : ∀ (R : Evs), (∀ e ∈ R, (0 ≤ e.1 ∧ e.1 ≤ 3) ∧ (1 < e.1 → k e.2 e.2 ≤ e.1 - 2)) → ∀ pr ∈ T R.reverse, Ent k R.reverse pr
  | [], _, pr, h => by
    have : pr = (0, 0) := List.mem_singleton.mp h
    subst this
    exact ⟨0, 0, rfl, Nat.le_refl _, Nat.le_refl _, by simp [fsE, snE, ed]⟩
  | e :: R, hR, pr, h => by
    have ih := up_bound R (fun x hx => hR x (.tail _ hx))
    have he := hR e (.head _)
    rw [List.reverse_cons] at h ⊢
    generalize R.reverse = E at *
    obtain ⟨s, i⟩ := e
    dsimp only at he
    have hs' : s = 0 ∨ s = 1 ∨ 1 < s := by omega
    have hmap : ∀ p ∈ (T E).map (stepP s), Ent k (E ++ [(s, i)]) p := by
      intro pr' hpr'
      obtain ⟨⟨l, c⟩, hlc, rfl⟩ := List.mem_map.mp hpr'
      obtain ⟨p, q, h1, h2, h3, h4⟩ := ih _ hlc
      dsimp only at h1 h4
      refine ⟨p + (fsE [(s, i)]).length, q + (snE [(s, i)]).length, ?_, ?_, ?_, ?_⟩
      rotate_left
      · rw [fsE_app, List.length_append]; omega
      · rw [snE_app, List.length_append]; omega
      · rw [fsE_app, snE_app, take_more' k0 k2 h2, take_more' k0 k2 h3]
        rcases hs' with rfl | rfl | hs'
        · have e1 : (fsE [(0, i)]).length = 1 := rfl
          have e2 : (snE [(0, i)]).length = 0 := rfl
          rw [e1, e2]
          unfold stepP
          rw [if_pos rfl]
          dsimp only
          split <;> omega
        · have e1 : (fsE [(1, i)]).length = 0 := rfl
          have e2 : (snE [(1, i)]).length = 1 := rfl
          rw [e1, e2]
          unfold stepP
          rw [if_neg (by decide), if_pos rfl]
          dsimp only
          split <;> omega
        · have e1 : (fsE [(s, i)]).length = 1 := fs_one (by dsimp only; omega)
          have e2 : (snE [(s, i)]).length = 1 := sn_one (by dsimp only; omega)
          rw [e1, e2]
          unfold stepP
          rw [if_neg (by omega), if_neg (by omega)]
          dsimp only
          omega
      · rcases hs' with rfl | rfl | hs'
        · have e1 : (fsE [(0, i)]).length = 1 := rfl
          have e2 : (snE [(0, i)]).length = 0 := rfl
          rw [e1, e2]
          unfold stepP
          rw [if_pos rfl]
          dsimp only
          omega
        · have e1 : (fsE [(1, i)]).length = 0 := rfl
          have e2 : (snE [(1, i)]).length = 1 := rfl
          rw [e1, e2]
          unfold stepP
          rw [if_neg (by decide), if_pos rfl]
          dsimp only
          omega
        · have e1 : (fsE [(s, i)]).length = 1 := fs_one (by dsimp only; omega)
          have e2 : (snE [(s, i)]).length = 1 := sn_one (by dsimp only; omega)
          rw [e1, e2]
          unfold stepP
          rw [if_neg (by omega), if_neg (by omega)]
          dsimp only
          omega
    rw [T_snoc] at h
    unfold stepT at h
    dsimp only at h
    split at h
    · rename_i hs1
      rcases putT_mem h with h | h
      · exact hmap pr h
      · subst h
        obtain ⟨hM, _⟩ := leastOf_is (T_ne E)
        obtain ⟨⟨l, c⟩, hlc, hM'⟩ := List.mem_map.mp hM
        dsimp only at hM'
        have h1 := ent_ed k0 k2 (ih _ hlc)
        dsimp only at h1
        have e1 : fsE [(s, i)] = [i] := by simp [fsE, show s ≠ 1 by omega]
        have e2 : snE [(s, i)] = [i] := by simp [snE, show s ≠ 0 by omega]
        refine ⟨0, 0, rfl, Nat.zero_le _, Nat.zero_le _, ?_⟩
        rw [Nat.sub_zero, Nat.sub_zero, List.take_length, List.take_length, fsE_app, snE_app, e1, e2]
        have h2 := ed_snoc_lr k0 (fsE E) (snE E) i i
        have h3 := he.2 hs1
        simp only [Nat.max_self]
        omega
    · exact hmap pr h
end
theorem fs_at : ∀ (E : Evs) (m : Nat) (h : m < (fsE E).length), ∃ E1 e E2, E = E1 ++ e :: E2 ∧ e.1 ≠ 1 ∧ (fsE E1).length = m ∧ (fsE E)[m] = e.2
  | [], m, h => absurd h (Nat.not_lt_zero _)
  | e :: E, m, h => by
    by_cases he : e.1 = 1
    · have e1 : fsE (e :: E) = fsE E := by simp [fsE, he]
      have h' : m < (fsE E).length := by rw [← e1]; exact h
      obtain ⟨E1, e', E2, h1, h2, h3, h4⟩ := fs_at E m h'
      refine ⟨e :: E1, e', E2, by rw [h1]; rfl, h2, ?_, ?_⟩
      · rw [show fsE (e :: E1) = fsE E1 by simp [fsE, he]]; exact h3
      · rw [← h4]; congr 1
    · have e1 : fsE (e :: E) = e.2 :: fsE E := by simp [fsE, he]
      cases m with
      | zero => exact ⟨[], e, E, rfl, he, rfl, by simp [e1]⟩
      | succ m =>
        have h' : m < (fsE E).length := by rw [e1] at h; simpa using h
        obtain ⟨E1, e', E2, h1, h2, h3, h4⟩ := fs_at E m h'
        refine ⟨e :: E1, e', E2, by rw [h1]; rfl, h2, ?_, ?_⟩
        · rw [show fsE (e :: E1) = e.2 :: fsE E1 by simp [fsE, he], List.length_cons, h3]
        · rw [← h4]; simp [e1]
theorem sn_at : ∀ (E : Evs) (m : Nat) (h : m < (snE E).length), ∃ E1 e E2, E = E1 ++ e :: E2 ∧ e.1 ≠ 0 ∧ (snE E1).length = m ∧ (snE E)[m] = e.2
  | [], m, h => absurd h (Nat.not_lt_zero _)
  | e :: E, m, h => by
    by_cases he : e.1 = 0
    · have e1 : snE (e :: E) = snE E := by simp [snE, he]
      have h' : m < (snE E).length := by rw [← e1]; exact h
      obtain ⟨E1, e', E2, h1, h2, h3, h4⟩ := sn_at E m h'
      refine ⟨e :: E1, e', E2, by rw [h1]; rfl, h2, ?_, ?_⟩
      · rw [show snE (e :: E1) = snE E1 by simp [snE, he]]; exact h3
      · rw [← h4]; congr 1
    · have e1 : snE (e :: E) = e.2 :: snE E := by simp [snE, he]
      cases m with
      | zero => exact ⟨[], e, E, rfl, he, rfl, by simp [e1]⟩
      | succ m =>
        have h' : m < (snE E).length := by rw [e1] at h; simpa using h
        obtain ⟨E1, e', E2, h1, h2, h3, h4⟩ := sn_at E m h'
        refine ⟨e :: E1, e', E2, by rw [h1]; rfl, h2, ?_, ?_⟩
        · rw [show snE (e :: E1) = e.2 :: snE E1 by simp [snE, he], List.length_cons, h3]
        · rw [← h4]; simp [e1]
theorem split_same : ∀ (E1 E1' : Evs) (e e' : Int × Nat) (E2 E2' : Evs), ((E1 ++ e :: E2).map (·.2)).Nodup → E1 ++ e :: E2 = E1' ++ e' :: E2' → e.2 = e'.2 → E1 = E1' ∧ e = e'
  | [], [], e, e', _, _, _, h, _ => ⟨rfl, (List.cons.inj h).1⟩
  | [], a :: E1', e, e', E2, E2', hn, h, he => by
    exfalso
    obtain ⟨h1, h2⟩ := List.cons.inj h
    subst h1
    have hn' := (List.nodup_cons.mp hn).1
    apply hn'
    rw [h2]
    simp [he]
  | a :: E1, [], e, e', E2, E2', hn, h, he => by
    exfalso
    obtain ⟨h1, h2⟩ := List.cons.inj h
    subst h1
    have hn' := (List.nodup_cons.mp hn).1
    apply hn'
    simp [← he]
  | a :: E1, b :: E1', e, e', E2, E2', hn, h, he => by
    obtain ⟨h1, h2⟩ := List.cons.inj h
    subst h1
    have hn' := (List.nodup_cons.mp hn).2
    obtain ⟨h3, h4⟩ := split_same E1 E1' e e' E2 E2' hn' h2 he
    exact ⟨by rw [h3], h4⟩
/-- the walk tells the edit distance -/
theorem dp_main {k : Nat → Nat → Int} {E : Evs} {r : Int} (k0 : ∀ i j, 0 ≤ k i j) (k2 : ∀ i j, k i j ≤ 2) (hs : ∀ e ∈ E, 0 ≤ e.1 ∧ e.1 ≤ 3) (hk : ∀ e ∈ E, 1 < e.1 → k e.2 e.2 = e.1 - 2)
    (hd : ∀ i ∈ fsE E, ∀ j ∈ snE E, i ≠ j → k i j = 2) (hn : (E.map (·.2)).Nodup) (hr : LeastC (E.map (·.1)) r) : ed k (fsE E) (snE E) = r := by
  obtain ⟨t, ht, hl⟩ := hr
  have hT : t = T E := walked_tab ht
  subst hT
  have hr : r = leastOf (T E) := leastIs_unique hl (leastOf_is (T_ne E))
  subst hr
  have hup := up_bound k0 k2 E.reverse (fun e he => ⟨hs e (List.mem_reverse.mp he), fun h => Int.le_of_eq (hk e (List.mem_reverse.mp he) h)⟩)
  rw [List.reverse_reverse] at hup
  have h1 : ed k (fsE E) (snE E) ≤ leastOf (T E) := by
    obtain ⟨hM, _⟩ := leastOf_is (T_ne E)
    obtain ⟨p, hp, e⟩ := List.mem_map.mp hM
    rw [← e]
    exact ent_ed k0 k2 (hup p hp)
  have hc : ∀ m n (hm : m < (fsE E).length) (hn : n < (snE E).length), 2 ≤ k (fsE E)[m] (snE E)[n] ∨ ∃ E1 e E2, E = E1 ++ e :: E2 ∧ (fsE E1).length = m ∧ (snE E1).length = n ∧ 1 < e.1 ∧ e.1 - 2 ≤ k (fsE E)[m] (snE E)[n] := by
    intro m n hm hn'
    by_cases he : (fsE E)[m] = (snE E)[n]
    · right
      obtain ⟨E1, e, E2, a1, a2, a3, a4⟩ := fs_at E m hm
      obtain ⟨E1', e', E2', b1, b2, b3, b4⟩ := sn_at E n hn'
      rw [a4, b4] at he
      obtain ⟨c1, c2⟩ := split_same E1 E1' e e' E2 E2' (by rw [← a1]; exact hn) (by rw [← a1, ← b1]) he
      subst c1 c2
      have hmem : e ∈ E := by rw [a1]; simp
      have hse := hs e hmem
      have h1e : 1 < e.1 := by omega
      refine ⟨E1, e, E2, a1, a3, b3, h1e, ?_⟩
      rw [a4, b4, hk e hmem h1e]
      exact Int.le_refl _
    · left
      rw [hd _ (List.getElem_mem hm) _ (List.getElem_mem hn') he]
      exact Int.le_refl _
  obtain ⟨E1, E2, v, c1, c2, c3, c4, c5⟩ := low_bound k hs k0 hc _ (fsE E).length (snE E).length (Nat.le_refl _) (Nat.le_refl _) (Nat.le_refl _)
  rw [dd_full] at c5
  have ho := open_many E2 E1 0 0 v (fun x hx => hs x (by rw [c1]; simp [hx])) c2
  rw [← c1] at ho
  obtain ⟨c', hc1, hc2⟩ := ho
  have h2 := T_least hc1
  dsimp only at h2
  have e6 : (fsE E).length - (fsE E1).length = 0 + (fsE E2).length := by
    conv => { lhs; rw [c1] }
    rw [fsE_app, List.length_append]; omega
  have e7 : (snE E).length - (snE E1).length = 0 + (snE E2).length := by
    conv => { lhs; rw [c1] }
    rw [snE_app, List.length_append]; omega
  rw [e6, e7] at c5
  omega
end Mine
end
section
set_option maxHeartbeats 3000000
open PySem PySem.W PyProof.Rows
namespace Mine
def tupOf (p : Int) (t : Tok) (q : Int) (u : Tok) : Obj := { cls := .type "tuple", data := .seq #[.int p t, .int q u] }
/-- a list of pairs of ints -/
inductive TupsAre (ts : List (Addr × Obj)) : List Value → List (Int × Int) → Prop
  | nil : TupsAre ts [] []
  | cons {a : Addr} {p q : Int} {t u : Tok} {r : List Value} {r' : List (Int × Int)} : (a, tupOf p t q u) ∈ ts → TupsAre ts r r' → TupsAre ts (.ref a :: r) ((p, q) :: r')
theorem TupsAre.length {ts : List (Addr × Obj)} : ∀ {vs : List Value} {mk : List (Int × Int)}, TupsAre ts vs mk → vs.length = mk.length
  | _, _, .nil => rfl
  | _, _, .cons _ h => by simp [h.length]
theorem TupsAre.mono {ts ts' : List (Addr × Obj)} (hs : ∀ p ∈ ts, p ∈ ts') : ∀ {vs : List Value} {mk : List (Int × Int)}, TupsAre ts vs mk → TupsAre ts' vs mk
  | _, _, .nil => .nil
  | _, _, .cons h r => .cons (hs _ h) (r.mono hs)
theorem TupsAre.append {ts : List (Addr × Obj)} : ∀ {vs ws : List Value} {mk mk' : List (Int × Int)}, TupsAre ts vs mk → TupsAre ts ws mk' → TupsAre ts (vs ++ ws) (mk ++ mk')
  | _, _, _, _, .nil, h => h
  | _, _, _, _, .cons h r, h' => .cons h (r.append h')
theorem TupsAre.item {ts : List (Addr × Obj)} : ∀ {vs : List Value} {mk : List (Int × Int)}, TupsAre ts vs mk → ∀ {i : Nat} {v : Value}, vs[i]? = some v → ∃ a p q t u, v = .ref a ∧ mk[i]? = some (p, q) ∧ (a, tupOf p t q u) ∈ ts
  | _, _, .nil, i, v, h => by simp at h
  | _, _, .cons (a := a) (p := p) (q := q) (t := t) (u := u) hm hr, 0, v, h => ⟨a, p, q, t, u, by simpa using h.symm, rfl, hm⟩
  | _, _, .cons hm hr, i + 1, v, h => by
    obtain ⟨a, p, q, t, u, e1, e2, e3⟩ := hr.item (i := i) (v := v) (by simpa using h)
    exact ⟨a, p, q, t, u, e1, by simpa using e2, e3⟩
/-- the places, from behind place p on -/
def marksFrom : Int → List Int → List (Int × Int)
  | _, [] => []
  | p, d :: r => (p + 1 + (d.fdiv 3).fmod 3, d.fmod 3) :: marksFrom (p + 1 + (d.fdiv 3).fmod 3) r
/-- the place behind i draws -/
def placeAt : Int → List Int → Nat → Int
  | p, _, 0 => p
  | p, [], _ + 1 => p
  | p, d :: r, i + 1 => placeAt (p + 1 + (d.fdiv 3).fmod 3) r i
theorem place_zero (p : Int) (ds : List Int) : placeAt p ds 0 = p := by cases ds <;> rfl
theorem marks_len : ∀ (p : Int) (ds : List Int), (marksFrom p ds).length = ds.length
  | _, [] => rfl
  | p, d :: r => by simp [marksFrom, marks_len]
theorem place_succ : ∀ (p : Int) (ds : List Int) (i : Nat) (d : Int), ds[i]? = some d → placeAt p ds (i + 1) = placeAt p ds i + 1 + (d.fdiv 3).fmod 3
  | p, [], i, d, h => by simp at h
  | p, a :: r, 0, d, h => by
    have : a = d := by simpa using h
    subst this
    cases r <;> rfl
  | p, a :: r, i + 1, d, h => by
    have hr : r[i]? = some d := by simpa using h
    exact place_succ (p + 1 + (a.fdiv 3).fmod 3) r i d hr
theorem marks_at : ∀ (p : Int) (ds : List Int) (i : Nat) (d : Int), ds[i]? = some d → (marksFrom p ds)[i]? = some (placeAt p ds (i + 1), d.fmod 3)
  | p, [], i, d, h => by simp at h
  | p, a :: r, 0, d, h => by
    have : a = d := by simpa using h
    subst this
    cases r <;> rfl
  | p, a :: r, i + 1, d, h => by
    have hr : r[i]? = some d := by simpa using h
    have := marks_at (p + 1 + (a.fdiv 3).fmod 3) r i d hr
    simpa [marksFrom, placeAt] using this
theorem marks_mem : ∀ (b : Int) (ds : List Int) (m : Int × Int), m ∈ marksFrom b ds → b < m.1 ∧ m.1 ≤ b + 3 * ds.length ∧ 0 ≤ m.2 ∧ m.2 < 3
  | _, [], _, h => nomatch h
  | b, d :: r, m, h => by
    have h1 := fmod_range (x := d.fdiv 3) (n := 3) (by decide)
    have h2 := fmod_range (x := d) (n := 3) (by decide)
    rcases List.mem_cons.mp h with e | h
    · subst e
      simp only [List.length_cons]
      omega
    · have := marks_mem _ r m h
      simp only [List.length_cons]
      omega
/-- the numbers of the places that a number has -/
def bitsOf (s : Int) (mk : List (Int × Int)) : List Int := (mk.filter fun m => decide (m.2 ≠ s)).map fun m => 2 ^ m.1.toNat
theorem bitsOf_succ {s : Int} {mk : List (Int × Int)} {i : Nat} {p q : Int} (h : mk[i]? = some (p, q)) : bitsOf s (mk.take (i + 1)) = if q ≠ s then bitsOf s (mk.take i) ++ [2 ^ p.toNat] else bitsOf s (mk.take i) := by
  unfold bitsOf
  rw [List.take_add_one, h, List.filter_append, List.map_append]
  by_cases e : q = s <;> simp [e]
section
variable {prog : Program} {w : World} {A : Around} {E : Value → Shared → Prop} {s : Shared} {h₀ : Heap} {L D T : Addr} {m : Str → Option Value}
theorem append_stT {o : Obj} {vs : List Value} {n : Nat} {x : Value} {r : List (Addr × Obj)} {Q : Value → Shared → Prop} (F : Fr h₀ L s.heap m) (N : News h₀ L s.heap ((T, o) :: (D, listOf vs.toArray n) :: r)) (hT : T ≠ D) (hne : ∀ p ∈ r, p.1 ≠ D) (hsz : vs.length ≤ sizeLine)
    (h : ∀ h', Fr h₀ L h' m → News h₀ L h' ((T, o) :: (D, listOf (vs ++ [x]).toArray (n + 1)) :: r) → Q .none { s with heap := h' }) : wpAny (model prog w) A (call (.builtin "list.append") [.ref D, x]) Q E s := by
  refine append_K F N (Upd.tail hT (Upd.head hne)) (fun h' F' N' => h h' F' ?_) (by simpa using hsz)
  rw [List.push_toArray] at N'
  exact N'
theorem rep_flat {α : Type} (a : α) : ∀ k : Nat, (List.replicate k [a]).flatten = List.replicate k a
  | 0 => rfl
  | k + 1 => by rw [List.replicate_succ, List.replicate_succ, List.flatten_cons, rep_flat a k]; rfl
theorem ints_rep (c : Int) (t : Tok) : ∀ k : Nat, IntsAre (List.replicate k (.int c t)) (List.replicate k c)
  | 0 => .nil
  | k + 1 => .cons _ _ (ints_rep c t k)
theorem mul_one_st {l : Addr} {c x : Int} {t u : Tok} {i : Nat} {news : List (Addr × Obj)} {Q : Value → Shared → Prop} (F : Fr h₀ L s.heap m) (N : News h₀ L s.heap news) (hl : (l, listOf #[.int c t] i) ∈ news) (hx : 0 ≤ x ∧ x ≤ 1)
    (h : ∀ D h' us, Fr h₀ L h' m → News h₀ L h' ((D, listOf us.toArray 0) :: news) → (∀ p ∈ news, p.1 < D) → IntsAre us (List.replicate x.toNat c) → Q (.ref D) { s with heap := h' }) : wpAny (model prog w) A (binaryOp .Mult (.ref l) (.int x u)) Q E s :=
  KMa.mul (vs := [.int c t]) F N (PySem.IsL.isList (n := i) (N _ hl).1) (by omega) (by omega) (by simp only [List.length_cons, List.length_nil]; omega) (rep_flat _ _) fun D h' F' N' hlt => h D h' _ F' N' hlt (ints_rep c t _)
end
def upAt (S step : Int) : Int := ([0, 1, -1] : List Int).getD ((S.fdiv step).fmod 3).toNat 0
theorem upAt_cases (S step : Int) : upAt S step = 0 ∨ upAt S step = 1 ∨ upAt S step = -1 := by
  unfold upAt
  have h := fmod_range (x := S.fdiv step) (n := 3) (by decide)
  have : ((S.fdiv step).fmod 3).toNat = 0 ∨ ((S.fdiv step).fmod 3).toNat = 1 ∨ ((S.fdiv step).fmod 3).toNat = 2 := by omega
  rcases this with e | e | e <;> rw [e] <;> decide
def absI (x : Int) : Int := if x < 0 then -x else x
theorem absI_up (S step : Int) : 0 ≤ absI (upAt S step) ∧ absI (upAt S step) ≤ 1 := by
  rcases upAt_cases S step with e | e | e <;> rw [e] <;> decide
def tailOf (a b : Int) : List Int := if a = b then List.replicate (absI a).toNat 2 else List.replicate (absI a).toNat 0 ++ List.replicate (absI b).toNat 1
def sortOf (sm : Bool) (m : Int × Int) : Int := if sm = true ∧ m.2 = 2 ∧ m.1 < 10 then 3 else m.2
end Mine
end
section
set_option maxHeartbeats 3000000
open PySem PySem.W PyProof.Rows
namespace Mine
theorem pow_pos2 (n : Nat) : (0 : Int) < 2 ^ n := Int.pow_pos (by decide)
theorem div_same {x y : Int} {i : Nat} (h : x / 2 ^ i = y / 2 ^ i) : ∀ d, x / 2 ^ (i + d) = y / 2 ^ (i + d)
  | 0 => h
  | d + 1 => by rw [← Nat.add_assoc, div_succ, div_succ, div_same h d]
theorem add_bit {x : Int} {p : Nat} (h : hasBit x p = false) (j : Nat) : hasBit (x + 2 ^ p) j = (decide (j = p) || hasBit x j) := by
  have hp := pow_pos2 p
  have hq : x / 2 ^ p % 2 = 0 := by
    have : ¬ (x / 2 ^ p % 2 = 1) := by simpa [hasBit] using h
    omega
  have h1 : (x + 2 ^ p) / 2 ^ p = x / 2 ^ p + 1 := by
    have := Int.add_mul_ediv_right x 1 (Int.ne_of_gt hp)
    rwa [Int.one_mul] at this
  rcases Nat.lt_trichotomy j p with hj | hj | hj
  · have e : (2 : Int) ^ p = 2 ^ (p - j) * 2 ^ j := by rw [← Int.pow_add]; congr 1; omega
    have h2 : (x + 2 ^ p) / 2 ^ j = x / 2 ^ j + 2 ^ (p - j) := by
      rw [e]; exact Int.add_mul_ediv_right x _ (Int.ne_of_gt (pow_pos2 j))
    have e2 : (2 : Int) ^ (p - j) = 2 * 2 ^ (p - j - 1) := by
      rw [Int.mul_comm, ← Int.pow_succ]; congr 1; omega
    have hne : decide (j = p) = false := by simp; omega
    rw [hne, Bool.false_or]
    unfold hasBit
    rw [h2, e2]
    congr 1
    generalize (2 : Int) ^ (p - j - 1) = z
    simp only [eq_iff_iff]
    omega
  · subst hj
    unfold hasBit
    rw [h1]
    have : (x / 2 ^ j + 1) % 2 = 1 := by omega
    simp [this]
  · have h2 : (x + 2 ^ p) / 2 ^ (p + 1) = x / 2 ^ (p + 1) := by
      rw [div_succ, div_succ, h1]; omega
    have h3 := div_same h2 (j - (p + 1))
    rw [show p + 1 + (j - (p + 1)) = j by omega] at h3
    have hne : decide (j = p) = false := by simp; omega
    rw [hne, Bool.false_or]
    unfold hasBit
    rw [h3]
def val (l : List Nat) : Int := (l.map fun j => (2 : Int) ^ j).sum
theorem val_bits (a : Int) : ∀ (l : List Nat), l.Nodup → (∀ x ∈ l, x < 32) → ∀ j, j < 32 → hasBit (a * 2 ^ 32 + val l) j = decide (j ∈ l)
  | [], _, _, j, hj => by
    have e : (2 : Int) ^ 32 = 2 ^ (32 - j) * 2 ^ j := by rw [← Int.pow_add]; congr 1; omega
    have h2 : (a * 2 ^ 32 + val []) / 2 ^ j = a * 2 ^ (32 - j) := by
      show (a * 2 ^ 32 + 0) / 2 ^ j = _
      rw [Int.add_zero, e, ← Int.mul_assoc]
      exact Int.mul_ediv_cancel _ (Int.ne_of_gt (pow_pos2 j))
    have e2 : (2 : Int) ^ (32 - j) = 2 * 2 ^ (32 - j - 1) := by
      rw [Int.mul_comm, ← Int.pow_succ]; congr 1; omega
    unfold hasBit
    rw [h2, e2, ← Int.mul_assoc, Int.mul_comm a 2, Int.mul_assoc]
    generalize a * (2 : Int) ^ (32 - j - 1) = z
    have : ¬ (2 * z % 2 = 1) := by omega
    simp [this]
  | p :: l, hn, hl, j, hj => by
    obtain ⟨h1, h2⟩ := List.nodup_cons.mp hn
    have ih := val_bits a l h2 (fun x hx => hl x (.tail _ hx))
    have hp : hasBit (a * 2 ^ 32 + val l) p = false := by
      rw [ih p (hl p (.head _))]; simpa using h1
    have e : a * 2 ^ 32 + val (p :: l) = a * 2 ^ 32 + val l + 2 ^ p := by
      show a * 2 ^ 32 + (2 ^ p + val l) = _
      omega
    rw [e, add_bit hp j, ih j hj]
    by_cases e1 : j = p <;> by_cases e2 : j ∈ l <;> simp [e1, e2]
theorem val_bound (n : Nat) : ∀ (l : List Nat) (b : Nat), b ≤ n → (∀ x ∈ l, b ≤ x ∧ x < n) → l.Pairwise (· < ·) → 0 ≤ val l ∧ val l ≤ 2 ^ n - 2 ^ b
  | [], b, hb, _, _ => by
    have : (2 : Int) ^ b ≤ 2 ^ n := by exact_mod_cast Nat.pow_le_pow_right (by decide) hb
    show (0 : Int) ≤ 0 ∧ (0 : Int) ≤ _
    omega
  | p :: l, b, hb, hl, hp => by
    obtain ⟨h1, h2⟩ := List.pairwise_cons.mp hp
    have hpb := hl p (.head _)
    have ih := val_bound n l (p + 1) hpb.2 (fun x hx => ⟨h1 x hx, (hl x (.tail _ hx)).2⟩) h2
    have e : (2 : Int) ^ (p + 1) = 2 ^ p * 2 := Int.pow_succ _ _
    have hbp : (2 : Int) ^ b ≤ 2 ^ p := by exact_mod_cast Nat.pow_le_pow_right (by decide) hpb.1
    have h0 := pow_pos2 p
    show 0 ≤ 2 ^ p + val l ∧ 2 ^ p + val l ≤ _
    omega
theorem sorted_ext : ∀ (l1 l2 : List Nat), l1.Pairwise (· < ·) → l2.Pairwise (· < ·) → (∀ x, x ∈ l1 ↔ x ∈ l2) → l1 = l2
  | [], [], _, _, _ => rfl
  | [], b :: l2, _, _, h => absurd ((h b).mpr (.head _)) (by simp)
  | a :: l1, [], _, _, h => absurd ((h a).mp (.head _)) (by simp)
  | a :: l1, b :: l2, h1, h2, h => by
    obtain ⟨a1, a2⟩ := List.pairwise_cons.mp h1
    obtain ⟨b1, b2⟩ := List.pairwise_cons.mp h2
    have hab : a = b := by
      rcases List.mem_cons.mp ((h a).mp (.head _)) with e | e
      · exact e
      · rcases List.mem_cons.mp ((h b).mpr (.head _)) with e' | e'
        · exact e'.symm
        · have := b1 a e; have := a1 b e'; omega
    subst hab
    rw [sorted_ext l1 l2 a2 b2 fun x => ?_]
    constructor
    · intro hx
      rcases List.mem_cons.mp ((h x).mp (.tail _ hx)) with e | e
      · have := a1 x hx; omega
      · exact e
    · intro hx
      rcases List.mem_cons.mp ((h x).mpr (.tail _ hx)) with e | e
      · have := b1 x hx; omega
      · exact e
theorem pfw_val {a : Int} {l : List Nat} (hl : ∀ x ∈ l, x < 32) (hp : l.Pairwise (· < ·)) : pfw (a * 2 ^ 32 + val l) 32 = l.map flagWord := by
  unfold pfw
  congr 1
  have hn : l.Nodup := hp.imp fun h => Nat.ne_of_lt h
  refine sorted_ext _ _ (List.pairwise_lt_range.filter _) hp fun x => ?_
  rw [List.mem_filter, List.mem_range]
  constructor
  · rintro ⟨h1, h2⟩
    rw [val_bits a l hn hl x h1] at h2
    exact of_decide_eq_true h2
  · intro h
    have h1 := hl x h
    exact ⟨h1, by rw [val_bits a l hn hl x h1]; exact decide_eq_true h⟩
theorem val_ne {l : List Nat} (h : l ≠ []) (hp : l.Pairwise (· < ·)) (hl : ∀ x ∈ l, x < 32) : val l ≠ 0 := by
  cases l with
  | nil => exact absurd rfl h
  | cons p l =>
    obtain ⟨h1, h2⟩ := List.pairwise_cons.mp hp
    have := (val_bound 32 l 0 (by decide) (fun x hx => ⟨Nat.zero_le _, hl x (.tail _ hx)⟩) h2).1
    have := pow_pos2 p
    show 2 ^ p + val l ≠ 0
    omega
def hexW (a : Int) : Str := baseText "0x" 16 (a * 2 ^ 32)
theorem num_div {a : Int} {l : List Nat} (hl : ∀ x ∈ l, x < 32) (hp : l.Pairwise (· < ·)) : (a * 2 ^ 32 + val l) / 2 ^ 32 = a ∧ (a * 2 ^ 32 + val l) % 2 ^ 32 = val l := by
  have := val_bound 32 l 0 (by decide) (fun x hx => ⟨Nat.zero_le _, hl x hx⟩) hp
  have e : (2 : Int) ^ 32 = 4294967296 := by decide
  have e0 : (2 : Int) ^ 0 = 1 := rfl
  rw [e, e0] at this
  rw [e]
  generalize val l = v at *
  omega
theorem pfAll_val {a : Int} {l : List Nat} (hl : ∀ x ∈ l, x < 32) (hp : l.Pairwise (· < ·)) : pfAll (a * 2 ^ 32 + val l) = if a = 0 ∧ l ≠ [] then l.map flagWord else l.map flagWord ++ [hexW a] := by
  obtain ⟨h1, h2⟩ := num_div (a := a) hl hp
  unfold pfAll
  rw [h1, h2, pfw_val hl hp]
  by_cases h : l = []
  · subst h
    rw [if_neg (fun h => h.2 rfl), if_neg (fun h => h.2 rfl)]
    rfl
  · have hv := val_ne h hp hl
    by_cases ha : a = 0
    · rw [if_pos ⟨ha, hv⟩, if_pos ⟨ha, h⟩]
    · rw [if_neg (fun h => ha h.1), if_neg (fun h => ha h.1)]
      rfl
end Mine
end
section
set_option maxHeartbeats 3000000
open PySem PySem.W PyProof.Rows
namespace Mine
/-- the words by their places; 32 and 33: what stands above -/
def W (i : Nat) : Str := if i < 32 then flagWord i else if i = 32 then baseText "0x" 16 (2 ^ 32) else baseText "0x" 16 (-(2 ^ 32))
def Vw (sm : Bool) (i : Nat) : Str := if sm then Txt.lower (W i) else W i
def Zw : Str := baseText "0x" 16 0
def lowTab : List Str := [Str.ofString "optimized", Str.ofString "newlocals", Str.ofString "varargs", Str.ofString "varkeywords", Str.ofString "nested", Str.ofString "generator", Str.ofString "nofree", Str.ofString "coroutine", Str.ofString "iterable_coroutine", Str.ofString "async_generator", Str.ofString "0x400", Str.ofString "0x800", Str.ofString "0x1000", Str.ofString "0x2000", Str.ofString "0x4000", Str.ofString "0x8000", Str.ofString "0x10000", Str.ofString "0x20000", Str.ofString "0x40000", Str.ofString "0x80000", Str.ofString "0x100000", Str.ofString "0x200000", Str.ofString "0x400000", Str.ofString "0x800000", Str.ofString "0x1000000", Str.ofString "0x2000000", Str.ofString "0x4000000", Str.ofString "0x8000000", Str.ofString "0x10000000", Str.ofString "0x20000000", Str.ofString "0x40000000", Str.ofString "0x80000000", Str.ofString "0x100000000", Str.ofString "-0x100000000"]
theorem low_tab : (List.range 34).map (fun i => Txt.lower (W i)) = lowTab := by decide +kernel
theorem low_nodup : lowTab.Nodup := by decide +kernel
theorem w_inj (i : Nat) (hi : i < 34) (j : Nat) (hj : j < 34) (h : Txt.lower (W i) = Txt.lower (W j)) : i = j := by
  have hn : ((List.range 34).map (fun i => Txt.lower (W i))).Nodup := by rw [low_tab]; exact low_nodup
  have hp := List.pairwise_map.mp hn
  have key : ∀ a b, a < b → b < 34 → Txt.lower (W a) ≠ Txt.lower (W b) := by
    intro a b hab hb
    have := List.pairwise_iff_getElem.mp hp a b (by simp; omega) (by simp; omega) hab
    simpa using this
  rcases Nat.lt_trichotomy i j with e | e | e
  · exact absurd h (key i j e hj)
  · exact e
  · exact absurd h.symm (key j i e hi)
theorem low_low : lowTab.map Txt.lower = lowTab := by decide +kernel
theorem w_low2 (i : Nat) (hi : i < 34) : Txt.lower (Txt.lower (W i)) = Txt.lower (W i) := by
  have h1 : lowTab[i]? = some (Txt.lower (W i)) := by rw [← low_tab]; simp [hi]
  have h2 : (lowTab.map Txt.lower)[i]? = some (Txt.lower (Txt.lower (W i))) := by rw [List.getElem?_map, h1]; rfl
  rw [low_low, h1] at h2
  exact (Option.some.inj h2).symm
theorem w_small : ∀ i, i < 10 → Txt.lower (W i) ≠ W i := by decide +kernel
theorem w_same : ∀ i, i < 34 → 10 ≤ i → Txt.lower (W i) = W i := by decide +kernel
theorem z_other : ∀ i, i < 34 → Txt.lower Zw ≠ Txt.lower (W i) := by decide +kernel
theorem z_low : Txt.lower Zw = Zw := by decide +kernel
theorem v_low {sm : Bool} {i : Nat} (h : i < 34) : Txt.lower (Vw sm i) = Txt.lower (W i) := by
  cases sm
  · rfl
  · exact w_low2 i h
def kk (sm : Bool) (i j : Nat) : Int := subCost (W i) (Vw sm j)
theorem sub_two {x y : Str} (h : Txt.lower x ≠ Txt.lower y) : subCost x y = 2 := by
  unfold subCost
  rw [if_neg (fun e => h (by rw [e])), if_neg h]
theorem kk_two {sm : Bool} {i j : Nat} (hi : i < 34) (hj : j < 34) (h : i ≠ j) : kk sm i j = 2 :=
  sub_two (by rw [v_low hj]; exact fun e => h (w_inj i hi j hj e))
theorem kk_same {sm : Bool} {i : Nat} (hi : i < 34) : kk sm i i = if sm = true ∧ i < 10 then 1 else 0 := by
  unfold kk subCost
  cases sm
  · simp [Vw]
  · by_cases h : i < 10
    · have h1 := w_small i h
      have h2 := v_low (sm := true) hi
      rw [if_neg (fun e => h1 (by have e' : W i = Txt.lower (W i) := e; exact e'.symm)), if_pos h2.symm, if_pos ⟨rfl, h⟩]
    · have h1 := w_same i hi (by omega)
      rw [if_pos (by show W i = Txt.lower (W i); exact h1.symm), if_neg (fun e => h e.2)]
theorem ed_map {α β : Type} (c : β → β → Int) (f g : α → β) : ∀ l l' : List α, ed c (l.map f) (l'.map g) = ed (fun i j => c (f i) (g j)) l l'
  | [], l' => by simp [ed]
  | x :: l, [] => by simp [ed]
  | x :: l, y :: l' => by
    have h1 := ed_map c f g l (y :: l')
    have h2 := ed_map c f g (x :: l) l'
    have h3 := ed_map c f g l l'
    rw [List.map_cons] at h1 h2
    rw [List.map_cons, List.map_cons, ed, ed, h1, h2, h3]
termination_by l l' => l.length + l'.length
theorem ed_one {α : Type} {c : α → α → Int} {z : α} : ∀ {b : List α}, b ≠ [] → (∀ y ∈ b, c z y = 2) → ed c [z] b = 2 * b.length
  | [], h, _ => absurd rfl h
  | [y], _, h => by
    have := h y (.head _)
    rw [ed, ed_nil, ed_nil_r, ed_nil, this]
    simp only [List.length_cons, List.length_nil]
    decide
  | y :: y' :: b, _, h => by
    have ih := ed_one (b := y' :: b) (by simp) (fun x hx => h x (.tail _ hx))
    have := h y (.head _)
    rw [ed, ed_nil, ih, ed_nil, this]
    simp only [List.length_cons]
    omega
theorem ed_one_r {α : Type} {c : α → α → Int} {z : α} : ∀ {b : List α}, b ≠ [] → (∀ y ∈ b, c y z = 2) → ed c b [z] = 2 * b.length
  | [], h, _ => absurd rfl h
  | [y], _, h => by
    have := h y (.head _)
    rw [ed, ed_nil, ed_nil_r, ed_nil, this]
    simp only [List.length_cons, List.length_nil]
    decide
  | y :: y' :: b, _, h => by
    have ih := ed_one_r (b := y' :: b) (by simp) (fun x hx => h x (.tail _ hx))
    have := h y (.head _)
    rw [ed, ih, ed_nil_r, ed_nil_r, this]
    simp only [List.length_cons]
    omega
/-- the events -/
def hid (a : Int) : Nat := if a = 1 then 32 else 33
def upE (a : Int) : List Nat := if a = 0 then [] else [hid a]
def tailE (a b : Int) : Evs := if a = b then (if a = 0 then [] else [(2, hid a)]) else (if a = 0 then [] else [(0, hid a)]) ++ (if b = 0 then [] else [(1, hid b)])
def evs (sm : Bool) (mk : List (Int × Int)) (a b : Int) : Evs := mk.map (fun m => (sortOf sm m, m.1.toNat)) ++ tailE a b
def pl (s : Int) (mk : List (Int × Int)) : List Nat := (mk.filter fun m => decide (m.2 ≠ s)).map fun m => m.1.toNat
theorem tail_facts {a b : Int} (ha : a = 0 ∨ a = 1 ∨ a = -1) (hb : b = 0 ∨ b = 1 ∨ b = -1) :
    (tailE a b).map (·.1) = tailOf a b ∧ fsE (tailE a b) = upE a ∧ snE (tailE a b) = upE b ∧ ((tailE a b).map (·.2)).Nodup ∧ (∀ e ∈ tailE a b, (e.1 = 0 ∨ e.1 = 1 ∨ e.1 = 2) ∧ (e.2 = 32 ∨ e.2 = 33)) := by
  rcases ha with rfl | rfl | rfl <;> rcases hb with rfl | rfl | rfl <;> decide
theorem sort_ne1 {sm : Bool} {m : Int × Int} (_h : 0 ≤ m.2 ∧ m.2 < 3) : decide (sortOf sm m ≠ 1) = decide (m.2 ≠ 1) := by
  unfold sortOf
  split
  · rename_i h; rw [h.2.1]; decide
  · rfl
theorem sort_ne0 {sm : Bool} {m : Int × Int} (_h : 0 ≤ m.2 ∧ m.2 < 3) : decide (sortOf sm m ≠ 0) = decide (m.2 ≠ 0) := by
  unfold sortOf
  split
  · rename_i h; rw [h.2.1]; decide
  · rfl
theorem fs_marks {sm : Bool} : ∀ {mk : List (Int × Int)}, (∀ m ∈ mk, 0 ≤ m.2 ∧ m.2 < 3) → fsE (mk.map fun m => (sortOf sm m, m.1.toNat)) = pl 1 mk
  | [], _ => rfl
  | m :: r, h => by
    have ih := fs_marks (sm := sm) (mk := r) fun x hx => h x (.tail _ hx)
    have h1 := sort_ne1 (sm := sm) (h m (.head _))
    unfold fsE pl at *
    rw [List.map_cons, List.filter_cons, List.filter_cons]
    dsimp only
    rw [h1]
    split
    · rw [List.map_cons, List.map_cons, ih]
    · exact ih
theorem sn_marks {sm : Bool} : ∀ {mk : List (Int × Int)}, (∀ m ∈ mk, 0 ≤ m.2 ∧ m.2 < 3) → snE (mk.map fun m => (sortOf sm m, m.1.toNat)) = pl 0 mk
  | [], _ => rfl
  | m :: r, h => by
    have ih := sn_marks (sm := sm) (mk := r) fun x hx => h x (.tail _ hx)
    have h1 := sort_ne0 (sm := sm) (h m (.head _))
    unfold snE pl at *
    rw [List.map_cons, List.filter_cons, List.filter_cons]
    dsimp only
    rw [h1]
    split
    · rw [List.map_cons, List.map_cons, ih]
    · exact ih
theorem bits_pl (s : Int) (mk : List (Int × Int)) : (bitsOf s mk).sum = val (pl s mk) := by
  unfold bitsOf val pl
  rw [List.map_map]
  rfl
theorem marks_inc : ∀ (b : Int) (ds : List Int), (marksFrom b ds).Pairwise fun m m' => m.1 < m'.1
  | _, [] => .nil
  | b, d :: r => .cons (fun m hm => (marks_mem _ r m hm).1) (marks_inc _ r)
theorem pl_inc {mk : List (Int × Int)} (h0 : ∀ m ∈ mk, 0 ≤ m.1) (h : mk.Pairwise fun m m' => m.1 < m'.1) (s : Int) : (pl s mk).Pairwise (· < ·) := by
  unfold pl
  refine List.pairwise_map.mpr ?_
  refine ((List.Pairwise.filter _ h).imp_of_mem ?_)
  intro a b ha hb hab
  have := h0 a (List.mem_filter.mp ha).1
  have := h0 b (List.mem_filter.mp hb).1
  omega
/-- the words of a number -/
theorem words_of {a : Int} {l : List Nat} (ha : a = 0 ∨ a = 1 ∨ a = -1) (hl : ∀ x ∈ l, x < 32) (hp : l.Pairwise (· < ·)) : pfAll (a * 2 ^ 32 + val l) = if l ++ upE a = [] then [Zw] else (l ++ upE a).map W := by
  rw [pfAll_val hl hp]
  have hm : l.map flagWord = l.map W := List.map_congr_left fun x hx => by unfold W; rw [if_pos (hl x hx)]
  rw [hm]
  rcases ha with rfl | rfl | rfl
  · have e : l ++ upE 0 = l := by simp [upE]
    rw [e]
    by_cases h : l = []
    · subst h
      rw [if_neg (fun h => h.2 rfl), if_pos rfl]
      rfl
    · rw [if_pos ⟨rfl, h⟩, if_neg h]
  · rw [if_neg (fun h => absurd h.1 (by decide)), if_neg (by simp [upE]), List.map_append]
    rfl
  · rw [if_neg (fun h => absurd h.1 (by decide)), if_neg (by simp [upE]), List.map_append]
    rfl
def otherW (sm : Bool) (ws : List Str) : List Str := if sm then ws.map Txt.lower else ws
theorem other_words {sm : Bool} (B : List Nat) : otherW sm (if B = [] then [Zw] else B.map W) = if B = [] then [Zw] else B.map (Vw sm) := by
  cases sm
  · rfl
  · by_cases h : B = []
    · rw [if_pos h, if_pos h]
      show [Txt.lower Zw] = _
      rw [z_low]
    · rw [if_neg h, if_neg h]
      show (B.map W).map Txt.lower = _
      rw [List.map_map]
      rfl
theorem plain_main {sm : Bool} {a b r : Int} {ds : List Int} (ha : a = 0 ∨ a = 1 ∨ a = -1) (hb : b = 0 ∨ b = 1 ∨ b = -1) (hd : 7 ≤ ds.length ∧ ds.length ≤ 10)
    (hr : LeastC ((marksFrom (-1) ds).map (sortOf sm) ++ tailOf a b) r) :
    ed subCost (pfAll (a * 2 ^ 32 + (bitsOf 1 (marksFrom (-1) ds)).sum)) (otherW sm (pfAll (b * 2 ^ 32 + (bitsOf 0 (marksFrom (-1) ds)).sum))) = r := by
  generalize hmk : marksFrom (-1) ds = mk at *
  have hmem : ∀ m ∈ mk, (0 ≤ m.1 ∧ m.1 < 32) ∧ 0 ≤ m.2 ∧ m.2 < 3 := by
    intro m hm
    rw [← hmk] at hm
    have := marks_mem (-1) ds m hm
    omega
  have hinc : mk.Pairwise fun m m' => m.1 < m'.1 := by rw [← hmk]; exact marks_inc _ _
  have hmkl : mk ≠ [] := by
    intro e
    have h1 := marks_len (-1) ds
    rw [hmk, e] at h1
    simp only [List.length_nil] at h1
    omega
  have hlt : ∀ s, ∀ x ∈ pl s mk, x < 32 := by
    intro s x hx
    obtain ⟨m, hm, rfl⟩ := List.mem_map.mp hx
    have := (hmem m (List.mem_filter.mp hm).1).1
    omega
  have hpi := fun s => pl_inc (fun m hm => (hmem m hm).1.1) hinc s
  obtain ⟨t1, t2, t3, t4, t5⟩ := tail_facts ha hb
  have hfs : fsE (evs sm mk a b) = pl 1 mk ++ upE a := by rw [evs, fsE_app, fs_marks fun m hm => (hmem m hm).2, t2]
  have hsn : snE (evs sm mk a b) = pl 0 mk ++ upE b := by rw [evs, snE_app, sn_marks fun m hm => (hmem m hm).2, t3]
  have hup : ∀ c : Int, ∀ x ∈ upE c, x < 34 := by
    intro c x hx
    unfold upE hid at hx
    split at hx
    · cases hx
    · rw [List.mem_singleton.mp hx]; split <;> decide
  have hA : ∀ x ∈ pl 1 mk ++ upE a, x < 34 := by
    intro x hx
    rcases List.mem_append.mp hx with hx | hx
    · have := hlt 1 x hx; omega
    · exact hup a x hx
  have hB : ∀ x ∈ pl 0 mk ++ upE b, x < 34 := by
    intro x hx
    rcases List.mem_append.mp hx with hx | hx
    · have := hlt 0 x hx; omega
    · exact hup b x hx
  have hsorts : (evs sm mk a b).map (·.1) = mk.map (sortOf sm) ++ tailOf a b := by
    rw [evs, List.map_append, List.map_map, t1]
    rfl
  have hdp : ed (kk sm) (pl 1 mk ++ upE a) (pl 0 mk ++ upE b) = r := by
    have h := dp_main (k := kk sm) (E := evs sm mk a b) (r := r) (fun _ _ => sub0 _ _) (fun _ _ => sub2 _ _) ?_ ?_ ?_ ?_ (by rw [hsorts]; exact hr)
    · rw [hfs, hsn] at h; exact h
    · intro e he
      rcases List.mem_append.mp he with he | he
      · obtain ⟨m, hm, rfl⟩ := List.mem_map.mp he
        have := (hmem m hm).2
        show 0 ≤ sortOf sm m ∧ sortOf sm m ≤ 3
        unfold sortOf
        split <;> omega
      · have := (t5 e he).1
        omega
    · intro e he h1
      rcases List.mem_append.mp he with he | he
      · obtain ⟨m, hm, rfl⟩ := List.mem_map.mp he
        have hm' := hmem m hm
        dsimp only at h1 ⊢
        rw [kk_same (by omega)]
        unfold sortOf at h1 ⊢
        split at h1
        · rename_i h2
          rw [if_pos h2, if_pos ⟨h2.1, by omega⟩]
          decide
        · rename_i h2
          have h3 : m.2 = 2 := by omega
          rw [if_neg h2, if_neg (fun h => h2 ⟨h.1, h3, by omega⟩), h3]
          decide
      · have h5 := t5 e he
        have h6 : e.1 = 2 := by omega
        rw [kk_same (by omega), if_neg (by omega), h6]
        decide
    · intro i hi j hj hij
      rw [hfs] at hi
      rw [hsn] at hj
      exact kk_two (hA i hi) (hB j hj) hij
    · rw [evs, List.map_append, List.map_map]
      refine List.nodup_append.mpr ⟨?_, t4, ?_⟩
      · refine List.pairwise_map.mpr (hinc.imp_of_mem ?_)
        intro m m' hm hm' hlt'
        have := hmem m hm
        have := hmem m' hm'
        show m.1.toNat ≠ m'.1.toNat
        omega
      · intro x hx y hy
        obtain ⟨m, hm, rfl⟩ := List.mem_map.mp hx
        obtain ⟨e, he, rfl⟩ := List.mem_map.mp hy
        have h1 := hmem m hm
        have h2 := (t5 e he).2
        show m.1.toNat ≠ e.2
        omega
  rw [bits_pl, bits_pl, words_of ha (hlt 1) (hpi 1), words_of hb (hlt 0) (hpi 0), other_words]
  generalize hAA : pl 1 mk ++ upE a = A at *
  generalize hBB : pl 0 mk ++ upE b = B at *
  by_cases h1 : A = []
  · have h2 : B ≠ [] := by
      intro h2
      rw [h1] at hAA
      rw [h2] at hBB
      obtain ⟨m, r', hmr⟩ := List.exists_cons_of_ne_nil hmkl
      have hm : m ∈ mk := by rw [hmr]; exact .head _
      have e1 := (List.append_eq_nil_iff.mp hAA).1
      have e2 := (List.append_eq_nil_iff.mp hBB).1
      have f1 : m.2 = 1 := by
        refine Classical.byContradiction fun h => ?_
        have : m.1.toNat ∈ pl 1 mk := List.mem_map.mpr ⟨m, List.mem_filter.mpr ⟨hm, by simpa using h⟩, rfl⟩
        rw [e1] at this; cases this
      have f2 : m.2 = 0 := by
        refine Classical.byContradiction fun h => ?_
        have : m.1.toNat ∈ pl 0 mk := List.mem_map.mpr ⟨m, List.mem_filter.mpr ⟨hm, by simpa using h⟩, rfl⟩
        rw [e2] at this; cases this
      omega
    rw [if_pos h1, if_neg h2, ed_one (by simpa using h2) ?_]
    · rw [h1, ed_nil] at hdp
      rw [List.length_map]; exact hdp
    · intro y hy
      obtain ⟨j, hj, rfl⟩ := List.mem_map.mp hy
      exact sub_two (by rw [v_low (hB j hj)]; exact z_other j (hB j hj))
  · rw [if_neg h1]
    by_cases h2 : B = []
    · rw [if_pos h2, ed_one_r (by simpa using h1) ?_]
      · rw [h2, ed_nil_r] at hdp
        rw [List.length_map]; exact hdp
      · intro y hy
        obtain ⟨j, hj, rfl⟩ := List.mem_map.mp hy
        exact sub_two (Ne.symm (z_other j (hA j hj)))
    · rw [if_neg h2, ed_map]
      exact hdp
theorem plain_div {a : Int} {s : Int} {ds : List Int} (hd : ds.length ≤ 10) : (a * 2 ^ 32 + (bitsOf s (marksFrom (-1) ds)).sum) / 2 ^ 32 = a := by
  rw [bits_pl]
  have hmem : ∀ m ∈ marksFrom (-1) ds, 0 ≤ m.1 ∧ m.1 < 32 := by
    intro m hm
    have := marks_mem (-1) ds m hm
    omega
  refine (num_div ?_ (pl_inc (fun m hm => (hmem m hm).1) (marks_inc _ _) s)).1
  intro x hx
  obtain ⟨m, hm, rfl⟩ := List.mem_map.mp hx
  have := hmem m (List.mem_filter.mp hm).1
  omega
end Mine
end
section
set_option maxHeartbeats 3000000
open PySem PySem.W PyProof.Rows
namespace Mine
local macro_rules | `(tactic| walk_at "execs cons") => `(tactic| ((with_reducible refine wpAny_execs_cons ?_); try dsimp only))
local macro_rules | `(tactic| walk_at "execs nil") => `(tactic| ((with_reducible refine wpAny_execs_nil ?_); try dsimp only))
local macro_rules | `(tactic| walk_at "eval ListComp") => `(tactic| refine Stop.out ?_)
local macro_rules | `(tactic| walk_at "exec Assign cons ListComp") => `(tactic| first | ((with_reducible show wpAny _ _ (exec (Stmt.Assign _ _ ⟨88, _, _, _⟩) _) _ _ _); refine Stop.out ?_) | ((with_reducible show wpAny _ _ (exec (Stmt.Assign _ _ ⟨91, _, _, _⟩) _) _ _ _); refine Stop.out ?_) | ((with_reducible show wpAny _ _ (exec (Stmt.Assign _ _ ⟨99, _, _, _⟩) _) _ _ _); refine Stop.out ?_))
local macro_rules | `(tactic| walk_at "exec For") => `(tactic| refine Stop.out ?_)
local macro_rules | `(tactic| walk_at "exec For Name Name cons nil") => `(tactic| refine Stop.out ?_)
local macro_rules | `(tactic| walk_at "exec Assign") => `(tactic| first | ((with_reducible show wpAny _ _ (exec (Stmt.Assign _ _ ⟨81, _, _, _⟩) _) _ _ _); refine Stop.out ?_) | ((with_reducible show wpAny _ _ (exec (Stmt.Assign _ _ ⟨89, _, _, _⟩) _) _ _ _); refine Stop.out ?_) | ((with_reducible show wpAny _ _ (exec (Stmt.Assign _ _ ⟨90, _, _, _⟩) _) _ _ _); refine Stop.out ?_) | ((with_reducible show wpAny _ _ (exec (Stmt.Assign _ _ ⟨101, _, _, _⟩) _) _ _ _); refine Stop.out ?_))
local macro_rules | `(tactic| walk_at "CutPost") => `(tactic| with_reducible refine CutPost.ret ?_)
local macro_rules | `(tactic| walk_at "pyIter ref") => `(tactic| refine Stop.out ?_)
local macro_rules | `(tactic| walk_at "call ref") => `(tactic| refine Stop.out ?_)
local macro_rules | `(tactic| walk_at "subscriptTail Name Slice ref ref") => `(tactic| (first
  | ((with_reducible show wpAny _ _ (subscriptTail _ (Expr.Slice none (some _) none _) _ _) _ _ _); (with_reducible rename Fr _ _ _ _ => F'); (with_reducible rename News _ _ _ _ => N'); k_dflt (refine' slice_upto_ints (s := ⟨_, _, _, _, _⟩) F' N' ?hl ?hi ?h0 ?hz ?_; (case hl => first | assumption | is_list); (case hi => assumption); (case h0 => decide); (case hz => omega)))
  | ((with_reducible show wpAny _ _ (subscriptTail _ (Expr.Slice (some _) none none _) _ _) _ _ _); (with_reducible rename Fr _ _ _ _ => F'); (with_reducible rename News _ _ _ _ => N'); k_dflt (refine' slice_from_ints (s := ⟨_, _, _, _, _⟩) F' N' ?hl ?hi ?h0 ?hz ?_; (case hl => first | assumption | is_list); (case hi => with_reducible (first | assumption | exact (IntsAre.cons _ _ (IntsAre.cons _ _ (IntsAre.cons _ _ (IntsAre.cons _ _ (IntsAre.cons _ _ (IntsAre.cons _ _ (IntsAre.cons _ _ IntsAre.nil))))))))); (case h0 => first | decide | omega); (case hz => first | omega | decide)))); intro D' h' us' F' N' l1 hI'; (try k_lt l1))
local macro_rules | `(tactic| walk_at "subscriptTail List cons Slice ref ref") => `(tactic| k_dflt (refine kba_turn (value' := PySem.Expr.Name (PySem.Str.ofString "_") ⟨0, 0, 0, 0⟩) (fun _ => rfl) ?_))
local macro_rules | `(tactic| walk_at "CompSrc") => `(tactic| refine Stop.out ?_)
local macro_rules | `(tactic| walk_at "CompSrcT") => `(tactic| refine Stop.out ?_)
local macro_rules | `(tactic| walk_at "binaryOp Add ref ref") => `(tactic| refine Stop.out ?_)
local macro_rules | `(tactic| walk_at "call builtin:list.append") => `(tactic| (k_dflt (refine' append_stT ?k1 ?k2 ?k3 ?k4 ?k5 ?_; (case k1 => k_asm); (case k2 => k_asm); (case k3 => k_ne); (case k4 => assumption); (case k5 => assumption)); intro h' F' N'))
local macro_rules | `(tactic| walk_at "exec If") => `(tactic| first | ((with_reducible show wpAny _ _ (exec (Stmt.If _ _ _ ⟨92, _, _, _⟩) _) _ _ _); refine Stop.out ?_) | ((with_reducible show wpAny _ _ (exec (Stmt.If _ _ _ ⟨98, _, _, _⟩) _) _ _ _); refine Stop.out ?_))
local macro_rules | `(tactic| walk_at "binaryOp Mult ref int") => `(tactic| (k_dflt (refine' mul_one_st ?k1 ?k2 ?k3 ?k4 ?_; (case k1 => k_asm); (case k2 => k_asm); (case k3 => k_mem); (case k4 => assumption)); intro D' h' us' F' N' l1 hI'; (try k_lt l1)))
local macro_rules | `(tactic| walk_at "call builtin:str.split") => `(tactic| refine Stop.out ?_)
local macro_rules | `(tactic| k_all) => `(tactic| assumption)
theorem flag_ok : ∀ i, i < 32 → (flagWord i).length ≤ 100 ∧ PyData.strOk (flagWord i) = true ∧ (Txt.lower (flagWord i)).length ≤ 100 ∧ PyData.strOk (Txt.lower (flagWord i)) = true := by decide +kernel
theorem words_ok {x a : Int} (h : x / 2 ^ 32 = a) (ha : a = 0 ∨ a = 1 ∨ a = -1) : ∀ w ∈ pfAll x, w.length ≤ 100 ∧ PyData.strOk w = true ∧ (Txt.lower w).length ≤ 100 ∧ PyData.strOk (Txt.lower w) = true := by
  have hf : ∀ w ∈ pfw x 32, w.length ≤ 100 ∧ PyData.strOk w = true ∧ (Txt.lower w).length ≤ 100 ∧ PyData.strOk (Txt.lower w) = true := by
    intro w hw
    obtain ⟨i, hi, rfl⟩ := List.mem_map.mp hw
    exact flag_ok i (List.mem_range.mp (List.mem_filter.mp hi).1)
  intro w hw
  unfold pfAll at hw
  split at hw
  · exact hf w hw
  · rcases List.mem_append.mp hw with hw | hw
    · exact hf w hw
    · rw [List.mem_singleton.mp hw, h]
      rcases ha with rfl | rfl | rfl <;> decide +kernel
theorem pfAll_len (x : Int) : (pfAll x).length ≤ 33 := by
  have := pfw_len x 32
  unfold pfAll
  split
  · omega
  · rw [List.length_append]; simp; omega
theorem otherW_len (sm : Bool) (ws : List Str) : (otherW sm ws).length = ws.length := by cases sm <;> simp [otherW]
theorem otherW_ok (sm : Bool) {ws : List Str} (h : ∀ w ∈ ws, w.length ≤ 100 ∧ PyData.strOk w = true ∧ (Txt.lower w).length ≤ 100 ∧ PyData.strOk (Txt.lower w) = true) : ∀ w ∈ otherW sm ws, w.length ≤ 1000 ∧ PyData.strOk w = true := by
  intro w hw
  cases sm with
  | false =>
    have := h w hw
    exact ⟨Nat.le_trans this.1 (by decide), this.2.1⟩
  | true =>
    obtain ⟨v, hv, rfl⟩ := List.mem_map.mp (show w ∈ ws.map Txt.lower from hw)
    have := h v hv
    exact ⟨Nat.le_trans this.2.2.1 (by decide), this.2.2.2⟩
theorem tail_len {a b : Int} (ha : a = 0 ∨ a = 1 ∨ a = -1) (hb : b = 0 ∨ b = 1 ∨ b = -1) : (tailOf a b).length ≤ 2 := by
  rcases ha with rfl | rfl | rfl <;> rcases hb with rfl | rfl | rfl <;> decide
theorem hex_up {x a : Int} (h : x / 2 ^ 32 = a) (ha : a = 0 ∨ a = 1 ∨ a = -1) : (baseText "0x" 16 (x / 2 ^ 32 * 2 ^ 32)).length ≤ 100 ∧ 44 ∉ sl (baseText "0x" 16 (x / 2 ^ 32 * 2 ^ 32)) := by
  rw [h]
  rcases ha with rfl | rfl | rfl <;> decide +kernel
theorem News.one {h₀ h : Heap} {L : Addr} {news : List (Addr × Obj)} (N : News h₀ L h news) {p : Addr × Obj} (hp : p ∈ news) : News h₀ L h (p :: news) := List.forall_mem_cons.mpr ⟨N _ hp, N⟩
theorem law_holds : PySem.Challenge.rw_ny0089_01.Holds := hd (by
  k_go0
  (all_goals try k_fold)
  (rename Flt.MathXP _ _ _ => x1); clear x1
  (rename LooseAre _ _ _ => x1); clear x1
  (rename Glob _ _ _ _ _ _ _ _ => x1); clear x1
  (rename Tables _ _ _ _ => x1); clear x1
  (rename TopE _ _ _ _ => x1); clear x1
  (rename TopW _ _ _ => x1); clear x1
  (rename BMod _ _ _ _ _ => x1); clear x1
  (rename Ground _ _ _ _ _ _ _ _ _ => x1); try clear x1
  (rename Heap.CodeRec _ _ _ => x1); try clear x1
  (rename Fr _ _ _ _ => F)
  have F2 := fr_say [] F (fun _ h => nomatch h)
  clear F
  revert F2
  generalize bindL _ _ _ = rest
  intro F2
  try ((rename Dflts _ _ _ _ _ => x1); clear x1)
  try ((rename Dflts _ _ _ _ _ _ => x1); clear x1)
  try ((rename CellsAre _ _ _ => x1); clear x1)
  (rename IntsAre _ _ => hI)
  rename List Int => w9
  (rename (Obj.data _ = Data.cell (bindC _ _ _ _)) => d1); (have e1 : _ = Data.cell (some (Value.ref _)) := d1); clear d1
  (rename (Obj.data _ = Data.cell (bindC _ _ _ _)) => d1); (have e2 : _ = Data.cell none := d1); clear d1
  dsimp only
  rename_i p2 p1 hN0
  rename Shared => s1
  have hlen : w9.length ≤ 63 := by omega
  have hIs := hI
  k_steps
  constructor
  rename Fr _ _ _ _ => F
  rename News _ _ _ _ => N
  generalize hds : w9.take 10 ++ ([0, 0, 0, 2, 1, 1, 1] : List Int).drop w9.length = ds
  have hdl : 7 ≤ ds.length ∧ ds.length ≤ 10 := by
    rw [← hds, List.length_append, List.length_take, List.length_drop]
    simp only [List.length_cons, List.length_nil]
    omega
  refine cut_st (σ := Addr × List Value × Nat) F (fun c => [(Str.ofString "drawn", .ref c.1)]) (fun c => [(c.1, listOf c.2.1.toArray c.2.2), (s1.heap.objs.size + 1 + 1, p2), (s1.heap.objs.size + 1, p1)]) (fun c => IntsAre c.2.1 ds ∧ s1.heap.objs.size + 1 + 1 < c.1) ?_ ?_
  · refine wpAny_Assign_Name ?_
    k_steps
    constructor
    (rename IntsAre _ (List.drop _ _) => hq2)
    (rename IntsAre _ (List.take _ _) => hq1)
    have z1 := hq1.length
    have z2 := hq2.length
    rw [List.length_take] at z1
    rw [List.length_drop] at z2
    simp only [List.length_cons, List.length_nil] at z2
    refine add_st (by assumption) (by assumption) (by k_mem) (by k_mem) (Nat.le_trans (by omega : _ ≤ 100) (by decide)) ?_
    intro D8 h8 F8 N8 hl8
    have hl9 : (@LT.lt Nat _ (s1.heap.objs.size + 1 + 1) D8) := hl8 (s1.heap.objs.size + 1 + 1, p2) (by k_mem)
    k_steps
    refine .next (.mk (_, _, _) (by assumption) (by assumption) (by kst_in) (fun _ h => nomatch h) (by kst_all) ⟨?_, ?_⟩)
    · have e : w9.take (Int.toNat 10) ++ ([0, 0, 0, 2, 1, 1, 1] : List Int).drop (w9.length : Int).toNat = ds := hds
      have hq := IntsAre.append hq1 hq2
      rw [e] at hq
      exact hq
    · exact hl9
  clear F N
  rintro ⟨D, vs, nn⟩ u h tk ⟨hvs, hDL⟩ F N
  dsimp only at hvs hDL F N ⊢
  have hvl := hvs.length
  k_steps
  constructor
  rename_i oS dS MA _ lMA _ _ F4 N4
  refine cut_st (σ := List Value × Nat × List (Addr × Obj)) F4 (fun c => [(Str.ofString "marks", .ref MA)])
    (fun c => (MA, listOf c.1.toArray c.2.1) :: (s1.heap.objs.size + 1 + 1, oS) :: (s1.heap.objs.size + 1, p1) :: c.2.2)
    (fun c => TupsAre c.2.2 c.1 (marksFrom (-1) ds)) ?_ ?_
  · refine wpAny_For ?_
    k_steps
    constructor
    refine list_new_st (σ := List Value × Nat × List (Addr × Obj) × Int × Tok) (fun c => [(Str.ofString "marks", .ref MA), (Str.ofString "place", .int c.2.2.2.1 c.2.2.2.2)])
      (fun c => (MA, listOf c.1.toArray c.2.1) :: (D, listOf vs.toArray nn) :: (s1.heap.objs.size + 1 + 1, oS) :: (s1.heap.objs.size + 1, p1) :: c.2.2.1)
      (fun i c => c.2.2.2.1 = placeAt (-1) ds i ∧ TupsAre c.2.2.1 c.1 ((marksFrom (-1) ds).take i) ∧ ∀ p ∈ c.2.2.1, p.1 ≠ MA)
      ([], 0, [], -1, _) rfl (fun c => .tail _ (.head _)) (by assumption) (by assumption) (fun _ h => h) (by kst_all) ⟨(place_zero _ _).symm, .nil, fun _ h => nomatch h⟩ ?_ ?_
    · rintro i v ⟨ms, n, ts, pl, tp⟩ u5 g5 h5 tk5 own hi hv hoff ⟨hpl, htu, hts⟩ F N
      dsimp only at hpl htu hts F N hoff
      obtain ⟨d, td, rfl, hdi⟩ := ints_item hvs hv
      clear hv
      simp only [List.cons_append] at N
      have hne : ∀ p ∈ (D, listOf vs.toArray nn) :: (s1.heap.objs.size + 1 + 1, oS) :: (s1.heap.objs.size + 1, p1) :: (ts ++ own), p.1 ≠ MA := by
        refine List.forall_mem_cons.mpr ⟨Nat.ne_of_lt lMA.1, List.forall_mem_cons.mpr ⟨Nat.ne_of_lt lMA.2.1, List.forall_mem_cons.mpr ⟨Nat.ne_of_lt lMA.2.2, fun p hp => ?_⟩⟩⟩
        rcases List.mem_append.mp hp with hp | hp
        · exact hts p hp
        · exact hoff p hp _ (.head _)
      have hml := htu.length
      have hsz : ms.length ≤ sizeLine := by
        rw [List.length_take, marks_len] at hml
        exact Nat.le_trans (by omega : ms.length ≤ 10) (by decide)
      have hps := place_succ (-1) ds i d hdi
      have hma := marks_at (-1) ds i d hdi
      k_steps
      rename_i T _ _ _ lT _ F9 N9
      refine .next (.mk (ms ++ [.ref T], n + 1, (T, tupOf _ _ _ _) :: ts, _, _) F9 N9 (List.forall_mem_cons.mpr ⟨.tail _ (.head _), List.forall_mem_cons.mpr ⟨.tail _ (.tail _ (.head _)), List.forall_mem_cons.mpr ⟨.tail _ (.tail _ (.tail _ (.head _))), List.forall_mem_cons.mpr ⟨.tail _ (.tail _ (.tail _ (.tail _ (.head _)))), List.forall_mem_cons.mpr ⟨.head _, fun p hp => .tail _ (.tail _ (.tail _ (.tail _ (.tail _ (List.mem_append_left _ hp)))))⟩⟩⟩⟩⟩) (fun p hp => .tail _ (.tail _ (.tail _ (.tail _ (.tail _ (List.mem_append_right _ hp)))))) (by kst_all) ⟨⟨?_, ?_, ?_⟩, ?_⟩)
      · dsimp only
        rw [hps, hpl]
      · dsimp only
        rw [List.take_add_one, hma]
        refine (htu.mono fun p hp => .tail _ hp).append ?_
        rw [hps, ← hpl]
        exact .cons (.head _) .nil
      · exact List.forall_mem_cons.mpr ⟨Ne.symm (Nat.ne_of_lt lT.1), hts⟩
      · intro p hp b hb
        simp only [List.map_cons, List.mem_cons] at hb
        rcases hb with e | e | e | e | e | hb
        · rw [e]; exact hoff p hp _ (.head _)
        · rw [e]; exact hoff p hp _ (.tail _ (.head _))
        · rw [e]; exact hoff p hp _ (.tail _ (.tail _ (.head _)))
        · rw [e]; exact hoff p hp _ (.tail _ (.tail _ (.tail _ (.head _))))
        · rw [e]; exact Nat.ne_of_lt (allLt_mem lT.2.2.2.2 p (List.mem_append_right _ hp))
        · exact hoff p hp b (.tail _ (.tail _ (.tail _ (.tail _ hb))))
    · rintro ⟨ms, n, ts, pl, tp⟩ u5 h5 tk5 ⟨hpl, htu, hts⟩ F N
      dsimp only at hpl htu hts F N
      rw [hvl, ← marks_len (-1) ds, List.take_length] at htu
      k_steps
      exact .next (.mk (ms, n, ts) (by assumption) (by assumption) (List.forall_mem_cons.mpr ⟨.head _, fun p hp => .tail _ (.tail _ hp)⟩) (fun _ h => nomatch h) (by kst_all) htu)
  clear F4 N4
  rintro ⟨ms, nm, ts⟩ u4 h4 tk4 htu F N
  dsimp only at htu F N ⊢
  generalize hS : (w9.take 10).sum = S
  have hS2 : (w9.take (Int.toNat 10)).sum = S := hS
  k_steps
  constructor
  k_dflt (refine Assign_ListComp_P (by k_asm) (by rfl) (by with_unfolding_all rfl) (by with_unfolding_all rfl) (by decide) (by rfl) (by decide) (by rfl) (by rfl) (by rfl) ?_)
  k_steps
  refine comp_tupA (its := [.int 1 _, .int 3 _]) (fun j ys => IntsAre ys ([upAt S 1, upAt S 3].take j)) rfl (by assumption) (by assumption) (.head _) (by show 2 ≤ sizeLine; decide) .nil ?_ ?_
  · intro j v I oI C oC D9 m₂ g h tk ys E' hj hys hv hns hm F N
    have hjj : j = 0 ∨ j = 1 := by
      have : j < 2 := hj
      omega
    rcases hjj with rfl | rfl
    · have hv' := Option.some.inj hv
      subst hv'
      clear hv
      k_steps
      refine .mk (by assumption) (by assumption) (fun p hp => .tail _ (.tail _ hp)) ?_
      rw [hS2]
      exact IntsAre.append hys (.cons _ _ .nil)
    · have hv' := Option.some.inj hv
      subst hv'
      clear hv
      k_steps
      refine .mk (by assumption) (by assumption) (fun p hp => .tail _ (.tail _ hp)) ?_
      rw [hS2]
      exact IntsAre.append hys (.cons _ _ .nil)
  intro ab DA h5 tk5 hab F N hDA
  have hab2 : IntsAre ab [upAt S 1, upAt S 3] := hab
  clear hab
  have hml := htu.length
  have hmsz : ms.length ≤ sizeLine := by
    rw [marks_len] at hml
    exact Nat.le_trans (by omega : ms.length ≤ 10) (by decide)
  k_steps
  constructor
  rename Fr _ _ _ _ => F
  refine cut_st (σ := Int × Tok) F (fun c => [(Str.ofString "above", .ref DA), (Str.ofString "marks", .ref MA), (Str.ofString "first", .int c.1 c.2)]) (fun _ => (DA, listOf ab.toArray ab.length) :: (MA, listOf ms.toArray nm) :: (s1.heap.objs.size + 1 + 1, oS) :: (s1.heap.objs.size + 1, p1) :: ts) (fun c => c.1 = upAt S 1 * 2 ^ 32 + (bitsOf 1 (marksFrom (-1) ds)).sum) ?_ ?_
  · refine wpAny_Assign_Name ?_
    k_steps
    constructor
    k_dflt (refine LCt.ListComp_T (F₀ := by k_asm) (by with_unfolding_all rfl) (by decide) (by rfl) (by decide) (by rfl) ?_)
    k_steps
    constructor
    refine comp_listT (fun j ys => IntsAre ys (bitsOf 1 ((marksFrom (-1) ds).take j))) rfl (by assumption) (by assumption) (by k_mem) hmsz .nil ?_ ?_
    · intro j v I oI C oC D9 m₂ g h tk ys E' hj hys hv hns hm F N
      obtain ⟨a9, p9, q9, t9, u9, rfl, hmk, hmem⟩ := htu.item hv
      clear hv
      have hrng := marks_mem (-1) ds (p9, q9) (List.mem_of_getElem? hmk)
      dsimp only at hrng
      have hp0 : 0 ≤ p9 := by omega
      have hp1 : p9 < 32 := by omega
      have hsu := bitsOf_succ (s := 1) hmk
      have N2 := News.one N (p := (a9, { cls := .type "tuple", data := .seq #[.int p9 t9, .int q9 u9] })) (by repeat' (first | exact hmem | refine List.Mem.tail _ ?_))
      clear N
      k_steps
      · rw [if_pos (by assumption)] at hsu
        refine .mk (by assumption) (by assumption) (fun p hp => .tail _ hp) ?_
        rw [hsu]
        exact IntsAre.append hys (.cons _ _ .nil)
      · rename q9 = 1 => hq
        rw [if_neg (fun h => h hq)] at hsu
        refine .mk (by assumption) (by assumption) (fun p hp => .tail _ hp) ?_
        rw [hsu]
        exact hys
    intro bs bA bh bt hbs F N bn
    rw [hml, List.take_length] at hbs
    k_steps
    exact .next (.mk (_, _) (by assumption) (by assumption) (List.forall_mem_cons.mpr ⟨.tail _ (.head _), fun p hp => .tail _ (.tail _ (.tail _ hp))⟩) (fun _ h => nomatch h) (by kst_all) rfl)
  clear F N
  rintro ⟨FI, tF⟩ u5 h5 tk5 hFI F N
  dsimp only at hFI F N ⊢
  k_steps
  constructor
  rename Fr _ _ _ _ => F
  refine cut_st (σ := Int × Tok) F (fun c => [(Str.ofString "above", .ref DA), (Str.ofString "marks", .ref MA), (Str.ofString "first", .int FI tF), (Str.ofString "second", .int c.1 c.2)]) (fun _ => (DA, listOf ab.toArray ab.length) :: (MA, listOf ms.toArray nm) :: (s1.heap.objs.size + 1 + 1, oS) :: (s1.heap.objs.size + 1, p1) :: ts) (fun c => c.1 = upAt S 3 * 2 ^ 32 + (bitsOf 0 (marksFrom (-1) ds)).sum) ?_ ?_
  · refine wpAny_Assign_Name ?_
    k_steps
    constructor
    k_dflt (refine LCt.ListComp_T (F₀ := by k_asm) (by with_unfolding_all rfl) (by decide) (by rfl) (by decide) (by rfl) ?_)
    k_steps
    constructor
    refine comp_listT (fun j ys => IntsAre ys (bitsOf 0 ((marksFrom (-1) ds).take j))) rfl (by assumption) (by assumption) (by k_mem) hmsz .nil ?_ ?_
    · intro j v I oI C oC D9 m₂ g h tk ys E' hj hys hv hns hm F N
      obtain ⟨a9, p9, q9, t9, u9, rfl, hmk, hmem⟩ := htu.item hv
      clear hv
      have hrng := marks_mem (-1) ds (p9, q9) (List.mem_of_getElem? hmk)
      dsimp only at hrng
      have hp0 : 0 ≤ p9 := by omega
      have hp1 : p9 < 32 := by omega
      have hsu := bitsOf_succ (s := 0) hmk
      have N2 := News.one N (p := (a9, { cls := .type "tuple", data := .seq #[.int p9 t9, .int q9 u9] })) (by repeat' (first | exact hmem | refine List.Mem.tail _ ?_))
      clear N
      k_steps
      · rw [if_pos (by assumption)] at hsu
        refine .mk (by assumption) (by assumption) (fun p hp => .tail _ hp) ?_
        rw [hsu]
        exact IntsAre.append hys (.cons _ _ .nil)
      · rename q9 = 0 => hq
        rw [if_neg (fun h => h hq)] at hsu
        refine .mk (by assumption) (by assumption) (fun p hp => .tail _ hp) ?_
        rw [hsu]
        exact hys
    intro bs bA bh bt hbs F N bn
    rw [hml, List.take_length] at hbs
    k_steps
    exact .next (.mk (_, _) (by assumption) (by assumption) (fun p hp => .tail _ hp) (fun _ h => nomatch h) (by kst_all) rfl)
  clear F N
  rintro ⟨SE, tE⟩ u5 h5 tk5 hSE F N
  dsimp only at hSE F N ⊢
  generalize hsm : ((w9.length : Int).fmod 2 == 1) = sm at *
  k_steps
  constructor
  k_dflt (refine LCg.Assign_ListComp_U (F₀ := by k_asm) (by rfl) (by with_unfolding_all rfl) (by with_unfolding_all rfl) (by decide) (by rfl) (by decide) (by rfl) (by rfl) (by rfl) ?_)
  k_steps
  constructor
  refine comp_listA (fun j ys => IntsAre ys (((marksFrom (-1) ds).take j).map (sortOf sm))) rfl (by assumption) (by assumption) (by k_mem) hmsz .nil ?_ ?_
  · intro j v I oI C oC D9 m₂ g h tk ys E' hj hys hv hns hm F N
    obtain ⟨a9, p9, q9, t9, u9, rfl, hmk, hmem⟩ := htu.item hv
    clear hv
    have N2 := News.one N (p := (a9, { cls := .type "tuple", data := .seq #[.int p9 t9, .int q9 u9] })) (by repeat' (first | exact hmem | refine List.Mem.tail _ ?_))
    clear N
    have hsu := take_map_succ (sortOf sm) hmk
    cases sm
    · k_steps
      refine .mk (by assumption) (by assumption) (fun p hp => .tail _ hp) ?_
      rw [hsu]
      have e : sortOf false (p9, q9) = q9 := by simp [sortOf]
      rw [e]
      exact IntsAre.append hys (.cons _ _ .nil)
    · k_steps
      · refine .mk (by assumption) (by assumption) (fun p hp => .tail _ hp) ?_
        rw [hsu]
        have e : sortOf true (p9, q9) = 3 := by simp only [sortOf]; rw [if_pos ⟨trivial, by assumption, by assumption⟩]
        rw [e]
        exact IntsAre.append hys (.cons _ _ .nil)
      · refine .mk (by assumption) (by assumption) (fun p hp => .tail _ hp) ?_
        rw [hsu]
        rename ¬ (p9 < 10) => hnp
        have e : sortOf true (p9, q9) = q9 := by simp only [sortOf]; rw [if_neg (fun h => hnp h.2.2)]
        rw [e]
        exact IntsAre.append hys (.cons _ _ .nil)
      · refine .mk (by assumption) (by assumption) (fun p hp => .tail _ hp) ?_
        rw [hsu]
        rename q9 ≠ 2 => hnq
        have e : sortOf true (p9, q9) = q9 := by simp only [sortOf]; rw [if_neg (fun h => hnq h.2.1)]
        rw [e]
        exact IntsAre.append hys (.cons _ _ .nil)
  intro ss DS h6 tk6 hss F N hDS
  rw [hml, List.take_length] at hss
  have hA0 := absI_up S 1
  have hA1 := absI_up S 3
  have hssl := hss.length
  rw [List.length_map, marks_len] at hssl
  k_steps
  constructor
  rename Fr _ _ _ _ => F
  refine cut_st (σ := Addr × List Value × Nat) F (fun c => [(Str.ofString "first", .int FI tF), (Str.ofString "second", .int SE tE), (Str.ofString "sorts", .ref c.1)]) (fun c => [(c.1, listOf c.2.1.toArray c.2.2), (s1.heap.objs.size + 1 + 1, oS), (s1.heap.objs.size + 1, p1)])
    (fun c => IntsAre c.2.1 ((marksFrom (-1) ds).map (sortOf sm) ++ tailOf (upAt S 1) (upAt S 3))) ?_ ?_
  · refine wpAny_If ?_
    k_steps
    · constructor
      rename IntsAre _ (List.replicate _ _) => hr1
      have hr2 : IntsAre _ (List.replicate (absI (upAt S 1)).toNat 2) := hr1
      have hrl := hr2.length
      rw [List.length_replicate] at hrl
      have heq : upAt S 1 = upAt S 3 := by assumption
      refine add_st (by assumption) (by assumption) (by k_mem) (by k_mem) (Nat.le_trans (by omega : _ ≤ 100) (by decide)) ?_
      intro D7 h7 F7 N7 hl7
      k_steps
      refine .next (.mk (_, _, _) (by assumption) (by assumption) (by kst_in) (fun _ h => nomatch h) (by kst_all) ?_)
      dsimp only
      rw [tailOf, if_pos heq]
      exact IntsAre.append hss hr2
    · constructor
      rename IntsAre _ (List.replicate _ _) => hr1
      have hr2 : IntsAre _ (List.replicate (absI (upAt S 1)).toNat 0) := hr1
      have hrl := hr2.length
      rw [List.length_replicate] at hrl
      have heq : upAt S 1 ≠ upAt S 3 := by assumption
      clear hr1
      refine add_st (by assumption) (by assumption) (by k_mem) (by k_mem) (Nat.le_trans (by omega : _ ≤ 100) (by decide)) ?_
      intro D7 h7 F7 N7 hl7
      k_steps
      constructor
      rename IntsAre _ (List.replicate _ _) => hr3
      have hr4 : IntsAre _ (List.replicate (absI (upAt S 3)).toNat 1) := hr3
      have hrl2 := hr4.length
      rw [List.length_replicate] at hrl2
      refine add_st (by assumption) (by assumption) (by k_mem) (by k_mem) (Nat.le_trans (by rw [List.length_append]; omega : _ ≤ 100) (by decide)) ?_
      intro D6 h8 F8 N8 hl8
      k_steps
      refine .next (.mk (_, _, _) (by assumption) (by assumption) (by kst_in) (fun _ h => nomatch h) (by kst_all) ?_)
      dsimp only
      rw [tailOf, if_neg heq, ← List.append_assoc]
      exact IntsAre.append (IntsAre.append hss hr2) hr4
  clear F N
  rintro ⟨DT, sv, nsv⟩ u7 h7 tk7 hsv F N
  dsimp only at hsv F N ⊢
  clear hssl hss hDS hA0 hA1
  have hq1 : FI / 2 ^ 32 = upAt S 1 := by rw [hFI]; exact plain_div hdl.2
  have hq3 : SE / 2 ^ 32 = upAt S 3 := by rw [hSE]; exact plain_div hdl.2
  have hx1 := hex_up hq1 (upAt_cases S 1)
  have hx3 := hex_up hq3 (upAt_cases S 3)
  have hwt1 := pfAll_weight hx1.1
  have hwt3 := pfAll_weight hx3.1
  have hfr1 := pfAll_free hx1.2
  have hfr3 := pfAll_free hx3.2
  have hne1 := pfAll_ne FI
  have hne3 := pfAll_ne SE
  k_steps
  constructor
  k_dflt (refine' flags_claim _ _ _ _ _ _ _ _ _ _ _ _ _ _ _ _ _ _ _ _ _ _ _ _ ?k1 ?k2 ?k3 ?k4 ?k5 ?kK ?kp ?kd ?ku ?_)
  (case k1 => k_asm)
  (case k2 => k_asm)
  (case k3 => k_asm)
  (case k4 => k_asm)
  (case k5 => k_asm)
  (case kK => first | exact rfl | assumption)
  (case kd => decide)
  (case ku => decide)
  (case kp => exact hx1.1)
  rintro _ h8 tk8 ⟨t8, rfl⟩ F8 N8
  try dsimp only
  k_steps
  constructor
  refine split_st (by assumption) (by assumption) hne1 hfr1 hwt1 ?_
  intro v1 D1 h9 k9 hv1 F9 N9 hn1
  k_steps
  constructor
  k_dflt (refine' flags_claim _ _ _ _ _ _ _ _ _ _ _ _ _ _ _ _ _ _ _ _ _ _ _ _ ?k1 ?k2 ?k3 ?k4 ?k5 ?kK ?kp ?kd ?ku ?_)
  (case k1 => k_asm)
  (case k2 => k_asm)
  (case k3 => k_asm)
  (case k4 => k_asm)
  (case k5 => k_asm)
  (case kK => first | exact rfl | assumption)
  (case kd => decide)
  (case ku => decide)
  (case kp => exact hx3.1)
  rintro _ h8 tk8 ⟨t8, rfl⟩ F8 N8
  try dsimp only
  k_steps
  constructor
  refine split_st (by assumption) (by assumption) hne3 hfr3 hwt3 ?_
  intro v3 D3 h10 k10 hv3 F10 N10 hn3
  k_steps
  constructor
  rename Fr _ _ _ _ => F
  have hok1 := words_ok hq1 (upAt_cases S 1)
  have hok3 := words_ok hq3 (upAt_cases S 3)
  have hl1 := pfAll_len FI
  have hl3 := pfAll_len SE
  have hv1l := hv1.length
  have hv3l := hv3.length
  refine cut_st (σ := Addr × List Value × Nat) F (fun c => [(Str.ofString "one", .ref D1), (Str.ofString "other", .ref c.1), (Str.ofString "sorts", .ref DT)]) (fun c => [(c.1, listOf c.2.1.toArray c.2.2), (D1, listOf v1.toArray 0), (DT, listOf sv.toArray nsv), (s1.heap.objs.size + 1, p1)])
    (fun c => StrsAre c.2.1 (otherW sm (pfAll SE))) ?_ ?_
  · refine wpAny_If ?_
    cases sm
    · k_steps
      exact .next (.mk (_, _, _) (by assumption) (by assumption) (by kst_in) (fun _ h => nomatch h) (by kst_all) hv3)
    · k_steps
      constructor
      k_dflt (refine LCg.Assign_ListComp_U (F₀ := by k_asm) (by rfl) (by with_unfolding_all rfl) (by with_unfolding_all rfl) (by decide) (by rfl) (by decide) (by rfl) (by rfl) (by rfl) ?_)
      k_steps
      constructor
      refine comp_listA (fun j ys => StrsAre ys (((pfAll SE).take j).map Txt.lower)) rfl (by assumption) (by assumption) (by k_mem) (Nat.le_trans (by omega : v3.length ≤ 100) (by decide)) .nil ?_ ?_
      · intro j v I oI C oC D9 m₂ g h tk ys E' hj hys hv hns hm F N
        obtain ⟨y, ty, rfl, hy⟩ := StrsAre.item hv3 j v hv
        clear hv
        have hyl := (hok3 y (List.mem_of_getElem? hy)).1
        have hsu := take_map_succ Txt.lower hy
        k_steps
        refine .mk (by assumption) (by assumption) (fun _ h => h) ?_
        rw [hsu]
        exact hys.append' (.cons _ _ .nil)
      intro lw DL h11 tk11 hlw F N hDL
      rw [hv3l, List.take_length] at hlw
      k_steps
      exact .next (.mk (_, _, _) (by assumption) (by assumption) (by kst_in) (fun _ h => nomatch h) (by kst_all) hlw)
  clear F N
  rintro ⟨DO, ov, no⟩ u12 h12 tk12 hov F N
  dsimp only at hov F N ⊢
  clear hv3 hv3l hn3 hn1
  have hsvl : ((marksFrom (-1) ds).map (sortOf sm) ++ tailOf (upAt S 1) (upAt S 3)).length ≤ 100 := by
    have := tail_len (upAt_cases S 1) (upAt_cases S 3)
    rw [List.length_append, List.length_map, marks_len]
    omega
  k_steps
  constructor
  k_dflt (refine' least_claim _ _ _ _ DT sv nsv ((marksFrom (-1) ds).map (sortOf sm) ++ tailOf (upAt S 1) (upAt S 3)) _ _ _ _ _ _ _ _ _ _ _ _ _ _ _ _ _ _ ?k1 ?k2 ?k3 ?k4 ?k5 ?kK ?kp ?kd ?ku ?_)
  (case k1 => k_asm)
  (case k2 => k_asm)
  (case k3 => k_asm)
  (case k4 => k_asm)
  (case k5 => k_asm)
  (case kK => first | exact rfl | assumption)
  (case kd => decide)
  (case ku => decide)
  (case kp => exact ⟨.tail _ (.tail _ (.head _)), hsv, hsvl⟩)
  rintro _ h13 tk13 ⟨due, t13, rfl, hdue⟩ F13 N13
  try dsimp only
  have hmain : ed subCost (pfAll FI) (otherW sm (pfAll SE)) = due := by
    rw [hFI, hSE]
    exact plain_main (upAt_cases S 1) (upAt_cases S 3) hdl hdue
  have hmain2 : ed subCost (otherW sm (pfAll SE)) (pfAll FI) = due := (ed_comm subCost sub0 sub_comm _ _).trans hmain
  have hol : (otherW sm (pfAll SE)).length ≤ 33 := by rw [otherW_len]; exact hl3
  have hwo1 : ∀ x ∈ pfAll FI, x.length ≤ 1000 := fun x hx => Nat.le_trans (hok1 x hx).1 (by decide)
  have hwo2 : ∀ x ∈ pfAll FI, PyData.strOk x = true := fun x hx => (hok1 x hx).2.1
  have hwo3 := otherW_ok sm hok3
  k_steps
  constructor
  rename Fr _ _ _ _ => F
  refine cut_st (σ := Int × Tok) F (fun c => [(Str.ofString "one", .ref D1), (Str.ofString "other", .ref DO), (Str.ofString "due", .int due t13), (Str.ofString "bound", .int c.1 c.2)]) (fun c => [(DO, listOf ov.toArray no), (D1, listOf v1.toArray 0)])
    (fun c => c.1 = due ∨ c.1 = due + 1 ∨ c.1 = due - 1) ?_ ?_
  · refine wpAny_Assign_Name ?_
    k_steps
    all_goals exact .next (.mk (_, _) (by assumption) (by assumption) (by kst_in) (fun _ h => nomatch h) (by kst_all) (by dsimp only; omega))
  clear F N
  rintro ⟨bd, tb⟩ u14 h14 tk14 hbd F N
  dsimp only at hbd F N ⊢
  k_steps
  constructor
  k_dflt (refine' lev_claim _ _ _ _ D1 DO v1 ov 0 no (pfAll FI) (otherW sm (pfAll SE)) _ _ _ _ _ _ _ _ _ _ _ _ _ _ _ _ _ _ _ _ ?k1 ?k2 ?k3 ?k4 ?k5 ?kK ?kp ?kd ?ku ?_)
  (case k1 => k_asm)
  (case k2 => k_asm)
  (case k3 => k_asm)
  (case k4 => k_asm)
  (case k5 => k_asm)
  (case kK => first | exact rfl | assumption)
  (case kd => decide)
  (case ku => decide)
  (case kp => exact ⟨by k_mem, by k_mem, hv1, hov, by omega, by omega, hwo1, fun x hx => (hwo3 x hx).1, hwo2, fun x hx => (hwo3 x hx).2⟩)
  rintro _ h15 tk15 ⟨r1, t15, rfl, hr1⟩ F15 N15
  try dsimp only
  have hr1' : r1 = due := by
    rw [hmain] at hr1
    rcases hr1 with h | ⟨h1, h2⟩ <;> omega
  subst hr1'
  k_steps
  constructor
  k_dflt (refine' lev_claim _ _ _ _ DO D1 ov v1 no 0 (otherW sm (pfAll SE)) (pfAll FI) _ _ _ _ _ _ _ _ _ _ _ _ _ _ _ _ _ _ _ _ ?k1 ?k2 ?k3 ?k4 ?k5 ?kK ?kp ?kd ?ku ?_)
  (case k1 => k_asm)
  (case k2 => k_asm)
  (case k3 => k_asm)
  (case k4 => k_asm)
  (case k5 => k_asm)
  (case kK => first | exact rfl | assumption)
  (case kd => decide)
  (case ku => decide)
  (case kp => exact ⟨by k_mem, by k_mem, hov, hv1, by omega, by omega, fun x hx => (hwo3 x hx).1, hwo1, fun x hx => (hwo3 x hx).2, hwo2⟩)
  rintro _ h16 tk16 ⟨r2, t16, rfl, hr2⟩ F16 N16
  try dsimp only
  have hr2' : r2 = r1 := by
    rw [hmain2] at hr2
    rcases hr2 with h | ⟨h1, h2⟩ <;> omega
  subst hr2'
  k_steps)
end Mine
end
set_option maxHeartbeats 8000000 in
theorem PySem.Challenge.cw_ny0089_01_holds : PySem.Challenge.rw_ny0089_01.Holds :=
  Mine.law_holds
