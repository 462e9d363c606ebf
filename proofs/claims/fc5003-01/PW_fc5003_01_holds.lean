import PyProof.Rows.All
import Wide.All
import OpenK.AllK
import Wide.FinOn
import PyProof.FactsAll.str_3
import PyProof.StrCalls3
import Lean
import PySem.Challenge.RW_fc5003_01
set_option Elab.async false
section
open PySem PySem.W PyProof.Rows
set_option Elab.async false
set_option linter.unusedVariables false
namespace Mine

/-! Programs over contexts whose stack bears no code that holds a buffer. -/
def holders : List String := ["bytearray.__contains__", "bytearray.__mod__", "bytearray.__rmod__", "_struct.pack_into.held", "bytearray.find.held"] ++ Builtin.Bytes.decodersThatHold
def holdsBuf : Code → Bool
  | .builtin id _ => holders.contains id
  | _ => false
def noHold (l : List (Code × Pos)) : Bool := l.all fun x => !holdsBuf x.1
theorem noHold_cons {c : Code} {p : Pos} {l : List (Code × Pos)} : noHold ((c, p) :: l) = true ↔ holdsBuf c = false ∧ noHold l = true := by
  simp [noHold]

def wpS {α : Type} (M : Model) (A : Around) (t : Sem α) (Q : α → Shared → Prop) (E : Value → Shared → Prop) (s : Shared) : Prop :=
  ∀ Γ p, Γ.In A → noHold ((Γ.code, p) :: Γ.below) = true → Sem.wp M Γ t (fun a _ s' => Q a s') (fun e _ s' => E e s') p s
def codeS (M : Model) (A : Around) (c : Code) (R : Result → Shared → Prop) (s : Shared) : Prop :=
  ∀ Γ p, Γ.code = c → Γ.Below A → noHold Γ.below = true → wpCode M Γ R p s

section
variable {α β : Type} {M : Model} {A : Around} {E : Value → Shared → Prop} {s : Shared}
theorem wpS_of_any {t : Sem α} {Q : α → Shared → Prop} (h : wpAny M A t Q E s) : wpS M A t Q E s := fun Γ p hΓ _ => h Γ p hΓ
theorem codeS_of_any {c : Code} {R : Result → Shared → Prop} (h : codeAny M A c R s) : codeS M A c R s := fun Γ p hc hΓ _ => h Γ p hc hΓ
theorem wpS_mono {t : Sem α} {Q Q' : α → Shared → Prop} {E' : Value → Shared → Prop} (h : wpS M A t Q E s) (hQ : ∀ a s, Q a s → Q' a s) (hE : ∀ e s, E e s → E' e s) : wpS M A t Q' E' s :=
  fun Γ p hΓ hn => Sem.wp_mono M Γ t (fun a _ s => hQ a s) (fun e _ s => hE e s) p s (h Γ p hΓ hn)
theorem codeS_mono {c : Code} {R R' : Result → Shared → Prop} (h : codeS M A c R s) (hR : ∀ r s, R r s → R' r s) : codeS M A c R' s :=
  fun Γ p hc hΓ hn => wpCode_mono hR (h Γ p hc hΓ hn)
theorem wpS_pure {a : α} {Q : α → Shared → Prop} (h : Q a s) : wpS M A (pure a) Q E s := wpS_of_any (wpAny_pure h)
theorem wpS_bind {m : Sem α} {f : α → Sem β} {Q : β → Shared → Prop} (h : wpS M A m (fun a s' => wpS M A (f a) Q E s') E s) : wpS M A (m >>= f) Q E s := fun Γ p hΓ hn => by
  rw [Sem.wp_bind']
  refine Sem.wp_mono M Γ m (fun a p' s' h' => h' Γ p' hΓ ?_) (fun _ _ _ h' => h') p s (h Γ p hΓ hn)
  rw [noHold_cons] at hn ⊢
  exact hn
theorem wpS_bind_any {m : Sem α} {f : α → Sem β} {Q : β → Shared → Prop} (h : wpAny M A m (fun a s' => wpS M A (f a) Q E s') E s) : wpS M A (m >>= f) Q E s := wpS_bind (wpS_of_any h)
theorem wpS_onRaise {m : Sem α} {k : Value → Sem Unit} {Q : α → Shared → Prop}
    (h : wpS M A m Q (fun e s' => wpAny M A (k e) (fun _ s'' => E e s'') E s') s) : wpS M A (m.onRaise k) Q E s := fun Γ p hΓ hn => by
  rw [Sem.wp_onRaise]
  exact Sem.wp_mono M Γ m (fun _ _ _ h' => h') (fun e p' s' h' => h' Γ p' hΓ) p s (h Γ p hΓ hn)
theorem wpS_holding {vs : List Value} {m : Sem α} {Q : α → Shared → Prop} (h : wpS M A m Q E s) : wpS M A (holding vs m) Q E s :=
  fun Γ p hΓ hn => by rw [Sem.wp_holding]; exact h Γ p hΓ hn
theorem wpS_operate {vs : List Value} {m : Sem Value} {Q : Value → Shared → Prop} (h : wpS M A m Q E s) : wpS M A (operate vs m) Q E s :=
  fun Γ p hΓ hn => by rw [Sem.wp_operate]; exact h Γ p hΓ hn
theorem wpS_standAt {pos : Pos} {Q : Unit → Shared → Prop} (h : Q () s) : wpS M A (standAt pos) Q E s := wpS_of_any (wpAny_standAt h)
theorem wpS_stack {Q : List (Code × Pos) → Shared → Prop} (h : ∀ st, noHold st = true → Q st s) : wpS M A stack Q E s := fun Γ p _ hn => by
  show Q ((Γ.code, p) :: Γ.below) s
  exact h _ hn
theorem wpS_ite {c : Prop} [Decidable c] {a b : Sem α} {Q : α → Shared → Prop} (h1 : c → wpS M A a Q E s) (h2 : ¬ c → wpS M A b Q E s) : wpS M A (if c then a else b) Q E s := by
  by_cases hc : c
  · rw [if_pos hc]; exact h1 hc
  · rw [if_neg hc]; exact h2 hc

theorem wpS_run {c : Code} {Q : Flow → Shared → Prop}
    (hc : codeS M A c (fun r s' => match r with | .ok f => Q f s' | .error e => E e s') s) : wpS M A (run c none) Q E s :=
  fun Γ p hΓ hn => by rw [Sem.wp_run]; exact hc _ p rfl (hΓ.enter c none p (by intro x; cases x)) hn
theorem wpS_runValue {c : Code} {Q : Value → Shared → Prop}
    (hc : codeS M A c (fun r s' => match r with | .ok (.ret v) => Q v s' | .ok _ => False | .error e => E e s') s) : wpS M A (runValue c) Q E s :=
  fun Γ p hΓ hn => by rw [Sem.wp_runValue]; exact hc _ p rfl (hΓ.enter c none p (by intro x; cases x)) hn
theorem wpS_call {f : Value} {pos : List Value} {kw : List (Str × Value)} {Q : Value → Shared → Prop}
    (hc : codeS M A (.call f ⟨pos, kw⟩) (fun r s' => match r with | .ok (.ret v) => Q v s' | .ok _ => False | .error e => E e s') s) : wpS M A (call f pos kw) Q E s := wpS_runValue hc

theorem codeS_of_tree {c : Code} {R : Result → Shared → Prop} (hb : holdsBuf c = false)
    (h : wpS M (A.under c) (M.den c) (fun fin s' => match fin with | .done f => R (.ok f) s' | .again c' => c'.quiet = true ∧ codeS M A c' R s')
      (fun e s' => R (.error e) s') s) : codeS M A c R s := fun Γ p hc hΓ hn => by
  rw [wpCode_iff_wp, hc]
  refine Sem.wp_mono M Γ _ (fun fin p' s' h' => ?_) (fun _ _ _ h' => h') p s (h Γ p (hc ▸ hΓ.in) (noHold_cons.mpr ⟨hc ▸ hb, hn⟩))
  cases fin with
  | done f => exact h'
  | again c' => exact ⟨h'.1, h'.2 (Γ.goto c') p' rfl (hΓ.goto c') hn⟩
theorem codeS_loop {c : Code} {R : Result → Shared → Prop} (hb : holdsBuf c = false) (hq : c.quiet = true) (I : Nat → Shared → Prop)
    (turn : ∀ n s, I n s → wpS M (A.under c) (M.den c)
      (fun fin s' => match fin with | .done f => R (.ok f) s' | .again c' => (c' = c ∧ ∃ m, m < n ∧ I m s') ∨ (c'.quiet = true ∧ codeS M A c' R s')) (fun e s' => R (.error e) s') s)
    (n : Nat) (h : I n s) : codeS M A c R s := by
  induction n using Nat.strongRecOn generalizing s with
  | ind n ih =>
    refine codeS_of_tree hb (wpS_mono (turn n s h) (fun fin s' hf => ?_) fun _ _ h' => h')
    cases fin with
    | done f => exact hf
    | again c' =>
      rcases hf with ⟨rfl, m, hm, hI⟩ | hf
      · exact ⟨hq, ih m hm hI⟩
      · exact hf
end
theorem exported_none {M : Model} {A : Around} {E : Value → Shared → Prop} {s : Shared} {self : Value} {Q : Bool → Shared → Prop} (h : Q false s) : wpS M A (Builtin.Bytes.exported self) Q E s := by
  unfold Builtin.Bytes.exported
  refine wpS_bind (wpS_stack fun st hst => wpS_pure ?_)
  have e : ∀ f : Code × Pos → Bool, (∀ x, holdsBuf x.1 = false → f x = false) → st.any f = false := by
    intro f hf
    rw [List.any_eq_false]
    intro x hx
    rw [hf x]
    · decide
    · have := List.all_eq_true.mp hst x hx
      simpa using this
  rw [e]
  · exact h
  · rintro ⟨c, p⟩ hc
    cases c <;> try rfl
    rename_i id args
    obtain ⟨pos, kw⟩ := args
    simp only [holdsBuf] at hc
    split
    all_goals first
      | rfl
      | (exfalso; revert hc; rename_i heq; injection heq with h1 h2; injection h1 with h3 h4; subst h3; decide)
      | skip
    rename_i heq
    injection heq with h1 h2
    injection h1 with h3 h4
    subst h3
    have : Builtin.Bytes.decodersThatHold.contains id = false := by
      cases hq : Builtin.Bytes.decodersThatHold.contains id with
      | false => rfl
      | true =>
        have : holders.contains id = true := by
          unfold holders
          rw [List.contains_eq_mem] at hq ⊢
          simp only [decide_eq_true_eq] at hq ⊢
          exact List.mem_append_right _ hq
        rw [this] at hc; cases hc
    rw [this, Bool.and_false]

section
variable {prog : Program} {w : World} {A : Around} {E : Value → Shared → Prop} {s : Shared} {env : Env}
theorem wpS_execs_nil {Q : Flow → Shared → Prop} (h : Q .next s) : wpS (model prog w) A (execs [] env) Q E s := wpS_of_any (wpAny_execs_nil h)
theorem wpS_execs_cons {st : Stmt} {rest : List Stmt} {Q : Flow → Shared → Prop}
    (h : wpS (model prog w) A (exec st env) (fun f s' => match f with | .next => wpS (model prog w) A (execs rest env) Q E s' | f => Q f s') E s) : wpS (model prog w) A (execs (st :: rest) env) Q E s := by
  rw [execs_cons]
  refine wpS_bind (wpS_mono h (fun f s' h' => ?_) fun _ _ x => x)
  cases f with
  | next => exact h'
  | _ => exact wpS_pure h'
/-- a statement that asks nothing of the stack -/
theorem wpS_execs_any {st : Stmt} {rest : List Stmt} {Q : Flow → Shared → Prop}
    (h : wpAny (model prog w) A (exec st env) (fun f s' => match f with | .next => wpS (model prog w) A (execs rest env) Q E s' | f => Q f s') E s) : wpS (model prog w) A (execs (st :: rest) env) Q E s :=
  wpS_execs_cons (wpS_of_any h)
theorem wpS_noted {m : Sem Fin} {Q : Fin → Shared → Prop} (h : wpS (model prog w) A m Q (fun _ _ => False) s) : wpS (model prog w) A (m.onRaise fun x => do noteFrame x env; theTreesLotGoes x) Q E s :=
  wpS_onRaise (wpS_mono h (fun _ _ q => q) fun _ _ x => x.elim)
theorem wpS_runOwn {c : Code} {Q : Flow → Shared → Prop}
    (hc : codeS (model prog w) A c (fun r s' => match r with | .ok f => Q f s' | .error e => False) s) : wpS (model prog w) A (runOwn c env none) Q E s := by
  unfold runOwn
  refine wpS_onRaise (wpS_run (codeS_mono hc fun r s' h => ?_))
  cases r with
  | ok f => exact h
  | error e => exact h.elim
theorem codeS_func {body : List Stmt} {R : Result → Shared → Prop}
    (h : wpS (model prog w) (A.deeper env) (execs body env) (fun f s' => R (.ok (.ret (match f with | .ret v => v | _ => .none))) s') (fun _ _ => False) s) : codeS (model prog w) A (.func body env) R s := by
  refine codeS_of_tree rfl ?_
  show wpS _ (A.deeper env) (do point; match ← (execs body env).onRaise (leaving env) with | .ret v => ret v | _ => ret .none) _ _ s
  refine wpS_bind_any (wpAny_point (wpS_bind (wpS_onRaise (wpS_mono h (fun f s' h' => ?_) fun _ _ x => x.elim))))
  cases f <;> exact wpS_pure h'
end

section
variable {prog : Program} {w : World} {A : Around} {E : Value → Shared → Prop} {s : Shared} {env : Env} {h₀ : Heap} {L : Addr}
/-- a turn's end: the frame and the ledger as J says -/
def TurnS (h₀ : Heap) (L : Addr) (s : Shared) (J : (Str → Option Value) → List (Addr × Obj) → Prop) (f : Flow) (s' : Shared) : Prop :=
  f = .next ∧ ∃ h' tk m' news', s' = { s with heap := h', toks := tk } ∧ Fr h₀ L h' m' ∧ News h₀ L h' news' ∧ J m' news'

theorem While_S {test : Expr} {body : List Stmt} {pos : Pos} {m : Str → Option Value} {news : List (Addr × Obj)} {Q : Flow → Shared → Prop} (J : Nat → (Str → Option Value) → List (Addr × Obj) → Prop) {n₀ : Nat}
    (F : Fr h₀ L s.heap m) (N : News h₀ L s.heap news) (hJ : J n₀ m news)
    (turn : ∀ n m₁ news₁ h₁ tk₁, Fr h₀ L h₁ m₁ → News h₀ L h₁ news₁ → J n m₁ news₁ →
      wpS (model prog w) A (isTrue test env (eval test env)) (fun b s₂ =>
        if b = true then wpS (model prog w) A (execs body env) (TurnS h₀ L s fun m' nw => ∃ n', n' < n ∧ J n' m' nw) (fun _ _ => False) s₂ else Q .next s₂) (fun _ _ => False) { s with heap := h₁, toks := tk₁ }) :
    wpS (model prog w) A (exec (.While test body [] pos) env) Q E s := by
  rw [exec_While]
  refine wpS_bind_any (wpAny_standAt (wpS_runOwn ?_))
  refine codeS_loop rfl rfl (fun n s' => ∃ h₁ tk₁ m₁ news₁, s' = { s with heap := h₁, toks := tk₁ } ∧ Fr h₀ L h₁ m₁ ∧ News h₀ L h₁ news₁ ∧ J n m₁ news₁) (fun n s' hI => ?_) n₀ ⟨s.heap, s.toks, m, news, rfl, F, N, hJ⟩
  obtain ⟨h₁, tk₁, m₁, news₁, rfl, F₁, N₁, J₁⟩ := hI
  show wpS _ A ((whileTurn test body [] env).onRaise (fun x => do noteFrame x env; theTreesLotGoes x)) _ _ _
  refine wpS_noted ?_
  simp only [whileTurn]
  refine wpS_bind (wpS_mono (turn n m₁ news₁ h₁ tk₁ F₁ N₁ J₁) (fun b s₂ h₂ => ?_) fun _ _ x => x)
  cases b with
  | false =>
    simp only [Bool.false_eq_true, if_false] at h₂ ⊢
    exact wpS_bind_any (wpAny_execs_nil (wpS_pure h₂))
  | true =>
    simp only [if_true] at h₂ ⊢
    refine wpS_bind (wpS_mono h₂ (fun f s₃ h₃ => ?_) fun _ _ x => x)
    obtain ⟨rfl, h', tk, m', news', rfl, F', N', n', hn, hj⟩ := h₃
    exact wpS_pure (.inl ⟨rfl, n', hn, h', tk, m', news', rfl, F', N', hj⟩)

/-- the iterator over a range, as it stands at its i-th turn -/
def itObj (a : Int) (n i : Nat) : Obj := { cls := .type "range_iterator", dict := none, data := .fields #[rawInt (a + (i : Nat)), rawInt ((n : Int) - (i : Nat)), rawInt 1], slots := #[] }
theorem News_upd {h h' : Heap} {I : Addr} {o o' : Obj} {news : List (Addr × Obj)} (N : News h₀ L h ((I, o) :: news)) (hd : ∀ p ∈ news, p.1 ≠ I) (hs : Heap.SameBut I h h') (ho : h'.get? I = some o') : News h₀ L h' ((I, o') :: news) := by
  intro p hp
  rcases List.mem_cons.mp hp with rfl | hp
  · exact ⟨ho, (N (I, o) (.head _)).2.1, (N (I, o) (.head _)).2.2⟩
  · have z := N p (.tail _ hp)
    exact ⟨(hs.2 p.1 (hd p hp)).trans z.1, z.2.1, z.2.2⟩
theorem News_ext {h h' : Heap} {I : Addr} {news : List (Addr × Obj)} (N : News h₀ L h news) (hd : ∀ p ∈ news, p.1 ≠ I) (he : Heap.ExtBut I h h') : News h₀ L h' news :=
  fun p hp => ⟨he p.1 p.2 (hd p hp) (N p hp).1, (N p hp).2.1, (N p hp).2.2⟩
theorem Fr_upd {h h' : Heap} {I : Addr} {m : Str → Option Value} (F : Fr h₀ L h m) (hL : I ≠ L) (h0 : h₀.get? I = none) (hs : Heap.SameBut I h h') : Fr h₀ L h' m :=
  ⟨F.ns.sameBut hs (Ne.symm hL), fun b o e => (hs.2 b (fun q => by subst q; rw [h0] at e; cases e)).trans (F.keep b o e), F.above⟩
theorem Fr_ext {h h' : Heap} {I : Addr} {m : Str → Option Value} (F : Fr h₀ L h m) (hL : I ≠ L) (h0 : h₀.get? I = none) (he : Heap.ExtBut I h h') : Fr h₀ L h' m :=
  ⟨F.ns.extBut he (Ne.symm hL), fun b o e => he b o (fun q => by subst q; rw [h0] at e; cases e) (F.keep b o e), F.above⟩

/-- a for over a range that is made, whose turns may ask the stack -/
theorem ForS_go {x : Str} {px pos : Pos} {iter : Expr} {body : List Stmt} {m : Str → Option Value} {news : List (Addr × Obj)} {Q : Flow → Shared → Prop} {r : Addr} {a b : Int} {t u v : Tok} {n : Nat}
    (J : Nat → (Str → Option Value) → List (Addr × Obj) → Prop)
    (hf : foldedSetIterable iter env (.ref r) = pure (.ref r)) (hh : A.handled = none) (hx : env.kindOf x = some .local)
    (hp : (env.scope.kind == .class || (env.scope.kind == .module && env.locals != env.globals)) = false) (hL : env.locals = L)
    (hr : IsRange s.heap r a b 1 t u v) (hsmall : Builtin.Range.small a b 1 = true) (hn : Builtin.Range.rangeSize a b 1 = (n : Int))
    (F : Fr h₀ L s.heap m) (N : News h₀ L s.heap news) (hJ : J 0 m news)
    (turn : ∀ i I m₁ news₁ h₁ tk₁ tk, i < n → J i m₁ news₁ → (∀ p ∈ news₁, p.1 ≠ I) → Fr h₀ L h₁ (fun y => if y = x then some (.int (a + (i : Nat)) tk) else m₁ y) → News h₀ L h₁ ((I, itObj a n (i + 1)) :: news₁) →
      wpS (model prog w) A (execs body env) (TurnS h₀ L s fun m' nw => ∃ news', nw = (I, itObj a n (i + 1)) :: news' ∧ (∀ p ∈ news', p.1 ≠ I) ∧ J (i + 1) m' news') (fun _ _ => False) { s with heap := h₁, toks := tk₁ })
    (done : ∀ m₁ news₁ h₁ tk₁, J n m₁ news₁ → Fr h₀ L h₁ m₁ → News h₀ L h₁ news₁ → Q .next { s with heap := h₁, toks := tk₁ }) :
    wpS (model prog w) A (do let x' ← foldedSetIterable iter env (.ref r); standAt iter.pos; runOwn (.forLoop (.Name x px) (← holding [x'] (pyIter x')) body [] env) env) Q E s := by
  subst hL
  rw [hf]
  refine wpS_bind_any (wpAny_pure (wpS_bind_any (wpAny_standAt (wpS_bind_any (wpAny_holding (wpAny_pyIter_range hr hsmall ?_))))))
  rw [hn]
  refine wpS_runOwn ?_
  have N0 : News h₀ env.locals (s.heap.push (itObj a n 0)) ((s.heap.objs.size, itObj a n 0) :: news) := News.push F N _
  have F0 : Fr h₀ env.locals (s.heap.push (itObj a n 0)) m := F.push _
  have hd0 : ∀ p ∈ news, p.1 ≠ s.heap.objs.size := fun p hp => Nat.ne_of_lt (Heap.lt_size (N p hp).1)
  have e0 : s.heap.push { cls := .type "range_iterator", data := .fields #[rawInt a, rawInt (n : Int), rawInt 1] } = s.heap.push (itObj a n 0) := by
    unfold itObj; simp
  rw [e0]
  generalize s.heap.objs.size = I at N0 hd0
  refine codeS_loop rfl rfl (fun k s' => ∃ i h₁ tk₁ m₁ news₁, s' = { s with heap := h₁, toks := tk₁ } ∧ i ≤ n ∧ k = n - i ∧ (∀ p ∈ news₁, p.1 ≠ I) ∧ Fr h₀ env.locals h₁ m₁ ∧ News h₀ env.locals h₁ ((I, itObj a n i) :: news₁) ∧ J i m₁ news₁) (fun k s' hI => ?_) n
    ⟨0, _, s.toks, m, news, rfl, Nat.zero_le _, rfl, hd0, F0, N0, hJ⟩
  obtain ⟨i, h₁, tk₁, m₁, news₁, rfl, hi, rfl, hd, F₁, N₁, J₁⟩ := hI
  show wpS _ A ((forTurn (.Name x px) (.ref I) body [] env).onRaise (fun x => do noteFrame x env; theTreesLotGoes x)) _ _ _
  refine wpS_noted ?_
  simp only [forTurn]
  have z := N₁ (I, itObj a n i) (.head _)
  have hit : IsRangeIter h₁ I (a + (i : Nat)) ((n : Int) - (i : Nat)) 1 := z.1
  refine wpS_bind_any (wpAny_standAt ?_)
  by_cases hlt : i < n
  · refine wpS_bind_any (wpAny_onRaise (wpAny_pyNext_range_item hit (by omega) fun h₂ hit₂ hs₂ => ?_))
    dsimp only
    refine wpS_bind_any (wpAny_pure ?_)
    have it2 : h₂.get? I = some (itObj a n (i + 1)) := by
      rw [hit₂]; unfold itObj
      have q1 : a + (i : Int) + 1 = a + ((i + 1 : Nat) : Int) := by push_cast; omega
      have q2 : (n : Int) - (i : Int) - 1 = (n : Int) - ((i + 1 : Nat) : Int) := by push_cast; omega
      rw [q1, q2]
    have F₂ := Fr_upd F₁ z.2.1 z.2.2 hs₂
    have N₂ := News_upd N₁ hd hs₂ it2
    refine wpS_bind_any (wpAny_assign_Name (wpAny_storeName_local hx F₂.ns (fun h₃ hn₃ hs₃ => ?_) hp))
    refine wpS_bind (wpS_mono (turn i I m₁ news₁ h₃ _ _ hlt J₁ hd (F₂.set hn₃ hs₃) (N₂.set hs₃)) (fun f s₃ h₄ => ?_) fun _ _ x => x)
    obtain ⟨rfl, h', tk, m', nw, rfl, F', N', news', rfl, hd', hj⟩ := h₄
    exact wpS_pure (.inl ⟨rfl, n - (i + 1), by omega, i + 1, h', tk, m', news', rfl, hlt, rfl, hd', F', N', hj⟩)
  · have hin : i = n := by omega
    subst hin
    refine wpS_bind_any (wpAny_onRaise (wpAny_pyNext_range_end hh hit (by omega) fun h₂ he₂ => ?_))
    dsimp only
    refine wpS_pure (.inr ⟨rfl, codeS_of_any (codeAny_block (wpAny_execs_nil ?_))⟩)
    exact done m₁ news₁ h₂ tk₁ J₁ (Fr_ext F₁ z.2.1 z.2.2 he₂) (News_ext (fun p hp => N₁ p (.tail _ hp)) hd he₂)
end

section
variable {prog : Program} {w : World} {A₀ A : Around} {s : Shared} {K : Frag} {L : Addr} {h₀ base : Heap} {m mg mb : Str → Option Value} {news : List (Addr × Obj)} {p : Program} {loose : List Str} {mean : ExcName → Option Value}
/-- a def is entered: its body asks the stack, and never raises -/
theorem codeS_def {env : Env} {outer : List Env} {R : Result → Shared → Prop} {name qual : Str} {params : Arguments} {body : List Stmt} {scope : Scope} {dV kV doc pm cdv ct oc : Value} {an od : Option Addr} {osl : Array (Option Value)} {f : Addr} {args : Args} {binds : List (Str × Value)}
    (B : Below A₀ base outer h₀) (F : Fr h₀ L s.heap m) (X₀ : K.In h₀) (N : News h₀ L s.heap news) (T : Top p loose mean mg mb h₀) (hA : A.frames = some (env :: outer)) (hf : env.frame = some L) (hke : env.scope.kind = .function)
    (ho : K.lookup f = some ⟨oc, od, .func (fnOf name qual params body scope dV kV doc pm an cdv ct), osl⟩) (hcd : codeIn K cdv qual = true) (hroom : A.depth < recursionLimit)
    (hbind : BindsTo s (fnOf name qual params body scope dV kV doc pm an cdv ct) args binds) (hloc : ∀ y ∈ binds, scope.names.lookup y.1 = some .local)
    (h : ∀ g L' h₁, Fr h₀ L g m → Fr g L' h₁ (fun y => binds.reverse.lookup y) → News g L' h₁ news → Below A base (env :: outer) g → K.In g → Top p loose mean mg mb g →
      wpS (model prog w) (A.deeper (envOf qual scope L' f cdv)) (execs body (envOf qual scope L' f cdv))
        (fun fl s' => LeaveK h₀ L m g R (match fl with | .ret v => v | _ => .none) s') (fun _ _ => False)
        { s with heap := h₁, toks := s.toks + binds.length })
    (hco : scope.isCoroutine = false) (hgen : scope.isGenerator = false) (hk : scope.kind = .function)
    (hcell : ∀ x ∈ scope.names, x.2 ≠ .cell) : codeS (model prog w) A (.call (.ref f) args) R s := by
  obtain ⟨FG, BG, st, lv⟩ := groundX (R := R) B F N hA hf hke
  have hob := (X₀.keeps F.keep) _ _ ho
  obtain ⟨c, oc', vs, tq, hc, hoc, hdc, hq⟩ := codeRec_of (X₀.keeps F.keep) hcd
  refine codeS_of_tree rfl ?_
  show wpS _ A.in1 (callAny (.ref f) args) _ _ s
  simp only [callAny]
  refine wpS_bind_any (wpAny_load hob ?_)
  simp only [callFunction, hco, hgen, hc]
  refine wpS_bind_any (m := field (.ref c) 1) (wpAny_field hoc hdc hq (wpS_bind_any (wpAny_pure ?_)))
  rw [hc] at hbind
  refine wpS_bind_any (hbind _ _ _ _ ?_)
  refine wpS_bind_any (wpAny_newFunctionEnv hcell hloc (fun h₁ hns hsb => ?_) hk)
  have hlim : Heap.NoLimit h₁ := (T.nolimit.keeps F.keep).fresh _ hsb
  refine wpS_bind_any (wpAny_enterFrame hlim hroom (wpS_pure ⟨rfl, codeS_func ?_⟩))
  have hk₁ : ∀ b o, s.heap.get? b = some o → h₁.get? b = some o := fun b o e => hsb.extBut b o (Nat.ne_of_lt (Heap.lt_size e)) (Heap.get?_push_of_some _ e)
  subst hc
  exact wpS_mono (h _ s.heap.objs.size h₁ FG ⟨hns, fun b o e => hk₁ b o (of_hideAll _ e), Nat.le_of_eq (hideAll_size _ _)⟩
    (fun p hp => ⟨hk₁ _ _ (N p hp).1, Nat.ne_of_lt (Heap.lt_size (N p hp).1), hideAll_none _ (List.mem_map_of_mem hp)⟩) BG (X₀.keeps st) (T.keeps st)) (fun fl s' hl => lv _ _ hl) fun _ _ y => y
end
end Mine
end
section
open PySem PySem.W PySem.Calls PyProof.Rows
set_option Elab.async false
set_option linter.unusedVariables false
namespace Mine
/-- a thread that starts where the caller stands, its stack bearing nothing that holds a buffer -/
theorem caller_ends {prog : Program} {w : World} {t : Sem Fin} {s : Shared} {R : Result → Shared → Prop} (hz : s.asleep)
    (h : wpS (model prog w) callerA t (fun fin s' => ∃ f, fin = .done f ∧ R (.ok f) s' ∧ leftWithCleanup s'.gens = false) (fun e s' => R (.error e) s' ∧ leftWithCleanup s'.gens = false) s) :
    ∃ n r s' s'', schedN (denote table) prog w n (.single s ⟨t, .builtin "claim.caller" {}, default, []⟩) = .halted (outcomeOf r) s' ∧
      runN (denote table) prog w n s ⟨t, .builtin "claim.caller" {}, default, []⟩ = .halted (outcomeOf r) s' ∧ s'.forget = s''.forget ∧ R r s'' := by
  have h₀ := h ⟨.builtin "claim.caller" {}, none, none, [], none⟩ default caller_in (by decide +kernel)
  have h₁ : Sem.wp (model prog w) ⟨.builtin "claim.caller" {}, none, none, [], none⟩ t
      (Sem.finPost (model prog w) ⟨.builtin "claim.caller" {}, none, none, [], none⟩ fun r s' => R r s' ∧ leftWithCleanup s'.gens = false)
      (fun e _ s' => R (.error e) s' ∧ leftWithCleanup s'.gens = false) default s := by
    refine Sem.wp_mono _ _ t (fun fin p' s' h' => ?_) (fun _ _ _ h' => h') default s h₀
    obtain ⟨f, rfl, hf⟩ := h'
    exact hf
  obtain ⟨n, r, s', s'', hs, hn, hfo, hR⟩ := wp_halts_full (M := model prog w) hz h₁
  exact ⟨n, r, s'', s', hs, hn, hfo, hR⟩

abbrev WalkS (q : Program) (loose : List Str) (XP : (Str → Option Value) → Heap → Prop) (YP : World → Heap → Prop) (r : RowW) (d : DefRec) (kwd : List (Str × Expr)) : Prop :=
  ∀ (w : World) (s₀ s₁ : Shared) (mg mb : Str → Option Value), Ground q loose r.records XP w s₀ mg mb s₁.heap → YP w s₁.heap → ∀ (a : Addr) (o : Obj) (pm cd doc dV kV : Value), s₁.heap.get? a = some o →
    o.data = .func { docDef d.name d.params d.body d.scope pm cd doc with defaults := dV, kwdefaults := kV } → s₁.heap.CodeRec cd d.name → Dflts mg s₁.heap d.params kwd dV kV → mg d.name = some (.ref a) → s₁.gens = #[] →
    ∀ (args : List WData) (vals : List Value) (as : List Addr), r.claim.pre args = true → WData.layableAll args = true → ReadsAllW r.records (classAt s₀.heap) s₁.heap vals args as → WellAll w.params s₁.heap vals args → (∀ a ∈ as, (a == sysModules) = false) →
      wpS (model r.prog w) callerA (PySem.call (.ref a) vals) (fun v s' => GoodWG r.claim (classAt s₀.heap) (ExcName.means s₀.heap) args s₁ (.ok (.ret v)) s') (fun _ _ => False) s₁
end Mine
namespace Mine.Hd
/-- the head for a call over such contexts; its name is the one that the library's own line looks for -/
theorem PySem.W.holds_open {r : OpenRow} {q : Program} {loose : List Str} {Xt : Shared → Bool} {XP : (Str → Option Value) → Heap → Prop} {α : Type} {Yf : Shared → α} {Ya : World → α} {YP : World → Heap → Prop} {d : DefRec} {kwd : List (Str × Expr)} {N : Nat}
    (left : LeftO r.prog q loose Xt Yf Ya N) (hY : ∀ w s, Yf s = Ya w → YP w s.heap) (hYk : ∀ w h h', YP w h → (∀ b o, h.get? b = some o → h'.get? b = some o) → YP w h')
    (hX : ∀ s, Xt s = true → XP (s.heap.nsMap mainGlobals) s.heap) (hXk : ∀ mg h h', XP mg h → (∀ b o, h.get? b = some o → h'.get? b = some o) → XP mg h')
    (hdef : defOf q r.name = some (d, kwd)) (hp : r.prog.theDef r.name = some (d.params, d.body, d.scope)) (hk : kwWritten? d.params.kwonlyargs d.params.kw_defaults = some kwd) (hRf : ∀ s, Xt s = true → RecFacts r.records s.heap) (hwr : (!r.writes || r.records.isEmpty) = true)
    (k1 : r.wellSaid = true) (ok : (chainsOk q && opensWell r.prog && (frees r.toRowW && r.within.isEmpty)) = true) (hb : r.prog.bare) (hw : r.toRowW.promised)
    (call : Mine.WalkS q loose XP YP r.toRowW d kwd) : r.Holds := by
  have ⟨ok1, k5⟩ := Bool.and_eq_true_iff.mp ok
  have ⟨hch, o1⟩ := Bool.and_eq_true_iff.mp ok1
  have ⟨k6, k7⟩ := Bool.and_eq_true_iff.mp k5
  obtain ⟨hsame, hu, ha, hap, hm⟩ := frees_parts k6
  have hi := ident_freeW hu ha hap
  have hwi : r.toRowW.claim.within = [] := List.isEmpty_iff.mp k7
  refine ⟨k1, hw, ⟨hb, o1, by show r.makers.map _ = []; rw [hm]; rfl⟩, hw.witness, fun w => ?_⟩
  have Z := left.behind (XP := fun mg h => XP mg h ∧ RecFacts r.records h) (fun s hs => ⟨hX s hs, hRf s hs⟩) hch w
  refine ⟨Z.1, fun s' hs' => ?_⟩
  obtain ⟨s₀, hf, hg0, s, hT, hz, hgens, hg, G00, y⟩ := Z.2 s' hs'
  have RF := G00.X.2
  have G0 : Ground q loose [] XP w s (s.heap.nsMap mainGlobals) (s.heap.nsMap builtinsNs) s.heap := ⟨G00.T, G00.B, G00.D, G00.TE, G00.TD, G00.W, G00.X.1, G00.cls, G00.has, G00.apart, G00.once, G00.K⟩
  have hge : s.gens = #[] := Array.eq_empty_of_size_eq_zero (beq_iff_eq.mp hgens)
  have G : Ground q loose r.records XP w s _ _ s.heap := RF.ground G0
  refine ⟨s₀, hf, hg0, s, hT, fun n hn => ?_, RF.1, RF.2.1, ?_⟩
  · obtain rfl : n = r.name := by split at hn <;> simp_all
    exact pinned_of_view hg G0 hdef hp hk
  intro args hpre hlay ord hord
  obtain ⟨⟨vs, s₁⟩, hlaid⟩ := Option.isSome_iff_exists.mp (layAllW_isSome (P := w.params) (ord := ord) G.has args r.args s (pre_splitW hpre).1)
  have keeps := layAllW_keeps _ _ _ hlaid
  have hal := layAllW_rest _ _ _ hlaid
  obtain ⟨as, hrd, hin, hold⟩ := reads_layAllW hord _ _ _ hlaid hlay s₁.heap (fun _ _ e => e)
  have L : Laid r.records w s s₁ args vs as := ⟨⟨ord, hord, hlaid⟩, hrd, hin, hold, keeps, hal.1.trans hge, hal.2.2.1⟩
  have G₁ := G.keeps hXk keeps
  obtain ⟨a, o, pm, cd, doc, dV, kV, h1, h2, h3, h4, h5⟩ := G₁.fn hdef
  have W := call w s s₁ _ _ G₁ (hYk _ _ _ (hY w s y) keeps) a o pm cd doc dV kV h2 h3 h4 h5 (defOf_name hdef ▸ h1) L.gens args vs as hpre hlay L.reads L.well (L.low G.low)
  have T : Mine.wpS (model r.prog w) callerA (do match ← nsGet mainNs r.name with
      | some f => do ret (← PySem.call f vs)
      | none => unsupported "claim.caller:no-such-global")
      (fun fin s' => ∃ f, fin = .done f ∧ (r.toRowW.claim.Ends s args vs s₁ (.ok f) s' ∧ s'.os = s.os ∧ (r.writes = true → namesKept r.prog r.keeps s.heap s'.heap ∧ ∀ x ∈ r.records, ∀ a, classAt s.heap x.1 = some a → recordClass s'.heap a x.1 (x.2.map (·.1)) = true)) ∧ leftWithCleanup s'.gens = false)
      (fun e s' => (r.toRowW.claim.Ends s args vs s₁ (.error e) s' ∧ s'.os = s.os ∧ (r.writes = true → namesKept r.prog r.keeps s.heap s'.heap ∧ ∀ x ∈ r.records, ∀ a, classAt s.heap x.1 = some a → recordClass s'.heap a x.1 (x.2.map (·.1)) = true)) ∧ leftWithCleanup s'.gens = false) s₁ := by
    refine Mine.wpS_bind_any (wpAny_nsGet G₁.T.g ?_)
    rw [h1]
    refine Mine.wpS_bind (Mine.wpS_mono W (fun v s' g => Mine.wpS_pure ⟨_, rfl, ?_⟩) fun _ _ x => x.elim)
    have z := g.laid (c := r.toRowW.claim) hsame hwi hi L
    exact ⟨⟨z.1, z.2.1, fun q => ⟨namesKept_of hT hg r.keeps keeps g.2.1.old, noTable hwr q⟩⟩, leftWithCleanup_false_of_bare z.2.2⟩
  obtain ⟨k, res, s', s'', hsched, hrun, hfo, hcase, hos, hkp⟩ := Mine.caller_ends (s := s₁) (R := fun res s' => r.toRowW.claim.Ends s args vs s₁ res s' ∧ s'.os = s.os ∧ (r.writes = true → namesKept r.prog r.keeps s.heap s'.heap ∧ ∀ x ∈ r.records, ∀ a, classAt s.heap x.1 = some a → recordClass s'.heap a x.1 (x.2.map (·.1)) = true)) (Shared.asleep_of_life hal.2.2.2 hz) T
  obtain ⟨eh, _, _, eo, _⟩ := Shared.forget_eq hfo
  have hcase := hcase.congr eh
  rw [← eh] at hkp
  rw [← eo] at hos
  have hlife : s'.heap.life = s.heap.life := (runN_life _ _ _ hrun).trans hal.2.2.2
  refine ⟨vs, s₁, hlaid, k, _, s', hsched, ?_, (fun _ i x hx => by rw [hge] at hx; simp at hx), hkp, by rw [hlife], Shared.rest_eq hos⟩
  rcases hcase with ⟨v, rfl, d1, d2, d3, d4, d5⟩ | ⟨e, ob, cls, rfl, d1, d2, d3, d4, d5⟩
  · exact .inl ⟨v, rfl, d1, d2, d3, fun b o y _ => d4 b o y, d5⟩
  · exact .inr ⟨e, ob, cls, rfl, d1, d2, d3, d4, fun b o y _ => d5 b o y⟩
end Mine.Hd
end
section
open PySem PySem.W PySem.Calls PyProof.Rows
set_option Elab.async false
set_option maxRecDepth 100000
set_option maxHeartbeats 8000000
namespace Mine.Hd
open_top hd for PySem.Challenge.rw_fc5003_01
end Mine.Hd
end
section
open PySem PySem.W PySem.Calls PyProof.Rows
set_option Elab.async false
set_option linter.unusedVariables false
set_option maxRecDepth 100000
namespace Mine
section
theorem if_f {α : Type} {M : Model} {A : Around} {E : Value → Shared → Prop} {s : Shared} {c : Bool} {a b : Sem α} {Q : α → Shared → Prop} (hc : c = false) (h : wpAny M A b Q E s) : wpAny M A (if c = true then a else b) Q E s := by
  subst hc; exact h
theorem if_t {α : Type} {M : Model} {A : Around} {E : Value → Shared → Prop} {s : Shared} {c : Bool} {a b : Sem α} {Q : α → Shared → Prop} (hc : c = true) (h : wpAny M A a Q E s) : wpAny M A (if c = true then a else b) Q E s := by
  subst hc; exact h

theorem slot_translate : Slot "bytes" "translate" "bytes.translate" :=
  .of (owner := "bytes") (n := "translate") (by rw [typeLookup_type, builtinLookup_eq_fast]; kernel_rfl) (by decide +kernel) (by decide +kernel) (by decide +kernel)
    (by first | exact .inl (by decide +kernel) | exact .inr (by decide +kernel)) (by rw [isSubtype_type]; kernel_rfl)
theorem type_translate : typeOf (.builtin "bytes.translate") = pure (.type "method_descriptor") := by show builtinType _ = _; rw [builtinType_eq_fast]; kernel_rfl
theorem entry_translate : entryFor table "bytes.translate" = some Builtin.«bytes.translate» := entryFor_of_tree (by kernel_rfl)
theorem args_translate2 (a b : Value) : argsOk "bytes.translate" ⟨[a, b], []⟩ := by unfold argsOk; kernel_rfl
theorem args_translate3 (a b c : Value) : argsOk "bytes.translate" ⟨[a, b, c], []⟩ := by unfold argsOk; kernel_rfl
theorem slot_lstrip : Slot "bytes" "lstrip" "bytes.lstrip" :=
  .of (owner := "bytes") (n := "lstrip") (by rw [typeLookup_type, builtinLookup_eq_fast]; kernel_rfl) (by decide +kernel) (by decide +kernel) (by decide +kernel)
    (by first | exact .inl (by decide +kernel) | exact .inr (by decide +kernel)) (by rw [isSubtype_type]; kernel_rfl)
theorem type_lstrip : typeOf (.builtin "bytes.lstrip") = pure (.type "method_descriptor") := by show builtinType _ = _; rw [builtinType_eq_fast]; kernel_rfl
theorem entry_lstrip : entryFor table "bytes.lstrip" = some Builtin.«bytes.lstrip» := entryFor_of_tree (by kernel_rfl)
theorem args_lstrip2 (a b : Value) : argsOk "bytes.lstrip" ⟨[a, b], []⟩ := by unfold argsOk; kernel_rfl
theorem slot_hex : Slot "bytes" "hex" "bytes.hex" :=
  .of (owner := "bytes") (n := "hex") (by rw [typeLookup_type, builtinLookup_eq_fast]; kernel_rfl) (by decide +kernel) (by decide +kernel) (by decide +kernel)
    (by first | exact .inl (by decide +kernel) | exact .inr (by decide +kernel)) (by rw [isSubtype_type]; kernel_rfl)
theorem type_hex : typeOf (.builtin "bytes.hex") = pure (.type "method_descriptor") := by show builtinType _ = _; rw [builtinType_eq_fast]; kernel_rfl
theorem entry_hex : entryFor table "bytes.hex" = some Builtin.«bytes.hex» := entryFor_of_tree (by kernel_rfl)
theorem args_hex1 (a : Value) : argsOk "bytes.hex" ⟨[a], []⟩ := by unfold argsOk; kernel_rfl
end
section
variable {prog : Program} {w : World} {M : Model} {A : Around} {E : Value → Shared → Prop} {s : Shared} {b c d : Array UInt8} {t u v : Tok}
theorem no_ref {s : Shared} {b : Array UInt8} {t : Tok} : ∀ a, Value.bytes b t = .ref a → ∃ o, s.heap.get? a = some o ∧ o.dict = none := fun _ e => nomatch e
theorem get_translate {pl : Sem Bool} {Q : Value × List Value → Shared → Prop} (h : Q (.builtin "bytes.translate", [.bytes b t]) s) : wpAny M A (getMethod (.bytes b t) "translate" pl) Q E s := by
  with_reducible exact KBd.method_of (.bytes b t) (typeIs_bytes _ _ _) slot_translate type_translate no_ref h
theorem get_lstrip {pl : Sem Bool} {Q : Value × List Value → Shared → Prop} (h : Q (.builtin "bytes.lstrip", [.bytes b t]) s) : wpAny M A (getMethod (.bytes b t) "lstrip" pl) Q E s := by
  with_reducible exact KBd.method_of (.bytes b t) (typeIs_bytes _ _ _) slot_lstrip type_lstrip no_ref h
theorem get_hex {pl : Sem Bool} {Q : Value × List Value → Shared → Prop} (h : Q (.builtin "bytes.hex", [.bytes b t]) s) : wpAny M A (getMethod (.bytes b t) "hex" pl) Q E s := by
  with_reducible exact KBd.method_of (.bytes b t) (typeIs_bytes _ _ _) slot_hex type_hex no_ref h

/-- the end of a method that hands the bytes back, the same or new -/
theorem same_or_new {id : String} {b out : Array UInt8} {t : Tok} {k : Bool} {Q : Value → Shared → Prop} (hk : k = true → out = b) (hsz : out.size ≤ sizeLine) (h : ∀ t' n, Q (.bytes out t') { s with toks := n }) :
    wpAny M A (if k = true then (do rule id; ret (← Builtin.Bytes.Kind.same .bytes (.bytes b t))) else (do ret (← Builtin.Bytes.Kind.new .bytes out))) (fun fin s' => ∃ v, fin = .done (.ret v) ∧ Q v s') E s := by
  cases k with
  | true =>
    rw [if_pos rfl]
    refine wpAny_bind (wpAny_rule (wpAny_bind (wpAny_of_eq (a := Value.bytes b t) rfl (wpAny_pure ⟨_, rfl, ?_⟩))))
    have := h t s.toks
    rw [hk rfl] at this
    exact this
  | false =>
    rw [if_neg Bool.false_ne_true]
    exact wpAny_bind (wpAny_mkBytes (wpAny_pure ⟨_, rfl, h _ _⟩) hsz)

theorem wp_if_neg {α : Type} {p : Prop} [Decidable p] {x y : Sem α} {Q : α → Shared → Prop} (hp : ¬ p) (h : wpAny M A y Q E s) : wpAny M A (if p then x else y) Q E s := by
  rw [if_neg hp]; exact h
theorem wp_if_pos {α : Type} {p : Prop} [Decidable p] {x y : Sem α} {Q : α → Shared → Prop} (hp : p) (h : wpAny M A x Q E s) : wpAny M A (if p then x else y) Q E s := by
  rw [if_pos hp]; exact h
theorem filter_none (b : Array UInt8) : b.filter (fun x => !(#[] : Array UInt8).contains x) = b := by simp
theorem do_translate {Q : Value → Shared → Prop} (h256 : c.size = 256) (hsz : b.size ≤ 16777216) (h : ∀ t' n, Q (.bytes (b.map fun x => c.getD x.toNat x) t') { s with toks := n }) :
    wpAny (model prog w) A (call (.builtin "bytes.translate") [.bytes b t, .bytes c u]) Q E s := by
  refine wpAny_call_entry slot_translate (typeIs_bytes _ _ _) entry_translate ?_ (args_translate2 _ _)
  unfold Builtin.«bytes.translate» Builtin.Bytes.translateM
  dsimp only [List.length_cons, List.length_nil]
  refine wp_if_neg (by decide) ?_
  refine wp_if_neg (by simp) ?_
  refine wp_if_neg (fun e => nomatch e) ?_
  refine wpAny_bind (wpAny_of_eq KBd.like_eq ?_)
  refine wp_if_neg (by simp [h256]) ?_
  refine wpAny_bind (wpAny_pure ?_)
  dsimp only [List.head?_nil, Option.map_none]
  refine wpAny_bind (wpAny_pure ?_)
  refine wpAny_bind (wpAny_of_eq (a := b) rfl ?_)
  simp only [filter_none]
  exact same_or_new (fun e => by simpa using e) (by rw [Array.size_map, sizeLine_eq]; exact hsz) h
theorem do_translate3 {Q : Value → Shared → Prop} (hsz : b.size ≤ 16777216) (h : ∀ t' n, Q (.bytes (b.filter fun x => !d.contains x) t') { s with toks := n }) :
    wpAny (model prog w) A (call (.builtin "bytes.translate") [.bytes b t, .none, .bytes d v]) Q E s := by
  refine wpAny_call_entry slot_translate (typeIs_bytes _ _ _) entry_translate ?_ (args_translate3 _ _ _)
  unfold Builtin.«bytes.translate» Builtin.Bytes.translateM
  dsimp only [List.length_cons, List.length_nil]
  refine wp_if_neg (by decide) ?_
  refine wp_if_neg (by simp) ?_
  refine wp_if_pos rfl ?_
  refine wpAny_bind (wpAny_pure ?_)
  dsimp only [List.head?_cons]
  refine wpAny_bind (wpAny_of_eq KBd.like_eq ?_)
  refine wpAny_bind (wpAny_of_eq (a := b) rfl ?_)
  simp only [Array.map_id']
  exact same_or_new (fun e => by simpa using e) (by rw [sizeLine_eq]; exact Nat.le_trans Array.size_filter_le hsz) h
theorem drop_same {p : UInt8 → Bool} {l : List UInt8} (h : (l.dropWhile p).length = l.length) : l.dropWhile p = l := by
  have e := List.takeWhile_append_dropWhile (p := p) (l := l)
  have hl := congrArg List.length e
  rw [List.length_append] at hl
  have : l.takeWhile p = [] := List.eq_nil_of_length_eq_zero (by omega)
  rw [this, List.nil_append] at e
  exact e
theorem drop_le (p : UInt8 → Bool) (l : List UInt8) : (l.dropWhile p).length ≤ l.length := by
  have e := List.takeWhile_append_dropWhile (p := p) (l := l)
  have hl := congrArg List.length e
  rw [List.length_append] at hl
  omega
theorem do_lstrip {Q : Value → Shared → Prop} (hsz : b.size ≤ 16777216) (h : ∀ t' n, Q (.bytes (b.toList.dropWhile c.contains).toArray t') { s with toks := n }) :
    wpAny (model prog w) A (call (.builtin "bytes.lstrip") [.bytes b t, .bytes c u]) Q E s := by
  refine wpAny_call_entry slot_lstrip (typeIs_bytes _ _ _) entry_lstrip ?_ (args_lstrip2 _ _)
  unfold Builtin.«bytes.lstrip» Builtin.Bytes.stripM
  refine wpAny_bind (wpAny_of_eq (a := (.bytes b t, [.bytes c u])) (by kernel_rfl) ?_)
  dsimp only
  refine wpAny_bind (wpAny_of_eq KBd.like_eq ?_)
  refine wpAny_bind (wpAny_pure ?_)
  refine wpAny_bind (wpAny_of_eq (a := b) rfl ?_)
  simp only [if_true, Bool.false_eq_true, if_false]
  refine same_or_new (fun e => ?_) (by rw [sizeLine_eq, List.size_toArray]; exact Nat.le_trans (drop_le _ _) (by simpa using hsz)) h
  have e' : (b.toList.dropWhile c.contains).length = b.toList.length := by simpa using e
  rw [drop_same e']
/-- the text of bytes' hex digits -/
def hexStr (b : Array UInt8) : Str := ⟨b.toList.zipIdx.foldl (fun (out : Array Nat) (ci : UInt8 × Nat) => (out.push (Builtin.Bytes.hexDigit (ci.1.toNat / 16))).push (Builtin.Bytes.hexDigit (ci.1.toNat % 16))) #[]⟩
theorem hexFold_size : ∀ (l : List (UInt8 × Nat)) (a : Array Nat), (l.foldl (fun (out : Array Nat) (ci : UInt8 × Nat) => (out.push (Builtin.Bytes.hexDigit (ci.1.toNat / 16))).push (Builtin.Bytes.hexDigit (ci.1.toNat % 16))) a).size = a.size + 2 * l.length
  | [], a => by simp
  | x :: r, a => by
    rw [List.foldl_cons, hexFold_size r, Array.size_push, Array.size_push, List.length_cons]; omega
theorem hexStr_length (b : Array UInt8) : (hexStr b).length = 2 * b.size := by
  show (hexStr b).cps.size = _
  unfold hexStr
  rw [hexFold_size]; simp
theorem do_hex {Q : Value → Shared → Prop} (hsz : b.size ≤ 1000000) (h : ∀ t' n, Q (.str (hexStr b) t') { s with toks := n }) :
    wpAny (model prog w) A (call (.builtin "bytes.hex") [.bytes b t]) Q E s := by
  refine wpAny_call_entry slot_hex (typeIs_bytes _ _ _) entry_hex ?_ (args_hex1 _)
  unfold Builtin.«bytes.hex» Builtin.Bytes.hexM Builtin.Bytes.hexOf
  dsimp only
  refine wpAny_bind (wpAny_of_eq (a := [none, none]) (by kernel_rfl) ?_)
  dsimp only
  refine wpAny_bind (wpAny_pure ?_)
  refine wpAny_bind (wpAny_pure ?_)
  refine wpAny_bind (wpAny_pure ?_)
  refine wpAny_bind (wpAny_of_eq (a := b) rfl ?_)
  have hl := hexStr_length b
  exact wpAny_bind (wpAny_mkStr (wpAny_pure ⟨_, rfl, h _ _⟩) (by
    show (hexStr b).length ≤ sizeLine
    rw [hl, sizeLine_eq]; omega))
end
end Mine
end
section
open PySem PySem.W PySem.Calls PyProof.Rows
set_option Elab.async false
set_option linter.unusedVariables false
set_option maxRecDepth 100000
set_option exponentiation.threshold 3000
namespace Mine
/-- bytes as a number, the first the highest -/
def fromBE (l : List UInt8) : Nat := l.foldl (fun a b => a * 256 + b.toNat) 0
/-- the k octets of a number, the first the highest -/
def beBytes : Nat → Nat → List UInt8
  | 0, _ => []
  | k + 1, n => beBytes k (n / 256) ++ [(n % 256).toUInt8]
theorem beBytes_length : ∀ (k n : Nat), (beBytes k n).length = k
  | 0, _ => rfl
  | k + 1, n => by rw [beBytes, List.length_append, beBytes_length k]; rfl
theorem range_rev (k X : Nat) : ((List.range k).map fun i => (X / 256 ^ i % 256).toUInt8).reverse = beBytes k X := by
  induction k generalizing X with
  | zero => rfl
  | succ k ih =>
    rw [List.range_succ_eq_map, List.map_cons, List.map_map, List.reverse_cons, beBytes, ← ih (X / 256)]
    congr 2
    · refine List.map_congr_left fun i _ => ?_
      show (X / 256 ^ (i + 1) % 256).toUInt8 = (X / 256 / 256 ^ i % 256).toUInt8
      rw [Nat.div_div_eq_div_mul, Nat.pow_succ, Nat.mul_comm 256]
    · rw [Nat.pow_zero, Nat.div_one]
theorem toNat_inj {l l' : List UInt8} (h : l.map (fun c => ((c.toNat : Nat) : Int)) = l'.map (fun c => ((c.toNat : Nat) : Int))) : l = l' := by
  refine List.map_inj_right (fun a b e => ?_) |>.mp h
  exact UInt8.toNat_inj.mp (Int.ofNat_inj.mp e)
theorem low_rev {X k : Nat} (h : X < 256 ^ k) : (KTBy.low (X : Int) k).reverse = beBytes k X := by
  rw [← range_rev]
  congr 1
  refine toNat_inj ?_
  rw [KTBy.low_ints (by omega) (by rw [KTBy.p256]; exact Int.ofNat_lt.mpr h), List.map_map]
  refine List.map_congr_left fun i _ => ?_
  show (X : Int) / 256 ^ i % 256 = (((X / 256 ^ i % 256).toUInt8.toNat : Nat) : Int)
  have e : (X / 256 ^ i % 256).toUInt8.toNat = X / 256 ^ i % 256 := by
    show (UInt8.ofNat _).toNat = _
    rw [UInt8.toNat_ofNat']
    omega
  rw [e, KTBy.p256]; rfl

section
variable {prog : Program} {w : World} {M : Model} {A : Around} {E : Value → Shared → Prop} {s : Shared} {b : Array UInt8} {t u v : Tok} {X k : Nat}
theorem args_tb_kw (a b : Value) (v : Tok) : argsOk "int.to_bytes" ⟨[a, b], [(PySem.Str.ofString "byteorder", .str (PySem.Str.ofString "big") v), (PySem.Str.ofString "signed", .bool false)]⟩ := by unfold argsOk; kernel_rfl
theorem bits_of {X k : Nat} (h : X < 256 ^ k) : Builtin.Int.intBits (X : Int) ≤ 8 * k := by
  refine intBits_le_iff.mpr ?_
  have e2 : (2 : Nat) ^ 8 = 256 := by decide
  rw [Nat.pow_mul, e2]
  omega
theorem tb_tree {args : Args} {sg : Option Value} (hargs : args.pos = .int (X : Int) t :: args.pos.tail)
    (hbind : Builtin.Int.intBindNamed "to_bytes" ["length", "byteorder", "signed"] 0 2 args.pos.tail args.kw = pure [some (.int (k : Int) u), some (.str (PySem.Str.ofString "big") v), sg])
    (hsg : sg = none ∨ sg = some (.bool false)) (hk : k ≤ 1000000) (hX : X < 256 ^ k) {Q : Value → Shared → Prop} (h : ∀ t' n, Q (.bytes (beBytes k X).toArray t') { s with toks := n }) :
    wpAny (model prog w) A (Builtin.«int.to_bytes» args) (fun fin s' => ∃ v, fin = .done (.ret v) ∧ Q v s') E s := by
  obtain ⟨pos, kw⟩ := args
  dsimp only at hargs hbind
  rw [hargs]
  have hb := bits_of hX
  show wpAny _ _ (Builtin.Int.intOfSelf (.int (X : Int) t) >>= fun y => _) _ _ s
  refine wpAny_bind (wpAny_of_eq (a := (X : Int)) rfl ?_)
  show wpAny _ _ (Builtin.Int.intBindNamed "to_bytes" ["length", "byteorder", "signed"] 0 2 pos.tail kw >>= fun l => _) _ _ s
  refine wpAny_bind (wpAny_of_eq hbind ?_)
  show wpAny _ _ (Builtin.Int.intIndex "int.to_bytes" (.int (k : Int) u) >>= fun n => _) _ _ s
  refine wpAny_bind (wpAny_of_eq (a := (k : Int)) rfl ?_)
  refine if_f (by show (decide ((k : Int) < -(2 ^ 63 : Int)) || decide ((k : Int) ≥ 2 ^ 63)) = false; rw [decide_eq_false (show ¬ ((k : Int) < -(2 ^ 63 : Int)) by omega), decide_eq_false (show ¬ ((k : Int) ≥ 2 ^ 63) by omega)]; rfl) ?_
  refine wpAny_bind (wpAny_of_eq (a := PySem.Str.ofString "big") (by kernel_rfl) ?_)
  rcases hsg with rfl | rfl
  all_goals
    refine wpAny_bind (wpAny_of_eq (a := false) rfl ?_)
    refine wpAny_bind (wpAny_of_eq (a := false) (by kernel_rfl) ?_)
    refine wpAny_ite_false (decide_eq_false (show ¬ ((k : Int) < 0) by omega)) ?_
    refine wpAny_ite_false (decide_eq_false (show ¬ ((k : Int) > 2 ^ 63 - 1 - 33) by omega)) ?_
    refine wpAny_ite_false (decide_eq_false (show ¬ ((k : Int) > (sizeLine : Int)) by rw [sizeLine_eq]; omega)) ?_
    refine if_f (by show (decide ((X : Int) < 0) && !false) = false; rw [decide_eq_false (show ¬ (X : Int) < 0 by omega)]; rfl) ?_
    refine if_f (by show (_ && decide ((Builtin.Int.intBits (X : Int) : Int) > 8 * (k : Int))) = false; rw [decide_eq_false (show ¬ ((Builtin.Int.intBits (X : Int) : Int) > 8 * (k : Int)) by omega), Bool.and_false]) ?_
    have e : (List.reverse (KTBy.low (X : Int) (Int.toNat (k : Int)))).toArray = (beBytes k X).toArray := by rw [Int.toNat_natCast, low_rev hX]
    show wpAny _ _ (mkBytes (List.reverse (KTBy.low (X : Int) (Int.toNat (k : Int)))).toArray >>= fun v => ret v) _ _ s
    rw [e]
    exact wpAny_bind (wpAny_mkBytes (wpAny_pure ⟨_, rfl, h _ _⟩) (by rw [List.size_toArray, beBytes_length, sizeLine_eq]; omega))
theorem do_to_bytes {Q : Value → Shared → Prop} (hk : k ≤ 1000000) (hX : X < 256 ^ k) (h : ∀ t' n, Q (.bytes (beBytes k X).toArray t') { s with toks := n }) :
    wpAny (model prog w) A (call (.builtin "int.to_bytes") [.int (X : Int) t, .int (k : Int) u, .str (PySem.Str.ofString "big") v]) Q E s :=
  wpAny_call_entry KTBy.slot (typeIs_int _ _ _) KTBy.entry (tb_tree (t := t) (u := u) (v := v) (sg := none) rfl (by kernel_rfl) (.inl rfl) hk hX h) (KTBy.args _ _ _)
theorem do_to_bytes_kw {Q : Value → Shared → Prop} (hk : k ≤ 1000000) (hX : X < 256 ^ k) (h : ∀ t' n, Q (.bytes (beBytes k X).toArray t') { s with toks := n }) :
    wpAny (model prog w) A (call (.builtin "int.to_bytes") [.int (X : Int) t, .int (k : Int) u] [(PySem.Str.ofString "byteorder", .str (PySem.Str.ofString "big") v), (PySem.Str.ofString "signed", .bool false)]) Q E s :=
  wpAny_call_entry_kw KTBy.slot (typeIs_int _ _ _) KTBy.entry (tb_tree (t := t) (u := u) (v := v) (sg := some (.bool false)) rfl (by kernel_rfl) (.inr rfl) hk hX h) (args_tb_kw _ _ _)

theorem grown_any {n e : Nat} {Q : Value → Shared → Prop} (hn : n < 2 ^ e) (he : e ≤ 134217728) (h : Q (.int (n : Int) s.toks) { s with toks := s.toks + 1 }) : wpAny M A (mkIntGrown (n : Int)) Q E s := by
  unfold mkIntGrown
  have hl : ¬ ((n : Int).natAbs.log2 ≥ bitsLine) := by
    rw [Int.natAbs_natCast]
    have hb : bitsLine = 134217728 := by first | rfl | decide
    by_cases hz : n = 0
    · subst hz; rw [hb]; decide
    · have h1 := (Nat.log2_lt hz).mpr hn
      omega
  rw [if_neg hl]
  exact wpAny_mkInt h
theorem fromBE_lt (l : List UInt8) : fromBE l < 2 ^ (8 * l.length) := by
  have h := KFB.fold_lt l 0
  have e2 : (2 : Nat) ^ 8 = 256 := by decide
  rw [Nat.pow_mul, e2]
  unfold fromBE
  simpa using h
theorem fb_tree {args : Args} {sg : Option Value} (hargs : args.pos = .type "int" :: args.pos.tail)
    (hbind : Builtin.Int.intBindNamed "from_bytes" ["bytes", "byteorder", "signed"] 1 2 args.pos.tail args.kw = pure [some (.bytes b t), some (.str (PySem.Str.ofString "big") v), sg])
    (hsg : sg = none ∨ sg = some (.bool false)) (hb : b.size ≤ 1000000) {Q : Fin → Shared → Prop} (h : ∀ t' n, Q (.done (.ret (.int (fromBE b.toList : Nat) t'))) { s with toks := n }) :
    wpAny (model prog w) A (Builtin.«int.from_bytes» args) Q E s := by
  obtain ⟨pos, kw⟩ := args
  dsimp only at hargs hbind
  rw [hargs]
  unfold Builtin.«int.from_bytes»
  refine wpAny_bind (wpAny_of_eq (a := true) KFB.type_int ?_)
  refine if_f rfl ?_
  refine wpAny_bind (wpAny_of_eq (a := true) F.conv_sub_int ?_)
  refine if_f rfl ?_
  refine wpAny_bind (wpAny_of_eq hbind ?_)
  refine wpAny_bind (wpAny_of_eq (a := PySem.Str.ofString "big") (by kernel_rfl) ?_)
  rcases hsg with rfl | rfl
  all_goals
    refine wpAny_bind (wpAny_of_eq (a := false) rfl ?_)
    refine wpAny_bind (wpAny_of_eq (a := false) (by kernel_rfl) ?_)
    refine wpAny_bind (wpAny_of_eq (a := b) rfl ?_)
    show wpAny _ _ (mkIntGrown (b.toList.foldl (fun (acc : Int) (b : UInt8) => acc * 256 + (b.toNat : Int)) ((0 : Nat) : Int)) >>= fun v => _) _ _ _
    rw [KFB.foldI_eq]
    refine wpAny_bind (grown_any (fromBE_lt b.toList) (by rw [Array.length_toList]; omega) ?_)
    refine if_t (by decide +kernel) ?_
    exact wpAny_bind (wpAny_pure (wpAny_pure (h _ _)))
theorem check_fb_kw {b : Array UInt8} {t v : Tok} : checkBoundCall "int.from_bytes" ⟨[.type "int", .bytes b t], [(PySem.Str.ofString "byteorder", .str (PySem.Str.ofString "big") v), (PySem.Str.ofString "signed", .bool false)]⟩ = pure () := by first | kernel_rfl | rfl
theorem do_from_bytes {x : Addr} {Q : Value → Shared → Prop} {h₀ : Heap} {L : Addr} {news : List (Addr × Obj)} (N : News h₀ L s.heap news) (hm : (x, KFB.bound) ∈ news) (hb : b.size ≤ 1000000)
    (h : ∀ t' n, Q (.int (fromBE b.toList : Nat) t') { s with toks := n }) : wpAny (model prog w) A (call (.ref x) [.bytes b t, .str (PySem.Str.ofString "big") v]) Q E s := by
  have ho := N.get hm
  refine wpAny_call (codeAny_of_tree ?_)
  show wpAny _ A.in1 (callAny (.ref x) ⟨[.bytes b t, .str (PySem.Str.ofString "big") v], []⟩) _ _ s
  simp only [callAny]
  refine wpAny_bind (wpAny_load ho ?_)
  simp only [KFB.bound, show (Value.type "builtin_function_or_method" == Value.type "method" || Value.type "builtin_function_or_method" == Value.type "builtin_function_or_method" || Value.type "builtin_function_or_method" == Value.type "method-wrapper") = true by decide, if_true]
  refine if_t (by decide) ?_
  refine wpAny_bind (wpAny_of_eq (a := ()) KFB.check_fb ?_)
  refine wpAny_bind (wpAny_pure (wpAny_pure ?_))
  exact ⟨KFB.quiet_fb, codeAny_builtin KFB.entry_fb (fb_tree (t := t) (v := v) (sg := none) rfl (by kernel_rfl) (.inl rfl) hb h)⟩
theorem do_from_bytes_kw {x : Addr} {Q : Value → Shared → Prop} {h₀ : Heap} {L : Addr} {news : List (Addr × Obj)} (N : News h₀ L s.heap news) (hm : (x, KFB.bound) ∈ news) (hb : b.size ≤ 1000000)
    (h : ∀ t' n, Q (.int (fromBE b.toList : Nat) t') { s with toks := n }) :
    wpAny (model prog w) A (call (.ref x) [.bytes b t] [(PySem.Str.ofString "byteorder", .str (PySem.Str.ofString "big") v), (PySem.Str.ofString "signed", .bool false)]) Q E s := by
  have ho := N.get hm
  refine wpAny_call (codeAny_of_tree ?_)
  show wpAny _ A.in1 (callAny (.ref x) ⟨[.bytes b t], [(PySem.Str.ofString "byteorder", .str (PySem.Str.ofString "big") v), (PySem.Str.ofString "signed", .bool false)]⟩) _ _ s
  simp only [callAny]
  refine wpAny_bind (wpAny_load ho ?_)
  simp only [KFB.bound, show (Value.type "builtin_function_or_method" == Value.type "method" || Value.type "builtin_function_or_method" == Value.type "builtin_function_or_method" || Value.type "builtin_function_or_method" == Value.type "method-wrapper") = true by decide, if_true]
  refine if_t (by decide) ?_
  refine wpAny_bind (wpAny_of_eq (a := ()) check_fb_kw ?_)
  refine wpAny_bind (wpAny_pure (wpAny_pure ?_))
  exact ⟨KFB.quiet_fb, codeAny_builtin KFB.entry_fb (fb_tree (t := t) (v := v) (sg := some (.bool false)) rfl (by kernel_rfl) (.inr rfl) hb h)⟩
end
end Mine
end
section
open PySem PySem.W PySem.Calls PyProof.Rows
set_option Elab.async false
set_option linter.unusedVariables false
set_option maxRecDepth 100000
set_option exponentiation.threshold 3000
namespace Mine
def Clean (x : Str) : Prop := ∀ c ∈ x.cps, c < 128
theorem push_fold : ∀ (l : List Nat) (a : Array UInt8), l.foldl (fun acc y => acc ++ [y.toUInt8].toArray) a = a ++ (l.map (·.toUInt8)).toArray
  | [], a => by simp
  | y :: r, a => by
    rw [List.foldl_cons, push_fold r]
    simp
theorem clean_find {x : Str} (hc : Clean x) : (x.cps.extract 0 x.cps.size).findIdx? Builtin._codecs.asciiCodec.bad = none := by
  rw [Array.extract_size, Array.findIdx?_eq_none_iff]
  intro c hcm
  have := hc c hcm
  simp [Builtin._codecs.asciiCodec]; omega
theorem forIn_two {σ : Type} {f : Nat → σ → Sem (ForInStep σ)} {l : List Nat} {a b : σ} (hl : l ≠ []) (h1 : ∀ i, f i a = pure (.yield b)) (h2 : ∀ i, f i b = pure (.done b)) : forIn l a f = pure b := by
  cases l with
  | nil => exact absurd rfl hl
  | cons x r =>
    rw [List.forIn_cons, h1, pure_bind]
    dsimp only
    cases r with
    | nil => rw [List.forIn_nil]
    | cons y r => rw [List.forIn_cons, h2, pure_bind]
theorem narrow_clean {id : String} {self : Value} {errors : Option Str} {x : Str} (hc : Clean x) (hsz : x.length ≤ sizeLine) : Builtin._codecs.encodeNarrow id Builtin._codecs.asciiCodec errors self x = pure (x.cps.map (·.toUInt8)) := by
  have hf := clean_find hc
  have ho : (((x.cps.extract 0 x.cps.size).extract 0 (x.cps.extract 0 x.cps.size).size).foldl (fun acc y => acc ++ (Builtin._codecs.asciiCodec.bytesOf y).toArray) (#[] : Array UInt8)) = x.cps.map (·.toUInt8) := by
    rw [Array.extract_size, Array.extract_size, ← Array.foldl_toList]
    show x.cps.toList.foldl (fun acc y => acc ++ [y.toUInt8].toArray) #[] = _
    rw [push_fold, Array.empty_append]
    apply Array.ext'
    simp
  unfold Builtin._codecs.encodeNarrow
  dsimp only
  cases hl : x.length with
  | zero =>
    have e : x.cps = #[] := Array.eq_empty_of_size_eq_zero hl
    rw [e]
    simp
  | succ n =>
    have hsz' : x.cps.size = n + 1 := hl
    simp only [Std.Legacy.Range.forIn_eq_forIn_range']
    rw [forIn_two (b := (x.cps.size, x.cps.map (·.toUInt8), ({} : Builtin._codecs.Faults))) (by simp [Std.Legacy.Range.size]) (fun i => ?_) (fun i => ?_)]
    · rfl
    · have h0 : x.cps[0]? = some (x.cps[0]'(by omega)) := Array.getElem?_eq_getElem (by omega)
      have hb : (!Builtin._codecs.asciiCodec.bad (x.cps[0]'(by omega))) = true := by
        have := hc (x.cps[0]'(by omega)) (Array.getElem_mem _)
        simp [Builtin._codecs.asciiCodec]; omega
      dsimp only
      rw [if_neg (by decide), h0]
      dsimp only
      rw [if_pos hb, hf, Option.getD_none, ho]
      simp
    · dsimp only
      have hn : x.cps[x.cps.size]? = none := by simp
      rw [if_neg (by rw [Array.size_map]; exact Nat.not_lt.mpr hsz), hn]
theorem args_enc (a b : Value) : argsOk "str.encode" ⟨[a, b], []⟩ := F.args_str_encode_2 a b
section
variable {prog : Program} {w : World} {M : Model} {A : Around} {E : Value → Shared → Prop} {s : Shared} {x : Str} {t u : Tok}
theorem get_encode {pl : Sem Bool} {Q : Value × List Value → Shared → Prop} (h : Q (.builtin "str.encode", [.str x t]) s) : wpAny M A (getMethod (.str x t) "encode" pl) Q E s := by
  with_reducible exact GM.of (.str x t) (typeIs_str _ _ _) F.slot_str_encode F.type_str_encode GM.noRef h
theorem do_encode {Q : Value → Shared → Prop} (hc : Clean x) (hsz : x.length ≤ 1000000) (h : ∀ t' n, Q (.bytes (x.cps.map (·.toUInt8)) t') { s with toks := n }) :
    wpAny (model prog w) A (call (.builtin "str.encode") [.str x t, .str (PySem.Str.ofString "ascii") u]) Q E s := by
  have hsz' : x.length ≤ sizeLine := by rw [sizeLine_eq]; omega
  refine wpAny_call_entry F.slot_str_encode (typeIs_str _ _ _) F.entry_str_encode ?_ (F.args_str_encode_2 _ _)
  unfold Builtin.«str.encode»
  refine wpAny_bind (wpAny_of_eq (a := (.str x t, x, [.str (PySem.Str.ofString "ascii") u])) rfl ?_)
  dsimp only
  refine wpAny_bind (wpAny_of_eq (a := [some (.str (PySem.Str.ofString "ascii") u), none]) (by kernel_rfl) ?_)
  dsimp only
  refine wpAny_bind (wpAny_of_eq (a := some (PySem.Str.ofString "ascii")) (by kernel_rfl) ?_)
  refine wpAny_bind (wpAny_of_eq (a := none) rfl ?_)
  have e : Builtin._codecs.encodeRoad "str.encode" (.str x t) x ((some (PySem.Str.ofString "ascii")).getD "utf-8") none = (Builtin._codecs.encodeNarrow "str.encode" Builtin._codecs.asciiCodec none (.str x t) x >>= mkBytes) := by kernel_rfl
  rw [e, narrow_clean hc hsz', pure_bind]
  exact wpAny_bind (wpAny_mkBytes (wpAny_pure ⟨_, rfl, h _ _⟩) (by rw [Array.size_map]; exact hsz'))
end
end Mine
end
section
open PySem PySem.W PySem.Calls PyProof.Rows
set_option Elab.async false
set_option linter.unusedVariables false
set_option linter.deprecated false
set_option maxRecDepth 100000
namespace Mine
theorem look_bb : typeLookup (.type "bytes") "__bytes__" = pure (some (.builtin "bytes.__bytes__")) := by rw [typeLookup_type, builtinLookup_eq_fast]; kernel_rfl
theorem look_ib : typeLookup (.type "int") "__bytes__" = pure none := by rw [typeLookup_type, builtinLookup_eq_fast]; kernel_rfl
theorem look_ba_bytes : typeLookup (.type "bytearray") "__bytes__" = pure none := by rw [typeLookup_type, builtinLookup_eq_fast]; kernel_rfl
theorem look_ba_index : typeLookup (.type "bytearray") "__index__" = pure none := by rw [typeLookup_type, builtinLookup_eq_fast]; kernel_rfl
theorem look_ba_buffer : typeLookup (.type "bytearray") "__buffer__" = pure (some (.builtin "bytearray.__buffer__")) := by rw [typeLookup_type, builtinLookup_eq_fast]; kernel_rfl
theorem look_ba_release : typeLookup (.type "bytearray") "__release_buffer__" = pure (some (.builtin "bytearray.__release_buffer__")) := by rw [typeLookup_type, builtinLookup_eq_fast]; kernel_rfl
theorem sub_ba : isSubtype (.type "bytearray") (.type "bytearray") = pure true := by rw [isSubtype_type]; kernel_rfl
section
variable {prog : Program} {w : World} {A : Around} {E : Value → Shared → Prop} {s : Shared} {b : Array UInt8} {t u : Tok}

/-- the head of bytes(x) for one plain x -/
theorem bytes_call {x : Value} {Q : Value → Shared → Prop}
    (h : wpAny (model prog w) A.in1.in1 (Builtin.«bytes.__new__» ⟨[.type "bytes", x], []⟩) (fun fin s' => ∃ c t', fin = .done (.ret (.bytes c t')) ∧ Q (.bytes c t') s') (fun _ _ => False) s) :
    wpAny (model prog w) A (call (.type "bytes") [x]) Q E s := by
  refine callType_codes (Q₁ := fun obj s₁ => s₁.TypeIs obj "bytes" ∧ Q obj s₁) F.bm_called (F.bm_typeCall _) F.entry_object_init (codeAny_of_tree ?_) fun obj s₁ h₁ => ?_
  · show wpAny _ A.in1.in1 (do checkBuiltinCall "bytes.__new__" ⟨[.type "bytes", x], []⟩; again (.builtin "bytes.__new__" ⟨[.type "bytes", x], []⟩)) _ _ s
    refine wpAny_bind (wpAny_of_eq (F.bm_newCall _) (wpAny_pure ⟨plainId_quiet F.bm_plain _, codeAny_builtin F.bm_entry ?_⟩))
    rw [Around.under_plainId F.bm_plain _]
    refine wpAny_mono h (fun fin s' h' => ?_) fun _ _ x => x.elim
    obtain ⟨c, t', rfl, hq⟩ := h'
    exact ⟨PySem.W.typeIs_bytes _ _ _, hq⟩
  · exact ⟨h₁.1, F.args_object_init_2 obj _, object_init_meets F.bm_called.init.lookup F.bm_called.made (by decide) prog w A.in1 _ s₁ ⟨h₁.1, rfl, h₁.2⟩⟩

theorem bytes_of_bytes {Q : Value → Shared → Prop} (h : ∀ t' n, Q (.bytes b t') { s with toks := n }) : wpAny (model prog w) A (call (.type "bytes") [.bytes b t]) Q E s := by
  refine bytes_call ?_
  unfold Builtin.«bytes.__new__»
  refine wpAny_bind (wpAny_of_eq (a := true) rfl ?_)
  refine if_f rfl ?_
  refine wpAny_bind (wpAny_of_eq F.bm_sub ?_)
  refine if_f rfl ?_
  refine wpAny_bind (wpAny_of_eq (F.bm_bind _) ?_)
  refine wpAny_bind (wpAny_of_eq (a := ()) rfl ?_)
  refine wpAny_bind (wpAny_of_eq (a := ()) rfl ?_)
  refine if_f rfl ?_
  refine wpAny_bind (wpAny_of_eq (KBy.special_eq look_bb) ?_)
  refine wpAny_bind (wpAny_rule ?_)
  refine wpAny_bind (wpAny_of_eq (a := Value.type "bytes") rfl ?_)
  refine if_t (by decide) ?_
  show wpAny _ _ (if (Value.type "bytes" == Value.type "bytes") = true then _ else _) _ _ _
  refine if_t (by decide) ?_
  have e := h t s.toks
  exact wpAny_bind (wpAny_pure (wpAny_pure ⟨_, _, rfl, e⟩))

theorem bytes_of_int {n : Nat} {Q : Value → Shared → Prop} (hn : n ≤ 1000000) (h : ∀ t' k, Q (.bytes (Array.replicate n 0) t') { s with toks := k }) : wpAny (model prog w) A (call (.type "bytes") [.int (n : Int) t]) Q E s := by
  refine bytes_call ?_
  generalize hx : Value.int (n : Int) t = x
  have hT : s.TypeIs x "int" := by rw [← hx]; exact typeIs_int _ _ _
  have hs : asStr? x = pure none := by rw [← hx]; rfl
  have ha : (asIndex x).attempt = pure (Except.ok (n : Int)) := by rw [← hx]; rfl
  clear hx
  unfold Builtin.«bytes.__new__»
  refine wpAny_bind (wpAny_of_eq (a := true) rfl ?_)
  refine if_f rfl ?_
  refine wpAny_bind (wpAny_of_eq F.bm_sub ?_)
  refine if_f rfl ?_
  refine wpAny_bind (wpAny_of_eq (F.bm_bind _) ?_)
  refine wpAny_bind (wpAny_of_eq (a := ()) rfl ?_)
  refine wpAny_bind (wpAny_of_eq (a := ()) rfl ?_)
  refine if_f rfl ?_
  refine wpAny_bind (wpAny_specialOf hT look_ib ?_)
  refine wpAny_bind (wpAny_of_eq (a := false) (by dsimp only; rw [hs]; rfl) ?_)
  refine if_f rfl ?_
  refine wpAny_bind (wpAny_specialOf hT F.slot_int_index.lookup ?_)
  refine if_f rfl ?_
  rw [ha, pure_bind]
  dsimp only
  have c1 : ¬ ((!Builtin.Bytes.fitsIndex (n : Int)) = true) := by
    have e : Builtin.Bytes.fitsIndex (n : Int) = true := by
      simp only [Builtin.Bytes.fitsIndex, Bool.and_eq_true, decide_eq_true_eq]; omega
    rw [e]; exact Bool.false_ne_true
  have c2 : ¬ ((n : Int) < 0) := by omega
  have c3 : ¬ ((n : Int) > 2 ^ 63 - 34) := by omega
  have c4 : ¬ (Builtin.Bytes.tooLong (n : Int).toNat = true) := by rw [KBy.tooLong_not (by rw [Int.toNat_natCast]; omega)]; exact Bool.false_ne_true
  rw [if_neg c1, if_neg c2, if_neg c3, if_neg c4]
  refine wpAny_bind (wpAny_rule ?_)
  rw [Int.toNat_natCast]
  refine wpAny_bind (wpAny_mkBytes ?_ (by rw [Array.size_replicate, sizeLine_eq]; omega))
  show wpAny _ _ (if (Value.type "bytes" == Value.type "bytes") = true then _ else _) _ _ _
  refine if_t (by decide) ?_
  exact wpAny_bind (wpAny_pure (wpAny_pure ⟨_, _, rfl, h _ _⟩))

/-- a bytearray, as it lies -/
def baObj (b : Array UInt8) : Obj := { cls := .type "bytearray", data := .bytearray b }
theorem ba_type {x : Addr} (ho : s.heap.get? x = some (baObj b)) : s.TypeIs (.ref x) "bytearray" := ⟨_, ho, rfl⟩
theorem ba_payload {M : Model} {A : Around} {x : Addr} {Q : Array UInt8 → Shared → Prop} (ho : s.heap.get? x = some (baObj b)) (h : Q b s) : wpAny M A (Builtin.Bytes.payload (.ref x)) Q E s := by
  unfold Builtin.Bytes.payload Builtin.Bytes.payload?
  refine wpAny_bind (wpAny_bind (wpAny_load ho ?_))
  exact wpAny_pure (wpAny_pure h)
theorem ba_own {A : Around} {x : Addr} {Q : Bool → Shared → Prop} {name : String} {id : String} (ho : s.heap.get? x = some (baObj b)) (hl : typeLookup (.type "bytearray") (name : Str) = pure (some (.builtin id)))
    (h1 : id.endsWith ("." ++ name) = true) (h2 : id.dropRight (name.length + 1) = "bytearray") (h : Q true s) : wpAny (model prog w) A (Builtin.Bytes.slotIsOwn (.ref x) name) Q E s := by
  unfold Builtin.Bytes.slotIsOwn
  refine wpAny_bind (wpAny_specialOf (ba_type ho) hl ?_)
  dsimp only
  refine if_f (by rw [h1]; rfl) ?_
  rw [h2]
  exact wpAny_isInstance (ba_type ho) sub_ba h
theorem ba_buffer {id : String} {x : Addr} {full : Bool} {Q : Option (Array UInt8) → Shared → Prop} (ho : s.heap.get? x = some (baObj b)) (h : Q (some b) s) : wpAny (model prog w) A (Builtin.Bytes.buffer? id (.ref x) full) Q E s := by
  unfold Builtin.Bytes.buffer?
  refine wpAny_bind (wpAny_specialOf (ba_type ho) look_ba_buffer ?_)
  dsimp only
  refine wpAny_bind (ba_own ho look_ba_buffer (by decide +kernel) (by decide +kernel) ?_)
  refine if_f rfl ?_
  refine wpAny_bind (wpAny_specialOf (ba_type ho) look_ba_buffer ?_)
  unfold Builtin.Bytes.ownRelease
  refine wpAny_bind (wpAny_bind (ba_own ho look_ba_release (by decide +kernel) (by decide +kernel) (wpAny_pure ?_)))
  refine if_f rfl ?_
  exact wpAny_bind (ba_payload ho (wpAny_pure h))
theorem bytes_of_ba {x : Addr} {Q : Value → Shared → Prop} (ho : s.heap.get? x = some (baObj b)) (hsz : b.size ≤ 1000000) (h : ∀ t' k, Q (.bytes b t') { s with toks := k }) : wpAny (model prog w) A (call (.type "bytes") [.ref x]) Q E s := by
  refine bytes_call ?_
  unfold Builtin.«bytes.__new__»
  refine wpAny_bind (wpAny_of_eq (a := true) rfl ?_)
  refine if_f rfl ?_
  refine wpAny_bind (wpAny_of_eq F.bm_sub ?_)
  refine if_f rfl ?_
  refine wpAny_bind (wpAny_of_eq (F.bm_bind _) ?_)
  refine wpAny_bind (wpAny_of_eq (a := ()) rfl ?_)
  refine wpAny_bind (wpAny_of_eq (a := ()) rfl ?_)
  refine if_f rfl ?_
  refine wpAny_bind (wpAny_specialOf (ba_type ho) look_ba_bytes ?_)
  refine wpAny_bind (wpAny_bind ?_)
  show wpAny _ _ (load x >>= _) _ _ _
  refine wpAny_bind (wpAny_load ho ?_)
  refine wpAny_pure (wpAny_pure ?_)
  refine if_f rfl ?_
  refine wpAny_bind (wpAny_specialOf (ba_type ho) look_ba_index ?_)
  refine if_t rfl ?_
  first
    | show wpAny _ _ (Builtin.Bytes.buffer? "bytes.__new__" (.ref x) true >>= _) _ _ _
    | (refine wpAny_bind ?_; show wpAny _ _ (Builtin.Bytes.buffer? "bytes.__new__" (.ref x) true >>= _) _ _ _)
  refine wpAny_bind (ba_buffer ho ?_)
  refine wpAny_bind (wpAny_rule ?_)
  refine wpAny_bind (wpAny_mkBytes ?_ (by rw [sizeLine_eq]; omega))
  show wpAny _ _ (if (Value.type "bytes" == Value.type "bytes") = true then _ else _) _ _ _
  refine if_t (by decide) ?_
  exact wpAny_bind (wpAny_pure (wpAny_pure ⟨_, _, rfl, h _ _⟩))
end
end Mine
end
section
open PySem PySem.W PySem.Calls PyProof.Rows
set_option Elab.async false
set_option linter.unusedVariables false
set_option maxRecDepth 100000
namespace Mine
section
variable {α : Type} {prog : Program} {w : World} {M : Model} {A : Around} {E : Value → Shared → Prop} {s : Shared}
theorem ifS_f {c : Bool} {a b : Sem α} {Q : α → Shared → Prop} (hc : c = false) (h : wpS M A b Q E s) : wpS M A (if c = true then a else b) Q E s := by
  subst hc; exact h
theorem ifS_t {c : Bool} {a b : Sem α} {Q : α → Shared → Prop} (hc : c = true) (h : wpS M A a Q E s) : wpS M A (if c = true then a else b) Q E s := by
  subst hc; exact h
theorem ifS_neg {p : Prop} [Decidable p] {x y : Sem α} {Q : α → Shared → Prop} (hp : ¬ p) (h : wpS M A y Q E s) : wpS M A (if p then x else y) Q E s := by
  rw [if_neg hp]; exact h
theorem eqS {t : Sem α} {a : α} {Q : α → Shared → Prop} (h : t = pure a) (hq : Q a s) : wpS M A t Q E s := wpS_of_any (wpAny_of_eq h hq)
theorem codeS_builtin {id : String} {args : Args} {b : Builtin} {R : Result → Shared → Prop} (hb : entryFor table id = some b) (hh : holders.contains id = false)
    (h : wpS (model prog w) (A.under (.builtin id args)) (b args)
      (fun fin s' => match fin with | .done f => R (.ok f) s' | .again c' => c'.quiet = true ∧ codeS (model prog w) A c' R s') (fun e s' => R (.error e) s') s) :
    codeS (model prog w) A (.builtin id args) R s := by
  refine codeS_of_tree hh ?_
  show wpS _ _ (match entryFor table id with | some b => b args | none => unsupported ((withoutEnding? id "#data").getD id)) _ _ s
  rw [hb]; exact h
/-- a method of a built-in whose body asks the stack -/
theorem call_methodS {T id : String} {name : Str} {b : Builtin} {self : Value} {rest : List Value} {kw : List (Str × Value)} {Q : Value → Shared → Prop} (h : Slot T name id) (hT : s.TypeIs self T)
    (hb : entryFor table id = some b) (hh : holders.contains id = false) (ha : argsOk id ⟨self :: rest, kw⟩)
    (hc : wpS (model prog w) A.in1 (b ⟨self :: rest, kw⟩) (fun fin s' => ∃ v, fin = .done (.ret v) ∧ Q v s') E s) : wpS (model prog w) A (call (.builtin id) (self :: rest) kw) Q E s := by
  refine wpS_call (codeS_of_tree rfl ?_)
  show wpS _ A.in1 (do checkBuiltinCall id ⟨self :: rest, kw⟩; again (.builtin id ⟨self :: rest, kw⟩)) _ _ s
  refine wpS_bind_any (h.check _ _ _ _ _ _ _ _ hT ha (wpS_pure ⟨plainId_quiet h.plain _, codeS_builtin hb hh ?_⟩))
  rw [Around.under_plainId h.plain]
  refine wpS_mono hc (fun fin s' h' => ?_) fun _ _ x => x
  obtain ⟨v, rfl, hv⟩ := h'
  exact hv
theorem exports_none {x : Addr} {b : Array UInt8} {Q : Nat → Shared → Prop} (ho : s.heap.get? x = some (baObj b)) (h : Q 0 s) : wpAny M A (Builtin.Bytes.exportsOf (.ref x)) Q E s := by
  unfold Builtin.Bytes.exportsOf
  exact wpAny_bind (wpAny_load ho (wpAny_pure h))
theorem not_exported {x : Addr} {b : Array UInt8} {Q : Bool → Shared → Prop} (ho : s.heap.get? x = some (baObj b)) (h : Q false s) :
    wpS M A (Builtin.Bytes.exported (.ref x) <||> (do return (← Builtin.Bytes.exportsOf (.ref x)) > 0)) Q E s := by
  unfold orM
  refine wpS_bind (exported_none ?_)
  exact wpS_of_any (wpAny_bind (exports_none ho (wpAny_pure h)))
theorem may_resize {x : Addr} {b : Array UInt8} {Q : Unit → Shared → Prop} (ho : s.heap.get? x = some (baObj b)) (h : Q () s) : wpS M A (Builtin.Bytes.checkResize (.ref x)) Q E s := by
  unfold Builtin.Bytes.checkResize
  refine wpS_bind (not_exported ho ?_)
  exact ifS_f rfl (wpS_pure h)
theorem ba_write {x : Addr} {b : Array UInt8} {f : Array UInt8 → Array UInt8} {Q : Unit → Shared → Prop} (ho : s.heap.get? x = some (baObj b)) (hsz : (f b).size ≤ sizeLine)
    (h : ∀ h', h'.get? x = some (baObj (f b)) → Heap.SameBut x s.heap h' → Q () { s with heap := h' }) : wpAny M A (Builtin.Bytes.write (.ref x) f) Q E s := by
  show wpAny M A (updateBytearray x f) Q E s
  unfold updateBytearray
  refine wpAny_bind (wpAny_load ho ?_)
  show wpAny M A (update x (Obj.mapBytearray f) >>= fun _ => lookBehind x) Q E s
  refine wpAny_bind (wpAny_update ho ?_)
  have hS : (s.heap.update x (Obj.mapBytearray f)).get? x = some (baObj (f b)) := Heap.get?_update_self (Obj.mapBytearray f) ho rfl
  refine wpAny_lookBehind hS ?_ (h _ hS (Heap.SameBut.update ..))
  show (if (f b).size > sizeLine then some "bytearray:memory" else none) = none
  rw [if_neg (Nat.not_lt.mpr hsz)]

theorem slot_ba_append : Slot "bytearray" "append" "bytearray.append" :=
  .of (owner := "bytearray") (n := "append") (by rw [typeLookup_type, builtinLookup_eq_fast]; kernel_rfl) (by decide +kernel) (by decide +kernel) (by decide +kernel)
    (by first | exact .inl (by decide +kernel) | exact .inr (by decide +kernel)) (by rw [isSubtype_type]; kernel_rfl)
theorem type_ba_append : typeOf (.builtin "bytearray.append") = pure (.type "method_descriptor") := by show builtinType _ = _; rw [builtinType_eq_fast]; kernel_rfl
theorem entry_ba_append : entryFor table "bytearray.append" = some Builtin.«bytearray.append» := entryFor_of_tree (by kernel_rfl)
theorem args_ba_append (a b : Value) : argsOk "bytearray.append" ⟨[a, b], []⟩ := by unfold argsOk; kernel_rfl
theorem slot_ba_reverse : Slot "bytearray" "reverse" "bytearray.reverse" :=
  .of (owner := "bytearray") (n := "reverse") (by rw [typeLookup_type, builtinLookup_eq_fast]; kernel_rfl) (by decide +kernel) (by decide +kernel) (by decide +kernel)
    (by first | exact .inl (by decide +kernel) | exact .inr (by decide +kernel)) (by rw [isSubtype_type]; kernel_rfl)
theorem type_ba_reverse : typeOf (.builtin "bytearray.reverse") = pure (.type "method_descriptor") := by show builtinType _ = _; rw [builtinType_eq_fast]; kernel_rfl
theorem entry_ba_reverse : entryFor table "bytearray.reverse" = some Builtin.«bytearray.reverse» := entryFor_of_tree (by kernel_rfl)
theorem args_ba_reverse (a : Value) : argsOk "bytearray.reverse" ⟨[a], []⟩ := by unfold argsOk; kernel_rfl
theorem slot_ba_len : Slot "bytearray" "__len__" "bytearray.__len__" :=
  .of (owner := "bytearray") (n := "__len__") (by rw [typeLookup_type, builtinLookup_eq_fast]; kernel_rfl) (by decide +kernel) (by decide +kernel) (by decide +kernel)
    (by first | exact .inl (by decide +kernel) | exact .inr (by decide +kernel)) (by rw [isSubtype_type]; kernel_rfl)
theorem entry_ba_len : entryFor table "bytearray.__len__" = some Builtin.«bytearray.__len__» := entryFor_of_tree (by kernel_rfl)
theorem args_ba_len (a : Value) : argsOk "bytearray.__len__" ⟨[a], []⟩ := by unfold argsOk; kernel_rfl
theorem slot_ba_init : Slot "bytearray" "__init__" "bytearray.__init__" :=
  .of (owner := "bytearray") (n := "__init__") (by rw [typeLookup_type, builtinLookup_eq_fast]; kernel_rfl) (by decide +kernel) (by decide +kernel) (by decide +kernel)
    (by first | exact .inl (by decide +kernel) | exact .inr (by decide +kernel)) (by rw [isSubtype_type]; kernel_rfl)
theorem entry_ba_init : entryFor table "bytearray.__init__" = some Builtin.«bytearray.__init__» := entryFor_of_tree (by kernel_rfl)
theorem args_ba_init (a : Value) : argsOk "bytearray.__init__" ⟨[a], []⟩ := by unfold argsOk; kernel_rfl
theorem plainAttrs_ba : PlainAttrs "bytearray" :=
  ⟨⟨"bytearray.__getattribute__", by rw [typeLookup_type, builtinLookup_eq_fast]; kernel_rfl, by decide +kernel⟩, by rw [typeLookup_type, builtinLookup_eq_fast]; kernel_rfl⟩

theorem get_ba {x : Addr} {b : Array UInt8} {pl : Sem Bool} {name : Str} {id : String} {Q : Value × List Value → Shared → Prop} (slot : Slot "bytearray" name id) (ty : typeOf (.builtin id) = pure (.type "method_descriptor"))
    (ho : s.heap.get? x = some (baObj b)) (h : Q (.builtin id, [.ref x]) s) : wpAny M A (getMethod (.ref x) name pl) Q E s :=
  getMethod_builtin (ba_type ho) plainAttrs_ba slot ty (fun a e => by cases e; exact ⟨_, ho, rfl⟩) h
theorem do_ba_append {x : Addr} {b : Array UInt8} {d : Nat} {t : Tok} {Q : Value → Shared → Prop} (ho : s.heap.get? x = some (baObj b)) (hd : d < 256) (hsz : b.size < 1000000)
    (h : ∀ h', h'.get? x = some (baObj (b.push d.toUInt8)) → Heap.SameBut x s.heap h' → Q .none { s with heap := h' }) :
    wpS (model prog w) A (call (.builtin "bytearray.append") [.ref x, .int (d : Int) t]) Q E s := by
  refine call_methodS slot_ba_append (ba_type ho) entry_ba_append (by decide +kernel) (args_ba_append _ _) ?_
  unfold Builtin.«bytearray.append»
  refine wpS_bind (eqS (a := (.ref x, .int (d : Int) t)) (by kernel_rfl) ?_)
  dsimp only
  have hbv : Builtin.Bytes.byteValue (.int (d : Int) t) = pure d.toUInt8 := by
    have e : asIndex (.int (d : Int) t) = pure (d : Int) := rfl
    unfold Builtin.Bytes.byteValue
    rw [e, pure_bind]
    rw [if_neg (by simp only [Bool.or_eq_true, decide_eq_true_eq]; omega)]
    rw [Int.toNat_natCast]
  refine wpS_bind (eqS hbv ?_)
  refine wpS_bind (may_resize ho ?_)
  refine wpS_bind_any (ba_write ho (by rw [Array.size_push, sizeLine_eq]; omega) fun h' ho' hs => ?_)
  exact wpS_pure ⟨_, rfl, h h' ho' hs⟩
theorem do_ba_reverse {x : Addr} {b : Array UInt8} {Q : Value → Shared → Prop} (ho : s.heap.get? x = some (baObj b)) (hsz : b.size < 1000000)
    (h : ∀ h', h'.get? x = some (baObj b.reverse) → Heap.SameBut x s.heap h' → Q .none { s with heap := h' }) :
    wpAny (model prog w) A (call (.builtin "bytearray.reverse") [.ref x]) Q E s := by
  refine wpAny_call_entry slot_ba_reverse (ba_type ho) entry_ba_reverse ?_ (args_ba_reverse _)
  unfold Builtin.«bytearray.reverse»
  refine wpAny_bind (wpAny_of_eq (a := .ref x) (by kernel_rfl) ?_)
  refine wpAny_bind (ba_write (f := (·.reverse)) ho (by rw [Array.size_reverse, sizeLine_eq]; omega) fun h' ho' hs => ?_)
  exact wpAny_pure ⟨_, rfl, h h' ho' hs⟩

theorem noBool_ba : typeLookup (.type "bytearray") "__bool__" = pure none := by rw [typeLookup_type, builtinLookup_eq_fast]; kernel_rfl
theorem len_ba {A : Around} {x : Addr} {b : Array UInt8} {Q : Value → Shared → Prop} (ho : s.heap.get? x = some (baObj b)) (hfit : (b.size : Int) < 2 ^ 63)
    (h : Q (.int b.size (s.toks + 1)) { s with toks := s.toks + 1 + 1 }) : wpAny (model prog w) A (Builtin.«len» ⟨[.ref x], []⟩) (fun fin s' => ∃ r, fin = .done (.ret r) ∧ Q r s') E s := by
  unfold Builtin.«len»
  refine wpAny_bind (m := oneArg "len" _) (wpAny_pure ?_)
  refine wpAny_bind (m := callSpecial? (.ref x) (Str.ofString "__len__")) (wpAny_callSpecial?_slot (name := Str.ofString "__len__") (ba_type ho) slot_ba_len
    (wpAny_call_entry slot_ba_len (ba_type ho) entry_ba_len ?_ (args_ba_len _)))
  unfold Builtin.«bytearray.__len__»
  refine wpAny_bind (wpAny_of_eq (a := (.ref x, [])) (by kernel_rfl) ?_)
  dsimp only
  refine wpAny_bind (ba_payload ho ?_)
  refine wpAny_bind (wpAny_mkInt (wpAny_pure ⟨_, rfl, ?_⟩))
  refine wpAny_bind (wpAny_holding (wpAny_pure ?_))
  refine wpAny_bind (wpAny_letGo ?_)
  show wpAny _ _ (if ((b.size : Nat) : Int) < 0 then _ else _) _ _ _
  rw [if_neg (by omega)]
  show wpAny _ _ (if ((b.size : Nat) : Int) ≥ 2 ^ 63 then _ else _) _ _ _
  rw [if_neg (by omega)]
  exact wpAny_bind (wpAny_mkInt (wpAny_pure ⟨_, rfl, h⟩))
theorem truthy_ba {A : Around} {x : Addr} {b : Array UInt8} {Q : Bool → Shared → Prop} (ho : s.heap.get? x = some (baObj b)) (hfit : (b.size : Int) < 2 ^ 63)
    (h : ∀ k, Q ((b.size : Int) != 0) { s with toks := k }) : wpAny (model prog w) A (truthy (.ref x)) Q E s := by
  have key : wpAny (model prog w) A (runValue (.builtin "len" ⟨[.ref x], []⟩)) (fun r s' => r = .int b.size (s.toks + 1) ∧ Q ((b.size : Int) != 0) s') E s := by
    refine wpAny_runValue (codeAny_builtin entry_len ?_)
    rw [Around.under_plainId plain_len _]
    exact wpAny_mono (len_ba (Q := fun r s' => r = .int b.size (s.toks + 1) ∧ Q ((b.size : Int) != 0) s') ho hfit ⟨rfl, h _⟩)
      (fun fin s' h' => by obtain ⟨r, rfl, hq⟩ := h'; exact hq) fun _ _ e => e
  unfold truthy
  refine wpAny_bind (wpAny_callSpecial?_none (name := Str.ofString "__bool__") (ba_type ho) noBool_ba ?_)
  refine wpAny_bind (wpAny_specialOf (name := Str.ofString "__len__") (ba_type ho) slot_ba_len.lookup ?_)
  exact wpAny_bind (wpAny_mono key (fun r s' h' => by obtain ⟨rfl, hq⟩ := h'; exact wpAny_pure hq) fun _ _ e => e)

theorem mro_ba : mroOf (.type "bytearray") = pure [.type "bytearray", .type "object"] := by rw [mroOf_type]; kernel_rfl
theorem look_ba_new : typeLookup (.type "bytearray") "__new__" = pure (some (.builtin "bytearray.__new__")) := by rw [typeLookup_type, builtinLookup_eq_fast]; kernel_rfl
theorem made_ba : Bind.madeBy (.type "bytearray") = pure (some "bytearray.__new__") := madeBy_type mro_ba look_ba_new (by decide +kernel)
theorem check_ba : checkTypeCall "bytearray" ⟨[], []⟩ = pure () := by kernel_rfl
theorem check_ba_new : checkBuiltinCall "bytearray.__new__" ⟨[.type "bytearray"], []⟩ = pure () := by kernel_rfl
theorem entry_ba_new : entryFor table "bytearray.__new__" = some Builtin.«list.__new__» := entryFor_alias (by rw [fastTable_eq_tree]; kernel_rfl) (by decide +kernel) (id' := "list.__new__") (by kernel_rfl) (by rw [fastTable_eq_tree]; kernel_rfl)
theorem plain_ba_new : plainId "bytearray.__new__" = true := by decide +kernel
theorem bind_ba : Builtin.Bytes.bindOptional "bytearray.__init__" "bytearray" ["source", "encoding", "errors"] [] [] = pure [none, none, none] := by kernel_rfl
set_option maxRecDepth 1000000 in
set_option maxHeartbeats 4000000 in
theorem owner_ba_new : ("bytearray.__new__".splitOn ".__new__").headD "" = "bytearray" := by simp +decide [String.splitOn, String.splitOnAux]
theorem code_ba_new {A : Around} {Q₁ : Value → Shared → Prop} (h : Q₁ (.ref s.heap.objs.size) { s with heap := s.heap.push (baObj #[]) }) :
    codeAny (model prog w) A (.call (.builtin "bytearray.__new__") ⟨[.type "bytearray"], []⟩) (wants Q₁ E) s := by
  refine codeAny_of_tree ?_
  show wpAny _ A.in1 (do checkBuiltinCall "bytearray.__new__" ⟨[.type "bytearray"], []⟩; again (.builtin "bytearray.__new__" ⟨[.type "bytearray"], []⟩)) _ _ s
  refine wpAny_bind (wpAny_of_eq check_ba_new (wpAny_pure ⟨plainId_quiet plain_ba_new _, codeAny_builtin_stack entry_ba_new rfl fun p st => ?_⟩))
  rw [Around.under_plainId plain_ba_new _]
  dsimp only
  simp only [owner_ba_new]
  refine wpAny_bind (wpAny_of_eq (a := true) rfl ?_)
  refine if_f rfl ?_
  refine wpAny_bind (wpAny_of_eq sub_ba ?_)
  refine if_f rfl ?_
  refine wpAny_bind (wpAny_of_eq (a := Data.bytearray #[]) rfl ?_)
  refine if_t (by decide +kernel) ?_
  refine wpAny_bind (wpAny_newObj_type ?_ (Nat.zero_le _))
  first
    | exact wpAny_pure h
    | exact wpAny_bind (wpAny_pure (wpAny_pure h))
theorem do_ba_new {A : Around} {Q : Value → Shared → Prop} (h : ∀ h', h'.get? s.heap.objs.size = some (baObj #[]) → Heap.SameBut s.heap.objs.size (s.heap.push (baObj #[])) h' → Q (.ref s.heap.objs.size) { s with heap := h' }) :
    wpS (model prog w) A (call (.type "bytearray") []) Q E s := by
  refine wpS_call (codeS_of_tree rfl ?_)
  show wpS _ _ (callAny (.type "bytearray") _) _ _ _
  refine wpS_pure ⟨Code.quiet_builtin _ (by decide +kernel), codeS_builtin F.entry_type_call (by decide +kernel) ?_⟩
  rw [Around.under_plain (weight_type_call_type "bytearray" [] []) rfl]
  unfold Builtin.«type.__call__»
  dsimp only
  refine ifS_f (by decide) ?_
  refine ifS_f (by decide +kernel) ?_
  refine wpS_bind (eqS check_ba ?_)
  refine wpS_bind (eqS mro_ba ?_)
  refine ifS_f rfl ?_
  refine wpS_bind (eqS made_ba ?_)
  dsimp only
  refine wpS_bind (wpS_pure ?_)
  refine wpS_bind (wpS_holding ?_)
  refine wpS_of_any (wpAny_call (codeAny_mono (code_ba_new (E := fun _ _ => False) (Q₁ := fun obj s₁ => obj = .ref s.heap.objs.size ∧ s₁ = { s with heap := s.heap.push (baObj #[]) }) ⟨rfl, rfl⟩) fun r s₁ hr => ?_))
  have hr' : r = .ok (.ret (.ref s.heap.objs.size)) ∧ s₁ = { s with heap := s.heap.push (baObj #[]) } := by
    cases r with
    | error e => exact hr.elim
    | ok fl => cases fl with
      | ret v => obtain ⟨rfl, rfl⟩ := hr; exact ⟨rfl, rfl⟩
      | _ => exact hr.elim
  obtain ⟨rfl, rfl⟩ := hr'
  have ho : (s.heap.push (baObj #[])).get? s.heap.objs.size = some (baObj #[]) := Heap.get?_push_size _ rfl
  dsimp only
  refine wpS_bind_any (wpAny_isInstance (ba_type ho) sub_ba ?_)
  refine ifS_f rfl ?_
  refine wpS_bind (wpS_holding ?_)
  unfold callSpecial?
  refine wpS_bind_any (wpAny_specialOf (ba_type ho) slot_ba_init.lookup ?_)
  dsimp only
  refine wpS_holding ?_
  rw [slot_ba_init.bind]
  refine wpS_bind (wpS_pure ?_)
  refine wpS_bind (call_methodS slot_ba_init (ba_type ho) entry_ba_init (by decide +kernel) (args_ba_init _) ?_)
  unfold Builtin.«bytearray.__init__»
  dsimp only
  unfold Builtin.Bytes.ownRelease
  refine wpS_bind_any (wpAny_bind (ba_own ho look_ba_release (by decide +kernel) (by decide +kernel) (wpAny_pure ?_)))
  refine ifS_f rfl ?_
  refine wpS_bind (eqS (a := [none, none, none]) bind_ba ?_)
  dsimp only
  refine wpS_bind (eqS (a := ()) rfl ?_)
  refine wpS_bind (eqS (a := ()) rfl ?_)
  refine wpS_bind (not_exported ho ?_)
  refine ifS_f rfl ?_
  refine wpS_bind_any (ba_write ho (Nat.zero_le _) fun h' ho' hs => ?_)
  refine wpS_bind (eqS (a := ()) rfl ?_)
  refine wpS_pure ⟨_, rfl, ?_⟩
  dsimp only
  refine wpS_pure ?_
  refine ifS_f (by decide) ?_
  exact wpS_pure (h h' ho' hs)
end
end Mine
end
section
open PySem PySem.W PySem.Calls PyProof.Rows
set_option Elab.async false
set_option linter.unusedVariables false
set_option maxRecDepth 100000
set_option exponentiation.threshold 3000
namespace Mine
def digTab : Array UInt8 := #[0, 1, 2, 3, 4, 5, 6, 7, 8, 9, 10, 11, 12, 13, 14, 15, 16, 17, 18, 19, 20, 21, 22, 23, 24, 25, 26, 27, 28, 29, 30, 31, 32, 33, 34, 35, 36, 37, 38, 39, 40, 41, 42, 43, 44, 45, 46, 47, 48, 0, 1, 2, 3, 4, 5, 6, 7, 8, 58, 59, 60, 61, 62, 63, 64, 9, 10, 11, 12, 13, 14, 15, 16, 73, 17, 18, 19, 20, 21, 79, 22, 23, 24, 25, 26, 27, 28, 29, 30, 31, 32, 91, 92, 93, 94, 95, 96, 33, 34, 35, 36, 37, 38, 39, 40, 41, 42, 43, 108, 44, 45, 46, 47, 48, 49, 50, 51, 52, 53, 54, 55, 56, 57, 123, 124, 125, 126, 127, 128, 129, 130, 131, 132, 133, 134, 135, 136, 137, 138, 139, 140, 141, 142, 143, 144, 145, 146, 147, 148, 149, 150, 151, 152, 153, 154, 155, 156, 157, 158, 159, 160, 161, 162, 163, 164, 165, 166, 167, 168, 169, 170, 171, 172, 173, 174, 175, 176, 177, 178, 179, 180, 181, 182, 183, 184, 185, 186, 187, 188, 189, 190, 191, 192, 193, 194, 195, 196, 197, 198, 199, 200, 201, 202, 203, 204, 205, 206, 207, 208, 209, 210, 211, 212, 213, 214, 215, 216, 217, 218, 219, 220, 221, 222, 223, 224, 225, 226, 227, 228, 229, 230, 231, 232, 233, 234, 235, 236, 237, 238, 239, 240, 241, 242, 243, 244, 245, 246, 247, 248, 249, 250, 251, 252, 253, 254, 255]
def chrTab : Array UInt8 := #[49, 50, 51, 52, 53, 54, 55, 56, 57, 65, 66, 67, 68, 69, 70, 71, 72, 74, 75, 76, 77, 78, 80, 81, 82, 83, 84, 85, 86, 87, 88, 89, 90, 97, 98, 99, 100, 101, 102, 103, 104, 105, 106, 107, 109, 110, 111, 112, 113, 114, 115, 116, 117, 118, 119, 120, 121, 122, 58, 59, 60, 61, 62, 63, 64, 65, 66, 67, 68, 69, 70, 71, 72, 73, 74, 75, 76, 77, 78, 79, 80, 81, 82, 83, 84, 85, 86, 87, 88, 89, 90, 91, 92, 93, 94, 95, 96, 97, 98, 99, 100, 101, 102, 103, 104, 105, 106, 107, 108, 109, 110, 111, 112, 113, 114, 115, 116, 117, 118, 119, 120, 121, 122, 123, 124, 125, 126, 127, 128, 129, 130, 131, 132, 133, 134, 135, 136, 137, 138, 139, 140, 141, 142, 143, 144, 145, 146, 147, 148, 149, 150, 151, 152, 153, 154, 155, 156, 157, 158, 159, 160, 161, 162, 163, 164, 165, 166, 167, 168, 169, 170, 171, 172, 173, 174, 175, 176, 177, 178, 179, 180, 181, 182, 183, 184, 185, 186, 187, 188, 189, 190, 191, 192, 193, 194, 195, 196, 197, 198, 199, 200, 201, 202, 203, 204, 205, 206, 207, 208, 209, 210, 211, 212, 213, 214, 215, 216, 217, 218, 219, 220, 221, 222, 223, 224, 225, 226, 227, 228, 229, 230, 231, 232, 233, 234, 235, 236, 237, 238, 239, 240, 241, 242, 243, 244, 245, 246, 247, 248, 249, 250, 251, 252, 253, 254, 255]
def alphB : Array UInt8 := #[49, 50, 51, 52, 53, 54, 55, 56, 57, 65, 66, 67, 68, 69, 70, 71, 72, 74, 75, 76, 77, 78, 80, 81, 82, 83, 84, 85, 86, 87, 88, 89, 90, 97, 98, 99, 100, 101, 102, 103, 104, 105, 106, 107, 109, 110, 111, 112, 113, 114, 115, 116, 117, 118, 119, 120, 121, 122]
theorem digTab_size : digTab.size = 256 := by decide +kernel
theorem chrTab_size : chrTab.size = 256 := by decide +kernel
/-- the digit of a sign, the sign of a digit, as the program's tables have them -/
def digOf (x : UInt8) : UInt8 := digTab.getD x.toNat x
def chrOf (x : UInt8) : UInt8 := chrTab.getD x.toNat x
def badOf (b : Array UInt8) : Array UInt8 := b.filter fun x => !alphB.contains x
/-- bytes without the signs z ahead -/
def cutZ (z : UInt8) (b : Array UInt8) : Array UInt8 := (b.toList.dropWhile (· == z)).toArray
theorem cutZ_le (z : UInt8) (b : Array UInt8) : (cutZ z b).size ≤ b.size := by
  unfold cutZ
  rw [List.size_toArray]
  simpa using drop_le (· == z) b.toList
def minLen (X : Nat) : Nat := (Builtin.Int.intBits (X : Int) + 7) / 8
/-- the octets of a number, no nought ahead -/
def minBytes (X : Nat) : List UInt8 := beBytes (minLen X) X
theorem minLen_ok (X : Nat) : X < 256 ^ minLen X := by
  have e2 : (2 : Nat) ^ 8 = 256 := by decide
  have h : Builtin.Int.intBits (X : Int) ≤ 8 * minLen X := by unfold minLen; omega
  have := intBits_le_iff.mp h
  rw [Nat.pow_mul, e2] at this
  omega
theorem minLen_le {X k : Nat} (h : X < 256 ^ k) : minLen X ≤ k := by
  have := bits_of h
  unfold minLen; omega
theorem minBytes_length (X : Nat) : (minBytes X).length = minLen X := beBytes_length _ _
section
variable {prog : Program} {w : World} {M : Model} {A : Around} {E : Value → Shared → Prop} {s : Shared} {b c d : Array UInt8} {t u v : Tok} {X : Nat}
theorem do_digits {Q : Value → Shared → Prop} (hsz : b.size ≤ 1000000) (h : ∀ t' n, (b.map digOf).size = b.size → Q (.bytes (b.map digOf) t') { s with toks := n }) :
    wpAny (model prog w) A (call (.builtin "bytes.translate") [.bytes b t, .bytes digTab u]) Q E s :=
  do_translate digTab_size (by omega) fun t' n => h t' n (by rw [Array.size_map])
theorem do_signs {Q : Value → Shared → Prop} (hsz : b.size ≤ 1000000) (h : ∀ t' n, (b.map chrOf).size = b.size → Q (.bytes (b.map chrOf) t') { s with toks := n }) :
    wpAny (model prog w) A (call (.builtin "bytes.translate") [.bytes b t, .bytes chrTab u]) Q E s :=
  do_translate chrTab_size (by omega) fun t' n => h t' n (by rw [Array.size_map])
theorem do_bad {Q : Value → Shared → Prop} (hsz : b.size ≤ 1000000) (h : ∀ t' n, (badOf b).size ≤ b.size → Q (.bytes (badOf b) t') { s with toks := n }) :
    wpAny (model prog w) A (call (.builtin "bytes.translate") [.bytes b t, .none, .bytes alphB v]) Q E s :=
  do_translate3 (by omega) fun t' n => h t' n Array.size_filter_le
theorem do_cut {z : UInt8} {Q : Value → Shared → Prop} (hsz : b.size ≤ 1000000) (h : ∀ t' n, (cutZ z b).size ≤ b.size → Q (.bytes (cutZ z b) t') { s with toks := n }) :
    wpAny (model prog w) A (call (.builtin "bytes.lstrip") [.bytes b t, .bytes #[z] u]) Q E s := by
  refine do_lstrip (by omega) fun t' n => ?_
  have e : (b.toList.dropWhile (#[z] : Array UInt8).contains).toArray = cutZ z b := by
    unfold cutZ
    congr 2
    funext x
    simp only [List.contains_toArray, List.contains_cons, List.contains_nil, Bool.or_false]
  rw [e]
  exact h t' n (cutZ_le z b)
theorem len_any {Q : Value → Shared → Prop} (hsz : b.size ≤ 1000000) (h : ∀ t' n, Q (.int (b.size : Nat) t') { s with toks := n }) : wpAny (model prog w) A (call (.builtin "len") [.bytes b t]) Q E s :=
  len_bytes (by omega) (h _ _)
theorem truthy_no {Q : Bool → Shared → Prop} (hz : b.size = 0) (h : ∀ n, Q false { s with toks := n }) : wpAny (model prog w) A (truthy (.bytes b t)) Q E s := by
  refine truthy_bytes (by omega) ?_
  rw [hz]; exact h _
theorem truthy_yes {Q : Bool → Shared → Prop} (hz : b.size ≠ 0) (hsz : b.size ≤ 1000000) (h : ∀ n, Q true { s with toks := n }) : wpAny (model prog w) A (truthy (.bytes b t)) Q E s := by
  refine truthy_bytes (by omega) ?_
  have : ((b.size : Int) != 0) = true := bne_iff_ne.mpr (by omega)
  rw [this]; exact h _
theorem min_arg (X : Nat) : ((Builtin.Int.intBits (X : Int) : Int) + 7).fdiv 8 = ((minLen X : Nat) : Int) := by
  unfold minLen
  rw [Int.fdiv_eq_ediv_of_nonneg _ (by decide)]
  omega
theorem do_min {Q : Value → Shared → Prop} (hk : X < 256 ^ 1000) (h : ∀ t' n, Q (.bytes (minBytes X).toArray t') { s with toks := n }) :
    wpAny (model prog w) A (call (.builtin "int.to_bytes") [.int (X : Int) t, .int (((Builtin.Int.intBits (X : Int) : Int) + 7).fdiv 8) u, .str (PySem.Str.ofString "big") v]) Q E s := by
  rw [min_arg]
  have := minLen_le hk
  exact do_to_bytes (by omega) (minLen_ok X) h
theorem do_min_kw {Q : Value → Shared → Prop} (hk : X < 256 ^ 1000) (h : ∀ t' n, Q (.bytes (minBytes X).toArray t') { s with toks := n }) :
    wpAny (model prog w) A (call (.builtin "int.to_bytes") [.int (X : Int) t, .int (((Builtin.Int.intBits (X : Int) : Int) + 7).fdiv 8) u] [(PySem.Str.ofString "byteorder", .str (PySem.Str.ofString "big") v), (PySem.Str.ofString "signed", .bool false)]) Q E s := by
  rw [min_arg]
  have := minLen_le hk
  exact do_to_bytes_kw (by omega) (minLen_ok X) h
theorem do_32_kw {x : Int} {Q : Value → Shared → Prop} (h0 : 0 ≤ x) (h1 : x < 115792089237316195423570985008687907853269984665640564039457584007913129639936) (h : ∀ t' n, Q (.bytes (beBytes 32 x.toNat).toArray t') { s with toks := n }) :
    wpAny (model prog w) A (call (.builtin "int.to_bytes") [.int x t, .int 32 u] [(PySem.Str.ofString "byteorder", .str (PySem.Str.ofString "big") v), (PySem.Str.ofString "signed", .bool false)]) Q E s := by
  obtain ⟨X, rfl⟩ := Int.eq_ofNat_of_zero_le h0
  rw [Int.toNat_natCast] at h
  refine do_to_bytes_kw (k := 32) (by omega) ?_ h
  have e : (256 : Nat) ^ 32 = 115792089237316195423570985008687907853269984665640564039457584007913129639936 := by decide +kernel
  rw [e]; omega
/-- a call of a bound method of a built-in, by words -/
theorem callWith_words {pos : Pos} {x : Addr} {env : Env} {e : Expr} {rest : List Expr} {kws : List Keyword} {Q : Value → Shared → Prop} {h₀ : Heap} {L : Addr} {news : List (Addr × Obj)} (_N : News h₀ L s.heap news) (_hm : (x, KFB.bound) ∈ news)
    (h : wpAny M A (spliced (backTo pos (starEach (e :: rest) env))) (fun vs s₁ => wpAny M A (evalAll ((backToKw pos (keywordEach kws env)).map (·.2)))
      (fun kvs s₂ => KFB.StandsAt x s₂.heap ∧ wpAny M A (call (.ref x) vs (((backToKw pos (keywordEach kws env)).filterMap (·.1)).zip kvs)) Q E s₂) E s₁) E s)
    (he : backTo pos (starEach (e :: rest) env) = (false, eval e env) :: backTo pos (starEach rest env) := by rfl)
    (hplain : (backTo pos (starEach (e :: rest) env)).any (·.1) = false := by rfl)
    (hall : (backToKw pos (keywordEach kws env)).all (·.1.isSome) = true := by rfl)
    (hkw : (backToKw pos (keywordEach kws env)).any (·.1.isNone) = false := by rfl) :
    wpAny M A (callWith pos (.ref x) [] (backTo pos (starEach (e :: rest) env)) (backToKw pos (keywordEach kws env))) Q E s := by
  unfold callWith
  have h' : wpAny M A (evalArgs (.ref x) true (backTo pos (starEach (e :: rest) env)) (backToKw pos (keywordEach kws env))) (fun a s₁ => KFB.StandsAt x s₁.heap ∧ wpAny M A (call (.ref x) ([] ++ a.pos) a.kw) Q E s₁) E s := by
    rw [he] at h ⊢
    exact evalArgs_kwB hall h
  refine wpAny_bind (wpAny_holding (wpAny_mono h' (fun a s₁ h₁ => wpAny_bind (wpAny_standAt ?_)) fun _ _ x => x))
  obtain ⟨ho, hcall⟩ := h₁
  simp only [hplain, hkw, Bool.or_false]
  refine wpAny_bind (m := keeperOf (.ref x)) ?_
  unfold keeperOf
  refine wpAny_bind (wpAny_load ho ?_)
  simp only [KFB.bound, show (Value.type "builtin_function_or_method" != Value.type "method") = true by decide, show (Value.type "builtin_function_or_method" == Value.type "builtin_function_or_method" || Value.type "builtin_function_or_method" == Value.type "method-wrapper") = true by decide, if_true]
  refine wpAny_pure ?_
  exact wpAny_bind (wpAny_mono hcall (fun r s₂ hr => wpAny_bind (wpAny_holding (wpAny_point (wpAny_pure hr)))) fun _ _ x => x)
end
end Mine
end
section
open PySem PySem.W PySem.Calls PyProof.Rows
set_option Elab.async false
set_option linter.unusedVariables false
set_option maxRecDepth 100000
set_option exponentiation.threshold 3000
namespace Mine
section
variable {prog : Program} {w : World} {M : Model} {A : Around} {E : Value → Shared → Prop} {s : Shared} {b c d : Array UInt8} {t u v : Tok} {X : Nat}
theorem do_add {Q : Value → Shared → Prop} (hsz : b.size + c.size ≤ 1000000) (h : ∀ t' n, (b ++ c).size = b.size + c.size → Q (.bytes (b ++ c) t') { s with toks := n }) : wpAny (model prog w) A (binaryOp .Add (.bytes b t) (.bytes c u)) Q E s :=
  KBy.add_bytes (by omega) fun t' n => h t' n Array.size_append
theorem mul_ok {x y : Nat} (hx : x < 2 ^ 2000) (hy : y < 2 ^ 2000) : IntMulOk (x : Int) (y : Int) := by
  have h1 : Builtin.Int.intBits (x : Int) ≤ 2000 := intBits_le_iff.mpr (by omega)
  have h2 : Builtin.Int.intBits (y : Int) ≤ 2000 := intBits_le_iff.mpr (by omega)
  unfold IntMulOk
  have : Builtin.Int.intTooBig (Builtin.Int.intBits (x : Int) + Builtin.Int.intBits (y : Int)) = false := by
    generalize Builtin.Int.intBits (x : Int) = p at h1
    generalize Builtin.Int.intBits (y : Int) = q at h2
    unfold Builtin.Int.intTooBig
    have hb : bitsLine = 134217728 := by decide
    rw [decide_eq_false_iff_not]
    rw [hb]; omega
  rw [this, Bool.and_false]
  exact Bool.false_ne_true
theorem do_pow58 {n : Nat} {Q : Value → Shared → Prop} (hn : n ≤ 10) (h : ∀ t' k, 0 < (58 ^ n : Nat) → (58 ^ n : Nat) ≤ 430804206899405824 → Q (.int ((58 ^ n : Nat) : Int) t') { s with toks := k }) :
    wpAny (model prog w) A (binaryOp .Pow (.int 58 t) (.int (n : Int) u)) Q E s := by
  refine pow_int_small (by omega) (by omega) (by decide) ?_
  have e : (58 : Int) ^ (n : Int).toNat = ((58 ^ n : Nat) : Int) := by rw [Int.toNat_natCast, Int.natCast_pow]; rfl
  rw [e]
  refine h _ _ (Nat.pow_pos (by decide)) ?_
  have : (58 : Nat) ^ n ≤ 58 ^ 10 := Nat.pow_le_pow_right (by decide) hn
  exact Nat.le_trans this (by decide)

/-- what k signs z are -/
theorem rep_flat (z : UInt8) (k : Nat) : (List.replicate k [z]).flatten = List.replicate k z := by
  induction k with
  | zero => rfl
  | succ k ih => rw [List.replicate_succ, List.flatten_cons, ih, List.replicate_succ]; rfl
end
section
variable {prog : Program} {w : World} {A : Around} {E : Value → Shared → Prop} {s : Shared} {env : Env} {h₀ : Heap} {x : Str} {body : List Stmt} {Q : Flow → Shared → Prop}
/-- a loop over a range by steps, one int told turn by turn, the other stored names forgotten -/
theorem iter_stepAcc {r : Addr} {a b c : Int} {t₁ t₂ t₃ : Tok} {n : Nat} {m₀ : Str → Option Value} {news : List (Addr × Obj)} {y : Str} {t₀ : Tok} (V : Nat → Int) (stored : List Str)
    (hh : A.handled = none) (hr : IsRange s.heap r a b c t₁ t₂ t₃) (hsmall : Builtin.Range.small a b c = true) (hn : Builtin.Range.rangeSize a b c = (n : Int)) (F : Fr h₀ env.locals s.heap m₀) (N : News h₀ env.locals s.heap news)
    (hy : m₀ y = some (.int (V 0) t₀)) (hyx : y ≠ x)
    (turn : ∀ i t ta (u : Str → Option Value) h tk own, i < n → Fr h₀ env.locals h (fun z => if z = x then some (.int (a + (i : Nat) * c) t) else if z = y then some (.int (V i) ta) else if stored.contains z then u z else m₀ z) → News h₀ env.locals h (own ++ news) →
      wpAny (model prog w) A (execs body env) (InvPost h₀ env.locals (fun m' => (∃ t', m' y = some (.int (V (i + 1)) t')) ∧ ∀ z, z ≠ x → z ≠ y → stored.contains z = false → m' z = m₀ z) (own ++ news) { s with heap := h, toks := tk } Q) E { s with heap := h, toks := tk })
    (done : ∀ (u : Str → Option Value) t h tk, Fr h₀ env.locals h (fun z => if z = x then u z else if z = y then some (.int (V n) t) else if stored.contains z then u z else m₀ z) → News h₀ env.locals h news → Q .next { s with heap := h, toks := tk }) :
    wpAny (model prog w) A (pyIter (.ref r)) (fun it s₂ => LoopAtV prog w A h₀ env x body Q E it s₂) E s := by
  refine wpAny_pyIter_range hr hsmall ?_
  rw [hn]
  have W := Walks.range (prog := prog) (w := w) hh s.heap.objs.size a c n
  have norm : ∀ (m : Str → Option Value) (v : Int) (ta : Tok), m y = some (.int v ta) → (∀ z, z ≠ x → z ≠ y → stored.contains z = false → m z = m₀ z) → ∀ o : Option Value,
      (fun z => if z = x then o else m z) = fun z => if z = x then o else if z = y then some (Value.int v ta) else if stored.contains z then m z else m₀ z := by
    intro m v ta h1 h2 o
    funext z
    by_cases hx : z = x
    · simp [hx]
    · simp only [if_neg hx]
      by_cases hz : z = y
      · subst hz; simp [h1]
      · simp only [if_neg hz]
        cases hs : stored.contains z with
        | true => simp
        | false => simp only [Bool.false_eq_true, if_false]; exact h2 z hx hz hs
  let J : Nat → (Str → Option Value) → List (Addr × Obj) → Prop := fun i m₁ news₁ => news₁ = news ∧ (∃ t', m₁ y = some (.int (V i) t')) ∧ ∀ z, z ≠ x → z ≠ y → stored.contains z = false → m₁ z = m₀ z
  refine ⟨_, _, _, n, _, _, m₀, news, J, rfl, W, ?_, ?_, ?_, by simpa using Heap.get?_push_size _ rfl, F.push _, (fun p hp => ⟨Heap.get?_push_of_some _ (N p hp).1, (N p hp).2⟩), ⟨rfl, ⟨t₀, hy⟩, fun _ _ _ _ => rfl⟩, ?_, ?_⟩
  · intro hm
    exact absurd F.ns.lt ((List.mem_singleton.mp hm) ▸ Nat.lt_irrefl _)
  · intro b' hb
    rw [List.mem_singleton.mp hb]
    exact next_is_new F
  · intro p hp hI
    exact absurd (Heap.lt_size (N p hp).1) ((List.mem_singleton.mp hI) ▸ Nat.lt_irrefl _)
  · rintro i v m₁ news₁ s₁ own ⟨hh', tk', rfl⟩ hin ⟨t, rfl⟩ ⟨rfl, ⟨ta, h1⟩, h2⟩ hoff _ _ _ _ F₁ N₁
    rw [norm m₁ _ ta h1 h2] at F₁
    refine wpAny_mono (turn i t ta m₁ hh' tk' own hin F₁ N₁) (fun f s₂ p => ?_) fun _ _ e => e
    have fin : InvEnd h₀ env.locals (fun m' => (∃ t', m' y = some (.int (V (i + 1)) t')) ∧ ∀ z, z ≠ x → z ≠ y → stored.contains z = false → m' z = m₀ z) (own ++ news₁) { s with heap := hh', toks := tk' } s₂ → LoopStepU h₀ env.locals [s.heap.objs.size] own (J (i + 1)) { s with heap := hh', toks := tk' } .next s₂ := by
      rintro ⟨h', tk, m', news', e, F', N', hn, hm⟩
      exact ⟨rfl, h', tk, m', news₁, e, F', fun p hp => N' p (hn p hp), hoff, rfl, hm⟩
    cases f with
    | ret v => exact .ret p
    | brk => exact .brk p
    | next => exact .next (fin p)
    | cont => exact .cont (fin p)
  · rintro h' tk m' news' F' N' _ ⟨rfl, ⟨t', h1⟩, h2⟩
    refine done m' t' h' tk ?_ N'
    have e : (fun z => if z = x then m' z else if z = y then some (Value.int (V n) t') else if stored.contains z then m' z else m₀ z) = m' := by
      funext z
      by_cases hx : z = x
      · simp [hx]
      · simp only [if_neg hx]
        by_cases hz : z = y
        · subst hz; simp [h1]
        · simp only [if_neg hz]
          cases hs : stored.contains z with
          | true => simp
          | false => simp only [Bool.false_eq_true, if_false]; exact (h2 z hx hz hs).symm
    rw [e]; exact F'
end
section
variable {prog : Program} {w : World} {A : Around} {E : Value → Shared → Prop} {s : Shared} {value slice : PySem.Expr} {b : Array UInt8} {t : Tok} {h₀ : Heap} {L : Addr} {m : PySem.Str → Option Value} {news : List (Addr × Obj)} {l u : Value} {lo hi : Option Int} {Q : Value → Shared → Prop}
theorem do_slice (hF : Fr h₀ L s.heap m) (hN : News h₀ L s.heap news) (hl : IsPart l lo) (hu : IsPart u hi) (hz : b.size ≤ 1000000)
    (h : ∀ h' t' k, Fr h₀ L h' m → News h₀ L h' news → (KBy.picked b lo hi).size ≤ b.size → Q (.bytes (KBy.picked b lo hi) t') { s with heap := h', toks := k })
    (hs : subscripted slice false (.bytes b t) (.ref s.heap.objs.size) = operate [.ref s.heap.objs.size, .bytes b t] (getItem (.bytes b t) (.ref s.heap.objs.size)) := by with_unfolding_all rfl)
    (ht : ∀ r, letTemporaryGo value (.bytes b t) r = pure () := by intro _; with_unfolding_all rfl) :
    wpAny (model prog w) A (subscriptTail value slice (.bytes b t) (.ref s.heap.objs.size)) Q E { s with heap := s.heap.push { cls := .type "slice", data := .fields #[l, u, .none] } } :=
  KBc.slice_K hF hN rfl hl hu (by rw [KBw.ints_length]; omega) (fun h' t' k F' N' _ => h h' t' k F' N' (KBc.size_picked_le b lo hi)) hs ht
theorem alpha_one : KBy.picked alphB none (some 1) = #[49] := by decide +kernel
theorem do_slice_alpha {ti : Tok} (hF : Fr h₀ L s.heap m) (hN : News h₀ L s.heap news)
    (h : ∀ h' t' k, Fr h₀ L h' m → News h₀ L h' news → (#[49] : Array UInt8).size = 1 → Q (.bytes #[49] t') { s with heap := h', toks := k })
    (hs : subscripted slice false (.bytes alphB t) (.ref s.heap.objs.size) = operate [.ref s.heap.objs.size, .bytes alphB t] (getItem (.bytes alphB t) (.ref s.heap.objs.size)) := by with_unfolding_all rfl)
    (ht : ∀ r, letTemporaryGo value (.bytes alphB t) r = pure () := by intro _; with_unfolding_all rfl) :
    wpAny (model prog w) A (subscriptTail value slice (.bytes alphB t) (.ref s.heap.objs.size)) Q E { s with heap := s.heap.push { cls := .type "slice", data := .fields #[.none, .int 1 ti, .none] } } :=
  do_slice hF hN .none (.int 1 ti) (by decide +kernel) (fun h' t' k F' N' _ => by rw [alpha_one]; exact h h' t' k F' N' rfl) hs ht
/-- the i-th group of ten -/
def seg (b : Array UInt8) (i : Nat) : Array UInt8 := ((b.toList.drop (10 * i)).take 10).toArray
theorem seg_size (b : Array UInt8) (i : Nat) : (seg b i).size ≤ 10 := by
  unfold seg; rw [List.size_toArray, List.length_take]; omega
theorem seg_eq (b : Array UInt8) (i : Nat) : KBy.picked b (some (0 + (i : Int) * 10)) (some (0 + (i : Int) * 10 + 10)) = seg b i := by
  rw [KBc.picked_eq]
  show ((b.toList.drop (clipAt b.size _)).take (clipAt b.size _ - clipAt b.size _)).toArray = _
  have e1 : (0 + (i : Int) * 10) = ((10 * i : Nat) : Int) := by push_cast; omega
  have e2 : (0 + (i : Int) * 10 + 10) = ((10 * i + 10 : Nat) : Int) := by push_cast; omega
  rw [e2, e1, clipAt_nat, clipAt_nat]
  unfold seg
  by_cases h : 10 * i ≤ b.size
  · rw [Nat.min_eq_left h]
    by_cases h2 : 10 * i + 10 ≤ b.size
    · rw [Nat.min_eq_left h2, Nat.add_sub_cancel_left]
    · rw [Nat.min_eq_right (by omega)]
      congr 1
      rw [List.take_of_length_le (by simp), List.take_of_length_le (by simp; omega)]
  · rw [Nat.min_eq_right (by omega), Nat.min_eq_right (by omega), Nat.sub_self]
    rw [List.take_zero, List.drop_eq_nil_of_le (by simp; omega)]
    rfl
theorem do_slice_step {i : Nat} {ti tj : Tok} (hF : Fr h₀ L s.heap m) (hN : News h₀ L s.heap news) (hz : b.size ≤ 1000000)
    (h : ∀ h' t' k, Fr h₀ L h' m → News h₀ L h' news → (seg b i).size ≤ 10 → Q (.bytes (seg b i) t') { s with heap := h', toks := k })
    (hs : subscripted slice false (.bytes b t) (.ref s.heap.objs.size) = operate [.ref s.heap.objs.size, .bytes b t] (getItem (.bytes b t) (.ref s.heap.objs.size)) := by with_unfolding_all rfl)
    (ht : ∀ r, letTemporaryGo value (.bytes b t) r = pure () := by intro _; with_unfolding_all rfl) :
    wpAny (model prog w) A (subscriptTail value slice (.bytes b t) (.ref s.heap.objs.size)) Q E { s with heap := s.heap.push { cls := .type "slice", data := .fields #[.int (0 + (i : Int) * 10) ti, .int (0 + (i : Int) * 10 + 10) tj, .none] } } :=
  do_slice hF hN (.int _ ti) (.int _ tj) hz (fun h' t' k F' N' _ => by rw [seg_eq]; exact h h' t' k F' N' (seg_size b i)) hs ht
end
/-- digits as a number, and so over ints -/
def valN (l : List UInt8) : Nat := l.foldl (fun a d => a * 58 + d.toNat) 0
def valZ (l : List Int) : Int := l.foldl (fun a d => a * 58 + d) 0
theorem valN_from : ∀ (l : List UInt8) (a : Nat), l.foldl (fun a d => a * 58 + d.toNat) a = a * 58 ^ l.length + valN l
  | [], a => by simp [valN]
  | d :: r, a => by
    rw [List.foldl_cons, valN_from r]
    have : valN (d :: r) = d.toNat * 58 ^ r.length + valN r := by
      unfold valN
      rw [List.foldl_cons, valN_from r]
      simp [valN]
    rw [this, List.length_cons, Nat.pow_succ, Nat.add_mul]
    have : a * 58 * 58 ^ r.length = a * (58 ^ r.length * 58) := by rw [Nat.mul_assoc, Nat.mul_comm 58]
    omega
theorem valN_append (a b : List UInt8) : valN (a ++ b) = valN a * 58 ^ b.length + valN b := by
  unfold valN
  rw [List.foldl_append, valN_from]
  rfl
theorem valZ_ints (b : Array UInt8) : valZ (KBw.bInts b) = ((valN b.toList : Nat) : Int) := by
  have key : ∀ (l : List UInt8) (a : Nat), (l.map fun c => ((c.toNat : Nat) : Int)).foldl (fun a d => a * 58 + d) (a : Int) = ((l.foldl (fun a d => a * 58 + d.toNat) a : Nat) : Int) := by
    intro l
    induction l with
    | nil => intro a; rfl
    | cons c r ih =>
      intro a
      rw [List.map_cons, List.foldl_cons, List.foldl_cons, ← ih (a * 58 + c.toNat)]
      congr 1
  exact key b.toList 0
theorem valZ_snoc (l : List Int) (d : Int) : valZ (l ++ [d]) = valZ l * 58 + d := by
  unfold valZ; rw [List.foldl_append]; rfl
theorem valN_turn (b : Array UInt8) (i : Nat) : ((valN (b.toList.take (10 * i)) : Nat) : Int) * ((58 ^ (seg b i).size : Nat) : Int) + valZ (KBw.bInts (seg b i)) = ((valN (b.toList.take (10 * (i + 1))) : Nat) : Int) := by
  rw [valZ_ints]
  have e : b.toList.take (10 * (i + 1)) = b.toList.take (10 * i) ++ (seg b i).toList := by
    unfold seg
    rw [show 10 * (i + 1) = 10 * i + 10 from by omega, List.take_add]
  rw [e, valN_append]
  have : (seg b i).toList.length = (seg b i).size := Array.length_toList
  rw [this]
  push_cast
  rfl
theorem valN_bound : ∀ (l : List UInt8), (∀ d ∈ l, d.toNat < 58) → valN l < 58 ^ l.length := by
  intro l
  induction l with
  | nil => intro _; simp [valN]
  | cons d r ih =>
    intro h
    have h1 := ih fun x hx => h x (.tail _ hx)
    have h2 := h d (.head _)
    have : valN (d :: r) = d.toNat * 58 ^ r.length + valN r := valN_append [d] r |>.trans (by simp [valN])
    rw [this, List.length_cons, Nat.pow_succ]
    have h3 : d.toNat * 58 ^ r.length ≤ 57 * 58 ^ r.length := Nat.mul_le_mul_right _ (by omega)
    omega
section
variable {M : Model} {A : Around} {E : Value → Shared → Prop} {s : Shared} {env : Env}
/-- a method of a plain value called by words -/
theorem callWith_method_words {pos : Pos} {id : String} {first : List Value} {e : Expr} {rest : List Expr} {kws : List Keyword} {Q : Value → Shared → Prop}
    (h : wpAny M A (spliced (backTo pos (starEach (e :: rest) env))) (fun vs s₁ => wpAny M A (evalAll ((backToKw pos (keywordEach kws env)).map (·.2)))
      (fun kvs s₂ => wpAny M A (call (.builtin id) (first ++ vs) (((backToKw pos (keywordEach kws env)).filterMap (·.1)).zip kvs)) Q E s₂) E s₁) E s)
    (he : backTo pos (starEach (e :: rest) env) = (false, eval e env) :: backTo pos (starEach rest env) := by rfl)
    (hplain : (backTo pos (starEach (e :: rest) env)).any (·.1) = false := by rfl)
    (hall : (backToKw pos (keywordEach kws env)).all (·.1.isSome) = true := by rfl)
    (hkw : (backToKw pos (keywordEach kws env)).any (·.1.isNone) = false := by rfl) :
    wpAny M A (callWith pos (.builtin id) first (backTo pos (starEach (e :: rest) env)) (backToKw pos (keywordEach kws env))) Q E s := by
  refine callWith_builtin_kwB hplain hkw ?_
  rw [he] at h ⊢
  exact evalArgs_kwB hall h
end
end Mine
end
section
open PySem PySem.W PyProof.Rows
set_option Elab.async false
set_option linter.unusedVariables false
set_option exponentiation.threshold 600
namespace Mine
/-- the code of the sign of a digit -/
def alph : List Nat := [49, 50, 51, 52, 53, 54, 55, 56, 57, 65, 66, 67, 68, 69, 70, 71, 72, 74, 75, 76, 77, 78, 80, 81, 82, 83, 84, 85, 86, 87, 88, 89, 90, 97, 98, 99, 100, 101, 102, 103, 104, 105, 106, 107, 109, 110, 111, 112, 113, 114, 115, 116, 117, 118, 119, 120, 121, 122]
def sgn (d : Nat) : Nat := alph.getD d 0
/-- digits, the first the highest; none for 0 -/
def rd (n : Nat) : List Nat := if h : n = 0 then [] else rd (n / 58) ++ [n % 58]
termination_by n
decreasing_by exact Nat.div_lt_self (Nat.pos_of_ne_zero h) (by decide)
def rd1 (n : Nat) : List Nat := if n = 0 then [0] else rd n
theorem rd_zero : rd 0 = [] := by rw [rd]; rfl
theorem rd_pos {n : Nat} (h : n ≠ 0) : rd n = rd (n / 58) ++ [n % 58] := by rw [rd, dif_neg h]
def textOf (n : Nat) : Str := ⟨((rd1 n).map sgn).toArray⟩
theorem rd_length : ∀ (k n : Nat), n < 58 ^ k → (rd n).length ≤ k
  | 0, n, h => by
    have : n = 0 := by simpa using h
    subst this; rw [rd_zero]; simp
  | k + 1, n, h => by
    by_cases hz : n = 0
    · subst hz; rw [rd_zero]; simp
    · rw [rd_pos hz, List.length_append]
      have := rd_length k (n / 58) (by rw [Nat.pow_succ] at h; omega)
      simp; omega
theorem rd1_length {n k : Nat} (hk : 1 ≤ k) (h : n < 58 ^ k) : (rd1 n).length ≤ k := by
  unfold rd1
  split
  · simpa using hk
  · exact rd_length k n h
theorem rd1_length_300 {n : Nat} (h : n < 2 ^ 300) : (rd1 n).length ≤ 52 := rd1_length (by decide) (Nat.lt_trans h (by decide))

/-- the loop of _law_text_of -/
def TX (n : Nat) (number : Int) (found : Str) : Prop := (found.cps = #[] ∧ number = n) ∨ (found.cps ≠ #[] ∧ (rd number.toNat).map sgn ++ found.cps.toList = (rd1 n).map sgn)
def TM (number : Int) (found : Str) : Nat := number.toNat + (if found.cps = #[] then 1 else 0)
theorem item_fin : ∀ d : Fin 58, Txt.item (Str.ofString "123456789ABCDEFGHJKLMNPQRSTUVWXYZabcdefghijkmnopqrstuvwxyz") (d.val : Int) = ⟨#[sgn d.val]⟩ := by decide +kernel
theorem item_sign (n : Nat) : Txt.item (Str.ofString "123456789ABCDEFGHJKLMNPQRSTUVWXYZabcdefghijkmnopqrstuvwxyz") ((n : Int).fmod 58) = ⟨#[sgn (n % 58)]⟩ := by
  have h : (n : Int).fmod 58 = ((n % 58 : Nat) : Int) := by
    rw [Int.fmod_eq_emod_of_nonneg _ (by decide)]; rfl
  rw [h]
  exact item_fin ⟨n % 58, Nat.mod_lt _ (by decide)⟩
theorem fdiv_nat (n k : Nat) : ((n : Int).fdiv (k : Int)) = ((n / k : Nat) : Int) := by
  rw [Int.fdiv_eq_ediv_of_nonneg _ (by omega)]; rfl
theorem fmod_nat (n k : Nat) : ((n : Int).fmod (k : Int)) = ((n % k : Nat) : Int) := by
  rw [Int.fmod_eq_emod_of_nonneg _ (by omega)]; rfl
theorem empty_iff (f : Str) : ((f == Str.ofString "") = true) ↔ f.cps = #[] := by
  have e : Str.ofString "" = ⟨#[]⟩ := by decide +kernel
  rw [e, beq_iff_eq]
  exact ⟨fun h => by rw [h], fun h => by cases f; simp_all⟩
theorem empty_not (f : Str) : ((f == Str.ofString "") = false) ↔ f.cps ≠ #[] := by
  rw [← Bool.not_eq_true, empty_iff]
theorem TX.len {n : Nat} (hn : n < 2 ^ 300) {x : Int} {f : Str} (h : TX n x f) : f.length ≤ 52 := by
  have hl := rd1_length_300 hn
  rcases h with ⟨h, _⟩ | ⟨_, h⟩
  · show f.cps.size ≤ 52; rw [h]; decide
  · have := congrArg List.length h
    simp only [List.length_append, List.length_map, Array.length_toList] at this
    show f.cps.size ≤ 52; omega
theorem text_start (n : Nat) : 0 ≤ (n : Int) ∧ (n : Int) ≤ n ∧ (Str.ofString "").length ≤ 52 ∧ TX n n (Str.ofString "") :=
  ⟨by omega, Int.le_refl _, by decide +kernel, .inl ⟨by decide +kernel, rfl⟩⟩
theorem TX.turn {n : Nat} {x : Int} {f : Str} (h0 : 0 ≤ x) (h : TX n x f) (hc : 0 < x ∨ (f == Str.ofString "") = true) :
    TX n (x.fdiv 58) (Txt.item (Str.ofString "123456789ABCDEFGHJKLMNPQRSTUVWXYZabcdefghijkmnopqrstuvwxyz") (x.fmod 58) ++ f) := by
  obtain ⟨y, rfl⟩ := Int.eq_ofNat_of_zero_le h0
  rw [item_sign, show (y : Int).fdiv 58 = ((y / 58 : Nat) : Int) from fdiv_nat y 58]
  refine .inr ⟨by show #[sgn (y % 58)] ++ f.cps ≠ #[]; simp, ?_⟩
  show (rd (((y / 58 : Nat) : Int).toNat)).map sgn ++ (#[sgn (y % 58)] ++ f.cps).toList = _
  rw [Int.toNat_natCast]
  rcases h with ⟨hf, hx⟩ | ⟨hf, h⟩
  · have hy : y = n := by omega
    subst hy
    unfold rd1
    by_cases hz : y = 0
    · subst hz; rw [if_pos rfl, hf, rd_zero]; rfl
    · rw [if_neg hz, rd_pos hz, hf]; simp
  · rw [empty_iff] at hc
    have hy : y ≠ 0 := by
      rcases hc with hc | hc
      · omega
      · exact absurd hc hf
    rw [Int.toNat_natCast, rd_pos hy] at h
    rw [← h]; simp
theorem text_turn {n : Nat} (hn : n < 2 ^ 300) {x : Int} {f : Str} (h0 : 0 ≤ x) (h1 : x ≤ n) (h : TX n x f) (hc : 0 < x ∨ (f == Str.ofString "") = true) :
    0 ≤ x.fdiv 58 ∧ x.fdiv 58 ≤ n ∧ (Txt.item (Str.ofString "123456789ABCDEFGHJKLMNPQRSTUVWXYZabcdefghijkmnopqrstuvwxyz") (x.fmod 58) ++ f).length ≤ 52 ∧ TX n (x.fdiv 58) (Txt.item (Str.ofString "123456789ABCDEFGHJKLMNPQRSTUVWXYZabcdefghijkmnopqrstuvwxyz") (x.fmod 58) ++ f) := by
  have hT := h.turn h0 hc
  have hl := hT.len hn
  obtain ⟨y, rfl⟩ := Int.eq_ofNat_of_zero_le h0
  refine ⟨?_, ?_, hl, hT⟩ <;> rw [show (y : Int).fdiv 58 = ((y / 58 : Nat) : Int) from fdiv_nat y 58] <;> omega
theorem text_meas {x : Int} {f : Str} (h0 : 0 ≤ x) (hc : 0 < x ∨ (f == Str.ofString "") = true) :
    TM (x.fdiv 58) (Txt.item (Str.ofString "123456789ABCDEFGHJKLMNPQRSTUVWXYZabcdefghijkmnopqrstuvwxyz") (x.fmod 58) ++ f) < TM x f := by
  obtain ⟨y, rfl⟩ := Int.eq_ofNat_of_zero_le h0
  rw [item_sign, show (y : Int).fdiv 58 = ((y / 58 : Nat) : Int) from fdiv_nat y 58]
  unfold TM
  have e : ¬ (({ cps := #[sgn (y % 58)] } : Str) ++ f).cps = #[] := by
    show ¬ (#[sgn (y % 58)] ++ f.cps = #[])
    simp
  rw [if_neg e, Int.toNat_natCast, Int.toNat_natCast]
  rw [empty_iff] at hc
  rcases hc with hc | hc
  · have : y / 58 < y := Nat.div_lt_self (by omega) (by decide)
    omega
  · rw [if_pos hc]
    have : y / 58 ≤ y := Nat.div_le_self _ _
    omega
theorem text_end {n : Nat} {x : Int} {f : Str} (h0 : 0 ≤ x) (h : TX n x f) (hc : ¬ 0 < x) (hf : (f == Str.ofString "") = false) : f = textOf n := by
  have hx : x = 0 := by omega
  subst hx
  rw [empty_not] at hf
  rcases h with ⟨h, _⟩ | ⟨_, h⟩
  · exact absurd h hf
  · have e : rd (Int.toNat 0) = [] := rd_zero
    rw [e] at h
    unfold textOf
    rw [← h]
    cases f; simp
end Mine
end
section
open PySem PySem.W PySem.Calls PyProof.Rows
set_option Elab.async false
set_option linter.unusedVariables false
set_option maxRecDepth 100000
namespace Mine
/-- what a call gives back, whatever frame it is called from -/
def Tells (n : Nat) (f : Addr) (vs : List Value) (kw : List (Str × Value)) (R : Value → Prop) : Prop :=
  ∀ (w : World) (mean : ExcName → Option Value) (mg mb : Str → Option Value) (dp un : Nat) (gd : Option (List Code)) (cn : Str) (cs : Scope) (a : Addr) (ccd : Value) (cl : List (Str × Addr)) (outer : List Env) (A₀ : Around) (base h₀ : Heap) (L : Addr) (m : Str → Option Value) (news : List (Addr × Obj)) (s : Shared) (Q E : Value → Shared → Prop),
    Below A₀ base outer h₀ → Fr h₀ L s.heap m → (Mine.Hd.hd.heap_39 w.params).In h₀ → News h₀ L s.heap news →
    Top Mine.Hd.hd.view_39 (looseW Mine.Hd.hd.view_39 [Str.ofString "BTClibValueError", Str.ofString "BTClibTypeError", Str.ofString "bytes_from_octets", Str.ofString "encode", Str.ofString "decode"]) mean mg mb h₀ → cs.kind = .function → dp + n < recursionLimit → un + 8 * n < cLine →
    (∀ (v : Value) (h' : Heap) (tk' : Nat), R v → Fr h₀ L h' m → News h₀ L h' news → Q v { s with heap := h', toks := tk' }) →
      wpAny (model PySem.Challenge.rw_fc5003_01.row.prog w) (ktrTop dp un gd cn cs L a ccd cl outer) (call (.ref f) vs kw) Q E s
/-- the same over contexts whose stack holds no buffer -/
def TellsS (n : Nat) (f : Addr) (vs : List Value) (kw : List (Str × Value)) (R : Value → Prop) : Prop :=
  ∀ (w : World) (mean : ExcName → Option Value) (mg mb : Str → Option Value) (dp un : Nat) (gd : Option (List Code)) (cn : Str) (cs : Scope) (a : Addr) (ccd : Value) (cl : List (Str × Addr)) (outer : List Env) (A₀ : Around) (base h₀ : Heap) (L : Addr) (m : Str → Option Value) (news : List (Addr × Obj)) (s : Shared) (Q E : Value → Shared → Prop),
    Below A₀ base outer h₀ → Fr h₀ L s.heap m → (Mine.Hd.hd.heap_39 w.params).In h₀ → News h₀ L s.heap news →
    Top Mine.Hd.hd.view_39 (looseW Mine.Hd.hd.view_39 [Str.ofString "BTClibValueError", Str.ofString "BTClibTypeError", Str.ofString "bytes_from_octets", Str.ofString "encode", Str.ofString "decode"]) mean mg mb h₀ → cs.kind = .function → dp + n < recursionLimit → un + 8 * n < cLine →
    (∀ (v : Value) (h' : Heap) (tk' : Nat), R v → Fr h₀ L h' m → News h₀ L h' news → Q v { s with heap := h', toks := tk' }) →
      wpS (model PySem.Challenge.rw_fc5003_01.row.prog w) (ktrTop dp un gd cn cs L a ccd cl outer) (call (.ref f) vs kw) Q E s
section
variable {n : Nat} {f : Addr} {vs : List Value} {kw : List (Str × Value)} {R : Value → Prop} {w : World} {mean : ExcName → Option Value} {mg mb : Str → Option Value} {dp un : Nat} {gd : Option (List Code)} {cn : Str} {cs : Scope} {a : Addr} {ccd : Value} {cl : List (Str × Addr)} {outer : List Env} {A₀ : Around} {base h₀ : Heap} {L : Addr} {m : Str → Option Value} {news : List (Addr × Obj)} {s : Shared} {Q E : Value → Shared → Prop}
theorem Tells.use (C : Tells n f vs kw R) (B : Below A₀ base outer h₀) (F : Fr h₀ L s.heap m) (X : (Mine.Hd.hd.heap_39 w.params).In h₀) (N : News h₀ L s.heap news)
    (T : Top Mine.Hd.hd.view_39 (looseW Mine.Hd.hd.view_39 [Str.ofString "BTClibValueError", Str.ofString "BTClibTypeError", Str.ofString "bytes_from_octets", Str.ofString "encode", Str.ofString "decode"]) mean mg mb h₀) (hk : cs.kind = .function) (hd : dp + n < recursionLimit) (hu : un + 8 * n < cLine)
    (ret : ∀ (v : Value) (h' : Heap) (tk' : Nat), R v → Fr h₀ L h' m → News h₀ L h' news → Q v { s with heap := h', toks := tk' }) :
    wpAny (model PySem.Challenge.rw_fc5003_01.row.prog w) (ktrTop dp un gd cn cs L a ccd cl outer) (call (.ref f) vs kw) Q E s := C _ _ _ _ _ _ _ _ _ _ _ _ _ _ _ _ _ _ _ _ _ _ B F X N T hk hd hu ret
theorem TellsS.use (C : TellsS n f vs kw R) (B : Below A₀ base outer h₀) (F : Fr h₀ L s.heap m) (X : (Mine.Hd.hd.heap_39 w.params).In h₀) (N : News h₀ L s.heap news)
    (T : Top Mine.Hd.hd.view_39 (looseW Mine.Hd.hd.view_39 [Str.ofString "BTClibValueError", Str.ofString "BTClibTypeError", Str.ofString "bytes_from_octets", Str.ofString "encode", Str.ofString "decode"]) mean mg mb h₀) (hk : cs.kind = .function) (hd : dp + n < recursionLimit) (hu : un + 8 * n < cLine)
    (ret : ∀ (v : Value) (h' : Heap) (tk' : Nat), R v → Fr h₀ L h' m → News h₀ L h' news → Q v { s with heap := h', toks := tk' }) :
    wpS (model PySem.Challenge.rw_fc5003_01.row.prog w) (ktrTop dp un gd cn cs L a ccd cl outer) (call (.ref f) vs kw) Q E s := C _ _ _ _ _ _ _ _ _ _ _ _ _ _ _ _ _ _ _ _ _ _ B F X N T hk hd hu ret
end
end Mine
end
section
open PySem PySem.W PyProof.Rows
set_option Elab.async false
set_option linter.unusedVariables false
namespace Mine
section
variable {prog : Program} {w : World} {A₀ A : Around} {s : Shared} {base h₀ g₀ : Heap} {outer : List Env} {env : Env} {L : Addr} {m : Str → Option Value} {news : List (Addr × Obj)} {K : Frag} {p : Program} {loose : List Str} {mean : ExcName → Option Value} {mg mb : Str → Option Value}
    {R : Result → Shared → Prop} {name qual : Str} {params : Arguments} {body : List Stmt} {scope : Scope} {dV kV doc pm cdv ct oc : Value} {an od : Option Addr} {osl : Array (Option Value)} {f : Addr} {args : Args} {binds : List (Str × Value)}
theorem frames_cons (hf : env.frame = some L) : (env :: outer).filterMap (·.frame) = L :: outer.filterMap (·.frame) := by
  rw [List.filterMap_cons, hf]
/-- a def that catches is entered from any frame: what is known of the heap below, and what comes back -/
theorem groundT (B : Below A₀ base outer h₀) (F : Fr h₀ L s.heap m) (X₀ : K.In h₀) (N : News h₀ L s.heap news) (T : Top p loose mean mg mb h₀) (XB : K.In base) (TB : Top p loose mean mg mb base) (D : KtsDicts (outer.filterMap (·.frame)) h₀) (T0 : KtsTurn (outer.filterMap (·.frame)) g₀ h₀)
    (hA : A.frames = some (env :: outer)) (hf : env.frame = some L) (hke : env.scope.kind = .function) :
    Fr h₀ L (hideAll s.heap (news.map (·.1))) m ∧ Below A base (env :: outer) (hideAll s.heap (news.map (·.1))) ∧ h₀.StaysIn (hideAll s.heap (news.map (·.1))) ∧ KtsDicts ((env :: outer).filterMap (·.frame)) (hideAll s.heap (news.map (·.1))) ∧
      ∀ v s', LeaveS ((env :: outer).filterMap (·.frame)) A₀ base outer K p loose mean mg mb g₀ h₀ L m (hideAll s.heap (news.map (·.1))) R v s' → R (.ok (.ret v)) s' := by
  obtain ⟨FG, BG, st, lv⟩ := groundX (R := R) B F N hA hf hke
  obtain ⟨oL, es, ep, hLg, hLd, hLk, hLf⟩ := FG.ns
  have hfm := frames_cons (env := env) (outer := outer) hf
  have nL₀ : h₀.get? L = none := kts_self F
  refine ⟨⟨⟨oL, es, ep, hLg, hLd, hLk, hLf⟩, FG.keep, FG.above⟩, BG, st, ?_, ?_⟩
  · intro b hb
    rw [hfm] at hb
    rcases List.mem_cons.mp hb with rfl | hb
    · exact ⟨oL, es, ep, hLg, hLd⟩
    · obtain ⟨o, es', n', ho', hd'⟩ := D b hb
      exact ⟨o, es', n', st b o ho', hd'⟩
  · intro v s' hl
    rcases hl with ⟨L', m', news', F', N', k⟩ | ⟨g', L', m', news', T', F', N', k⟩
    · exact lv v s' ⟨L', m', news', F', N', k⟩
    · rw [hfm] at T'
      have up : ∀ b o, h₀.get? b = some o → ∃ sl, g'.get? b = some { o with slots := sl } := fun b o e => T'.up (st b o e)
      obtain ⟨T₁, S₁⟩ := kts_turn_at (h := s'.heap) (fs := outer.filterMap (·.frame)) (g := h₀)
        (fun b hb => (B.frames.mem hb).2.elim fun o x => ⟨o, x.1⟩)
        (fun b o e nm => F'.keep b o (T'.other b o (st b o e) (fun q => by
          rcases List.mem_cons.mp q with z | z
          · rw [z, nL₀] at e; cases e
          · exact nm z)))
        (fun b o e _ => (up b o e).elim fun sl x => ⟨sl, F'.keep _ _ x⟩)
      have B₃ : Below A₀ base outer (ktsHeap s'.heap (outer.filterMap (·.frame)) h₀) := ⟨B.stack, fun b o e => T₁.other b o (B.stays b o e) (fun hm => by
        rw [(B.frames.mem hm).1] at e; cases e), B.frames.of_keeps fun b o e _ => (T₁.up e).elim fun sl x => ⟨_, x, rfl⟩⟩
      obtain ⟨sl, hs⟩ := T'.up hLg
      refine k _ (T0.trans T₁) ⟨⟨_, es, ep, F'.keep _ _ hs, hLd, hLk, hLf⟩, S₁, by rw [T₁.size]; exact F.above⟩ (fun q hq => ⟨(N' q hq).1, fun z => ?_, T₁.none_ _ ?_⟩) B₃ (XB.keeps B₃.stays) (TB.keeps B₃.stays) (D.turn T₁)
      · have e := (N' q hq).2.2
        rw [z, hs] at e; cases e
      · cases e : h₀.get? q.1 with
        | none => rfl
        | some o =>
          obtain ⟨sl', hs'⟩ := up _ _ e
          have e2 := (N' q hq).2.2
          rw [hs'] at e2; cases e2
theorem code_defT (B : Below A₀ base outer h₀) (F : Fr h₀ L s.heap m) (X₀ : K.In h₀) (N : News h₀ L s.heap news) (T : Top p loose mean mg mb h₀) (XB : K.In base) (TB : Top p loose mean mg mb base) (D : KtsDicts (outer.filterMap (·.frame)) h₀) (T0 : KtsTurn (outer.filterMap (·.frame)) g₀ h₀)
    (hA : A.frames = some (env :: outer)) (hf : env.frame = some L) (hke : env.scope.kind = .function)
    (ho : K.lookup f = some ⟨oc, od, .func (fnOf name qual params body scope dV kV doc pm an cdv ct), osl⟩) (hcd : codeIn K cdv qual = true) (hroom : A.depth < recursionLimit)
    (hbind : BindsTo s (fnOf name qual params body scope dV kV doc pm an cdv ct) args binds) (hloc : ∀ y ∈ binds, scope.names.lookup y.1 = some .local)
    (h : ∀ g L' h₁, Fr h₀ L g m → Fr g L' h₁ (fun y => binds.reverse.lookup y) → News g L' h₁ news → Below A base (env :: outer) g → K.In g → Top p loose mean mg mb g → KtsDicts ((env :: outer).filterMap (·.frame)) g →
      wpAny (model prog w) (A.deeper (envOf qual scope L' f cdv)) (execs body (envOf qual scope L' f cdv))
        (fun fl s' => LeaveS ((env :: outer).filterMap (·.frame)) A₀ base outer K p loose mean mg mb g₀ h₀ L m g R (match fl with | .ret v => v | _ => .none) s')
        (fun e s' => wpAny (model prog w) (A.deeper (envOf qual scope L' f cdv)) (leaving (envOf qual scope L' f cdv) e) (fun _ s'' => R (.error e) s'') (fun e' s'' => R (.error e') s'') s')
        { s with heap := h₁, toks := s.toks + binds.length })
    (hco : scope.isCoroutine = false) (hgen : scope.isGenerator = false) (hk : scope.kind = .function)
    (hcell : ∀ x ∈ scope.names, x.2 ≠ .cell) : codeAny (model prog w) A (.call (.ref f) args) R s := by
  obtain ⟨FG, BG, st, DG, lv⟩ := groundT (R := R) B F X₀ N T XB TB D T0 hA hf hke
  refine codeAny_call_def (fd := fnOf name qual params body scope dV kV doc pm an cdv ct) (body := body) (binds := binds) hroom ((X₀.keeps F.keep) _ _ ho) rfl (T.nolimit.keeps F.keep) (codeRec_of (X₀.keeps F.keep) hcd) rfl hbind hcell hloc (fun h₁ hns hk₁ => ?_) hco hgen hk
  exact wpAny_mono (h _ s.heap.objs.size h₁ FG ⟨hns, fun b o e => hk₁ b o (of_hideAll _ e), Nat.le_of_eq (hideAll_size _ _)⟩
    (fun q hq => ⟨hk₁ _ _ (N q hq).1, Nat.ne_of_lt (Heap.lt_size (N q hq).1), hideAll_none _ (List.mem_map_of_mem hq)⟩) BG (X₀.keeps st) (T.keeps st) DG) (fun fl s' hl => lv _ _ hl) fun _ _ y => y
theorem news_cells {h₁ : Heap} {L' : Addr} {cells : List (Addr × Obj)} (hk₁ : ∀ b o, s.heap.get? b = some o → h₁.get? b = some o) (N : News h₀ L s.heap news) (NC : News s.heap L' h₁ cells) (hL : s.heap.objs.size ≤ L') :
    News (hideAll s.heap (news.map (·.1))) L' h₁ (cells ++ news) := by
  intro q hq
  rcases List.mem_append.mp hq with hq | hq
  · refine ⟨(NC q hq).1, (NC q hq).2.1, ?_⟩
    cases e : (hideAll s.heap (news.map (·.1))).get? q.1 with
    | none => rfl
    | some o =>
      have e2 := of_hideAll _ e
      rw [(NC q hq).2.2] at e2; cases e2
  · exact ⟨hk₁ _ _ (N q hq).1, Nat.ne_of_lt (Nat.lt_of_lt_of_le (Heap.lt_size (N q hq).1) hL), hideAll_none _ (List.mem_map_of_mem hq)⟩
theorem code_defCT (B : Below A₀ base outer h₀) (F : Fr h₀ L s.heap m) (X₀ : K.In h₀) (N : News h₀ L s.heap news) (T : Top p loose mean mg mb h₀) (XB : K.In base) (TB : Top p loose mean mg mb base) (D : KtsDicts (outer.filterMap (·.frame)) h₀) (T0 : KtsTurn (outer.filterMap (·.frame)) g₀ h₀)
    (hA : A.frames = some (env :: outer)) (hf : env.frame = some L) (hke : env.scope.kind = .function)
    (ho : K.lookup f = some ⟨oc, od, .func (fnOf name qual params body scope dV kV doc pm an cdv ct), osl⟩) (hcd : codeIn K cdv qual = true) (hroom : A.depth < recursionLimit)
    (hbind : BindsTo s (fnOf name qual params body scope dV kV doc pm an cdv ct) args binds) (hkind : (binds.all fun y => scope.names.lookup y.1 == some .local || scope.names.lookup y.1 == some .cell) = true)
    (hnd : ((cellsFrom 0 scope.names []).map (·.1)).Nodup)
    (h : ∀ g L' h₁ tk cells, Fr h₀ L g m → Fr g L' h₁ (bindL (envOfC qual scope L' f cdv).kindOf binds fun _ => none) → News g L' h₁ (cells ++ news) →
      CellsAre (bindC (envOfC qual scope L' f cdv).kindOf binds fun _ => none) (cellsFrom (L' + 1) scope.names []) cells → Below A base (env :: outer) g → K.In g → Top p loose mean mg mb g → KtsDicts ((env :: outer).filterMap (·.frame)) g → (∀ q ∈ news, q.1 < L') →
      wpAny (model prog w) (A.deeper (envOfC qual scope L' f cdv)) (execs body (envOfC qual scope L' f cdv))
        (fun fl s' => LeaveS ((env :: outer).filterMap (·.frame)) A₀ base outer K p loose mean mg mb g₀ h₀ L m g R (match fl with | .ret v => v | _ => .none) s')
        (fun e s' => wpAny (model prog w) (A.deeper (envOfC qual scope L' f cdv)) (leaving (envOfC qual scope L' f cdv) e) (fun _ s'' => R (.error e) s'') (fun e' s'' => R (.error e') s'') s')
        { s with heap := h₁, toks := tk })
    (hco : scope.isCoroutine = false) (hgen : scope.isGenerator = false) (hk : scope.kind = .function) : codeAny (model prog w) A (.call (.ref f) args) R s := by
  obtain ⟨FG, BG, st, DG, lv⟩ := groundT (R := R) B F X₀ N T XB TB D T0 hA hf hke
  refine codeAny_call_function hroom ((X₀.keeps F.keep) _ _ ho) rfl hco hgen rfl (codeRec_of (X₀.keeps F.keep) hcd) (hbind _ _ _ _ ?_)
  refine wpAny_newFunctionEnv_cells hk (kindsX hkind _) fun env' he s' x => ?_
  subst he
  refine ⟨(T.nolimit.keeps F.keep).keeps x.toInCall.keep, codeAny_func ?_⟩
  obtain ⟨h₁, tk, rfl, _⟩ := x.done
  obtain ⟨cells, NC, Y⟩ := Cl.news (h₀ := s.heap) (Nat.le_refl _) fun n c hm => ⟨x.cell n c (lookup_of_mem_nodup (cellsFrom_names scope.names 0 (s.heap.objs.size + 1) [] [] rfl ▸ hnd) hm), x.above n c hm⟩
  exact wpAny_mono (h _ s.heap.objs.size h₁ tk cells FG ⟨x.toInCall.ns, fun b o e => x.toInCall.keep b o (of_hideAll _ e), Nat.le_of_eq (hideAll_size _ _)⟩ (news_cells x.toInCall.keep N NC (Nat.le_refl _)) Y BG (X₀.keeps st) (T.keeps st) DG (fun q hq => Heap.lt_size (N q hq).1)) (fun fl s' hl => lv _ _ hl) fun _ _ y => y
theorem codeS_defCT (B : Below A₀ base outer h₀) (F : Fr h₀ L s.heap m) (X₀ : K.In h₀) (N : News h₀ L s.heap news) (T : Top p loose mean mg mb h₀) (XB : K.In base) (TB : Top p loose mean mg mb base) (D : KtsDicts (outer.filterMap (·.frame)) h₀) (T0 : KtsTurn (outer.filterMap (·.frame)) g₀ h₀)
    (hA : A.frames = some (env :: outer)) (hf : env.frame = some L) (hke : env.scope.kind = .function)
    (ho : K.lookup f = some ⟨oc, od, .func (fnOf name qual params body scope dV kV doc pm an cdv ct), osl⟩) (hcd : codeIn K cdv qual = true) (hroom : A.depth < recursionLimit)
    (hbind : BindsTo s (fnOf name qual params body scope dV kV doc pm an cdv ct) args binds) (hkind : (binds.all fun y => scope.names.lookup y.1 == some .local || scope.names.lookup y.1 == some .cell) = true)
    (hnd : ((cellsFrom 0 scope.names []).map (·.1)).Nodup)
    (h : ∀ g L' h₁ tk cells, Fr h₀ L g m → Fr g L' h₁ (bindL (envOfC qual scope L' f cdv).kindOf binds fun _ => none) → News g L' h₁ (cells ++ news) →
      CellsAre (bindC (envOfC qual scope L' f cdv).kindOf binds fun _ => none) (cellsFrom (L' + 1) scope.names []) cells → Below A base (env :: outer) g → K.In g → Top p loose mean mg mb g → KtsDicts ((env :: outer).filterMap (·.frame)) g → (∀ q ∈ news, q.1 < L') →
      wpS (model prog w) (A.deeper (envOfC qual scope L' f cdv)) (execs body (envOfC qual scope L' f cdv))
        (fun fl s' => LeaveS ((env :: outer).filterMap (·.frame)) A₀ base outer K p loose mean mg mb g₀ h₀ L m g R (match fl with | .ret v => v | _ => .none) s') (fun _ _ => False)
        { s with heap := h₁, toks := tk })
    (hco : scope.isCoroutine = false) (hgen : scope.isGenerator = false) (hk : scope.kind = .function) : codeS (model prog w) A (.call (.ref f) args) R s := by
  obtain ⟨FG, BG, st, DG, lv⟩ := groundT (R := R) B F X₀ N T XB TB D T0 hA hf hke
  have hob := (X₀.keeps F.keep) _ _ ho
  obtain ⟨c, oc', vs, tq, hc, hoc, hdc, hq⟩ := codeRec_of (X₀.keeps F.keep) hcd
  refine codeS_of_tree rfl ?_
  show wpS _ A.in1 (callAny (.ref f) args) _ _ s
  simp only [callAny]
  refine wpS_bind_any (wpAny_load hob ?_)
  simp only [callFunction, hco, hgen, hc]
  refine wpS_bind_any (m := field (.ref c) 1) (wpAny_field hoc hdc hq (wpS_bind_any (wpAny_pure ?_)))
  rw [hc] at hbind
  refine wpS_bind_any (hbind _ _ _ _ ?_)
  refine wpS_bind_any (wpAny_newFunctionEnv_cells hk (kindsX hkind _) fun env' he s' x => ?_)
  subst he
  have hlim : Heap.NoLimit s'.heap := (T.nolimit.keeps F.keep).keeps x.toInCall.keep
  refine wpS_bind_any (wpAny_enterFrame hlim hroom (wpS_pure ⟨rfl, codeS_func ?_⟩))
  obtain ⟨h₁, tk, rfl, _⟩ := x.done
  obtain ⟨cells, NC, Y⟩ := Cl.news (h₀ := s.heap) (Nat.le_refl _) fun n c hm => ⟨x.cell n c (lookup_of_mem_nodup (cellsFrom_names scope.names 0 (s.heap.objs.size + 1) [] [] rfl ▸ hnd) hm), x.above n c hm⟩
  subst hc
  exact wpS_mono (h _ s.heap.objs.size h₁ tk cells FG ⟨x.toInCall.ns, fun b o e => x.toInCall.keep b o (of_hideAll _ e), Nat.le_of_eq (hideAll_size _ _)⟩ (news_cells x.toInCall.keep N NC (Nat.le_refl _)) Y BG (X₀.keeps st) (T.keeps st) DG (fun q hq => Heap.lt_size (N q hq).1)) (fun fl s' hl => lv _ _ hl) fun _ _ y => y
end
end Mine
end
section
open PySem PySem.W PySem.Calls PyProof.Rows
set_option Elab.async false
set_option linter.unusedVariables false
set_option maxRecDepth 100000
namespace Mine
/-- a def that catches: its callers' frames come back with their slots turned -/
def TellsT (n : Nat) (f : Addr) (vs : List Value) (kw : List (Str × Value)) (R : Value → Prop) : Prop :=
  ∀ (w : World) (mean : ExcName → Option Value) (mg mb : Str → Option Value) (dp un : Nat) (gd : Option (List Code)) (cn : Str) (cs : Scope) (a : Addr) (ccd : Value) (cl : List (Str × Addr)) (outer : List Env) (A₀ : Around) (base g₀ h₀ : Heap) (L : Addr) (m : Str → Option Value) (news : List (Addr × Obj)) (s : Shared) (Q E : Value → Shared → Prop),
    Below A₀ base outer h₀ → Fr h₀ L s.heap m → (Mine.Hd.hd.heap_39 w.params).In h₀ → News h₀ L s.heap news →
    Top Mine.Hd.hd.view_39 (looseW Mine.Hd.hd.view_39 [Str.ofString "BTClibValueError", Str.ofString "BTClibTypeError", Str.ofString "bytes_from_octets", Str.ofString "encode", Str.ofString "decode"]) mean mg mb h₀ →
    (Mine.Hd.hd.heap_39 w.params).In base →
    Top Mine.Hd.hd.view_39 (looseW Mine.Hd.hd.view_39 [Str.ofString "BTClibValueError", Str.ofString "BTClibTypeError", Str.ofString "bytes_from_octets", Str.ofString "encode", Str.ofString "decode"]) mean mg mb base →
    KtsDicts (outer.filterMap (·.frame)) h₀ → KtsTurn (outer.filterMap (·.frame)) g₀ h₀ →
    cs.kind = .function → dp + n < recursionLimit → un + 8 * n < cLine →
    (∀ (v : Value) (h₁ h' : Heap) (tk' : Nat), R v → KtsTurn (outer.filterMap (·.frame)) g₀ h₁ → Fr h₁ L h' m → News h₁ L h' news → Below A₀ base outer h₁ → (Mine.Hd.hd.heap_39 w.params).In h₁ →
      Top Mine.Hd.hd.view_39 (looseW Mine.Hd.hd.view_39 [Str.ofString "BTClibValueError", Str.ofString "BTClibTypeError", Str.ofString "bytes_from_octets", Str.ofString "encode", Str.ofString "decode"]) mean mg mb h₁ →
      KtsDicts (outer.filterMap (·.frame)) h₁ → Q v { s with heap := h', toks := tk' }) →
      wpAny (model PySem.Challenge.rw_fc5003_01.row.prog w) (ktrTop dp un gd cn cs L a ccd cl outer) (call (.ref f) vs kw) Q E s
theorem TellsT.use {n : Nat} {f : Addr} {vs : List Value} {kw : List (Str × Value)} {R : Value → Prop} {w : World} {mean : ExcName → Option Value} {mg mb : Str → Option Value} {dp un : Nat} {gd : Option (List Code)} {cn : Str} {cs : Scope} {a : Addr} {ccd : Value} {cl : List (Str × Addr)} {outer : List Env} {A₀ : Around} {base g₀ h₀ : Heap} {L : Addr} {m : Str → Option Value} {news : List (Addr × Obj)} {s : Shared} {Q E : Value → Shared → Prop}
    (C : TellsT n f vs kw R) (B : Below A₀ base outer h₀) (F : Fr h₀ L s.heap m) (X : (Mine.Hd.hd.heap_39 w.params).In h₀) (N : News h₀ L s.heap news)
    (T : Top Mine.Hd.hd.view_39 (looseW Mine.Hd.hd.view_39 [Str.ofString "BTClibValueError", Str.ofString "BTClibTypeError", Str.ofString "bytes_from_octets", Str.ofString "encode", Str.ofString "decode"]) mean mg mb h₀)
    (XB : (Mine.Hd.hd.heap_39 w.params).In base)
    (TB : Top Mine.Hd.hd.view_39 (looseW Mine.Hd.hd.view_39 [Str.ofString "BTClibValueError", Str.ofString "BTClibTypeError", Str.ofString "bytes_from_octets", Str.ofString "encode", Str.ofString "decode"]) mean mg mb base)
    (D : KtsDicts (outer.filterMap (·.frame)) h₀) (T0 : KtsTurn (outer.filterMap (·.frame)) g₀ h₀) (hk : cs.kind = .function) (hd : dp + n < recursionLimit) (hu : un + 8 * n < cLine)
    (ret : ∀ (v : Value) (h₁ h' : Heap) (tk' : Nat), R v → KtsTurn (outer.filterMap (·.frame)) g₀ h₁ → Fr h₁ L h' m → News h₁ L h' news → Below A₀ base outer h₁ → (Mine.Hd.hd.heap_39 w.params).In h₁ →
      Top Mine.Hd.hd.view_39 (looseW Mine.Hd.hd.view_39 [Str.ofString "BTClibValueError", Str.ofString "BTClibTypeError", Str.ofString "bytes_from_octets", Str.ofString "encode", Str.ofString "decode"]) mean mg mb h₁ →
      KtsDicts (outer.filterMap (·.frame)) h₁ → Q v { s with heap := h', toks := tk' }) :
    wpAny (model PySem.Challenge.rw_fc5003_01.row.prog w) (ktrTop dp un gd cn cs L a ccd cl outer) (call (.ref f) vs kw) Q E s :=
  C _ _ _ _ _ _ _ _ _ _ _ _ _ _ _ _ _ _ _ _ _ _ _ B F X N T XB TB D T0 hk hd hu ret
theorem turn_nil {g g' : Heap} (T : KtsTurn [] g g') : ∀ b, g'.get? b = g.get? b := by
  intro b
  cases e : g.get? b with
  | none => exact T.none_ b e
  | some o => exact T.other b o e (fun m => nomatch m)
theorem Fr_turn {g g' h : Heap} {L : Addr} {m : Str → Option Value} (T : KtsTurn [] g g') (F : Fr g' L h m) : Fr g L h m :=
  ⟨F.ns, fun b o e => F.keep b o ((turn_nil T b).trans e), T.size ▸ F.above⟩
theorem News_turn {g g' h : Heap} {L : Addr} {news : List (Addr × Obj)} (T : KtsTurn [] g g') (N : News g' L h news) : News g L h news :=
  fun p hp => ⟨(N p hp).1, (N p hp).2.1, (turn_nil T p.1).symm.trans (N p hp).2.2⟩
end Mine
end
section
open PySem PySem.W PySem.Calls PyProof.Rows
set_option Elab.async false
set_option linter.unusedVariables false
set_option maxRecDepth 100000
namespace Mine
/-- the same over contexts whose stack holds no buffer -/
def TellsST (n : Nat) (f : Addr) (vs : List Value) (kw : List (Str × Value)) (R : Value → Prop) : Prop :=
  ∀ (w : World) (mean : ExcName → Option Value) (mg mb : Str → Option Value) (dp un : Nat) (gd : Option (List Code)) (cn : Str) (cs : Scope) (a : Addr) (ccd : Value) (cl : List (Str × Addr)) (outer : List Env) (A₀ : Around) (base g₀ h₀ : Heap) (L : Addr) (m : Str → Option Value) (news : List (Addr × Obj)) (s : Shared) (Q E : Value → Shared → Prop),
    Below A₀ base outer h₀ → Fr h₀ L s.heap m → (Mine.Hd.hd.heap_39 w.params).In h₀ → News h₀ L s.heap news →
    Top Mine.Hd.hd.view_39 (looseW Mine.Hd.hd.view_39 [Str.ofString "BTClibValueError", Str.ofString "BTClibTypeError", Str.ofString "bytes_from_octets", Str.ofString "encode", Str.ofString "decode"]) mean mg mb h₀ →
    (Mine.Hd.hd.heap_39 w.params).In base →
    Top Mine.Hd.hd.view_39 (looseW Mine.Hd.hd.view_39 [Str.ofString "BTClibValueError", Str.ofString "BTClibTypeError", Str.ofString "bytes_from_octets", Str.ofString "encode", Str.ofString "decode"]) mean mg mb base →
    KtsDicts (outer.filterMap (·.frame)) h₀ → KtsTurn (outer.filterMap (·.frame)) g₀ h₀ →
    cs.kind = .function → dp + n < recursionLimit → un + 8 * n < cLine →
    (∀ (v : Value) (h₁ h' : Heap) (tk' : Nat), R v → KtsTurn (outer.filterMap (·.frame)) g₀ h₁ → Fr h₁ L h' m → News h₁ L h' news → Below A₀ base outer h₁ → (Mine.Hd.hd.heap_39 w.params).In h₁ →
      Top Mine.Hd.hd.view_39 (looseW Mine.Hd.hd.view_39 [Str.ofString "BTClibValueError", Str.ofString "BTClibTypeError", Str.ofString "bytes_from_octets", Str.ofString "encode", Str.ofString "decode"]) mean mg mb h₁ →
      KtsDicts (outer.filterMap (·.frame)) h₁ → Q v { s with heap := h', toks := tk' }) →
      wpS (model PySem.Challenge.rw_fc5003_01.row.prog w) (ktrTop dp un gd cn cs L a ccd cl outer) (call (.ref f) vs kw) Q E s
theorem TellsST.use {n : Nat} {f : Addr} {vs : List Value} {kw : List (Str × Value)} {R : Value → Prop} {w : World} {mean : ExcName → Option Value} {mg mb : Str → Option Value} {dp un : Nat} {gd : Option (List Code)} {cn : Str} {cs : Scope} {a : Addr} {ccd : Value} {cl : List (Str × Addr)} {outer : List Env} {A₀ : Around} {base g₀ h₀ : Heap} {L : Addr} {m : Str → Option Value} {news : List (Addr × Obj)} {s : Shared} {Q E : Value → Shared → Prop}
    (C : TellsST n f vs kw R) (B : Below A₀ base outer h₀) (F : Fr h₀ L s.heap m) (X : (Mine.Hd.hd.heap_39 w.params).In h₀) (N : News h₀ L s.heap news)
    (T : Top Mine.Hd.hd.view_39 (looseW Mine.Hd.hd.view_39 [Str.ofString "BTClibValueError", Str.ofString "BTClibTypeError", Str.ofString "bytes_from_octets", Str.ofString "encode", Str.ofString "decode"]) mean mg mb h₀)
    (XB : (Mine.Hd.hd.heap_39 w.params).In base)
    (TB : Top Mine.Hd.hd.view_39 (looseW Mine.Hd.hd.view_39 [Str.ofString "BTClibValueError", Str.ofString "BTClibTypeError", Str.ofString "bytes_from_octets", Str.ofString "encode", Str.ofString "decode"]) mean mg mb base)
    (D : KtsDicts (outer.filterMap (·.frame)) h₀) (T0 : KtsTurn (outer.filterMap (·.frame)) g₀ h₀) (hk : cs.kind = .function) (hd : dp + n < recursionLimit) (hu : un + 8 * n < cLine)
    (ret : ∀ (v : Value) (h₁ h' : Heap) (tk' : Nat), R v → KtsTurn (outer.filterMap (·.frame)) g₀ h₁ → Fr h₁ L h' m → News h₁ L h' news → Below A₀ base outer h₁ → (Mine.Hd.hd.heap_39 w.params).In h₁ →
      Top Mine.Hd.hd.view_39 (looseW Mine.Hd.hd.view_39 [Str.ofString "BTClibValueError", Str.ofString "BTClibTypeError", Str.ofString "bytes_from_octets", Str.ofString "encode", Str.ofString "decode"]) mean mg mb h₁ →
      KtsDicts (outer.filterMap (·.frame)) h₁ → Q v { s with heap := h', toks := tk' }) :
    wpS (model PySem.Challenge.rw_fc5003_01.row.prog w) (ktrTop dp un gd cn cs L a ccd cl outer) (call (.ref f) vs kw) Q E s :=
  C _ _ _ _ _ _ _ _ _ _ _ _ _ _ _ _ _ _ _ _ _ _ _ B F X N T XB TB D T0 hk hd hu ret
end Mine
end
section
open PySem PySem.W PySem.Calls PyProof.Rows
set_option Elab.async false
set_option linter.unusedVariables false
set_option maxRecDepth 100000
namespace Mine
/-- an own class over ValueError, whose written classes say nothing of str -/
def strIn (K : Frag) (C : Addr) : Bool := match K.lookup C with
  | some ⟨.type "type", _, .cls cd, sl⟩ => (match cd.mro, sl.toList with
    | [.ref C', .ref A, .type "ValueError", .type "Exception", .type "BaseException", .type "object"], [_, _, _, _, some (.builtin _), _] =>
      C' == C && !cd.hasDel && nsOkIn K cd.ns && nsIn K cd.ns "__str__" == some none && (match K.lookup A with
        | some ⟨_, _, .cls ca, _⟩ => nsOkIn K ca.ns && nsIn K ca.ns "__str__" == some none
        | _ => false)
    | _, _ => false)
  | _ => false
theorem str_rest : lookupAlong [.type "ValueError", .type "Exception", .type "BaseException", .type "object"] "__str__" = pure (some (.builtin "BaseException.__str__")) := by
  have h := PySem.F.excStr_ValueError.str.lookup
  rw [typeLookup_eq, PySem.F.excBase_ValueError.mroIs] at h
  exact h
section
variable {prog : Program} {w : World} {A : Around} {E : Value → Shared → Prop} {h h₀ : Heap} {L : Addr} {g : Array GenState} {d : Drawn} {tk : Nat} {os : OsState} {K : Frag} {C e t : Addr} {news : List (Addr × Obj)} {m : Str} {u : Tok}
theorem str_own_lookup {M : Model} (X : K.In h) (q : strIn K C = true) {Q : Option Value → Shared → Prop} (hq : Q (some (.builtin "BaseException.__str__")) ⟨h, g, d, tk, os⟩) :
    wpAny M A (typeLookup (.ref C) "__str__") Q E ⟨h, g, d, tk, os⟩ := by
  unfold strIn at q
  split at q
  · rename_i dd cd sl ho
    split at q
    · rename_i C' Ac n hm hs
      simp only [Bool.and_eq_true, beq_iff_eq, Bool.not_eq_true'] at q
      obtain ⟨⟨⟨⟨rfl, hdel⟩, hok⟩, hns⟩, q⟩ := q
      split at q
      · rename_i ca sl2 hoA
        simp only [Bool.and_eq_true, beq_iff_eq] at q
        obtain ⟨nm, bs, mro, ns, qn, hd, sn, sub, ab, col, del⟩ := cd
        dsimp only at hm hdel hok hns
        subst hm hdel
        obtain ⟨l⟩ := sl
        simp only at hs
        subst hs
        rw [typeLookup_eq]
        refine wpAny_bind (wpAny_mroOf_exc (X _ _ ho) ?_)
        rw [lookupAlong_cons]
        refine wpAny_bind (wpAny_classOwn_exc (X _ _ ho) (.of_isNs (isNs_of_in X hok)) ?_)
        rw [nsMap_none_of_in X hok hns]
        show wpAny M A (lookupAlong _ _) Q E _
        rw [lookupAlong_cons]
        refine wpAny_bind (wpAny_classOwn_cls (X _ _ hoA) (.of_isNs (isNs_of_in X q.1)) ?_)
        rw [nsMap_none_of_in X q.1 q.2]
        show wpAny M A (lookupAlong _ _) Q E _
        rw [str_rest]
        exact wpAny_pure hq
      · cases q
    · cases q
  · cases q
theorem str_own_sub {M : Model} (X : K.In h) (q : strIn K C = true) {Q : Bool → Shared → Prop} (hq : Q true ⟨h, g, d, tk, os⟩) :
    wpAny M A (isSubtype (.ref C) (.type "BaseException")) Q E ⟨h, g, d, tk, os⟩ := by
  unfold strIn at q
  split at q
  · rename_i dd cd sl ho
    split at q
    · rename_i C' Ac n hm hs
      simp only [Bool.and_eq_true, beq_iff_eq, Bool.not_eq_true'] at q
      obtain ⟨⟨⟨⟨rfl, hdel⟩, hok⟩, hns⟩, q⟩ := q
      obtain ⟨nm, bs, mro, ns, qn, hd, sn, sub, ab, col, del⟩ := cd
      dsimp only at hm hdel hok hns
      subst hm hdel
      obtain ⟨l⟩ := sl
      simp only at hs
      subst hs
      refine wpAny_isSubtype_exc (X _ _ ho) ?_
      exact hq
    · cases q
  · cases q
theorem type_own {M : Model} {oe : Obj} (he : h.get? e = some oe) (hcls : oe.cls = .ref C) {Q : Value → Shared → Prop} (hq : Q (.ref C) ⟨h, g, d, tk, os⟩) : wpAny M A (typeOf (.ref e)) Q E ⟨h, g, d, tk, os⟩ := by
  unfold typeOf
  rw [← hcls] at hq
  repeat (first | with_reducible refine wpAny_loadPart_at he ?_ | wp_step)
  exact hq
theorem str_own_check {M : Model} {oe : Obj} (X : K.In h) (q : strIn K C = true) (he : h.get? e = some oe) (hcls : oe.cls = .ref C) {Q : Unit → Shared → Prop} (hq : Q () ⟨h, g, d, tk, os⟩) :
    wpAny M A (checkBuiltinCall "BaseException.__str__" ⟨[.ref e], []⟩) Q E ⟨h, g, d, tk, os⟩ := by
  have hk : builtinKind "BaseException.__str__" = some .slot := by decide +kernel
  have hsp : splitId "BaseException.__str__" = some ("BaseException", "__str__") := by decide +kernel
  have ha := PySem.F.args_bexc_str (.ref e)
  simp only [checkBuiltinCall, hk, hsp]
  unfold isInstance
  refine wpAny_bind (wpAny_bind (type_own he hcls ?_))
  refine str_own_sub X q ?_
  simp only [Bool.not_true, Bool.false_eq_true, if_false]
  unfold argsOk at ha
  cases hsig : Manifest.signature? "BaseException.__str__" with
  | none => exact wpAny_pure hq
  | some sig =>
    simp only [hsig] at ha
    have h2 : Bind.checkArgs "BaseException.__str__" sig ⟨[.ref e], []⟩ = pure () := ha
    show wpAny M A (Bind.checkArgs "BaseException.__str__" sig ⟨[.ref e], []⟩) Q E _
    rw [h2]; exact wpAny_pure hq
theorem bexcArgs_own {M : Model} {items : List Value} {oe : Obj} {ws : Array Value} {Q : Value × List Value → Shared → Prop} (he : h.get? e = some oe) (hd : oe.data = .fields ws) (h0 : ws[0]? = some (.ref t)) (ht : h.TupAt t items) (hq : Q (.ref t, items) ⟨h, g, d, tk, os⟩) :
    wpAny M A (Builtin.BaseException.bexcArgs (.ref e)) Q E ⟨h, g, d, tk, os⟩ := by
  obtain ⟨ot, k, hto, _, htd⟩ := ht
  unfold Builtin.BaseException.bexcArgs
  refine wpAny_bind (wpAny_field he hd h0 (wpAny_bind (wpAny_seqItems hto htd ?_)))
  have : items.toArray.toList = items := by simp
  show wpAny M A (pure (Value.ref t, items.toArray.toList)) Q E _
  rw [this]; exact wpAny_pure hq
theorem str_own_call {oe : Obj} {ws : Array Value} {Q : Value → Shared → Prop} (X : K.In h) (q : strIn K C = true) (he : h.get? e = some oe) (hcls : oe.cls = .ref C) (hd : oe.data = .fields ws) (h0 : ws[0]? = some (.ref t)) (ht : h.TupAt t [.str m u]) (hq : Q (.str m u) ⟨h, g, d, tk, os⟩) :
    wpAny (model prog w) A (call (.builtin "BaseException.__str__") [.ref e]) Q E ⟨h, g, d, tk, os⟩ := by
  refine wpAny_call (codeAny_call_builtin PySem.F.excStr_ValueError.str.plain PySem.F.entry_bexc_str (str_own_check X q he hcls ?_))
  unfold Builtin.«BaseException.__str__»
  repeat (first | with_reducible refine bexcArgs_own he hd h0 ht ?_ | wp_step)
  exact hq
theorem str_own_strOf {oe : Obj} {ws : Array Value} {Q : Value → Shared → Prop} (hu : A.units < cLine) (X : K.In h) (q : strIn K C = true) (he : h.get? e = some oe) (hcls : oe.cls = .ref C) (hd : oe.data = .fields ws) (h0 : ws[0]? = some (.ref t)) (ht : h.TupAt t [.str m u]) (hq : Q (.str m u) ⟨h, g, d, tk, os⟩) :
    wpAny (model prog w) A (Builtin.Str.strOf (.ref e)) Q E ⟨h, g, d, tk, os⟩ := by
  have hsp : ∀ {Q : Option Value → Shared → Prop}, Q (some (.str m u)) ⟨h, g, d, tk, os⟩ → wpAny (model prog w) A (callSpecial? (.ref e) "__str__") Q E ⟨h, g, d, tk, os⟩ := by
    intro Q hq
    simp only [callSpecial?, specialOf]
    refine wpAny_bind (wpAny_bind (type_own he hcls ?_))
    refine str_own_lookup X q ?_
    simp only [PySem.F.excStr_ValueError.str.bind]
    exact wpAny_holding (wpAny_bind (wpAny_pure (wpAny_bind (str_own_call X q he hcls hd h0 ht (wpAny_pure hq)))))
  unfold Builtin.Str.strOf
  repeat (first | with_reducible refine wpAny_cRoomFor hu ?_ | with_reducible refine hsp ?_ | wp_step)
  exact hq
theorem str_own {Q : Value → Shared → Prop} (hu : A.units + 2 < cLine) (X : K.In h) (q : strIn K C = true) (N : News h₀ L h news) (G : Got news e t (.ref C) [.str m u]) (hq : Q (.str m u) ⟨h, g, d, tk, os⟩) :
    wpAny (model prog w) A (call (.type "str") [.ref e]) Q E ⟨h, g, d, tk, os⟩ := by
  obtain ⟨oe, ot, ws, nt, h1, h2, hc, hd, h0, htc, htd⟩ := G
  refine callType_new F.called_str (by decide) (F.typeCall_str_1 _) (F.newCall_str_1 _) (fun obj => F.args_object_init_2 obj _) F.entry_str_new
    (meets_str_new (S := fun A' R s' => A'.units + 1 < cLine ∧ s' = ⟨h, g, d, tk, os⟩ ∧ R (.ok (.ret (.str m u))) s')
      fun prog w A' R s' hq => ?_)
    ⟨(show A.units + 1 + 1 < cLine from hu), rfl, typeIs_str _ _ _, hq⟩
  obtain ⟨hq1, rfl, hq2⟩ := hq
  exact str_own_strOf (A := A'.in1) hq1 X q (N.get h1) hc hd h0 ⟨ot, nt, N.get h2, htc, htd⟩ hq2
end
end Mine
end
section
open PySem PySem.W PySem.Calls PyProof.Rows
set_option Elab.async false
set_option linter.unusedVariables false
set_option maxRecDepth 100000
namespace Mine
theorem end_text {h₀ : Heap} {L I C D : Addr} {m : Str → Option Value} {s₁ : Shared} {oI oC oD : Obj} {S : List (Addr × Obj) → Prop} {y : Value} {h' : Heap} {tk : Nat} {all news₀ : List (Addr × Obj)} {r r' : Str} {t : Tok}
    (F : Fr h₀ L h' m) (N : News h₀ L h' all) (sub : ∀ p ∈ (I, oI) :: (C, oC) :: (D, oD) :: news₀, p ∈ all) (off : LCg.Off3 I C D news₀) (hS : S news₀) (hy : y = .str r' t) (e : r = r') :
    LCg.CompEnd h₀ L m s₁ I oI C oC D oD S (fun y news' => KCtEl news₀ r y news') y { s₁ with heap := h', toks := tk } :=
  LCg.CompEnd.intro F N news₀ sub off hS ⟨rfl, t, by rw [hy, e]⟩
def NumIs (_ : Int) : Prop := True
abbrev numOf {n : Int} (_ : NumIs n) : Int := n
def signAt (n k : Int) : Str := Txt.item (Str.ofString "123456789ABCDEFGHJKLMNPQRSTUVWXYZabcdefghijkmnopqrstuvwxyz") ((n + k).fmod 58)
theorem item_one : ∀ d : Fin 58, (Txt.item (Str.ofString "123456789ABCDEFGHJKLMNPQRSTUVWXYZabcdefghijkmnopqrstuvwxyz") (d.val : Int)).cps.size = 1 ∧ ∀ c ∈ (Txt.item (Str.ofString "123456789ABCDEFGHJKLMNPQRSTUVWXYZabcdefghijkmnopqrstuvwxyz") (d.val : Int)).cps, c < 128 := by decide +kernel
theorem signAt_one (n k : Int) : (signAt n k).cps.size = 1 ∧ ∀ c ∈ (signAt n k).cps, c < 128 := by
  have h0 := fmod_lo (n + k) (show (0 : Int) < 58 by decide)
  have h1 := fmod_hi (n + k) (show (0 : Int) < 58 by decide)
  obtain ⟨d, hd⟩ := Int.eq_ofNat_of_zero_le h0
  unfold signAt
  rw [hd]
  exact item_one ⟨d, by omega⟩
theorem no_sep : (Str.ofString "").cps = #[] := by decide
theorem fold_fact : ∀ (l : List Str), (∀ x ∈ l, x.cps.size = 1 ∧ ∀ c ∈ x.cps, c < 128) → ∀ (a : Array Nat), (∀ c ∈ a, c < 128) →
    (l.foldl (fun acc q => acc ++ (Str.ofString "").cps ++ q.cps) a).size = a.size + l.length ∧ ∀ c ∈ l.foldl (fun acc q => acc ++ (Str.ofString "").cps ++ q.cps) a, c < 128 := by
  intro l
  induction l with
  | nil => intro _ a ha; exact ⟨rfl, ha⟩
  | cons x l ih =>
    intro h a ha
    rw [List.foldl_cons, no_sep, Array.append_empty]
    have hx := h x (List.mem_cons_self ..)
    have h2 := ih (fun y hy => h y (List.mem_cons_of_mem _ hy)) (a ++ x.cps) (fun c hc => by
      rcases Array.mem_append.mp hc with q | q
      · exact ha c q
      · exact hx.2 c q)
    rw [no_sep] at h2
    refine ⟨?_, h2.2⟩
    rw [h2.1, Array.size_append, hx.1, List.length_cons]
    omega
theorem join_fact (l : List Str) (h : ∀ x ∈ l, x.cps.size = 1 ∧ ∀ c ∈ x.cps, c < 128) : (Txt.join (Str.ofString "") l).length = l.length ∧ Clean (Txt.join (Str.ofString "") l) := by
  cases l with
  | nil => exact ⟨rfl, fun c hc => absurd hc (by show c ∉ (#[] : Array Nat); simp)⟩
  | cons x l =>
    have hx := h x (List.mem_cons_self ..)
    have h2 := fold_fact l (fun y hy => h y (List.mem_cons_of_mem _ hy)) x.cps hx.2
    refine ⟨?_, h2.2⟩
    show ((l.foldl (fun acc q => acc ++ (Str.ofString "").cps ++ q.cps) x.cps)).size = _
    rw [h2.1, hx.1, List.length_cons]
    omega
theorem told_fact (n : Int) (k : Nat) : (Txt.join (Str.ofString "") (List.map (signAt n) (rangeKs 0 k))).length = k ∧ Clean (Txt.join (Str.ofString "") (List.map (signAt n) (rangeKs 0 k))) := by
  have h := join_fact (List.map (signAt n) (rangeKs 0 k)) (fun x hx => by
    obtain ⟨j, _, rfl⟩ := List.mem_map.mp hx
    exact signAt_one n j)
  refine ⟨?_, h.2⟩
  rw [h.1, List.length_map, rangeKs_length]
end Mine
end
section
open PySem PySem.W PySem.Calls PyProof.Rows
set_option Elab.async false
set_option linter.unusedVariables false
set_option maxRecDepth 100000
namespace Mine
theorem hn_of {c : Code} {l : List (Code × Pos)} {q : Pos} (h : noHold ((c, q) :: l) = true) (q' : Pos) : noHold ((c, q') :: l) = true := by
  rw [noHold_cons] at h ⊢; exact h
section
variable {prog : Program} {w : World} {A : Around} {E : Value → Shared → Prop} {s : Shared} {env : Env}
theorem wpS_keep {α : Type} {M : Model} {vs : List Value} {m : Sem α} {Q : α → Shared → Prop} (h : wpS M A m Q E s) : wpS M A (m.keep vs) Q E s :=
  fun Γ p hΓ hn => by rw [Sem.wp_keep]; exact h Γ p hΓ hn
theorem S_Assign {M : Model} {x pos' value pos} {Q : Flow → Shared → Prop}
    (h : wpS M A (eval value env) (fun v s₁ => wpAny M A (storeName env x v) (fun _ s₂ => Q .next s₂) E s₁) E s)
    (hs : swapsWith value (some (.Name x pos')) pos.line env = pure false := by rfl) :
    wpS M A (exec (.Assign [.Name x pos'] value pos) env) Q E s := fun Γ p hΓ hn => by
  simp only [exec_Assign_Name env x pos' value pos hs, Sem.wp_bind', Sem.wp_cmd_standAt, Sem.wp_bindName, Sem.wp_pure']
  exact Sem.wp_mono M Γ _ (fun v _ s₁ h₁ => h₁ Γ _ hΓ) (fun _ _ _ h' => h') _ _ (h Γ _ hΓ (hn_of hn _))
theorem S_AugAssign {M : Model} {x pos' op value pos} {Q : Flow → Shared → Prop}
    (h : wpAny M A (loadName env x) (fun old s₁ => wpS M A (eval value env) (fun v s₂ => wpAny M A (inplaceOp op old v)
      (fun r s₃ => wpAny M A (storeName env x r) (fun _ s₄ => Q .next s₄) E s₃) E s₂) E s₁) E s) :
    wpS M A (exec (.AugAssign (.Name x pos') op value pos) env) Q E s := fun Γ p hΓ hn => by
  simp only [exec_AugAssign_Name, Sem.wp_bind', Sem.wp_holding, Sem.wp_cmd_standAt, Sem.wp_operate, Sem.wp_bindName, Sem.wp_pure']
  exact Sem.wp_mono M Γ _ (fun old p₁ s₁ h₁ => Sem.wp_mono M Γ _ (fun v _ s₂ h₂ => Sem.wp_mono M Γ _ (fun r _ s₃ h₃ => h₃ Γ _ hΓ)
    (fun _ _ _ h' => h') _ _ (h₂ Γ _ hΓ)) (fun _ _ _ h' => h') _ _ (h₁ Γ p₁ hΓ (hn_of hn _))) (fun _ _ _ h' => h') _ _ (h Γ _ hΓ)
theorem S_Return {M : Model} {e pos} {Q : Flow → Shared → Prop} (h : wpS M A (eval e env) (fun v s₁ => Q (.ret v) s₁) E s) :
    wpS M A (exec (.Return (some e) pos) env) Q E s := fun Γ p hΓ hn => by
  simp only [exec_Return_some, Sem.wp_bind', Sem.wp_cmd_standAt, Sem.wp_pure']; exact h Γ _ hΓ (hn_of hn _)
theorem S_Expr {M : Model} {e pos} {Q : Flow → Shared → Prop} (h : wpS M A (eval e env) (fun v s' => v = .none ∧ Q .next s') E s)
    (hi : interactive env = false := by rfl) (hs : swapsWith e none pos.line env = pure false := by rfl) :
    wpS M A (exec (.Expr e pos) env) Q E s := by
  rw [exec_Expr env e pos hi hs]
  refine wpS_bind_any (wpAny_standAt (wpS_bind (wpS_mono h (fun v s' h' => ?_) fun _ _ x => x)))
  obtain ⟨rfl, h'⟩ := h'
  rw [dropValue_plain (fun a q => by cases q)]
  exact wpS_pure h'
theorem S_If {M : Model} {test body orelse pos} {Q : Flow → Shared → Prop}
    (h : wpS M A (isTrue test env (eval test env))
      (fun b s₂ => if b = true then wpS M A (execs body env) Q E s₂ else wpS M A (execs orelse env) Q E s₂) E s) :
    wpS M A (exec (.If test body orelse pos) env) Q E s := fun Γ p hΓ hn => by
  simp only [exec_If, Sem.wp_bind', Sem.wp_cmd_standAt]
  refine Sem.wp_mono M Γ _ (fun b p₂ s₂ h₂ => ?_) (fun _ _ _ h' => h') _ _ (h Γ _ hΓ (hn_of hn _))
  cases b <;> exact h₂ Γ p₂ hΓ (hn_of hn _)
theorem S_not {M : Model} {x pos whole} {Q : Bool → Shared → Prop} (h : wpS M A (isTrue x env (eval x env)) (fun c s' => Q (!c) s') E s) :
    wpS M A (isTrue (.UnaryOp .Not x pos) env whole) Q E s := by
  show wpS M A (do return !(← isTrue x env (eval x env))) Q E s
  exact wpS_bind (wpS_mono h (fun c s' h' => wpS_pure h') fun _ _ x => x)
theorem S_or_nil {M : Model} {pos whole} {Q : Bool → Shared → Prop} (h : Q false s) : wpS M A (isTrue (.BoolOp .Or [] pos) env whole) Q E s := wpS_pure (a := false) h
theorem S_or {M : Model} {x rest pos whole} {Q : Bool → Shared → Prop}
    (h : wpS M A (isTrue x env (eval x env)) (fun c s' => if c = true then Q true s' else wpS M A (isTrue (.BoolOp .Or rest pos) env whole) Q E s') E s) :
    wpS M A (isTrue (.BoolOp .Or (x :: rest) pos) env whole) Q E s := by
  show wpS M A (do
    match BoolOp.Or, ← isTrue x env (eval x env) with
    | .And, false => pure false
    | .Or, true => pure true
    | _, _ => allTrue .Or rest env) Q E s
  refine wpS_bind (wpS_mono h (fun c s' h' => ?_) fun _ _ x => x)
  cases c with
  | false => exact h'
  | true => exact wpS_pure h'
theorem S_plain {M : Model} {e : Expr} {whole : Sem Value} {Q : Bool → Shared → Prop} (h : wpS M A whole (fun v s₁ => wpAny M A (truthy v) Q E s₁) E s)
    (he : isTrue e env whole = (do let v ← whole; standAt e.pos; holding [v] (truthy v)) := by rfl) : wpS M A (isTrue e env whole) Q E s := by
  rw [he]
  exact wpS_bind (wpS_mono h (fun v s₁ h₁ => wpS_bind_any (wpAny_standAt (wpS_holding (wpS_of_any h₁)))) fun _ _ x => x)
theorem S_test {M : Model} {l op r pos whole} {Q : Bool → Shared → Prop}
    (h : wpS M A (eval l env) (fun a s₁ => wpAny M A (eval r env) (fun b s₂ => wpAny M A (compareOp op a b)
      (fun c s₃ => wpAny M A (truthy c) Q E s₃) E s₂) E s₁) E s)
    (hm : behindInMarks op r = false := by with_unfolding_all rfl) : wpS M A (isTrue (.Compare l [op] [r] pos) env whole) Q E s := fun Γ p hΓ hn => by
  simp only [isTrue_Compare1, markedBehindIn_of_false hm, Sem.wp_bind', Sem.wp_holding, Sem.wp_cmd_standAt, Sem.wp_operate]
  exact Sem.wp_mono M Γ _ (fun a p₁ s₁ h₁ => Sem.wp_mono M Γ _ (fun b _ s₂ h₂ => Sem.wp_mono M Γ _ (fun c p₃ s₃ h₃ => h₃ Γ p₃ hΓ)
    (fun _ _ _ h' => h') _ _ (h₂ Γ _ hΓ)) (fun _ _ _ h' => h') _ _ (h₁ Γ p₁ hΓ)) (fun _ _ _ h' => h') _ _ (h Γ p hΓ hn)
theorem S_Compare {M : Model} {l op r pos} {Q : Value → Shared → Prop}
    (h : wpS M A (eval l env) (fun a s₁ => wpAny M A (eval r env) (fun b s₂ => wpAny M A (compareOp op a b) Q E s₂) E s₁) E s)
    (hm : behindInMarks op r = false := by with_unfolding_all rfl) :
    wpS M A (eval (.Compare l [op] [r] pos) env) Q E s := fun Γ p hΓ hn => by
  simp only [eval_Compare1, markedBehindIn_of_false hm, Sem.wp_bind', Sem.wp_holding, Sem.wp_cmd_standAt, Sem.wp_operate]
  exact Sem.wp_mono M Γ _ (fun a p₁ s₁ h₁ => Sem.wp_mono M Γ _ (fun b _ s₂ h₂ => h₂ Γ _ hΓ) (fun _ _ _ h' => h') _ _ (h₁ Γ p₁ hΓ))
    (fun _ _ _ h' => h') _ _ (h Γ p hΓ hn)
theorem S_and {M : Model} {e₁ e₂ rest pos} {Q : Value → Shared → Prop}
    (h : wpS M A (eval e₁ env) (fun v s₁ => wpAny M A (truthy v) (fun c s₂ => if c = true then wpS M A (eval (.BoolOp .And (e₂ :: rest) pos) env) Q E s₂ else Q v s₂) E s₁) E s) :
    wpS M A (eval (.BoolOp .And (e₁ :: e₂ :: rest) pos) env) Q E s := by
  show wpS M A (do
    let v ← eval e₁ env
    standAt pos
    let c ← holding [v] (truthy v)
    match BoolOp.And, c with
    | .And, false | .Or, true => pure v
    | _, _ => boolOp pos .And (eval e₂ env :: evalEach rest env)) Q E s
  refine wpS_bind (wpS_mono h (fun v s₁ h₁ => wpS_bind_any (wpAny_standAt (wpS_bind_any (wpAny_holding (wpAny_mono h₁ (fun c s₂ h₂ => ?_) fun _ _ x => x))))) fun _ _ x => x)
  cases c with
  | false => exact wpS_pure h₂
  | true => exact h₂
theorem S_Call {M : Model} {id : Str} {np pos : Pos} {args : List Expr} {Q : Value → Shared → Prop}
    (h : wpAny M A (eval (.Name id np) env) (fun f s₁ => wpS M A (callWith pos f [] (backTo pos (starEach args env)) []) Q E s₁) E s) :
    wpS M A (eval (.Call (.Name id np) args [] pos) env) Q E s := by
  rw [arm_eval_Call_Name']
  exact wpS_bind_any h
theorem S_tail {M : Model} {t : Sem Value} {Q : Value → Shared → Prop} (h : wpS M A t Q E s) : wpS M A (t >>= fun r => holding [r] point >>= fun _ => pure r) Q E s :=
  wpS_bind (wpS_mono h (fun r s₂ hr => wpS_bind_any (wpAny_holding (wpAny_point (wpS_pure hr)))) fun _ _ x => x)
theorem S_with_of {M : Model} {f : Value} {first : List Value} {pos : Pos} {Q : Value → Shared → Prop} {P : Heap → Prop} {args : List (Bool × Sem Value)} (hplain : args.any (·.1) = false)
    (hk : ∀ h, P h → ∃ k, (k = Keeper.frame ∨ k = Keeper.machine ∨ k = Keeper.boundFrame) ∧ Looks M h (keeperOf f) k)
    (h : wpAny M A (evalArgs f true args []) (fun a s₁ => P s₁.heap ∧ wpS M A (call f (first ++ a.pos) a.kw) Q E s₁) E s) : wpS M A (callWith pos f first args []) Q E s := by
  unfold callWith
  refine wpS_bind_any (wpAny_holding (wpAny_mono h (fun a s₁ h₁ => wpS_bind_any (wpAny_standAt ?_)) fun _ _ x => x))
  obtain ⟨k, hk', L⟩ := hk _ h₁.1
  simp only [hplain, List.any_nil, Bool.or_false]
  refine wpS_bind_any (L.here ?_)
  have marked (mk : Value) : wpS M A (callMarked mk f (first ++ a.pos) a.kw) Q E s₁ := by unfold callMarked; exact wpS_keep h₁.2
  rcases hk' with rfl | rfl | rfl <;> dsimp only <;> first | exact S_tail h₁.2 | (split <;> first | exact S_tail h₁.2 | exact S_tail (marked _))
theorem S_with {K : Frag} {f : Value} {first : List Value} {h₀ : Heap} {pos : Pos} {M : Model} {Q : Value → Shared → Prop} {e : Expr} {rest : List Expr} (_X : K.In h₀) (hk : keepIn K f = true)
    (h : wpAny M A (spliced (backTo pos (starEach (e :: rest) env))) (fun vs s₁ => K.In s₁.heap ∧ wpS M A (call f (first ++ vs)) Q E s₁) E s)
    (he : starEach (e :: rest) env = (false, eval e env) :: starEach rest env := by rfl) (hplain : (backTo pos (starEach rest env)).any (·.1) = false := by rfl) :
    wpS M A (callWith pos f first (backTo pos (starEach (e :: rest) env)) []) Q E s := by
  rw [he] at h ⊢
  exact S_with_of (by show (false || (backTo pos (starEach rest env)).any (·.1)) = false; rw [hplain]; rfl) (keeps_K hk) (evalArgs_plain h)
theorem S_with_type0 {M : Model} {pos : Pos} {T : String} {Q : Value → Shared → Prop} (h : wpS M A (call (.type T) []) Q E s) :
    wpS M A (callWith pos (.type T) [] (backTo pos (starEach [] env)) []) Q E s := by
  unfold callWith
  refine wpS_bind_any (wpAny_holding (evalArgs_nil3 (wpS_bind_any (wpAny_standAt ?_))))
  have hp : (backTo pos (starEach [] env)).any (·.1) = false := rfl
  simp only [hp, List.any_nil, Bool.or_false]
  refine wpS_bind_any (wpAny_pure ?_)
  exact S_tail h
theorem S_with_builtin {M : Model} {pos : Pos} {id : String} {first : List Value} {args : List (Bool × Sem Value)} {Q : Value → Shared → Prop} (hplain : args.any (·.1) = false)
    (h : wpAny M A (evalArgs (.builtin id) true args []) (fun a s₁ => wpS M A (call (.builtin id) (first ++ a.pos) a.kw) Q E s₁) E s) :
    wpS M A (callWith pos (.builtin id) first args []) Q E s := by
  unfold callWith
  refine wpS_bind_any (wpAny_holding (wpAny_mono h (fun a s₁ h₁ => wpS_bind_any (wpAny_standAt ?_)) fun _ _ x => x))
  simp only [hplain, List.any_nil, Bool.or_false]
  refine wpS_bind_any (wpAny_pure ?_)
  exact S_tail h₁
theorem S_with_method {M : Model} {pos : Pos} {id : String} {first : List Value} {e : Expr} {rest : List Expr} {Q : Value → Shared → Prop}
    (h : wpAny M A (spliced (backTo pos (starEach (e :: rest) env))) (fun vs s₁ => wpS M A (call (.builtin id) (first ++ vs)) Q E s₁) E s)
    (he : starEach (e :: rest) env = (false, eval e env) :: starEach rest env := by rfl)
    (hplain : (backTo pos (starEach rest env)).any (·.1) = false := by rfl) :
    wpS M A (callWith pos (.builtin id) first (backTo pos (starEach (e :: rest) env)) []) Q E s := by
  rw [he] at h ⊢
  exact S_with_builtin (by show (false || (backTo pos (starEach rest env)).any (·.1)) = false; rw [hplain]; rfl) (evalArgs_plain h)
theorem S_Method {M : Model} {o : Expr} {name : Str} {apos pos : Pos} {args : List Expr} {pl : Sem Bool} {Q : Value → Shared → Prop}
    (h : wpAny M A (eval o env) (fun ov s₁ => wpAny M A (getMethod ov name pl) (fun fx s₂ => wpS M A (callWith pos fx.1 fx.2 (backTo pos (starEach args env)) []) Q E s₂) E s₁) E s)
    (he : eval (.Call (.Attribute o name apos) args [] pos) env = (do
      let ov ← eval o env
      standAt apos.atName
      let (f, first) ← holding [ov] (getMethod ov name pl)
      callWith pos f first (backTo pos (starEach args env)) []) := by rfl) :
    wpS M A (eval (.Call (.Attribute o name apos) args [] pos) env) Q E s := by
  rw [he]
  refine wpS_bind_any (wpAny_mono h (fun ov s₁ h₁ => wpS_bind_any (wpAny_standAt (wpS_bind_any (wpAny_holding (wpAny_mono h₁ (fun fx s₂ h₂ => ?_) fun _ _ x => x))))) fun _ _ x => x)
  exact h₂
theorem S_For {x : Str} {px pos : Pos} {iter : Expr} {body : List Stmt} {Q : Flow → Shared → Prop}
    (h : wpAny (model prog w) A (eval iter env) (fun v s₁ => wpS (model prog w) A (do let x' ← foldedSetIterable iter env v; standAt iter.pos; runOwn (.forLoop (.Name x px) (← holding [x'] (pyIter x')) body [] env) env) Q E s₁) E s) :
    wpS (model prog w) A (exec (.For (.Name x px) iter body [] pos) env) Q E s := by
  rw [exec_For]
  exact wpS_bind_any (wpAny_standAt (wpS_bind_any h))
theorem norm_map {m m₀ : Str → Option Value} {y : Str} {v : Value} {stored : List Str} (h1 : m y = some v) (h2 : ∀ z, z ≠ y → stored.contains z = false → m z = m₀ z) :
    m = fun z => if z = y then some v else if stored.contains z then m z else m₀ z := by
  funext z
  by_cases hz : z = y
  · simp only [hz, if_true]; exact h1
  · cases hc : stored.contains z with
    | true => simp [hz]
    | false => simp [hz]; exact h2 z hz hc
theorem ba_fresh {h₀ h' : Heap} {L : Addr} {m : Str → Option Value} {news : List (Addr × Obj)} {o : Obj} (F : Fr h₀ L s.heap m) (N : News h₀ L s.heap news) (ho : h'.get? s.heap.objs.size = some o) (hs : Heap.SameBut s.heap.objs.size (s.heap.push (baObj #[])) h') :
    Fr h₀ L h' m ∧ News h₀ L h' ((s.heap.objs.size, o) :: news) ∧ (∀ p ∈ news, p.1 ≠ s.heap.objs.size) ∧ s.heap.objs.size ≠ L ∧ h₀.get? s.heap.objs.size = none := by
  obtain ⟨oL, _, _, hL, _⟩ := F.ns
  have hlL : L < s.heap.objs.size := Heap.lt_size hL
  have h0 : h₀.get? s.heap.objs.size = none := Heap.get?_none_of_le (Nat.le_trans F.above (Nat.le_of_lt hlL))
  have he : Heap.ExtBut s.heap.objs.size s.heap h' := fun b o' hb e => (hs.2 b hb).trans (Heap.get?_push_of_some _ e)
  have hd : ∀ p ∈ news, p.1 ≠ s.heap.objs.size := fun p hp => Nat.ne_of_lt (Heap.lt_size (N p hp).1)
  refine ⟨Fr_ext F (Nat.ne_of_gt hlL) h0 he, ?_, hd, Nat.ne_of_gt hlL, h0⟩
  intro p hp
  rcases List.mem_cons.mp hp with rfl | hp
  · exact ⟨ho, Nat.ne_of_gt hlL, h0⟩
  · exact News_ext N hd he p hp
end
end Mine
end
section
open PySem PySem.W PySem.Calls PyProof.Rows
set_option Elab.async false
set_option linter.unusedVariables false
set_option maxRecDepth 100000
set_option exponentiation.threshold 3000
namespace Mine
theorem pick_front (p c : Array UInt8) (hc : c.size = 4) : KBy.picked (p ++ c) none (some (-4)) = p := by
  rw [KBc.picked_eq]
  show (((p ++ c).toList.drop 0).take (clipAt (p ++ c).size (-((4 : Nat) : Int)) - 0)).toArray = p
  rw [clipAt_neg _ 4 (by decide), List.drop_zero, Array.toList_append, Array.size_append, hc, Nat.add_sub_cancel, Nat.sub_zero]
  rw [List.take_left' (by simp)]
theorem pick_back (p c : Array UInt8) (hc : c.size = 4) : KBy.picked (p ++ c) (some (-4)) none = c := by
  rw [KBc.picked_eq]
  show (((p ++ c).toList.drop (clipAt (p ++ c).size (-((4 : Nat) : Int)))).take ((p ++ c).size - (clipAt (p ++ c).size (-((4 : Nat) : Int))))).toArray = c
  rw [clipAt_neg _ 4 (by decide), Array.toList_append, Array.size_append, hc, Nat.add_sub_cancel]
  rw [List.drop_left' (by simp)]
  rw [List.take_of_length_le (by simp; omega)]
theorem pick_back3 (p c : Array UInt8) (x : UInt8) (hc : c.size = 3) : KBy.picked (p ++ #[x] ++ c) (some (-3)) none = c := by
  rw [KBc.picked_eq]
  have hz : (p ++ #[x] ++ c).size = p.size + 1 + 3 := by rw [Array.size_append, Array.size_append, hc]; rfl
  show (((p ++ #[x] ++ c).toList.drop (clipAt (p ++ #[x] ++ c).size (-((3 : Nat) : Int)))).take ((p ++ #[x] ++ c).size - (clipAt (p ++ #[x] ++ c).size (-((3 : Nat) : Int))))).toArray = c
  rw [clipAt_neg _ 3 (by decide), hz, Nat.add_sub_cancel, Array.toList_append]
  rw [List.drop_left' (by simp)]
  rw [List.take_of_length_le (by simp; omega)]
theorem pick_four_size (b : Array UInt8) (h : b.size = 32) : (KBy.picked b none (some 4)).size = 4 := by
  rw [KBc.picked_eq]
  show (((b.toList.drop 0).take (clipAt b.size ((4 : Nat) : Int) - 0)).toArray).size = 4
  rw [clipAt_nat, h]
  simp [h]
end Mine
end
section
open PySem PySem.W PySem.Calls PyProof.Rows
set_option Elab.async false
set_option linter.unusedVariables false
set_option maxRecDepth 100000
set_option exponentiation.threshold 3000
namespace Mine
/-- what is left of a number, and the figures pushed so far (the last ones first) -/
def BX (n N : Nat) (b : Array UInt8) : Prop := (b = #[] ∧ N = n) ∨ (b ≠ #[] ∧ rd N ++ (b.toList.reverse.map (·.toNat)) = rd1 n)
theorem small_digit (N : Nat) : ((N % 58).toUInt8).toNat = N % 58 := by
  have h : N % 58 < 256 := Nat.lt_trans (Nat.mod_lt _ (by decide)) (by decide)
  show (N % 58) % 256 = N % 58
  exact Nat.mod_eq_of_lt h
theorem BX.turn {n N : Nat} {b : Array UInt8} (h : BX n N b) (hc : N ≠ 0 ∨ b = #[]) : BX n (N / 58) (b.push (N % 58).toUInt8) := by
  have hne : b.push (N % 58).toUInt8 ≠ #[] := by
    intro q
    have := congrArg Array.size q
    rw [Array.size_push] at this
    exact absurd this (Nat.succ_ne_zero _)
  refine .inr ⟨hne, ?_⟩
  rw [Array.toList_push, List.reverse_append, List.reverse_singleton, List.map_append, List.map_cons, List.map_nil, small_digit, ← List.append_assoc]
  rcases h with ⟨rfl, rfl⟩ | ⟨hb, h⟩
  · by_cases hz : N = 0
    · subst hz
      show rd (0 / 58) ++ [0] ++ [] = rd1 0
      rw [Nat.zero_div, rd_zero]
      rfl
    · rw [← rd_pos hz]
      simp [rd1, hz]
  · have hz : N ≠ 0 := by
      rcases hc with q | q
      · exact q
      · exact absurd q hb
    rw [← rd_pos hz]
    exact h
theorem BX.size {n N : Nat} {b : Array UInt8} (h : BX n N b) (hn : n < 2 ^ 300) : b.size ≤ 52 := by
  rcases h with ⟨rfl, _⟩ | ⟨_, h⟩
  · exact Nat.zero_le _
  · have h2 := congrArg List.length h
    have h3 := rd1_length_300 hn
    simp only [List.length_append, List.length_map, List.length_reverse, Array.length_toList] at h2
    omega
theorem BX.chunk {n i c j : Nat} {b : Array UInt8} (hj : j < 10) (hi : 1 ≤ i) (hc : c < 58 ^ (10 - j)) (h : BX n (i * 58 ^ (10 - j) + c) b) :
    c / 58 < 58 ^ (10 - (j + 1)) ∧ BX n (i * 58 ^ (10 - (j + 1)) + c / 58) (b.push (c % 58).toUInt8) := by
  obtain ⟨k, hk⟩ : ∃ k, 10 - j = k + 1 := ⟨9 - j, by omega⟩
  have hk2 : 10 - (j + 1) = k := by omega
  rw [hk] at hc h
  rw [hk2]
  rw [Nat.pow_succ] at hc h
  have e : i * (58 ^ k * 58) + c = 58 * (i * 58 ^ k) + c := by rw [← Nat.mul_assoc, Nat.mul_comm]
  have hp : 0 < 58 ^ k := Nat.pow_pos (by decide)
  have hi2 : 1 ≤ i * 58 ^ k := Nat.mul_pos hi hp
  have h2 := h.turn (.inl (by rw [e]; omega))
  rw [e] at h2
  have e1 : (58 * (i * 58 ^ k) + c) / 58 = i * 58 ^ k + c / 58 := by omega
  have e2 : (58 * (i * 58 ^ k) + c) % 58 = c % 58 := by omega
  rw [e1, e2] at h2
  exact ⟨by omega, h2⟩
theorem BX.open {n i : Nat} {b : Array UInt8} (h : BX n i b) : BX n (i / 430804206899405824 * 58 ^ (10 - 0) + i % 430804206899405824) b := by
  have e : (58 : Nat) ^ (10 - 0) = 430804206899405824 := by decide
  rw [e, Nat.div_add_mod']
  exact h
theorem chrOf_sgn : ∀ d : Fin 58, chrOf (d.val.toUInt8) = (sgn d.val).toUInt8 := by decide +kernel
theorem rd_lt : ∀ (k n : Nat), n ≤ k → ∀ d ∈ rd n, d < 58 := by
  intro k
  induction k with
  | zero =>
    intro n h d hd
    have hz : n = 0 := Nat.le_zero.mp h
    rw [hz, rd_zero] at hd
    cases hd
  | succ k ih =>
    intro n h d hd
    by_cases hz : n = 0
    · subst hz; rw [rd_zero] at hd; cases hd
    · rw [rd_pos hz] at hd
      rcases List.mem_append.mp hd with q | q
      · exact ih (n / 58) (by omega) d q
      · rw [List.mem_singleton.mp q]; exact Nat.mod_lt _ (by decide)
theorem rd1_lt (n : Nat) : ∀ d ∈ rd1 n, d < 58 := by
  intro d hd
  unfold rd1 at hd
  split at hd
  · rw [List.mem_singleton.mp hd]; decide
  · exact rd_lt n n (Nat.le_refl _) d hd
theorem BX.done {n : Nat} {b : Array UInt8} (h : BX n 0 b) (hb : b ≠ #[]) : b.reverse.map chrOf = ((rd1 n).map fun d => (sgn d).toUInt8).toArray := by
  rcases h with ⟨q, _⟩ | ⟨_, h⟩
  · exact absurd q hb
  · rw [rd_zero, List.nil_append] at h
    apply Array.toList_inj.mp
    rw [Array.toList_map, Array.toList_reverse, List.toList_toArray, ← h, List.map_map]
    apply List.map_congr_left
    intro x hx
    have hlt : x.toNat < 58 := rd1_lt n _ (h ▸ List.mem_map_of_mem hx)
    have := chrOf_sgn ⟨x.toNat, hlt⟩
    simp only [Function.comp] at this ⊢
    rw [← this]
    congr 1
    exact (UInt8.ofNat_toNat (x := x)).symm
theorem BX.start (n : Nat) : BX n n #[] := .inl ⟨rfl, rfl⟩
theorem News_at {h₀ h h' : Heap} {L x : Addr} {o o' : Obj} {pre post : List (Addr × Obj)} (N : News h₀ L h (pre ++ (x, o) :: post)) (hd : ∀ p ∈ pre ++ post, p.1 ≠ x) (hs : Heap.SameBut x h h') (ho : h'.get? x = some o') : News h₀ L h' (pre ++ (x, o') :: post) := by
  intro p hp
  have other : p ∈ pre ++ post → h'.get? p.1 = some p.2 ∧ p.1 ≠ L ∧ h₀.get? p.1 = none := fun q => by
    have hm : p ∈ pre ++ (x, o) :: post := by
      rcases List.mem_append.mp q with r | r
      · exact List.mem_append_left _ r
      · exact List.mem_append_right _ (List.mem_cons_of_mem _ r)
    have z := N p hm
    exact ⟨(hs.2 p.1 (hd p q)).trans z.1, z.2.1, z.2.2⟩
  rcases List.mem_append.mp hp with q | q
  · exact other (List.mem_append_left _ q)
  · rcases List.mem_cons.mp q with rfl | q
    · have z := N (x, o) (List.mem_append_right _ (.head _))
      exact ⟨ho, z.2.1, z.2.2⟩
    · exact other (List.mem_append_right _ q)
section
variable {prog : Program} {w : World} {A : Around} {E : Value → Shared → Prop} {s : Shared} {h₀ : Heap} {L x : Addr} {m : Str → Option Value} {news pre post : List (Addr × Obj)} {b : Array UInt8}
theorem ba_new_at {Q : Value → Shared → Prop} (F : Fr h₀ L s.heap m) (N : News h₀ L s.heap news) (h : ∀ x h', Fr h₀ L h' m → News h₀ L h' ((x, baObj #[]) :: news) → (∀ p ∈ news, p.1 ≠ x) → Q (.ref x) { s with heap := h' }) :
    wpS (model prog w) A (call (.type "bytearray") []) Q E s := by
  refine do_ba_new fun h' hb hs => ?_
  obtain ⟨F1, N1, d1, l1, z1⟩ := ba_fresh F N hb hs
  exact h _ h' F1 N1 d1
theorem ba_push_at {z : Int} {t : Tok} {Q : Value → Shared → Prop} (F : Fr h₀ L s.heap m) (N : News h₀ L s.heap (pre ++ (x, baObj b) :: post)) (hd : ∀ p ∈ pre ++ post, p.1 ≠ x) (h0 : 0 ≤ z) (h1 : z < 256) (hsz : b.size < 1000000)
    (h : ∀ h', Fr h₀ L h' m → News h₀ L h' (pre ++ (x, baObj (b.push z.toNat.toUInt8)) :: post) → Q .none { s with heap := h' }) :
    wpS (model prog w) A (call (.builtin "bytearray.append") [.ref x, .int z t]) Q E s := by
  obtain ⟨d, rfl⟩ := Int.eq_ofNat_of_zero_le h0
  have z := N (x, baObj b) (List.mem_append_right _ (.head _))
  refine do_ba_append (d := d) z.1 (by omega) hsz (fun h' hx hs => ?_)
  exact h h' (Fr_upd F z.2.1 z.2.2 hs) (News_at N hd hs hx)
theorem ba_turn_at {Q : Value → Shared → Prop} (F : Fr h₀ L s.heap m) (N : News h₀ L s.heap (pre ++ (x, baObj b) :: post)) (hd : ∀ p ∈ pre ++ post, p.1 ≠ x) (hsz : b.size < 1000000)
    (h : ∀ h', Fr h₀ L h' m → News h₀ L h' (pre ++ (x, baObj b.reverse) :: post) → Q .none { s with heap := h' }) :
    wpAny (model prog w) A (call (.builtin "bytearray.reverse") [.ref x]) Q E s := by
  have z := N (x, baObj b) (List.mem_append_right _ (.head _))
  refine do_ba_reverse z.1 hsz (fun h' hx hs => ?_)
  exact h h' (Fr_upd F z.2.1 z.2.2 hs) (News_at N hd hs hx)
end
end Mine
end
section
open PySem PySem.W PySem.Calls PyProof.Rows
set_option Elab.async false
set_option linter.unusedVariables false
set_option maxRecDepth 100000
set_option exponentiation.threshold 3000
namespace Mine
theorem fromBE_snoc (l : List UInt8) (x : UInt8) : fromBE (l ++ [x]) = fromBE l * 256 + x.toNat := by
  unfold fromBE; rw [List.foldl_append]; rfl
theorem snoc_cases {α : Type} (l : List α) : l = [] ∨ ∃ r x, l = r ++ [x] := by
  cases h : l.reverse with
  | nil => exact .inl (by simpa using h)
  | cons x r => exact .inr ⟨r.reverse, x, by rw [← List.reverse_reverse l, h, List.reverse_cons]⟩
theorem be_from : ∀ (k : Nat) (c : List UInt8), c.length = k → beBytes k (fromBE c) = c := by
  intro k
  induction k with
  | zero => intro c h; rw [List.length_eq_zero_iff.mp h]; rfl
  | succ k ih =>
    intro c h
    rcases snoc_cases c with rfl | ⟨r, x, rfl⟩
    · cases h
    · have hr : r.length = k := by simpa using h
      have hx : x.toNat < 256 := x.toNat_lt
      rw [beBytes, fromBE_snoc]
      rw [show (fromBE r * 256 + x.toNat) / 256 = fromBE r by omega, show (fromBE r * 256 + x.toNat) % 256 = x.toNat by omega, ih r hr]
      congr 2
      exact UInt8.ofNat_toNat
theorem from_be : ∀ (k n : Nat), n < 256 ^ k → fromBE (beBytes k n) = n := by
  intro k
  induction k with
  | zero => intro n h; rw [Nat.pow_zero] at h; rw [show n = 0 by omega]; rfl
  | succ k ih =>
    intro n h
    have h2 : n / 256 < 256 ^ k := by rw [Nat.pow_succ] at h; omega
    rw [beBytes, fromBE_snoc, ih _ h2]
    have : ((n % 256).toUInt8).toNat = n % 256 := by show (n % 256) % 256 = n % 256; omega
    rw [this]; omega
theorem from_min (n : Nat) : fromBE (minBytes n) = n := from_be _ _ (minLen_ok n)
theorem fromBE_from : ∀ (l : List UInt8) (a : Nat), l.foldl (fun a b => a * 256 + b.toNat) a = a * 256 ^ l.length + fromBE l := by
  intro l
  induction l with
  | nil => intro a; simp [fromBE]
  | cons d l ih =>
    intro a
    have h1 := ih (a * 256 + d.toNat)
    have h2 := ih d.toNat
    have h3 : fromBE (d :: l) = d.toNat * 256 ^ l.length + fromBE l := by
      unfold fromBE
      rw [List.foldl_cons, Nat.zero_mul, Nat.zero_add]
      exact h2
    rw [List.foldl_cons, h1, h3, List.length_cons, Nat.pow_succ, Nat.add_mul, Nat.mul_assoc, Nat.mul_comm 256]
    omega
theorem fromBE_cons (d : UInt8) (l : List UInt8) : fromBE (d :: l) = d.toNat * 256 ^ l.length + fromBE l := by
  have h := fromBE_from l d.toNat
  unfold fromBE at h ⊢
  rw [List.foldl_cons, Nat.zero_mul, Nat.zero_add]
  exact h
theorem fromBE_lt' (l : List UInt8) : fromBE l < 256 ^ l.length := by
  have h := fromBE_lt l
  rw [Nat.pow_mul] at h
  exact h
theorem toNat_ne {d : UInt8} (h : d ≠ 0) : d.toNat ≠ 0 := fun q => h (UInt8.toNat_inj.mp q)
theorem min_from {d : UInt8} {l : List UInt8} (h : d ≠ 0) : fromBE (d :: l) ≠ 0 ∧ minBytes (fromBE (d :: l)) = d :: l := by
  have hd := toNat_ne h
  have hp : 0 < 256 ^ l.length := Nat.pow_pos (by decide)
  have lo : 256 ^ l.length ≤ fromBE (d :: l) := by
    rw [fromBE_cons]
    have : 1 * 256 ^ l.length ≤ d.toNat * 256 ^ l.length := Nat.mul_le_mul_right _ (by omega)
    omega
  refine ⟨by omega, ?_⟩
  have hi : minLen (fromBE (d :: l)) ≤ l.length + 1 := minLen_le (fromBE_lt' (d :: l))
  have ok := minLen_ok (fromBE (d :: l))
  have : l.length < minLen (fromBE (d :: l)) := (Nat.pow_lt_pow_iff_right (by decide)).mp (Nat.lt_of_le_of_lt lo ok)
  unfold minBytes
  rw [show minLen (fromBE (d :: l)) = l.length + 1 by omega]
  exact be_from _ _ rfl
/-- what a list is once its noughts are cut off -/
theorem cut_split (z : UInt8) : ∀ (l : List UInt8), ∃ k, l = List.replicate k z ++ l.dropWhile (· == z) ∧ (l.dropWhile (· == z) = [] ∨ ∃ d r, l.dropWhile (· == z) = d :: r ∧ d ≠ z) := by
  intro l
  induction l with
  | nil => exact ⟨0, rfl, .inl rfl⟩
  | cons x l ih =>
    by_cases hx : x = z
    · subst hx
      obtain ⟨k, h1, h2⟩ := ih
      have e : (x :: l).dropWhile (· == x) = l.dropWhile (· == x) := by simp [List.dropWhile_cons]
      rw [e]
      refine ⟨k + 1, ?_, h2⟩
      rw [List.replicate_succ, List.cons_append, ← h1]
    · have e : (x :: l).dropWhile (· == z) = x :: l := by simp [List.dropWhile_cons, hx]
      rw [e]
      exact ⟨0, rfl, .inr ⟨x, l, rfl, hx⟩⟩
theorem cut_rep (z : UInt8) (k : Nat) (l : List UInt8) : (List.replicate k z ++ l).dropWhile (· == z) = l.dropWhile (· == z) := by
  induction k with
  | zero => rfl
  | succ k ih => rw [List.replicate_succ, List.cons_append]; simp [List.dropWhile_cons, ih]
theorem cut_head {z d : UInt8} {l : List UInt8} (h : d ≠ z) : (d :: l).dropWhile (· == z) = d :: l := by simp [List.dropWhile_cons, h]
theorem from_rep (k : Nat) (l : List UInt8) : fromBE (List.replicate k 0 ++ l) = fromBE l := by
  induction k with
  | zero => rfl
  | succ k ih =>
    rw [List.replicate_succ, List.cons_append, fromBE_cons, ih]
    show 0 * _ + _ = _
    omega
theorem min_head {n : Nat} (h : n ≠ 0) : ∃ d r, minBytes n = d :: r ∧ d ≠ 0 := by
  obtain ⟨k, h1, h2⟩ := cut_split 0 (minBytes n)
  have e : fromBE ((minBytes n).dropWhile (· == 0)) = n := by
    rw [← from_rep k, ← h1, from_min]
  rcases h2 with h2 | ⟨d, r, h2, hd⟩
  · rw [h2] at e
    exact absurd e.symm h
  · rw [h2] at e
    have h3 := (min_from (l := r) hd).2
    rw [e] at h3
    exact ⟨d, r, h3, hd⟩
theorem cut_min {n : Nat} (h : n ≠ 0) : (minBytes n).dropWhile (· == 0) = minBytes n := by
  obtain ⟨d, r, e, hd⟩ := min_head h
  rw [e, cut_head hd]
/-! signs -/
theorem dig_sgn : ∀ d : Fin 58, digOf ((sgn d.val).toUInt8) = d.val.toUInt8 ∧ alphB.contains ((sgn d.val).toUInt8) = true ∧ sgn d.val < 128 ∧ (d.val ≠ 0 → (sgn d.val).toUInt8 ≠ 49) := by decide +kernel
theorem alph_one' : alphB.contains 49 = true := by decide +kernel
theorem rd_value : ∀ (k n : Nat), n ≤ k → (rd n).foldl (fun a d => a * 58 + d) 0 = n := by
  intro k
  induction k with
  | zero => intro n h; rw [Nat.le_zero.mp h, rd_zero]; rfl
  | succ k ih =>
    intro n h
    by_cases hz : n = 0
    · rw [hz, rd_zero]; rfl
    · rw [rd_pos hz, List.foldl_append, ih (n / 58) (by omega)]
      show n / 58 * 58 + n % 58 = n
      omega
theorem rd_head : ∀ (k n : Nat), n ≤ k → n ≠ 0 → ∃ d r, rd n = d :: r ∧ d ≠ 0 ∧ d < 58 := by
  intro k
  induction k with
  | zero => intro n h hz; exact absurd (Nat.le_zero.mp h) hz
  | succ k ih =>
    intro n h hz
    rw [rd_pos hz]
    by_cases h2 : n / 58 = 0
    · rw [h2, rd_zero]
      exact ⟨n % 58, [], rfl, by omega, by omega⟩
    · obtain ⟨d, r, e, hd, hl⟩ := ih (n / 58) (by omega) h2
      exact ⟨d, r ++ [n % 58], by rw [e]; rfl, hd, hl⟩
theorem rd1_eq {n : Nat} (h : n ≠ 0) : rd1 n = rd n := by unfold rd1; rw [if_neg h]
def txtB (n : Nat) : Array UInt8 := ((rd1 n).map fun d => (sgn d).toUInt8).toArray
theorem txtB_size {n : Nat} (h : n < 2 ^ 300) : (txtB n).size ≤ 52 := by
  unfold txtB; rw [List.size_toArray, List.length_map]; exact rd1_length_300 h
theorem txt_digits (n : Nat) : ((txtB n).map digOf).toList = (rd1 n).map (·.toUInt8) := by
  unfold txtB
  rw [Array.toList_map, List.toList_toArray, List.map_map]
  apply List.map_congr_left
  intro d hd
  exact (dig_sgn ⟨d, rd1_lt n d hd⟩).1
theorem fold_small : ∀ (l : List Nat), (∀ d ∈ l, d < 58) → ∀ a, (l.map (·.toUInt8)).foldl (fun a (d : UInt8) => a * 58 + d.toNat) a = l.foldl (fun a d => a * 58 + d) a := by
  intro l
  induction l with
  | nil => intro _ a; rfl
  | cons d l ih =>
    intro h a
    have hd : d < 58 := h d (List.mem_cons_self ..)
    have e : (d.toUInt8).toNat = d := by show d % 256 = d; omega
    rw [List.map_cons, List.foldl_cons, List.foldl_cons, e]
    exact ih (fun x hx => h x (List.mem_cons_of_mem _ hx)) _
theorem txt_value (n : Nat) : valN ((txtB n).map digOf).toList = n := by
  rw [txt_digits]
  unfold valN
  rw [fold_small _ (rd1_lt n)]
  unfold rd1
  split
  · rename_i h; rw [h]; rfl
  · exact rd_value n n (Nat.le_refl _)
theorem txt_cut {n : Nat} (h : n ≠ 0) : (txtB n).toList.dropWhile (· == 49) = (txtB n).toList ∧ (txtB n).size ≠ 0 := by
  obtain ⟨d, r, e, hd, hl⟩ := rd_head n n (Nat.le_refl _) h
  unfold txtB
  rw [rd1_eq h, e, List.toList_toArray, List.map_cons, cut_head ((dig_sgn ⟨d, hl⟩).2.2.2 hd)]
  exact ⟨rfl, by simp⟩
theorem txt_good (n : Nat) : ∀ x ∈ txtB n, alphB.contains x = true := by
  intro x hx
  have h2 : x ∈ (rd1 n).map fun d => (sgn d).toUInt8 := by
    have := Array.mem_toList_iff.mpr hx
    unfold txtB at this
    rwa [List.toList_toArray] at this
  obtain ⟨d, hd, rfl⟩ := List.mem_map.mp h2
  exact (dig_sgn ⟨d, rd1_lt n d hd⟩).2.1
theorem good_bad {b : Array UInt8} (h : ∀ x ∈ b, alphB.contains x = true) : (badOf b).size = 0 := by
  unfold badOf
  have : b.filter (fun x => !alphB.contains x) = #[] := by
    rw [Array.filter_eq_empty_iff]
    intro x hx
    rw [h x hx]; decide
  rw [this]; rfl
/-! there and back -/
def encF (b : Array UInt8) : Array UInt8 := Array.replicate (b.size - (cutZ 0 b).size) 49 ++ (if (cutZ 0 b).size = 0 then #[] else txtB (fromBE (cutZ 0 b).toList))
def decF (b : Array UInt8) : Array UInt8 := Array.replicate (b.size - (cutZ 49 b).size) 0 ++ (if (cutZ 49 b).size = 0 then #[] else (minBytes (valN ((cutZ 49 b).map digOf).toList)).toArray)
theorem enc_good (b : Array UInt8) : (badOf (encF b)).size = 0 := by
  apply good_bad
  intro x hx
  unfold encF at hx
  rcases Array.mem_append.mp hx with q | q
  · rw [Array.mem_replicate] at q
    rw [q.2]; exact alph_one'
  · split at q
    · cases Array.mem_toList_iff.mpr q
    · exact txt_good _ x q
/-- k signs ahead of a number's signs, told back -/
theorem dec_told (k n : Nat) : decF (Array.replicate k 49 ++ (if n = 0 then #[] else txtB n)) = Array.replicate k 0 ++ (if n = 0 then #[] else (minBytes n).toArray) := by
  by_cases h : n = 0
  · rw [if_pos h, if_pos h]
    have e : cutZ 49 (Array.replicate k 49 ++ #[]) = #[] := by
      unfold cutZ
      rw [Array.append_empty, Array.toList_replicate]
      have := cut_rep 49 k []
      rw [List.append_nil] at this
      rw [this]; rfl
    unfold decF
    rw [e]
    simp
  · rw [if_neg h, if_neg h]
    have e : cutZ 49 (Array.replicate k 49 ++ txtB n) = txtB n := by
      unfold cutZ
      rw [Array.toList_append, Array.toList_replicate, cut_rep, (txt_cut h).1]
    unfold decF
    rw [e, if_neg (txt_cut h).2, txt_value]
    congr 2
    rw [Array.size_append, Array.size_replicate]
    omega
theorem enc_told (k n : Nat) : encF (Array.replicate k 0 ++ (if n = 0 then #[] else (minBytes n).toArray)) = Array.replicate k 49 ++ (if n = 0 then #[] else txtB n) := by
  by_cases h : n = 0
  · rw [if_pos h, if_pos h]
    have e : cutZ 0 (Array.replicate k 0 ++ #[]) = #[] := by
      unfold cutZ
      rw [Array.append_empty, Array.toList_replicate]
      have := cut_rep 0 k []
      rw [List.append_nil] at this
      rw [this]; rfl
    unfold encF
    rw [e]
    simp
  · rw [if_neg h, if_neg h]
    have e : cutZ 0 (Array.replicate k 0 ++ (minBytes n).toArray) = (minBytes n).toArray := by
      unfold cutZ
      rw [Array.toList_append, Array.toList_replicate, List.toList_toArray, cut_rep, cut_min h]
    have hs : (minBytes n).toArray.size ≠ 0 := by
      obtain ⟨d, r, e, _⟩ := min_head h
      rw [e]; simp
    unfold encF
    rw [e, if_neg hs, List.toList_toArray, from_min]
    congr 2
    rw [Array.size_append, Array.size_replicate]
    omega
/-- every octets are noughts ahead of a number's octets -/
theorem bytes_told (b : Array UInt8) : ∃ k, b = Array.replicate k 0 ++ (if fromBE b.toList = 0 then #[] else (minBytes (fromBE b.toList)).toArray) ∧ b.size - (cutZ 0 b).size = k ∧ ((cutZ 0 b).size = 0 ↔ fromBE b.toList = 0) := by
  obtain ⟨k, h1, h2⟩ := cut_split 0 b.toList
  have hf : fromBE b.toList = fromBE (b.toList.dropWhile (· == 0)) := by
    rw [h1, from_rep, cut_rep]
    rcases h2 with h2 | ⟨d, r, h2, hd⟩
    · rw [h2]; rfl
    · rw [h2, cut_head hd]
  have hsz : b.size = k + (b.toList.dropWhile (· == 0)).length := by
    have := congrArg List.length h1
    rwa [Array.length_toList, List.length_append, List.length_replicate] at this
  have hc : (cutZ 0 b).size = (b.toList.dropWhile (· == 0)).length := by unfold cutZ; rw [List.size_toArray]
  refine ⟨k, ?_, by omega, ?_⟩
  · apply Array.toList_inj.mp
    rw [Array.toList_append, Array.toList_replicate]
    rcases h2 with h2 | ⟨d, r, h2, hd⟩
    · have h0 : fromBE b.toList = 0 := by rw [hf, h2]; rfl
      rw [if_pos h0]
      rw [h2] at h1
      exact h1
    · have h3 := min_from (l := r) hd
      rw [← h2, ← hf] at h3
      rw [if_neg h3.1, List.toList_toArray, h3.2]
      exact h1
  · rw [hc]
    rcases h2 with h2 | ⟨d, r, h2, hd⟩
    · have h0 : fromBE b.toList = 0 := by rw [hf, h2]; rfl
      rw [h2]; exact ⟨fun _ => h0, fun _ => rfl⟩
    · have h3 := (min_from (l := r) hd).1
      rw [← h2, ← hf] at h3
      rw [h2]
      exact ⟨fun q => absurd q (by simp), fun q => absurd q h3⟩
theorem dec_enc (b : Array UInt8) : decF (encF b) = b := by
  obtain ⟨k, h, _⟩ := bytes_told b
  have h2 := enc_told k (fromBE b.toList)
  rw [← h] at h2
  rw [h2, dec_told, ← h]
end Mine
end
section
open PySem PySem.W PySem.Calls PyProof.Rows
set_option Elab.async false
set_option linter.unusedVariables false
set_option maxRecDepth 100000
set_option exponentiation.threshold 3000
namespace Mine
theorem text_bytes (n : Nat) : (textOf n).cps.map (·.toUInt8) = txtB n := by
  unfold textOf txtB
  apply Array.toList_inj.mp
  rw [Array.toList_map, List.toList_toArray, List.toList_toArray, List.map_map]
  rfl
theorem text_clean (n : Nat) : Clean (textOf n) := by
  intro c hc
  have h : c ∈ (rd1 n).map sgn := by
    have := Array.mem_toList_iff.mpr hc
    unfold textOf at this
    rwa [List.toList_toArray] at this
  obtain ⟨d, hd, rfl⟩ := List.mem_map.mp h
  exact (dig_sgn ⟨d, rd1_lt n d hd⟩).2.2.1
theorem text_length {n : Nat} (h : n < 2 ^ 300) : (textOf n).length ≤ 52 := by
  show (((rd1 n).map sgn).toArray).size ≤ 52
  rw [List.size_toArray, List.length_map]
  exact rd1_length_300 h
theorem clean_append {x y : Str} (hx : Clean x) (hy : Clean y) : Clean (x ++ y) := by
  intro c hc
  have h : c ∈ x.cps ++ y.cps := hc
  rcases Array.mem_append.mp h with q | q
  · exact hx c q
  · exact hy c q
theorem bytes_append (x y : Str) : (x ++ y).cps.map (·.toUInt8) = x.cps.map (·.toUInt8) ++ y.cps.map (·.toUInt8) := by
  show (x.cps ++ y.cps).map _ = _
  rw [Array.map_append]
def ones (z : Nat) : Str := ⟨Array.replicate z 49⟩
theorem ones_fold : ∀ (k : Nat) (a : Array Nat), (List.replicate k (Str.ofString "1").cps).foldl (· ++ ·) a = a ++ Array.replicate k 49 := by
  intro k
  induction k with
  | zero => intro a; simp
  | succ k ih =>
    intro a
    have e1 : (Str.ofString "1").cps = #[49] := by decide
    rw [List.replicate_succ, List.foldl_cons, ih, e1]
    apply Array.toList_inj.mp
    simp [List.replicate_succ]
theorem ones_mul (z : Nat) : Txt.mul (Str.ofString "1") (z : Int) = ones z := by
  unfold Txt.mul
  split
  · rename_i h
    have hz : z = 0 := by omega
    subst hz; rfl
  · have h := ones_fold z #[]
    rw [Int.toNat_natCast]
    split
    · rename_i h1
      have h1' : z = 1 := by
        have e1 : (Str.ofString "1").length = 1 := by decide
        rw [e1] at h1
        simp at h1
        omega
      subst h1'
      decide
    · rw [h]
      show (⟨#[] ++ Array.replicate z 49⟩ : Str) = ones z
      simp [ones]
theorem ones_length (z : Nat) : (ones z).length = z := by show (Array.replicate z 49).size = z; simp
theorem ones_clean (z : Nat) : Clean (ones z) := by
  intro c hc
  have h : c ∈ Array.replicate z 49 := hc
  rw [Array.mem_replicate] at h
  rw [h.2]; decide
theorem ones_bytes (z : Nat) : (ones z).cps.map (·.toUInt8) = Array.replicate z 49 := by
  show (Array.replicate z 49).map (fun (n : Nat) => n.toUInt8) = _
  rw [Array.map_replicate]; rfl
section
variable {prog : Program} {w : World} {A : Around} {E : Value → Shared → Prop} {s : Shared} {x y : Str} {t u : Tok}
theorem do_ones {z : Nat} {Q : Value → Shared → Prop} (hz : z ≤ 1000) (h : ∀ t' k, (ones z).length = z → Q (.str (ones z) t') { s with toks := k }) :
    wpAny (model prog w) A (binaryOp .Mult (.str (Str.ofString "1") t) (.int (z : Int) u)) Q E s :=
  SB.mul (mulOk_of 16 1048576 (by decide) (by omega) (by omega) (by decide) (by decide)) fun t' k => by
    rw [ones_mul]
    exact h t' k (ones_length z)
theorem do_sadd {Q : Value → Shared → Prop} (hs : x.length + y.length ≤ 1000000) (h : ∀ t' k, (x ++ y).length = x.length + y.length → Q (.str (x ++ y) t') { s with toks := k }) :
    wpAny (model prog w) A (binaryOp .Add (.str x t) (.str y u)) Q E s :=
  PyProof.Rows.add_str (fun t' k => h t' k (by show (x.cps ++ y.cps).size = _; rw [Array.size_append]; rfl)) (by rw [sizeLine_eq]; omega)
end
end Mine
end
section
open PySem PySem.W PySem.Calls PyProof.Rows
set_option Elab.async false
set_option linter.unusedVariables false
set_option maxRecDepth 100000
set_option exponentiation.threshold 3000
namespace Mine
theorem enc_size {b : Array UInt8} (h : b.size ≤ 37) : (encF b).size ≤ 100 := by
  unfold encF
  have hc := cutZ_le 0 b
  rw [Array.size_append, Array.size_replicate]
  split
  · show _ + 0 ≤ 100; omega
  · have hl : fromBE (cutZ 0 b).toList < 2 ^ 300 := by
      have h2 := fromBE_lt (cutZ 0 b).toList
      refine Nat.lt_of_lt_of_le h2 (Nat.pow_le_pow_right (by decide) ?_)
      rw [Array.length_toList]; omega
    have := txtB_size hl
    omega
theorem four_split (d : Array UInt8) (h : d.size = 4) : ∃ x r, d = #[x] ++ r ∧ r.size = 3 := by
  obtain ⟨l⟩ := d
  match l, h with
  | [a, b, c, e], _ => exact ⟨a, #[b, c, e], rfl, rfl⟩
theorem do_onesK {prog : Program} {w : World} {A : Around} {E : Value → Shared → Prop} {s : Shared} {t u : Tok} {k : Nat} {i : Int} {Q : Value → Shared → Prop} (hi : i = (k : Int)) (hk : k ≤ 1000) (h : ∀ t' n, (ones k).length = k → Q (.str (ones k) t') { s with toks := n }) :
    wpAny (model prog w) A (binaryOp .Mult (.str (Str.ofString "1") t) (.int i u)) Q E s := by
  subst hi
  exact do_ones hk h
end Mine
end
section
open PySem PySem.W PySem.Calls PyProof.Rows
set_option Elab.async false
set_option linter.unusedVariables false
set_option maxRecDepth 100000
set_option exponentiation.threshold 3000
namespace Mine
theorem xor_one : ∀ x : Fin 256, Builtin.bitXor (x.val : Int) 1 = (((x.val.toUInt8 ^^^ 1).toNat : Nat) : Int) ∧ (x.val.toUInt8 ^^^ 1) ≠ x.val.toUInt8 := by decide +kernel
theorem xor_byte (x : UInt8) : Builtin.bitXor ((x.toNat : Nat) : Int) 1 = (((x ^^^ 1).toNat : Nat) : Int) ∧ x ^^^ 1 ≠ x := by
  have h := xor_one ⟨x.toNat, x.toNat_lt⟩
  have e : x.toNat.toUInt8 = x := UInt8.ofNat_toNat
  rw [e] at h
  exact h
theorem byte_one (y : UInt8) : byteArr [((y.toNat : Nat) : Int)] = #[y] := by
  unfold byteArr
  simp
theorem pick_back3' (p r : Array UInt8) (x : UInt8) (hr : r.size = 3) : KBy.picked (p ++ (#[x] ++ r)) (some (-3)) none = r := by
  rw [← Array.append_assoc]
  exact pick_back3 p r x hr
theorem pick_back4' (p r : Array UInt8) (y : UInt8) (hr : r.size = 3) : KBy.picked (p ++ #[y] ++ r) (some (-4)) none = #[y] ++ r := by
  rw [Array.append_assoc]
  exact pick_back p (#[y] ++ r) (by rw [Array.size_append, hr]; rfl)
section
variable {prog : Program} {w : World} {A : Around} {E : Value → Shared → Prop} {s : Shared} {t u : Tok}
theorem do_item4 {p r : Array UInt8} {x : UInt8} {value slice : Expr} {Q : Value → Shared → Prop} (hr : r.size = 3) (hp : p.size ≤ 1000)
    (h : ∀ t' k, Q (.int ((x.toNat : Nat) : Int) t') { s with toks := k })
    (hs : subscripted slice false (.bytes (p ++ (#[x] ++ r)) t) (.int (-4) u) = operate [.bytes (p ++ (#[x] ++ r)) t, .int (-4) u] (getItem (.bytes (p ++ (#[x] ++ r)) t) (.int (-4) u)) := by with_unfolding_all rfl)
    (ht : ∀ r', letTemporaryGo value (.bytes (p ++ (#[x] ++ r)) t) r' = pure () := by intro _; with_unfolding_all rfl) :
    wpAny (model prog w) A (subscriptTail value slice (.bytes (p ++ (#[x] ++ r)) t) (.int (-4) u)) Q E s := by
  have hl : (KBw.bInts (p ++ (#[x] ++ r))).length = p.size + 4 := by
    rw [KBw.ints_length, Array.size_append, Array.size_append, hr]; rfl
  have hidx : ((-4 : Int) + ((KBw.bInts (p ++ (#[x] ++ r))).length : Nat)).toNat = p.size := by rw [hl]; omega
  have hget : (KBw.bInts (p ++ (#[x] ++ r))).getD p.size 0 = ((x.toNat : Nat) : Int) := by
    unfold KBw.bInts
    simp [List.getD]
  refine KBc.itemR_K rfl (by rw [hl]; omega) (by rw [hl]; omega) (by decide) (fun t' k _ _ => ?_) hs ht
  rw [hidx, hget]
  exact h t' k
theorem do_flip {x : UInt8} {Q : Value → Shared → Prop} (h : ∀ t' k, Q (.int (((x ^^^ 1).toNat : Nat) : Int) t') { s with toks := k }) :
    wpAny (model prog w) A (binaryOp .BitXor (.int ((x.toNat : Nat) : Int) t) (.int 1 u)) Q E s := by
  refine xor_int ?_
  rw [(xor_byte x).1]
  exact h _ _
theorem eq_str_by {x y : Str} {Q : Value → Shared → Prop} (e : x = y) (h : Q (.bool true) s) : wpAny (model prog w) A (compareOp .Eq (.str x t) (.str y u)) Q E s := by
  subst e
  refine PyProof.Rows.eq_str ?_
  simpa using h
end
end Mine
end
section
open PySem PySem.W PySem.Calls PyProof.Rows
set_option Elab.async false
set_option maxRecDepth 100000
set_option maxHeartbeats 2000000
set_option linter.unusedVariables false
set_option exponentiation.threshold 3000
namespace Mine
local macro_rules | `(tactic| walk_at "mine enter") => `(tactic| (refine wpAny_call ?_; first | k_dflt cell_enter | k_dflt (refine' code_def ?k1 ?k2 ?k3 ?k4 ?k5 ?kA ?kF ?kK ?k6 ?k7 ?k8 ?k9 ?kB ?_ ?c2 ?c3 ?c4 ?c5; (case kA => exact rfl); (case kF => exact rfl); (case kK => first | exact rfl | assumption); (case k1 => k_asm); (case k2 => k_asm); (case k3 => k_asm); (case k4 => k_asm); (case k5 => k_asm); (case k6 => k_is); (case k7 => k_is); (case k8 => ktr_room); (case k9 => first | exact BindsTo.of_eq rfl | exact binds_K (by k_in) rfl (by k_is) rfl rfl rfl); (case c5 => decide); (case kB => exact locs rfl); (case c2 => exact rfl); (case c3 => exact rfl); (case c4 => exact rfl); k_whole; intro g' L' h' FG' F' N' B' X' T'; (try dsimp only); (try k_fold))))
local macro_rules | `(tactic| walk_at "mine enterS") => `(tactic| (refine wpS_call ?_; k_dflt (refine' codeS_def ?k1 ?k2 ?k3 ?k4 ?k5 ?kA ?kF ?kK ?k6 ?k7 ?k8 ?k9 ?kB ?_ ?c2 ?c3 ?c4 ?c5; (case kA => exact rfl); (case kF => exact rfl); (case kK => first | exact rfl | assumption); (case k1 => k_asm); (case k2 => k_asm); (case k3 => k_asm); (case k4 => k_asm); (case k5 => k_asm); (case k6 => k_is); (case k7 => k_is); (case k8 => ktr_room); (case k9 => first | exact BindsTo.of_eq rfl | exact binds_K (by k_in) rfl (by k_is) rfl rfl rfl); (case c5 => decide); (case kB => exact locs rfl); (case c2 => exact rfl); (case c3 => exact rfl); (case c4 => exact rfl); k_whole; intro g' L' h' FG' F' N' B' X' T'; (try dsimp only))))
local macro_rules | `(tactic| walk_at "mine size") => `(tactic| first | (with_reducible assumption) | omega | ((try simp only [List.size_toArray, Array.size_map, Array.size_append, Array.size_replicate, List.length_append, List.length_cons, List.length_nil, List.length_map, beBytes_length]); omega))
local macro_rules | `(tactic| walk_at "getMethod bytes") => `(tactic| (k_here; first | (with_reducible refine get_translate ?_) | (with_reducible refine get_lstrip ?_) | (with_reducible refine get_hex ?_)))
local macro_rules | `(tactic| walk_at "getMethod str") => `(tactic| (k_here; (with_reducible refine get_encode ?_)))
local macro_rules | `(tactic| walk_at "call builtin:bytes.lstrip") => `(tactic| (k_here; (with_reducible show wpAny _ _ (call (Value.builtin _) [Value.bytes _ _, Value.bytes _ _]) _ _ _); k_dflt (refine do_cut (by walk_at "mine size") ?_); intro _ _ _))
local macro_rules | `(tactic| walk_at "call builtin:bytes.translate") => `(tactic| (k_here; (with_reducible show wpAny _ _ (call (Value.builtin _) [Value.bytes _ _, Value.bytes _ _]) _ _ _); k_dflt (first | refine do_digits (by walk_at "mine size") ?_ | refine do_signs (by walk_at "mine size") ?_); intro _ _ _))
local macro_rules | `(tactic| walk_at "call builtin:bytes.translate") => `(tactic| (k_here; (with_reducible show wpAny _ _ (call (Value.builtin _) [Value.bytes _ _, Value.none, Value.bytes _ _]) _ _ _); k_dflt (refine do_bad (by walk_at "mine size") ?_); intro _ _ _))
local macro_rules | `(tactic| walk_at "call builtin:bytes.hex") => `(tactic| (k_here; (with_reducible show wpAny _ _ (call (Value.builtin _) [Value.bytes _ _]) _ _ _); (refine do_hex (by walk_at "mine size") ?_); intro _ _))
local macro_rules | `(tactic| walk_at "call builtin:str.encode") => `(tactic| (k_here; (with_reducible show wpAny _ _ (call (Value.builtin _) [Value.str _ _, Value.str _ _]) _ _ _); k_dflt (refine do_encode (by assumption) (by walk_at "mine size") ?_); intro _ _))
local macro_rules | `(tactic| walk_at "call type:bytes") => `(tactic| (k_here; (with_reducible show wpAny _ _ (call (Value.type _) [Value.bytes _ _]) _ _ _); (refine bytes_of_bytes ?_); intro _ _))
local macro_rules | `(tactic| walk_at "call builtin:len") => `(tactic| (k_here; (with_reducible show wpAny _ _ (call (Value.builtin _) [Value.bytes _ _]) _ _ _); (refine len_any (by walk_at "mine size") ?_); intro _ _))
local macro_rules | `(tactic| walk_at "truthy bytes") => `(tactic| (k_here; (with_reducible show wpAny _ _ (truthy (Value.bytes _ _)) _ _ _); (first | refine truthy_no (by first | assumption | omega) ?_ | refine truthy_yes (by first | assumption | omega) (by walk_at "mine size") ?_); intro _))
local macro_rules | `(tactic| walk_at "call builtin:int.to_bytes") => `(tactic| (k_here; k_dflt (first | refine do_min ?tbx ?_ | refine do_min_kw ?tbx ?_ | refine do_32_kw (fmod_lo _ (by decide)) (Int.lt_trans (fmod_hi _ (by decide)) (by decide)) ?_); (try (case tbx => first | assumption | omega)); intro _ _))
local macro_rules | `(tactic| walk_at "callWith ref") => `(tactic| (k_here; k_dflt (refine' callWith_words ?kfbN ?kfbM ?_; (case kfbN => k_asm); (case kfbM => k_mem); k_whole)))
local macro_rules | `(tactic| walk_at "call ref") => `(tactic| (k_here; (with_reducible show wpAny _ _ (call (Value.ref _) (Value.bytes _ _ :: _) _) _ _ _); kfb_any; k_dflt (first | refine do_from_bytes_kw (by k_asm) (by k_mem) (by walk_at "mine size") ?_ | refine do_from_bytes (by k_asm) (by k_mem) (by walk_at "mine size") ?_); intro _ _))
local macro_rules | `(tactic| walk_at "subscriptTail") => `(tactic| (k_here; (with_reducible show wpAny _ _ (subscriptTail _ (Expr.Slice _ _ none _) (Value.bytes _ _) (Value.ref _)) _ _ _); (with_reducible rename Fr _ _ _ _ => F'); (with_reducible rename News _ _ _ _ => N'); k_dflt (first | refine do_slice_alpha (s := ⟨_, _, _, _, _⟩) F' N' ?_ | refine do_slice_step (s := ⟨_, _, _, _, _⟩) F' N' (by walk_at "mine size") ?_ | refine do_slice (s := ⟨_, _, _, _, _⟩) F' N' (by constructor) (by constructor) (by walk_at "mine size") ?_); intro _ _ _ _ _ _))
local macro_rules | `(tactic| walk_at "binaryOp Pow int int") => `(tactic| (k_here; k_dflt (refine do_pow58 (by walk_at "mine size") ?_); intro _ _ _ _))
local macro_rules | `(tactic| walk_at "binaryOp Add bytes bytes") => `(tactic| (k_here; (refine do_add (by walk_at "mine size") ?_); intro _ _ _))
local macro_rules | `(tactic| walk_at "mine used") => `(tactic| ((case tB => k_asm); (case tF => k_asm); (case tX => k_asm); (case tN => k_asm); (case tT => k_asm); (case tk => first | exact rfl | assumption); (case td => (dsimp only [Around.deeper, ktrTop]; omega)); (case tu => (dsimp only [Around.deeper, ktrTop]; omega))))
local macro_rules | `(tactic| walk_at "mine news") => `(tactic| first | k_asm | (refine cb_drop (by assumption) ?_; intro p hp; (repeat (first | assumption | (apply List.mem_cons_of_mem)))))
local macro_rules | `(tactic| walk_at "binaryOp Mult int int") => `(tactic| (k_here; k_dflt (refine mul_int (hm := mul_ok (by assumption) (by assumption)) ?_)))
local macro_rules | `(tactic| walk_at "callWith builtin:int.to_bytes") => `(tactic| (k_here; (with_reducible show wpAny _ _ (callWith _ (Value.builtin _) [Value.int _ _] _ (backToKw _ (keywordEach (_ :: _) _))) _ _ _); k_dflt (refine callWith_method_words ?_)))
local macro_rules | `(tactic| walk_at "callWith") => `(tactic| (k_here; (with_reducible show wpAny _ _ (callWith _ (Value.builtin _) [Value.int _ _] _ (backToKw _ (keywordEach (_ :: _) _))) _ _ _); k_dflt (refine callWith_method_words ?_)))
local macro_rules | `(tactic| walk_at "exec Raise some none") => `(tactic| (k_here; (with_reducible show wpAny _ _ (exec (Stmt.Raise (some (Expr.Call (Expr.Name _ _) (_ :: _) [] _)) none _) _) _ _ _); k_dflt (first | (refine' Raise_own2 ?F ?g ?O PySem.F.excBase_Exception ?n PySem.F.excBase_ValueError ?h ?_ ?a ?b ?c ?d ?e; (case F => k_asm); (case g => exact TopRead.g (by k_asm)); (case O => exact own_of_in (by k_asm) (by k_asm) (by k_is) (by k_exc)); (case n => decide +kernel); (case h => first | rfl | assumption); (case a => rfl); (case b => rfl); (case c => rfl); (case d => rfl); (case e => decide); k_whole) | (refine' Raise_own2 ?F ?g ?O PySem.F.excBase_Exception ?n PySem.F.excBase_TypeError ?h ?_ ?a ?b ?c ?d ?e; (case F => k_asm); (case g => exact TopRead.g (by k_asm)); (case O => exact own_of_in (by k_asm) (by k_asm) (by k_is) (by k_exc)); (case n => decide +kernel); (case h => first | rfl | assumption); (case a => rfl); (case b => rfl); (case c => rfl); (case d => rfl); (case e => decide); k_whole))))
local macro_rules | `(tactic| walk_at "mine backT") => `(tactic| ((case tF => assumption); (case tN => walk_at "mine news"); (case tT => assumption); (case tB => assumption); (case tX => assumption); (case tP => assumption); (case tD => assumption)))
local macro_rules | `(tactic| walk_at "mine enterT") => `(tactic| (refine wpAny_call ?_; k_dflt (refine' code_defT ?k1 ?k2 ?k3 ?k4 ?k5 ?XB ?TB ?D ?T0 ?kA ?kF ?kK ?k6 ?k7 ?k8 ?k9 ?kB ?_ ?c2 ?c3 ?c4 ?c5; (case kA => exact rfl); (case kF => exact rfl); (case kK => first | exact rfl | assumption); (case k2 => k_asm); (case k1 => k_asm); (case XB => assumption); (case TB => assumption); (case D => assumption); (case T0 => assumption); (case k3 => k_asm); (case k4 => k_asm); (case k5 => k_asm); (case k6 => k_is); (case k7 => k_is); (case k8 => ktr_room); (case k9 => first | exact BindsTo.of_eq rfl | exact binds_K (by k_in) rfl (by k_is) rfl rfl rfl); (case kB => exact locs rfl); (case c2 => exact rfl); (case c3 => exact rfl); (case c4 => exact rfl); (case c5 => decide); k_whole; intro g' L' h' FG' F' N' B' X' T' D'; (try dsimp only); (try k_lift B'); (try k_fold))))
local macro_rules | `(tactic| walk_at "mine enterCT") => `(tactic| (refine wpAny_call ?_; k_dflt (refine' code_defCT ?k1 ?k2 ?k3 ?k4 ?k5 ?XB ?TB ?D ?T0 ?kA ?kF ?kK ?k6 ?k7 ?k8 ?k9 ?kB ?kD ?_ ?c2 ?c3 ?c4; (case kA => exact rfl); (case kF => exact rfl); (case kK => first | exact rfl | assumption); (case k2 => k_asm); (case k1 => k_asm); (case XB => assumption); (case TB => assumption); (case D => assumption); (case T0 => assumption); (case k3 => k_asm); (case k4 => k_asm); (case k5 => k_asm); (case k6 => k_is); (case k7 => k_is); (case k8 => ktr_room); (case k9 => first | exact BindsTo.of_eq rfl | exact binds_K (by k_in) rfl (by k_is) rfl rfl rfl); (case kB => exact rfl); (case kD => decide +kernel); (case c2 => exact rfl); (case c3 => exact rfl); (case c4 => exact rfl); k_whole; intro g' L' h' tk' cells' FG' F' N' Y' B' X' T' D' l1; (try k_lt l1); k_cells Y'; (try simp only [List.cons_append, List.nil_append] at N'); (try dsimp only); (try k_lift B'); (try k_fold))))
local macro_rules | `(tactic| walk_at "mine usedT") => `(tactic| ((case tB => k_asm); (case tF => k_asm); (case tX => k_asm); (case tN => k_asm); (case tT => k_asm); (case tXB => assumption); (case tTB => assumption); (case tD => assumption); (case t0 => first | assumption | exact KtsTurn.refl); (case tk => first | exact rfl | assumption); (case td => (dsimp only [Around.deeper, ktrTop]; omega)); (case tu => (dsimp only [Around.deeper, ktrTop]; omega))))
local macro_rules | `(tactic| walk_at "mine with") => `(tactic| k_dflt (refine' S_with ?k1 ?k2 ?_; (case k1 => k_asm); (case k2 => k_is); k_whole))
local macro_rules | `(tactic| walk_at "mine enterCS") => `(tactic| (refine wpS_call ?_; k_dflt (refine' codeS_defCT ?k1 ?k2 ?k3 ?k4 ?k5 ?XB ?TB ?D ?T0 ?kA ?kF ?kK ?k6 ?k7 ?k8 ?k9 ?kB ?kD ?_ ?c2 ?c3 ?c4; (case kA => exact rfl); (case kF => exact rfl); (case kK => first | exact rfl | assumption); (case k2 => k_asm); (case k1 => k_asm); (case XB => assumption); (case TB => assumption); (case D => assumption); (case T0 => assumption); (case k3 => k_asm); (case k4 => k_asm); (case k5 => k_asm); (case k6 => k_is); (case k7 => k_is); (case k8 => ktr_room); (case k9 => first | exact BindsTo.of_eq rfl | exact binds_K (by k_in) rfl (by k_is) rfl rfl rfl); (case kB => exact rfl); (case kD => decide +kernel); (case c2 => exact rfl); (case c3 => exact rfl); (case c4 => exact rfl); k_whole; intro g' L' h' tk' cells' FG' F' N' Y' B' X' T' D' l1; (try k_lt l1); k_cells Y'; (try simp only [List.cons_append, List.nil_append] at N'); (try dsimp only); (try k_lift B'); (try k_fold))))
section
theorem fresh_F59 : True := by (w_top off; trivial)
theorem tells_bfo (b : Array UInt8) (hb : b.size ≤ 200) (t : Tok) : Tells 1 59 [.bytes b t] [] (fun v => ∃ t', v = .bytes b t') := by
  unfold Tells
  k_fill
  intro w mean mg mb dp un gd cn cs a ccd cl outer A₀ base h₀ L m news s Q E B F X N T hk hd hu hret
  k_with_none
  walk_at "mine enter"
  k_steps
  all_goals exact hret _ _ _ ⟨_, rfl⟩ (by k_asm) (by walk_at "mine news")
end
section
local macro_rules | `(tactic| walk_at "mine pad 0") => `(tactic| skip)
theorem fresh_F59b : True := by (w_top off; trivial)
theorem tells_bfo2 (b : Array UInt8) (hb : b.size ≤ 200) (t : Tok) : Tells 1 59 [.bytes b t, .none] [] (fun v => ∃ t', v = .bytes b t') := by
  unfold Tells
  k_fill
  intro w mean mg mb dp un gd cn cs a ccd cl outer A₀ base h₀ L m news s Q E B F X N T hk hd hu hret
  k_with_none
  walk_at "mine enter"
  k_steps
  all_goals exact hret _ _ _ ⟨_, rfl⟩ (by k_asm) (by walk_at "mine news")
end
section
theorem fresh_F80 : True := by (w_top off; trivial)
/-- the mixing of octets, as the program has it -/
def mixF (b : Array UInt8) : Array UInt8 := (beBytes 32 (Int.fmod (((fromBE (#[1] ++ b).toList : Nat) : Int) * ((fromBE (#[1] ++ b).toList : Nat) : Int) + 11400714819323198485 * ((fromBE (#[1] ++ b).toList : Nat) : Int) + 7640891576956012808) 115792089237316195423570985008687907853269984665640564039457584007913129639747).toNat).toArray
theorem mixF_size (b : Array UInt8) : (mixF b).size = 32 := by
  unfold mixF; rw [List.size_toArray, beBytes_length]
theorem tells_mixed (b : Array UInt8) (hb : b.size ≤ 200) (t : Tok) : Tells 1 80 [.bytes b t] [] (fun v => ∃ t', v = .bytes (mixF b) t') := by
  unfold Tells
  k_fill
  intro w mean mg mb dp un gd cn cs a ccd cl outer A₀ base h₀ L m news s Q E B F X N T hk hd hu hret
  have hfb : fromBE (#[1] ++ b).toList < 2 ^ 2000 := Nat.lt_of_lt_of_le (fromBE_lt _) (Nat.pow_le_pow_right (by decide) (by rw [Array.length_toList, Array.size_append]; simp; omega))
  k_with_none
  walk_at "mine enter"
  k_steps
  all_goals exact hret _ _ _ ⟨_, rfl⟩ (by k_asm) (by walk_at "mine news")
end
section
local macro_rules | `(tactic| walk_at "mine pad 0") => `(tactic| skip)
theorem fresh_F145 : True := by (w_top off; trivial)
theorem tells_ascii (x : Str) (hx : x.length ≤ 200) (hc : Clean x) (t : Tok) : Tells 1 145 [.str x t] [] (fun v => ∃ t', v = .bytes (x.cps.map (·.toUInt8)) t') := by
  unfold Tells
  k_fill
  intro w mean mg mb dp un gd cn cs a ccd cl outer A₀ base h₀ L m news s Q E B F X N T hk hd hu hret
  k_with_none
  walk_at "mine enter"
  k_steps
  all_goals exact hret _ _ _ ⟨_, rfl⟩ (by k_asm) (by walk_at "mine news")
end
section
theorem fresh_F166 : True := by (w_top off; trivial)
theorem tells_octets (n : Nat) (hn : n < 256 ^ 1000) (t : Tok) : Tells 1 166 [.int (n : Int) t] [] (fun v => ∃ t', v = .bytes (minBytes n).toArray t') := by
  unfold Tells
  k_fill
  intro w mean mg mb dp un gd cn cs a ccd cl outer A₀ base h₀ L m news s Q E B F X N T hk hd hu hret
  k_with_none
  walk_at "mine enter"
  k_steps
  all_goals exact hret _ _ _ ⟨_, rfl⟩ (by k_asm) (by walk_at "mine news")
end
section
theorem fresh_F123 : True := by (w_top off; trivial)
local macro_rules | `(tactic| walk_at "InvEnd") => `(tactic| k_extra "InvEnd")
theorem range_ten (n : Nat) : Builtin.Range.rangeSize 0 (n : Int) 10 = (((n + 9) / 10 : Nat) : Int) := by
  unfold Builtin.Range.rangeSize
  rw [if_pos (by decide)]
  split <;> omega
theorem range_ten_small (n : Nat) (h : n ≤ 1000000) : Builtin.Range.small 0 (n : Int) 10 = true := by
  unfold Builtin.Range.small
  rw [range_ten]
  unfold Builtin.Range.rangeFitsLong
  simp only [Bool.and_eq_true, Bool.or_eq_true, decide_eq_true_eq, beq_iff_eq, gt_iff_lt]
  refine ⟨⟨⟨⟨by omega, by omega⟩, by omega⟩, by omega⟩, .inr ?_⟩
  rw [if_pos (by decide)]
  simp only [Bool.and_eq_true, decide_eq_true_eq]
  omega
theorem tells_decode_to_int (b : Array UInt8) (hb : b.size ≤ 200) (t : Tok) : Tells 2 123 [.bytes b t] [] (fun v => ∃ t', v = .int ((valN (b.map digOf).toList : Nat) : Int) t') := by
  unfold Tells
  k_fill
  intro w mean mg mb dp un gd cn cs a ccd cl outer A₀ base h₀ L m news s Q E B F X N T hk hd hu hret
  k_with_none
  walk_at "mine enter"
  k_steps
  rename Fr _ _ _ _ => FF
  rename News _ _ _ _ => NN
  rename IsRange _ _ _ _ _ _ _ _ => RR
  refine' iter_stepAcc (y := Str.ofString "i") (n := ((b.map digOf).size + 9) / 10) (fun i => ((valN ((b.map digOf).toList.take (10 * i)) : Nat) : Int)) [Str.ofString "chunk", Str.ofString "value", Str.ofString "digit"] ?a1 RR ?a2 ?a3 FF NN ?a4 ?a5 ?a6 ?a7
  case a1 => rfl
  case a2 => exact range_ten_small _ (by omega)
  case a3 => exact range_ten _
  case a4 => exact rfl
  case a5 => decide
  case a6 =>
    intro i tt ta u h6 tk6 own hi F6 N6
    clear RR FF NN
    k_with "pyIter bytes" => k_state (fun pre value => value = valZ pre) "value"
    k_with "state" => first | exact rfl | exact (valZ_snoc _ _).symm | (rw [valZ_snoc]; simp_all)
    k_with "InvEnd" => (
      rename _ = valZ _ => hv
      refine InvEnd.intro (by assumption) (by assumption) (fun p hp => hp) ⟨⟨_, congrArg (fun z => some (Value.int z _)) ((congrArg (fun z => _ + z) hv).trans (valN_turn _ _))⟩, ?_⟩
      intro z h1 h2 h3
      have h3' := h3
      simp only [List.contains_cons, List.contains_nil, Bool.or_false, Bool.or_eq_false_iff, beq_eq_false_iff_ne, ne_eq] at h3'
      obtain ⟨h4, h5, h6⟩ := h3'
      simp only [h1, h2, h3, h4, h5, h6, if_false, Bool.false_eq_true, List.contains_nil])
    try k_fold
    k_steps
  intro u tt h6 tk6 F6 N6
  k_steps
  refine hret _ _ _ ⟨tt, ?_⟩ (by k_asm) (by k_asm)
  rw [List.take_of_length_le (by rw [Array.length_toList]; omega)]
end
section
theorem fresh_F87 : True := by (w_top off; trivial)
local macro_rules | `(tactic| walk_at "call ref") => `(tactic| ((with_reducible show wpAny _ _ (call (Value.ref 59) [Value.bytes _ _] _) _ _ _); k_dflt (refine' Tells.use (tells_bfo _ (by walk_at "mine size") _) ?tB ?tF ?tX ?tN ?tT ?tk ?td ?tu ?_); walk_at "mine used"; intro v9 h9 tk9 hv9 F9 N9; (try dsimp only at hv9); obtain ⟨t9, e9⟩ := hv9; subst e9; (try k_sweep)))
local macro_rules | `(tactic| walk_at "call ref") => `(tactic| ((with_reducible show wpAny _ _ (call (Value.ref 80) [Value.bytes _ _] _) _ _ _); k_dflt (refine' Tells.use (tells_mixed _ (by walk_at "mine size") _) ?tB ?tF ?tX ?tN ?tT ?tk ?td ?tu ?_); walk_at "mine used"; intro v9 h9 tk9 hv9 F9 N9; (try dsimp only at hv9); obtain ⟨t9, e9⟩ := hv9; subst e9; (try k_sweep)))
theorem tells_sha (b : Array UInt8) (hb : b.size ≤ 200) (t : Tok) : Tells 2 87 [.bytes b t] [] (fun v => ∃ t', v = .bytes (mixF b) t') := by
  unfold Tells
  k_fill
  intro w mean mg mb dp un gd cn cs a ccd cl outer A₀ base h₀ L m news s Q E B F X N T hk hd hu hret
  k_with_none
  walk_at "mine enter"
  k_steps
  all_goals exact hret _ _ _ ⟨_, rfl⟩ (by k_asm) (by walk_at "mine news")
end
section
local macro_rules | `(tactic| walk_at "mine pad 0") => `(tactic| skip)
local macro_rules | `(tactic| walk_at "mine pad 1") => `(tactic| skip)
theorem fresh_F94 : True := by (w_top off; trivial)
local macro_rules | `(tactic| walk_at "call ref") => `(tactic| ((with_reducible show wpAny _ _ (call (Value.ref 87) [Value.bytes _ _] _) _ _ _); k_dflt (refine' Tells.use (tells_sha _ (by walk_at "mine size") _) ?tB ?tF ?tX ?tN ?tT ?tk ?td ?tu ?_); walk_at "mine used"; intro v9 h9 tk9 hv9 F9 N9; (try dsimp only at hv9); obtain ⟨t9, e9⟩ := hv9; subst e9; (try k_sweep)))
theorem mixF_size' (b : Array UInt8) : (mixF b).size = 32 := mixF_size b
local macro_rules | `(tactic| walk_at "mine size") => `(tactic| (rw [mixF_size]; omega))
theorem tells_hash (b : Array UInt8) (hb : b.size ≤ 200) (t : Tok) : Tells 3 94 [.bytes b t] [] (fun v => ∃ t', v = .bytes (mixF (mixF b)) t') := by
  unfold Tells
  k_fill
  intro w mean mg mb dp un gd cn cs a ccd cl outer A₀ base h₀ L m news s Q E B F X N T hk hd hu hret
  k_with_none
  walk_at "mine enter"
  k_steps
  all_goals exact hret _ _ _ ⟨_, rfl⟩ (by k_asm) (by walk_at "mine news")
end
section
theorem fresh_F159 : True := by (w_top off; trivial)
local macro_rules | `(tactic| walk_at "exec While BoolOp cons nil") => `(tactic| k_extra "exec While BoolOp cons nil")
theorem tells_text_of (n : Nat) (hn : n < 2 ^ 300) (t : Tok) : Tells 2 159 [.int (n : Int) t] [] (fun v => ∃ t', v = .str (textOf n) t') := by
  unfold Tells
  k_fill
  intro w mean mg mb dp un gd cn cs a ccd cl outer A₀ base h₀ L m news s Q E B F X N T hk hd hu hret
  k_with_none
  walk_at "mine enter"
  k_with "exec While BoolOp cons nil" => k_while (fun _ number found => 0 ≤ number ∧ number ≤ n ∧ found.length ≤ 52 ∧ TX n number found) (fun _ number found => TM number found) "number" "found"
  k_with "state" => first | exact text_start n | exact text_turn hn (by assumption) (by assumption) (by assumption) (.inl (by assumption)) | exact text_turn hn (by assumption) (by assumption) (by assumption) (.inr (by assumption))
  k_with "measure" => first | exact text_meas (by assumption) (.inl (by assumption)) | exact text_meas (by assumption) (.inr (by assumption))
  k_steps
  all_goals (refine hret _ _ _ ⟨_, congrArg (fun f => Value.str f _) (text_end (by assumption) (by assumption) (by assumption) (by assumption))⟩ (by k_asm) (by k_asm))
end
section
local macro_rules | `(tactic| walk_at "mine pad 0") => `(tactic| skip)
local macro_rules | `(tactic| walk_at "mine pad 1") => `(tactic| skip)
theorem fresh_F173 : True := by (w_top off; trivial)
theorem gentoks {prog : Program} {w : World} {A : Around} {α : Type} {t : Sem α} {Q : α → Shared → Prop} {E : Value → Shared → Prop} {hp : Heap} {x y : Nat} {gs} {dr} {os} (h : ∀ k, wpAny (model prog w) A t Q E ⟨hp, gs, dr, k, os⟩) : wpAny (model prog w) A t Q E ⟨hp, gs, dr, x + y, os⟩ := h _
local macro_rules | `(tactic| walk_at "execs cons") => `(tactic| (k_here; (with_reducible refine gentoks ?_); intro tk8))
theorem do_powW {prog : Program} {w : World} {A : Around} {x : Int} {t u : Tok} {s : Shared} {Q E : Value → Shared → Prop} (h0 : 9 ≤ x) (h1 : x ≤ 31) (h : ∀ (p : Nat) t' k, 7427658739644928 ≤ p → p ≤ 58 ^ 31 → Q (.int (p : Int) t') { s with toks := k }) :
    wpAny (model prog w) A (binaryOp .Pow (.int 58 t) (.int x u)) Q E s := by
  refine pow_int_small (by omega) (by omega) (by decide) ?_
  have e : (58 : Int) ^ x.toNat = ((58 ^ x.toNat : Nat) : Int) := by rw [Int.natCast_pow]; rfl
  rw [e]
  refine h _ _ _ ?_ ?_
  · have : (58 : Nat) ^ 9 ≤ 58 ^ x.toNat := Nat.pow_le_pow_right (by decide) (by omega)
    exact Nat.le_trans (by decide) this
  · exact Nat.pow_le_pow_right (by decide) (by omega)
theorem do_pow3 {prog : Program} {w : World} {A : Around} {t u : Tok} {s : Shared} {Q E : Value → Shared → Prop} (h : ∀ t' k, Q (.int 195112 t') { s with toks := k }) :
    wpAny (model prog w) A (binaryOp .Pow (.int 58 t) (.int 3 u)) Q E s := by
  refine pow_int_small (by omega) (by omega) (by decide) ?_
  exact h _ _
theorem do_pow256 {prog : Program} {w : World} {A : Around} {t u : Tok} {s : Shared} {Q E : Value → Shared → Prop} (h : ∀ t' k, Q (.int 115792089237316195423570985008687907853269984665640564039457584007913129639936 t') { s with toks := k }) :
    wpAny (model prog w) A (binaryOp .Pow (.int 2 t) (.int 256 u)) Q E s := by
  refine pow_int_small (by omega) (by omega) (by decide) ?_
  exact h _ _
theorem do_mulB {prog : Program} {w : World} {A : Around} {x y : Int} {t u : Tok} {s : Shared} {Q E : Value → Shared → Prop} (h0 : 0 ≤ x) (h1 : x < 2 ^ 2000) (h2 : 0 ≤ y) (h3 : y < 2 ^ 2000) (h : ∀ t' k, Q (.int (x * y) t') { s with toks := k }) :
    wpAny (model prog w) A (binaryOp .Mult (.int x t) (.int y u)) Q E s := by
  obtain ⟨a, rfl⟩ := Int.eq_ofNat_of_zero_le h0
  obtain ⟨b, rfl⟩ := Int.eq_ofNat_of_zero_le h2
  refine mul_int (hm := mul_ok (by omega) (by omega)) ?_
  exact h _ _
theorem width_in (i : Nat) : 9 ≤ ([9, 10, 11, 19, 20, 21, 30, 31] : List Int).getD (i % 8) 0 ∧ ([9, 10, 11, 19, 20, 21, 30, 31] : List Int).getD (i % 8) 0 ≤ 31 := by
  have h : ∀ j : Fin 8, 9 ≤ ([9, 10, 11, 19, 20, 21, 30, 31] : List Int).getD j.val 0 ∧ ([9, 10, 11, 19, 20, 21, 30, 31] : List Int).getD j.val 0 ≤ 31 := by decide +kernel
  exact h ⟨i % 8, Nat.mod_lt _ (by decide)⟩
theorem width_at {n : Int} (h : 0 ≤ n) : 9 ≤ ([9, 10, 11, 19, 20, 21, 30, 31] : List Int).getD ((n.fdiv 8).fmod 8).toNat 0 ∧ ([9, 10, 11, 19, 20, 21, 30, 31] : List Int).getD ((n.fdiv 8).fmod 8).toNat 0 ≤ 31 := by
  have e : ((n.fdiv 8).fmod 8).toNat = ((n.fdiv 8).fmod 8).toNat % 8 := by
    have := fmod_hi (n.fdiv 8) (show (0 : Int) < 8 by decide)
    have := fmod_lo (n.fdiv 8) (show (0 : Int) < 8 by decide)
    omega
  rw [e]
  exact width_in _
theorem sq_bound {n : Int} (h0 : 0 ≤ n) (h1 : n < 1152921504606846976) : 0 ≤ n * n ∧ n * n < 2 ^ 120 := by
  refine ⟨Int.mul_nonneg h0 h0, ?_⟩
  have : n * n ≤ 1152921504606846976 * n := Int.mul_le_mul_of_nonneg_right (by omega) h0
  omega
theorem more_bound {x : Int} {p : Nat} (h0 : 0 ≤ x) (h1 : x < 195112) (h2 : p ≤ 58 ^ 31) : 0 ≤ x * p ∧ x * p ≤ 195112 * 58 ^ 31 := by
  refine ⟨Int.mul_nonneg h0 (by omega), ?_⟩
  have : x * p ≤ 195112 * p := Int.mul_le_mul_of_nonneg_right (by omega) (by omega)
  omega
local macro_rules | `(tactic| walk_at "binaryOp Pow int int") => `(tactic| (k_here; first | ((with_reducible show wpAny _ _ (binaryOp _ (Value.int 58 _) (Value.int 3 _)) _ _ _); (with_reducible refine do_pow3 ?_)) | ((with_reducible show wpAny _ _ (binaryOp _ (Value.int 2 _) (Value.int 256 _)) _ _ _); (with_reducible refine do_pow256 ?_)); intro _ _))
local macro_rules | `(tactic| walk_at "binaryOp Pow int int") => `(tactic| (k_here; (with_reducible show wpAny _ _ (binaryOp _ (Value.int 58 _) (Value.int (List.getD _ _ _) _)) _ _ _); (with_reducible refine do_powW (width_at (by assumption)).1 (width_at (by assumption)).2 ?_); intro _ _ _ _ _))
local macro_rules | `(tactic| walk_at "mine num") => `(tactic| first | assumption | (have hq := fmod_lo; exact fmod_lo _ (by decide)) | omega | exact Int.lt_trans (fmod_hi _ (by decide)) (by decide))
local macro_rules | `(tactic| walk_at "binaryOp Mult int int") => `(tactic| (k_here; k_dflt (refine do_mulB ?mb1 ?mb2 ?mb3 ?mb4 ?_); (case mb1 => walk_at "mine num"); (case mb2 => walk_at "mine num"); (case mb3 => walk_at "mine num"); (case mb4 => walk_at "mine num"); intro _ _))
theorem tells_number (n : Int) (h0 : 0 ≤ n) (h1 : n < 1152921504606846976) (t : Tok) : Tells 1 173 [.int n t] [] (fun v => ∃ (k : Nat) (t' : Tok), k < 2 ^ 256 ∧ v = .int (k : Int) t') := by
  unfold Tells
  k_fill
  intro w mean mg mb dp un gd cn cs a ccd cl outer A₀ base h₀ L m news s Q E B F X N T hk hd hu hret
  k_with_none
  walk_at "mine enter"
  have hend : ∀ (x : Int) (t' : Tok) (h' : Heap) (tk' : Nat), 0 ≤ x → x < 2 ^ 256 → Fr h₀ L h' m → News h₀ L h' news → Q (.int x t') { s with heap := h', toks := tk' } := fun x t' h' tk' e0 e1 F N => hret _ _ _ ⟨x.toNat, t', by omega, by rw [Int.toNat_of_nonneg e0]⟩ F N
  have f3 := fun x : Int => fmod_lo x (show (0 : Int) < 3 by decide)
  have g3 := fun x : Int => fmod_hi x (show (0 : Int) < 3 by decide)
  have f5 := fmod_lo (n.fdiv 64) (show (0 : Int) < 195112 by decide)
  have g5 := fmod_hi (n.fdiv 64) (show (0 : Int) < 195112 by decide)
  k_steps
  · exact hend _ _ _ _ (more_bound f5 g5 (by assumption)).1 (Int.lt_of_le_of_lt (more_bound f5 g5 (by assumption)).2 (by decide)) (by k_asm) (by walk_at "mine news")
  · have e0 := f3 ((n.fdiv 64).fmod 195112)
    have e1 := g3 ((n.fdiv 64).fmod 195112)
    exact hend _ _ _ _ (by omega) (by omega) (by k_asm) (by walk_at "mine news")
  · have e0 := f3 ((n.fdiv 64).fmod 195112)
    have e1 := g3 ((n.fdiv 64).fmod 195112)
    exact hend _ _ _ _ (by omega) (by omega) (by k_asm) (by walk_at "mine news")
  · exact hend _ _ _ _ (Int.add_nonneg (more_bound f5 g5 (by assumption)).1 f5) (Int.lt_of_le_of_lt (Int.add_le_add (more_bound f5 g5 (by assumption)).2 (Int.le_of_lt g5)) (by decide)) (by k_asm) (by walk_at "mine news")
  · exact hend _ _ _ _ f5 (Int.lt_trans g5 (by decide)) (by k_asm) (by walk_at "mine news")
  · exact hend _ _ _ _ (fmod_lo _ (by decide)) (fmod_hi _ (by decide)) (by k_asm) (by walk_at "mine news")
end
section
local macro_rules | `(tactic| walk_at "mine pad 0") => `(tactic| skip)
local macro_rules | `(tactic| walk_at "mine pad 1") => `(tactic| skip)
local macro_rules | `(tactic| walk_at "mine pad 2") => `(tactic| skip)
local macro_rules | `(tactic| walk_at "mine pad 3") => `(tactic| skip)
local macro_rules | `(tactic| walk_at "mine pad 4") => `(tactic| skip)
theorem fresh_F130 : True := by (w_top off; trivial)
theorem valN_low : ∀ (l : List UInt8), valN l < 256 ^ l.length := by
  intro l
  have key : ∀ (l : List UInt8) (a : Nat) (k : Nat), a < 256 ^ k → l.foldl (fun a d => a * 58 + d.toNat) a < 256 ^ (k + l.length) := by
    intro l
    induction l with
    | nil => intro a k h; exact h
    | cons d l ih =>
      intro a k h
      have hd : d.toNat < 256 := d.toNat_lt
      have h2 := ih (a * 58 + d.toNat) (k + 1) (by rw [Nat.pow_succ]; omega)
      simp only [List.foldl_cons, List.length_cons]
      rw [show k + (l.length + 1) = k + 1 + l.length by omega]
      exact h2
  have h := key l 0 0 (by decide)
  rw [Nat.zero_add] at h
  exact h
theorem valN_cut {b : Array UInt8} (hb : b.size ≤ 200) : valN ((cutZ 49 b).map digOf).toList < 256 ^ 1000 := by
  have h := valN_low ((cutZ 49 b).map digOf).toList
  have h2 := cutZ_le 49 b
  refine Nat.lt_of_lt_of_le h (Nat.pow_le_pow_right (by decide) ?_)
  rw [Array.length_toList, Array.size_map]
  omega
local macro_rules | `(tactic| walk_at "call ref") => `(tactic| ((with_reducible show wpAny _ _ (call (Value.ref 123) [Value.bytes _ _] _) _ _ _); k_dflt (refine' Tells.use (tells_decode_to_int _ (by walk_at "mine size") _) ?tB ?tF ?tX ?tN ?tT ?tk ?td ?tu ?_); walk_at "mine used"; intro v9 h9 tk9 hv9 F9 N9; (try dsimp only at hv9); obtain ⟨t9, e9⟩ := hv9; subst e9; (try k_sweep)))
theorem do_iadd {prog : Program} {w : World} {A : Around} {b c : Array UInt8} {t u : Tok} {s : Shared} {Q E : Value → Shared → Prop} (hsz : b.size + c.size ≤ 1000000) (h : ∀ t' k, (b ++ c).size = b.size + c.size → Q (.bytes (b ++ c) t') { s with toks := k }) : wpAny (model prog w) A (inplaceOp .Add (.bytes b t) (.bytes c u)) Q E s := by
  refine iconcat_gives (typeIs_bytes s b t) (typeIs_bytes s c u) (by rw [typeLookup_type, builtinLookup_eq_fast]; kernel_rfl) KBy.noFill_bytes_add KBy.seq_bytes_add FB.slot_bytes_add FB.entry_bytes_add (FB.args_bytes_add_2 _ _) (KBy.gives_bytes_add (KBy.tooLong_not (by omega))) ?_
  by_cases hb : b.isEmpty = true
  · rw [if_pos hb]
    have e : b = #[] := Array.isEmpty_iff.1 hb
    have h' := h u s.toks (Array.size_append ..)
    rw [e, Array.empty_append] at h'
    exact h'
  · rw [if_neg hb]
    by_cases hc : c.isEmpty = true
    · rw [if_pos hc]
      have e : c = #[] := Array.isEmpty_iff.1 hc
      have h' := h t s.toks (Array.size_append ..)
      rw [e, Array.append_empty] at h'
      exact h'
    · rw [if_neg hc]
      exact ⟨by rw [Array.size_append, sizeLine_eq]; omega, h s.toks (s.toks + 1) (Array.size_append ..)⟩
theorem do_bmul {prog : Program} {w : World} {A : Around} {z : UInt8} {n : Int} {t u : Tok} {s : Shared} {Q E : Value → Shared → Prop} (hlo : 0 ≤ n) (hn : n ≤ 1000000) (h : ∀ t' k, (Array.replicate n.toNat z).size = n.toNat → Q (.bytes (Array.replicate n.toNat z) t') { s with toks := k }) :
    wpAny (model prog w) A (binaryOp .Mult (.bytes #[z] t) (.int n u)) Q E s := by
  refine bytes_mul_any (b := [z]) (List.cons_ne_nil _ _) (by omega) (by omega) (by show 1 ≤ 16; decide) ?_
  intro t' k
  have e : ((List.replicate n.toNat [z]).flatten).toArray = Array.replicate n.toNat z := by rw [rep_flat]; rfl
  rw [e]
  exact h t' k (Array.size_replicate ..)
local macro_rules | `(tactic| walk_at "binaryOp Mult bytes int") => `(tactic| (k_here; (refine do_bmul ?bh1 ?bh2 ?_); (case bh1 => omega); (case bh2 => omega); intro _ _ _))
local macro_rules | `(tactic| walk_at "inplaceOp Add bytes bytes") => `(tactic| (k_here; (refine do_iadd (by walk_at "mine sizes") ?_); intro _ _ _))
theorem minBytes_small {X : Nat} {k : Nat} (h : X < 256 ^ k) : (minBytes X).length ≤ k := by
  rw [minBytes_length]; exact minLen_le h
local macro_rules | `(tactic| walk_at "mine sizes") => `(tactic| ((try simp only [List.size_toArray, Array.size_replicate]); (have hq9 := minBytes_small (by assumption)); omega))
theorem tells_b58d (b : Array UInt8) (hb : b.size ≤ 200) (hbad : (badOf b).size = 0) (t : Tok) : Tells 3 130 [.bytes b t] [] (fun v => ∃ t', v = .bytes (Array.replicate (b.size - (cutZ 49 b).size) 0 ++ (if (cutZ 49 b).size = 0 then #[] else (minBytes (valN ((cutZ 49 b).map digOf).toList)).toArray)) t') := by
  have hbig := valN_cut hb
  unfold Tells
  k_fill
  intro w mean mg mb dp un gd cn cs a ccd cl outer A₀ base h₀ L m news s Q E B F X N T hk hd hu hret
  k_with_none
  walk_at "mine enter"
  have hend : ∀ (x : Array UInt8) (t' : Tok) (h' : Heap) (tk' : Nat), x = Array.replicate (b.size - (cutZ 49 b).size) 0 ++ (if (cutZ 49 b).size = 0 then #[] else (minBytes (valN ((cutZ 49 b).map digOf).toList)).toArray) → Fr h₀ L h' m → News h₀ L h' news → Q (.bytes x t') { s with heap := h', toks := tk' } := fun x t' h' tk' e F N => hret _ _ _ ⟨t', by rw [e]⟩ F N
  k_steps
  · refine hend _ _ _ _ ?_ (by k_asm) (by walk_at "mine news")
    have hz : ¬ (cutZ 49 b).size = 0 := by omega
    rw [if_neg hz]
    congr 2
    omega
  · refine hend _ _ _ _ ?_ (by k_asm) (by walk_at "mine news")
    have hz : (cutZ 49 b).size = 0 := by omega
    rw [if_pos hz, Array.append_empty]
    congr 1
    omega
end
section
theorem fresh_F187 : True := by (w_top off; trivial)
local macro_rules | `(tactic| walk_at "call ref") => `(tactic| ((with_reducible show wpAny _ _ (call (Value.ref 130) _ _) _ _ _); walk_at "mine enter"; (try k_sweep)))
theorem tells_refused (b : Array UInt8) (hb : b.size ≤ 200) (hbad : (badOf b).size ≠ 0) (t : Tok) : TellsT 3 187 [.bytes b t] [] (fun v => v = .bool true) := by
  unfold TellsT
  k_fill
  intro w mean mg mb dp un gd cn cs a ccd cl outer A₀ base g₀ h₀ L m news s Q E B F X N T XB TB D T0 hk hd hu hret
  k_with_none
  walk_at "mine enterT"
  k_steps
  refine' hret _ ?h1 _ _ rfl ?tT ?tF ?tN ?tB ?tX ?tP ?tD
  walk_at "mine backT"
end
section
theorem fresh_F201 : True := by (w_top off; trivial)
local macro_rules | `(tactic| walk_at "call ref") => `(tactic| ((with_reducible show wpAny _ _ (call (Value.ref 138) _ _) _ _ _); walk_at "mine enter"; (try k_sweep)))
local macro_rules | `(tactic| walk_at "call ref") => `(tactic| ((with_reducible show wpAny _ _ (call (Value.ref 152) _ _) _ _ _); walk_at "mine enter"; (try k_sweep)))
theorem tells_kind_int (n : Int) (t : Tok) : TellsT 4 201 [.int n t] [] (fun v => v = .bool true) := by
  unfold TellsT
  k_fill
  intro w mean mg mb dp un gd cn cs a ccd cl outer A₀ base g₀ h₀ L m news s Q E B F X N T XB TB D T0 hk hd hu hret
  k_with_none
  walk_at "mine enterT"
  k_steps
  refine' hret _ ?h1 _ _ rfl ?tT ?tF ?tN ?tB ?tX ?tP ?tD
  walk_at "mine backT"
theorem tells_kind_none : TellsT 4 201 [.none] [] (fun v => v = .bool true) := by
  unfold TellsT
  k_fill
  intro w mean mg mb dp un gd cn cs a ccd cl outer A₀ base g₀ h₀ L m news s Q E B F X N T XB TB D T0 hk hd hu hret
  k_with_none
  walk_at "mine enterT"
  k_steps
  refine' hret _ ?h1 _ _ rfl ?tT ?tF ?tN ?tB ?tX ?tP ?tD
  walk_at "mine backT"
end
section
local macro_rules | `(tactic| walk_at "mine pad 0") => `(tactic| skip)
theorem fresh_F152 : True := by (w_top off; trivial)
theorem ne_same {prog : Program} {w : World} {A : Around} {b c : Array UInt8} {t u : Tok} {s : Shared} {Q E : Value → Shared → Prop} (e : b = c) (h : Q (.bool false) s) : wpAny (model prog w) A (compareOp .NotEq (.bytes b t) (.bytes c u)) Q E s := by
  subst e
  refine ne_bytes ?_
  simpa using h
theorem eq_same {prog : Program} {w : World} {A : Around} {b c : Array UInt8} {t u : Tok} {s : Shared} {Q E : Value → Shared → Prop} (e : b = c) (h : Q (.bool true) s) : wpAny (model prog w) A (compareOp .Eq (.bytes b t) (.bytes c u)) Q E s := by
  subst e
  refine eq_bytes ?_
  simpa using h
local macro_rules | `(tactic| walk_at "compareOp NotEq bytes bytes") => `(tactic| (k_here; (with_reducible refine ne_same (by with_reducible rfl) ?_)))
local macro_rules | `(tactic| walk_at "compareOp Eq bytes bytes") => `(tactic| (k_here; (with_reducible refine eq_same (by with_reducible rfl) ?_)))
def sumF (p : Array UInt8) : Array UInt8 := KBy.picked (mixF (mixF p)) none (some 4)
theorem tells_b58dx (b p c : Array UInt8) (hb : b.size ≤ 200) (hbad : (badOf b).size = 0) (h : decF b = p ++ c) (t : Tok) : Tells 3 130 [.bytes b t] [] (fun v => ∃ t', v = .bytes (p ++ c) t') := by
  have h2 := tells_b58d b hb hbad t
  rw [← h]
  exact h2
local macro_rules | `(tactic| walk_at "call ref") => `(tactic| ((with_reducible show wpAny _ _ (call (Value.ref 130) [Value.bytes _ _] _) _ _ _); k_dflt (refine' Tells.use (tells_b58dx _ _ _ (by walk_at "mine size") (by with_reducible assumption) (by with_reducible assumption) _) ?tB ?tF ?tX ?tN ?tT ?tk ?td ?tu ?_); walk_at "mine used"; intro v9 h9 tk9 hv9 F9 N9; (try dsimp only at hv9); obtain ⟨t9, e9⟩ := hv9; subst e9; (try k_sweep)))
local macro_rules | `(tactic| walk_at "subscriptTail") => `(tactic| (k_here; (first | (with_reducible show wpAny _ _ (subscriptTail _ (Expr.Slice _ _ none _) (Value.bytes (_ ++ _) _) (Value.ref _)) _ _ _) | (with_reducible show wpAny _ _ (subscriptTail _ (Expr.Slice _ _ none _) (Value.bytes (mixF _) _) (Value.ref _)) _ _ _)); (with_reducible rename Fr _ _ _ _ => F'); (with_reducible rename News _ _ _ _ => N'); k_dflt (refine do_slice (s := ⟨_, _, _, _, _⟩) F' N' (by constructor) (by constructor) (by walk_at "mine size") ?_); intro _ _ _ _ _ _; walk_at "mine sliced"))
local macro_rules | `(tactic| walk_at "mine sliced") => `(tactic| first | (rw [pick_front _ _ (by with_reducible assumption)]) | (rw [pick_back _ _ (by with_reducible assumption)]) | (rename sumF _ = _ => hs'; unfold sumF at hs'; rw [hs']))
local macro_rules | `(tactic| walk_at "call ref") => `(tactic| ((with_reducible show wpAny _ _ (call (Value.ref 94) [Value.bytes _ _] _) _ _ _); k_dflt (refine' Tells.use (tells_hash _ (by walk_at "mine size") _) ?tB ?tF ?tX ?tN ?tT ?tk ?td ?tu ?_); walk_at "mine used"; intro v9 h9 tk9 hv9 F9 N9; (try dsimp only at hv9); obtain ⟨t9, e9⟩ := hv9; subst e9; (try k_sweep)))
theorem tells_dec (b p c : Array UInt8) (hb : b.size ≤ 112) (hbad : (badOf b).size = 0) (h : decF b = p ++ c) (hp : p.size ≤ 100) (hc : c.size = 4) (hs : sumF p = c) (t : Tok) (q : Bool) : Tells 4 152 [.bytes b t, .none] [(Str.ofString "quote_checksum", .bool q)] (fun v => ∃ t', v = .bytes p t') := by
  have hpc : (p ++ c).size ≤ 1000000 := by rw [Array.size_append]; omega
  have hmx : (mixF (mixF p)).size ≤ 1000000 := by rw [mixF_size]; decide
  unfold Tells
  k_fill
  intro w mean mg mb dp un gd cn cs a ccd cl outer A₀ base h₀ L m news s Q E B F X N T hk hd hu hret
  k_with_none
  walk_at "mine enter"
  k_steps
  · exfalso
    have hq := Array.size_append (xs := p) (ys := c)
    omega
  exact hret _ _ _ ⟨_, rfl⟩ (by k_asm) (by walk_at "mine news")
end
section
local macro_rules | `(tactic| walk_at "mine pad 0") => `(tactic| skip)
local macro_rules | `(tactic| walk_at "mine pad 1") => `(tactic| skip)
theorem fresh_F152b : True := by (w_top off; trivial)
local macro_rules | `(tactic| walk_at "compareOp NotEq bytes bytes") => `(tactic| (k_here; (with_reducible refine ne_same (by with_reducible rfl) ?_)))
local macro_rules | `(tactic| walk_at "compareOp Eq bytes bytes") => `(tactic| (k_here; (with_reducible refine eq_same (by with_reducible rfl) ?_)))
local macro_rules | `(tactic| walk_at "call ref") => `(tactic| ((with_reducible show wpAny _ _ (call (Value.ref 130) [Value.bytes _ _] _) _ _ _); k_dflt (refine' Tells.use (tells_b58dx _ _ _ (by walk_at "mine size") (by with_reducible assumption) (by with_reducible assumption) _) ?tB ?tF ?tX ?tN ?tT ?tk ?td ?tu ?_); walk_at "mine used"; intro v9 h9 tk9 hv9 F9 N9; (try dsimp only at hv9); obtain ⟨t9, e9⟩ := hv9; subst e9; (try k_sweep)))
local macro_rules | `(tactic| walk_at "subscriptTail") => `(tactic| (k_here; (first | (with_reducible show wpAny _ _ (subscriptTail _ (Expr.Slice _ _ none _) (Value.bytes (_ ++ _) _) (Value.ref _)) _ _ _) | (with_reducible show wpAny _ _ (subscriptTail _ (Expr.Slice _ _ none _) (Value.bytes (mixF _) _) (Value.ref _)) _ _ _)); (with_reducible rename Fr _ _ _ _ => F'); (with_reducible rename News _ _ _ _ => N'); k_dflt (refine do_slice (s := ⟨_, _, _, _, _⟩) F' N' (by constructor) (by constructor) (by walk_at "mine size") ?_); intro _ _ _ _ _ _; walk_at "mine sliced"))
local macro_rules | `(tactic| walk_at "mine sliced") => `(tactic| first | (rw [pick_front _ _ (by with_reducible assumption)]) | (rw [pick_back _ _ (by with_reducible assumption)]) | (rename sumF _ = _ => hs'; unfold sumF at hs'; rw [hs']))
local macro_rules | `(tactic| walk_at "call ref") => `(tactic| ((with_reducible show wpAny _ _ (call (Value.ref 94) [Value.bytes _ _] _) _ _ _); k_dflt (refine' Tells.use (tells_hash _ (by walk_at "mine size") _) ?tB ?tF ?tX ?tN ?tT ?tk ?td ?tu ?_); walk_at "mine used"; intro v9 h9 tk9 hv9 F9 N9; (try dsimp only at hv9); obtain ⟨t9, e9⟩ := hv9; subst e9; (try k_sweep)))
theorem tells_isint (n : Int) (t : Tok) : Tells 1 73 [.int n t] [] (fun v => v = .bool true) := by
  unfold Tells
  k_fill
  intro w mean mg mb dp un gd cn cs a ccd cl outer A₀ base h₀ L m news s Q E B F X N T hk hd hu hret
  k_with_none
  walk_at "mine enter"
  k_steps
  all_goals exact hret _ _ _ rfl (by k_asm) (by walk_at "mine news")
local macro_rules | `(tactic| walk_at "call ref") => `(tactic| ((with_reducible show wpAny _ _ (call (Value.ref 73) [Value.int _ _] _) _ _ _); k_dflt (refine' Tells.use (tells_isint _ _) ?tB ?tF ?tX ?tN ?tT ?tk ?td ?tu ?_); walk_at "mine used"; intro v9 h9 tk9 hv9 F9 N9; (try dsimp only at hv9); subst hv9; (try k_sweep)))
theorem eq_int_same {prog : Program} {w : World} {A : Around} {a : Int} {t u : Tok} {s : Shared} {Q E : Value → Shared → Prop} (h : Q (.bool true) s) : wpAny (model prog w) A (compareOp .Eq (.int a t) (.int a u)) Q E s := by
  refine eq_int ?_
  simpa using h
local macro_rules | `(tactic| walk_at "compareOp Eq int int") => `(tactic| (k_here; (with_reducible refine eq_int_same ?_)))
theorem tells_dec_sized (b p c : Array UInt8) (hb : b.size ≤ 112) (hbad : (badOf b).size = 0) (h : decF b = p ++ c) (hp : p.size ≤ 100) (hc : c.size = 4) (hs : sumF p = c) (t u : Tok) (q : Bool) : Tells 4 152 [.bytes b t, .int (p.size : Nat) u] [(Str.ofString "quote_checksum", .bool q)] (fun v => ∃ t', v = .bytes p t') := by
  have hpc : (p ++ c).size ≤ 1000000 := by rw [Array.size_append]; omega
  have hmx : (mixF (mixF p)).size ≤ 1000000 := by rw [mixF_size]; decide
  unfold Tells
  k_fill
  intro w mean mg mb dp un gd cn cs a ccd cl outer A₀ base h₀ L m news s Q E B F X N T hk hd hu hret
  k_with_none
  walk_at "mine enter"
  k_steps
  · exfalso
    have hq := Array.size_append (xs := p) (ys := c)
    omega
  exact hret _ _ _ ⟨_, rfl⟩ (by k_asm) (by walk_at "mine news")
end
section
theorem fresh_F138 : True := by (w_top off; trivial)
local macro_rules | `(tactic| walk_at "call ref") => `(tactic| ((with_reducible show wpAny _ _ (call (Value.ref 152) [Value.bytes _ _, Value.none] _) _ _ _); k_dflt (refine' Tells.use (tells_dec _ _ _ (by with_reducible assumption) (by with_reducible assumption) (by with_reducible assumption) (by with_reducible assumption) (by with_reducible assumption) (by with_reducible assumption) _ _) ?tB ?tF ?tX ?tN ?tT ?tk ?td ?tu ?_); walk_at "mine used"; intro v9 h9 tk9 hv9 F9 N9; (try dsimp only at hv9); obtain ⟨t9, e9⟩ := hv9; subst e9; (try k_sweep)))
theorem tells_decode (b p c : Array UInt8) (hb : b.size ≤ 112) (hbad : (badOf b).size = 0) (h : decF b = p ++ c) (hp : p.size ≤ 100) (hc : c.size = 4) (hs : sumF p = c) (t : Tok) : Tells 5 138 [.bytes b t] [] (fun v => ∃ t', v = .bytes p t') := by
  unfold Tells
  k_fill
  intro w mean mg mb dp un gd cn cs a ccd cl outer A₀ base h₀ L m news s Q E B F X N T hk hd hu hret
  k_with_none
  walk_at "mine enter"
  k_steps
  all_goals exact hret _ _ _ ⟨_, rfl⟩ (by k_asm) (by walk_at "mine news")
end
section
theorem fresh_F194 : True := by (w_top off; trivial)
local macro_rules | `(tactic| walk_at "compareOp Eq bytes bytes") => `(tactic| (k_here; (with_reducible refine eq_same (by with_reducible rfl) ?_)))
local macro_rules | `(tactic| walk_at "call ref") => `(tactic| ((with_reducible show wpAny _ _ (call (Value.ref 130) [Value.bytes _ _] _) _ _ _); k_dflt (refine' Tells.use (tells_b58dx _ _ _ (by walk_at "mine size") (by with_reducible assumption) (by with_reducible assumption) _) ?tB ?tF ?tX ?tN ?tT ?tk ?td ?tu ?_); walk_at "mine used"; intro v9 h9 tk9 hv9 F9 N9; (try dsimp only at hv9); obtain ⟨t9, e9⟩ := hv9; subst e9; (try k_sweep)))
local macro_rules | `(tactic| walk_at "subscriptTail") => `(tactic| (k_here; (first | (with_reducible show wpAny _ _ (subscriptTail _ (Expr.Slice _ _ none _) (Value.bytes (_ ++ _) _) (Value.ref _)) _ _ _) | (with_reducible show wpAny _ _ (subscriptTail _ (Expr.Slice _ _ none _) (Value.bytes (mixF _) _) (Value.ref _)) _ _ _)); (with_reducible rename Fr _ _ _ _ => F'); (with_reducible rename News _ _ _ _ => N'); k_dflt (refine do_slice (s := ⟨_, _, _, _, _⟩) F' N' (by constructor) (by constructor) (by walk_at "mine size") ?_); intro _ _ _ _ _ _; walk_at "mine sliced"))
local macro_rules | `(tactic| walk_at "mine sliced") => `(tactic| first | (rw [pick_front _ _ (by with_reducible assumption)]) | (rw [pick_back _ _ (by with_reducible assumption)]) | (rename sumF _ = _ => hs'; unfold sumF at hs'; rw [hs']))
local macro_rules | `(tactic| walk_at "call ref") => `(tactic| ((with_reducible show wpAny _ _ (call (Value.ref 94) [Value.bytes _ _] _) _ _ _); k_dflt (refine' Tells.use (tells_hash _ (by walk_at "mine size") _) ?tB ?tF ?tX ?tN ?tT ?tk ?td ?tu ?_); walk_at "mine used"; intro v9 h9 tk9 hv9 F9 N9; (try dsimp only at hv9); obtain ⟨t9, e9⟩ := hv9; subst e9; (try k_sweep)))
theorem ne_diff {prog : Program} {w : World} {A : Around} {b c : Array UInt8} {t u : Tok} {s : Shared} {Q E : Value → Shared → Prop} (e : b ≠ c) (h : Q (.bool true) s) : wpAny (model prog w) A (compareOp .NotEq (.bytes b t) (.bytes c u)) Q E s := by
  refine ne_bytes ?_
  have e2 : (b.toList != c.toList) = true := by
    rw [bne_iff_ne]
    exact fun q => e (Array.toList_inj.mp q)
  rw [e2]
  exact h
theorem strIn_37 (P : Params) : strIn (Mine.Hd.hd.heap_39 P) 37 = true := by with_unfolding_all rfl
local macro_rules | `(tactic| walk_at "compareOp NotEq bytes bytes") => `(tactic| (k_here; (with_reducible refine ne_diff (by with_reducible assumption) ?_)))
local macro_rules | `(tactic| walk_at "call type:str") => `(tactic| (k_here; (with_reducible show wpAny _ _ (call (Value.type "str") [Value.ref _]) _ _ _); k_dflt (refine' str_own ?U ?X (strIn_37 _) ?N ?G ?_; (case G => assumption); (case N => assumption); (case X => k_in); (case U => first | ktr_room | k_room | (dsimp only [Around.deeper, Around.mark, ktrTop]; omega)); k_whole)))
local macro_rules | `(tactic| walk_at "call ref") => `(tactic| ((with_reducible show wpAny _ _ (call (Value.ref 152) _ _) _ _ _); walk_at "mine enter"; (try k_sweep)))
theorem tells_said_not (b p c d : Array UInt8) (hb : b.size ≤ 112) (hbad : (badOf b).size = 0) (h : decF b = p ++ c) (hp : p.size ≤ 100) (hc : c.size = 4) (hs : sumF p = d) (hne : c ≠ d) (t : Tok) : TellsT 5 194 [.bytes b t, .bool false] [] (fun v => ∃ t', v = .str (Str.ofString "invalid checksum") t') := by
  have hpc : (p ++ c).size ≤ 1000000 := by rw [Array.size_append]; omega
  have hmx : (mixF (mixF p)).size ≤ 1000000 := by rw [mixF_size]; decide
  unfold TellsT
  k_fill
  intro w mean mg mb dp un gd cn cs a ccd cl outer A₀ base g₀ h₀ L m news s Q E B F X N T XB TB D T0 hk hd hu hret
  k_with_none
  walk_at "mine enterT"
  k_steps
  · exfalso
    have hq := Array.size_append (xs := p) (ys := c)
    omega
  refine' hret _ ?h1 _ _ ⟨_, rfl⟩ ?tT ?tF ?tN ?tB ?tX ?tP ?tD
  walk_at "mine backT"
end
section
local macro_rules | `(tactic| walk_at "mine pad 0") => `(tactic| skip)
theorem fresh_F194b : True := by (w_top off; trivial)
local macro_rules | `(tactic| walk_at "compareOp Eq bytes bytes") => `(tactic| (k_here; (with_reducible refine eq_same (by with_reducible rfl) ?_)))
local macro_rules | `(tactic| walk_at "call ref") => `(tactic| ((with_reducible show wpAny _ _ (call (Value.ref 130) [Value.bytes _ _] _) _ _ _); k_dflt (refine' Tells.use (tells_b58dx _ _ _ (by walk_at "mine size") (by with_reducible assumption) (by with_reducible assumption) _) ?tB ?tF ?tX ?tN ?tT ?tk ?td ?tu ?_); walk_at "mine used"; intro v9 h9 tk9 hv9 F9 N9; (try dsimp only at hv9); obtain ⟨t9, e9⟩ := hv9; subst e9; (try k_sweep)))
local macro_rules | `(tactic| walk_at "subscriptTail") => `(tactic| (k_here; (first | (with_reducible show wpAny _ _ (subscriptTail _ (Expr.Slice _ _ none _) (Value.bytes (_ ++ _) _) (Value.ref _)) _ _ _) | (with_reducible show wpAny _ _ (subscriptTail _ (Expr.Slice _ _ none _) (Value.bytes (mixF _) _) (Value.ref _)) _ _ _)); (with_reducible rename Fr _ _ _ _ => F'); (with_reducible rename News _ _ _ _ => N'); k_dflt (refine do_slice (s := ⟨_, _, _, _, _⟩) F' N' (by constructor) (by constructor) (by walk_at "mine size") ?_); intro _ _ _ _ _ _; walk_at "mine sliced"))
local macro_rules | `(tactic| walk_at "mine sliced") => `(tactic| first | (rw [pick_front _ _ (by with_reducible assumption)]) | (rw [pick_back _ _ (by with_reducible assumption)]) | (rename sumF _ = _ => hs'; unfold sumF at hs'; rw [hs']) | (with_reducible rename KBy.picked _ _ _ = _ => hs'; rw [hs']))
local macro_rules | `(tactic| walk_at "call ref") => `(tactic| ((with_reducible show wpAny _ _ (call (Value.ref 94) [Value.bytes _ _] _) _ _ _); k_dflt (refine' Tells.use (tells_hash _ (by walk_at "mine size") _) ?tB ?tF ?tX ?tN ?tT ?tk ?td ?tu ?_); walk_at "mine used"; intro v9 h9 tk9 hv9 F9 N9; (try dsimp only at hv9); obtain ⟨t9, e9⟩ := hv9; subst e9; (try k_sweep)))
local macro_rules | `(tactic| walk_at "compareOp NotEq bytes bytes") => `(tactic| (k_here; (with_reducible refine ne_diff (by with_reducible assumption) ?_)))
local macro_rules | `(tactic| walk_at "call type:str") => `(tactic| (k_here; (with_reducible show wpAny _ _ (call (Value.type "str") [Value.ref _]) _ _ _); k_dflt (refine' str_own ?U ?X (strIn_37 _) ?N ?G ?_; (case G => assumption); (case N => assumption); (case X => k_in); (case U => first | ktr_room | k_room | (dsimp only [Around.deeper, Around.mark, ktrTop]; omega)); k_whole)))
local macro_rules | `(tactic| walk_at "call ref") => `(tactic| ((with_reducible show wpAny _ _ (call (Value.ref 152) _ _) _ _ _); walk_at "mine enter"; (try k_sweep)))
def saidF (c d : Array UInt8) : Str := Str.ofString "invalid checksum" ++ (Str.ofString ": 0x" ++ hexStr c ++ Str.ofString " instead of 0x" ++ hexStr d)
theorem tells_said_yes (b p c d : Array UInt8) (hb : b.size ≤ 112) (hbad : (badOf b).size = 0) (h : decF b = p ++ c) (hp : p.size ≤ 100) (hc : c.size = 4) (hs : sumF p = d) (hd4 : d.size = 4) (hne : c ≠ d) (t : Tok) : TellsT 5 194 [.bytes b t, .bool true] [] (fun v => ∃ t', v = .str (saidF c d) t') := by
  have hpc : (p ++ c).size ≤ 1000000 := by rw [Array.size_append]; omega
  have hmx : (mixF (mixF p)).size ≤ 1000000 := by rw [mixF_size]; decide
  have hh1 : (hexStr c).length ≤ 64 := by rw [hexStr_length]; omega
  have hh2 : (hexStr d).length ≤ 64 := by rw [hexStr_length]; omega
  unfold TellsT
  k_fill
  intro w mean mg mb dp un gd cn cs a ccd cl outer A₀ base g₀ h₀ L m news s Q E B F X N T XB TB D T0 hk hd hu hret
  k_with_none
  walk_at "mine enterT"
  k_steps
  · exfalso
    have hq := Array.size_append (xs := p) (ys := c)
    omega
  refine' hret _ ?h1 _ _ ⟨_, rfl⟩ ?tT ?tF ?tN ?tB ?tX ?tP ?tD
  walk_at "mine backT"
end
section
theorem fresh_F206 : True := by (w_top off; trivial)
theorem ne_same' {prog : Program} {w : World} {A : Around} {b c : Array UInt8} {t u : Tok} {s : Shared} {Q E : Value → Shared → Prop} (e : b = c) (h : Q (.bool false) s) : wpAny (model prog w) A (compareOp .NotEq (.bytes b t) (.bytes c u)) Q E s := ne_same e h
local macro_rules | `(tactic| walk_at "call ref") => `(tactic| ((with_reducible show wpAny _ _ (call (Value.ref 201) [Value.int _ _] _) _ _ _); k_dflt (refine' TellsT.use (tells_kind_int _ _) ?tB ?tF ?tX ?tN ?tT ?tXB ?tTB ?tD ?t0 ?tk ?td ?tu ?_); walk_at "mine usedT"; intro v9 g9 h9 tk9 hv9 T9 F9 N9 B9 X9 P9 D9; (try dsimp only at hv9); subst hv9; (try k_lift B9); (try k_sweep)))
local macro_rules | `(tactic| walk_at "call ref") => `(tactic| ((with_reducible show wpAny _ _ (call (Value.ref 201) [Value.none] _) _ _ _); k_dflt (refine' TellsT.use (tells_kind_none) ?tB ?tF ?tX ?tN ?tT ?tXB ?tTB ?tD ?t0 ?tk ?td ?tu ?_); walk_at "mine usedT"; intro v9 g9 h9 tk9 hv9 T9 F9 N9 B9 X9 P9 D9; (try dsimp only at hv9); subst hv9; (try k_lift B9); (try k_sweep)))
local macro_rules | `(tactic| walk_at "call ref") => `(tactic| ((with_reducible show wpAny _ _ (call (Value.ref 145) [Value.str _ _] _) _ _ _); k_dflt (refine' Tells.use (tells_ascii _ (by with_reducible assumption) (by walk_at "mine size") _) ?tB ?tF ?tX ?tN ?tT ?tk ?td ?tu ?_); walk_at "mine used"; intro v9 h9 tk9 hv9 F9 N9; (try dsimp only at hv9); obtain ⟨t9, e9⟩ := hv9; subst e9; (try k_sweep)))
local macro_rules | `(tactic| walk_at "KCtEl") => `(tactic| (kpf_tidy; first | done | ((refine kct_el ?kce (by with_unfolding_all rfl) (by with_unfolding_all rfl)); (case kce => exact rfl))))
local macro_rules | `(tactic| walk_at "CompEnd") => `(tactic| (k_dflt (refine' end_text ?eF ?eN ?eU ?eO ?eS ?eY ?eE; (case eY => exact rfl); (case eF => assumption); (case eN => assumption); (case eU => kcf_all); (case eO => first | assumption | (simp only [LCg.Off3, and_true]; done) | (simp only [LCg.Off3, and_true]; assumption)); (case eS => first | lcg_src | assumption | trivial); (case eE => exact rfl))))
local macro_rules | `(tactic| walk_at "call ref") => `(tactic| ((with_reducible show wpAny _ _ (call (Value.ref 145) [Value.str _ _] _) _ _ _); k_dflt (refine' Tells.use (tells_ascii _ ?ah ?ac _) ?tB ?tF ?tX ?tN ?tT ?tk ?td ?tu ?_); (case ah => (rw [(told_fact _ _).1]; omega)); (case ac => exact (told_fact _ _).2); walk_at "mine used"; intro v9 h9 tk9 hv9 F9 N9; (try dsimp only at hv9); obtain ⟨t9, e9⟩ := hv9; subst e9; (try k_sweep)))
local macro_rules | `(tactic| walk_at "call builtin:str.encode") => `(tactic| (k_here; (with_reducible show wpAny _ _ (call (Value.builtin _) [Value.str _ _, Value.str _ _]) _ _ _); k_dflt (refine do_encode (told_fact _ _).2 (by rw [(told_fact _ _).1]; omega) ?_); intro _ _))
local macro_rules | `(tactic| walk_at "compareOp NotEq bytes bytes") => `(tactic| (k_here; (with_reducible refine ne_same (by with_reducible rfl) ?_)))
local macro_rules | `(tactic| walk_at "CompSrc") => `(tactic| (k_here; (try k_fmods); k_dflt (refine LCg.CompSrc.range (by rfl) (by k_asm) (by k_asm) (by assumption) (by first | decide | exact small_one (by l_bnd) (by l_bnd) (by l_bnd) (by l_bnd)) (by first | exact rangeSize_nat _ _ | rfl) (by first | exact Nat.le_of_ble_eq_true rfl | (rw [PySem.sizeLine_eq]; omega) | size_fits) ?_; intro g'; (with_reducible rename NumIs _ => hNum'); (refine' kct_range (signAt (numOf hNum')) (fun k' t' I' oI' C' oC' D' m' ys' h' tk' E' hlo' hhi' hC' hx' F' N' off' ne' => ?_) ?_); (all_goals (try (simp only [LCg.Off3, and_true] at off'))); (all_goals (try ((show KPfMark → _); intro hMark'))); kcf_last)))
local macro_rules | `(tactic| walk_at "call ref") => `(tactic| ((with_reducible show wpAny _ _ (call (Value.ref 201) [Value.ref _] _) _ _ _); walk_at "mine enterT"; (try k_sweep)))
local macro_rules | `(tactic| walk_at "call ref") => `(tactic| ((with_reducible show wpAny _ _ (call (Value.ref 138) _ _) _ _ _); walk_at "mine enter"; (try k_sweep)))
local macro_rules | `(tactic| walk_at "call ref") => `(tactic| ((with_reducible show wpAny _ _ (call (Value.ref 152) _ _) _ _ _); walk_at "mine enter"; (try k_sweep)))
theorem tells_law_ascii (n : Int) (h0 : 0 ≤ n) (h1 : n < 1152921504606846976) (t : Tok) : TellsT 6 206 [.int n t] [] (fun v => v = .bool true) := by
  have f9 := fmod_lo n (show (0 : Int) < 9 by decide)
  have g9 := fmod_hi n (show (0 : Int) < 9 by decide)
  have hnum : NumIs n := trivial
  unfold TellsT
  k_fill
  intro w mean mg mb dp un gd cn cs a ccd cl outer A₀ base g₀ h₀ L m news s Q E B F X N T XB TB D T0 hk hd hu hret
  k_with_none
  walk_at "mine enterCT"
  k_steps
  refine' hret _ ?h1 _ _ rfl ?tT ?tF ?tN ?tB ?tX ?tP ?tD
  walk_at "mine backT"
end
section
local macro_rules | `(tactic| walk_at "mine pad 0") => `(tactic| skip)
theorem fresh_F101 : True := by (w_top off; trivial)
theorem ba_no {prog : Program} {w : World} {A : Around} {E : Value → Shared → Prop} {s : Shared} {x : Addr} {b : Array UInt8} {Q : Bool → Shared → Prop} (ho : s.heap.get? x = some (baObj b)) (hz : b.size = 0) (h : ∀ k, Q false { s with toks := k }) : wpAny (model prog w) A (truthy (.ref x)) Q E s :=
  truthy_ba ho (by omega) (fun k => by
    have e : ((b.size : Int) != 0) = false := by simp [hz]
    rw [e]; exact h k)
theorem ba_yes {prog : Program} {w : World} {A : Around} {E : Value → Shared → Prop} {s : Shared} {x : Addr} {b : Array UInt8} {Q : Bool → Shared → Prop} (ho : s.heap.get? x = some (baObj b)) (hz : b.size ≠ 0) (hs : b.size ≤ 1000000) (h : ∀ k, Q true { s with toks := k }) : wpAny (model prog w) A (truthy (.ref x)) Q E s :=
  truthy_ba ho (by omega) (fun k => by
    have e : ((b.size : Int) != 0) = true := by rw [bne_iff_ne]; omega
    rw [e]; exact h k)
local macro_rules | `(tactic| walk_at "truthy ref") => `(tactic| (k_here; (with_reducible show wpAny _ _ (truthy (Value.ref _)) _ _ _); (with_reducible rename News _ _ _ _ => N'); k_dflt (first | refine ba_no (N' (_, baObj _) (List.mem_cons_self ..)).1 (by assumption) ?_ | refine ba_yes (N' (_, baObj _) (List.mem_cons_self ..)).1 (by assumption) (by omega) ?_); intro _))
theorem tells_efi (n : Nat) (hn : n < 2 ^ 300) (t : Tok) : TellsS 1 101 [.int (n : Int) t] [] (fun v => ∃ t', v = .bytes ((rd1 n).map fun d => (sgn d).toUInt8).toArray t') := by
  unfold TellsS
  k_fill
  intro w mean mg mb dp un gd cn cs a ccd cl outer A₀ base h₀ L m news s Q E B F X N T hk hd hu hret
  k_with_none
  walk_at "mine enterS"
  refine wpS_execs_cons (S_Assign (S_Call ?_))
  k_steps
  with_reducible rename Fr _ _ _ _ => F2
  with_reducible rename News _ _ _ _ => N2
  refine S_with_type0 (ba_new_at F2 N2 fun x h1 F3 N3 d3 => ?_)
  clear N2
  (try dsimp only)
  k_steps
  refine wpS_execs_cons ?_
  with_reducible rename Fr _ _ _ _ => F4
  with_reducible rename News _ _ _ _ => N4
  refine While_S (n₀ := n) (fun k m₁ nw => ∃ (i : Nat) (b : Array UInt8) (u : Str → Option Value) (ti : Tok), k = i ∧ BX n i b ∧ nw = (x, baObj b) :: news ∧ m₁ = fun z => if z = Str.ofString "i" then some (.int (i : Int) ti) else if [Str.ofString "chunk", Str.ofString "digit", Str.ofString "_"].contains z then u z else if z = Str.ofString "digits" then some (.ref x) else none) F4 N4 ⟨n, #[], fun _ => none, t, rfl, BX.start n, rfl, ?_⟩ ?_
  · funext z
    by_cases h1 : z = Str.ofString "i"
    · subst h1; rfl
    · by_cases h2 : z = Str.ofString "digits"
      · subst h2; rfl
      · show (if z = Str.ofString "digits" then _ else (match z == Str.ofString "i" with | true => some (Value.int (n : Int) t) | false => none)) = _
        have h1' : (z == Str.ofString "i") = false := by simpa using h1
        rw [if_neg h2, h1', if_neg h1]
        simp [h2]
  intro k m₁ nw h5 tk5 F5 N5 hJ
  obtain ⟨i, b, u, ti, rfl, hBX, rfl, rfl⟩ := hJ
  clear F4 N4
  have hsz := hBX.size hn
  refine wpS_of_any ?_
  k_steps
  · refine wpS_execs_any ?_
    k_steps
    refine wpS_execs_cons (S_For ?_)
    k_steps
    with_reducible rename Fr _ _ _ _ => F6
    with_reducible rename News _ _ _ _ => N6
    with_reducible rename IsRange _ _ _ _ _ _ _ _ => R6
    have hk6 : 430804206899405824 ≤ k := by omega
    have N7 := cb_drop (news := (x, baObj b) :: news) N6 (fun p hp => List.mem_cons_of_mem _ hp)
    rw [show (k : Int).fdiv 430804206899405824 = ((k / 430804206899405824 : Nat) : Int) from fdiv_nat k 430804206899405824, show (k : Int).fmod 430804206899405824 = ((k % 430804206899405824 : Nat) : Int) from fmod_nat k 430804206899405824] at F6
    refine ForS_go (pos := ⟨0, 0, 0, 0⟩) (n := 10) (fun j m₁ nw => ∃ (c : Nat) (b' : Array UInt8) (u' : Str → Option Value) (tc ti : Tok), c < 58 ^ (10 - j) ∧ BX n (k / 430804206899405824 * 58 ^ (10 - j) + c) b' ∧ nw = (x, baObj b') :: news ∧
      m₁ = fun z => if z = Str.ofString "chunk" then some (.int (c : Int) tc) else if [Str.ofString "digit", Str.ofString "_"].contains z then u' z else if z = Str.ofString "i" then some (.int ((k / 430804206899405824 : Nat) : Int) ti) else if z = Str.ofString "digits" then some (.ref x) else none)
      rfl rfl rfl rfl rfl R6 (by decide) (by decide) F6 N7 ⟨k % 430804206899405824, b, u, tk5 + 1, tk5, Nat.mod_lt _ (by decide), hBX.open, rfl, ?_⟩ ?_ ?_
    · funext z
      by_cases h1 : z = Str.ofString "chunk"
      · subst h1; rfl
      · by_cases h2 : z = Str.ofString "i"
        · subst h2; rfl
        · by_cases h3 : z = Str.ofString "digits"
          · subst h3; rfl
          · by_cases h4 : z = Str.ofString "digit"
            · subst h4; rfl
            · by_cases h5 : z = Str.ofString "_"
              · subst h5; rfl
              · simp [h1, h2, h3, h4, h5]
    · intro j I m₁ nw h7 tk7 tj hj hJ hd7 F8 N8
      obtain ⟨c, b', u', tc, ti', hc, hBX', rfl, rfl⟩ := hJ
      clear F6 N6 N7 R6
      have hsz' := hBX'.size hn
      refine wpS_execs_any ?_
      k_steps
      with_reducible rename Fr _ _ _ _ => F9
      with_reducible rename News _ _ _ _ => N9
      rw [show (c : Int).fdiv 58 = ((c / 58 : Nat) : Int) from fdiv_nat c 58, show (c : Int).fmod 58 = ((c % 58 : Nat) : Int) from fmod_nat c 58] at F9
      have N10 := cb_drop (news := [(I, itObj 0 10 (j + 1))] ++ (x, baObj b') :: news) N9 (fun p hp => List.mem_cons_of_mem _ hp)
      clear N9
      refine wpS_execs_cons (S_Expr (S_Method ?_))
      walk1
      refine get_ba slot_ba_append type_ba_append (N10 (x, baObj b') (List.mem_append_right _ (List.mem_cons_self ..))).1 ?_
      refine S_with_method ?_
      k_steps
      refine ba_push_at F9 N10 ?_ (by omega) (by omega) (by omega) (fun h8 F10 N11 => ⟨rfl, ?_⟩)
      · intro p hp
        rcases List.mem_append.mp hp with q | q
        · rw [List.mem_singleton.mp q]
          exact Ne.symm (hd7 (x, baObj b') (List.mem_cons_self ..))
        · exact d3 p q
      have hch := BX.chunk hj (Nat.div_pos hk6 (by decide)) hc hBX'
      refine wpS_execs_nil ⟨rfl, _, _, _, _, rfl, F10, N11, _, rfl, ?_, c / 58, _, (fun z => if z = Str.ofString "digit" then some (.int ((c % 58 : Nat) : Int) (tk7 + 1)) else some (.int (0 + (j : Int)) tj)), tk7, ti', hch.1, ?_, rfl, ?_⟩
      · intro p hp
        rcases List.mem_cons.mp hp with rfl | q
        · exact hd7 (x, baObj b') (List.mem_cons_self ..)
        · exact hd7 p (List.mem_cons_of_mem _ q)
      · rw [Int.toNat_natCast]
        exact hch.2
      · funext z
        by_cases h1 : z = Str.ofString "chunk"
        · subst h1; rfl
        · by_cases h2 : z = Str.ofString "i"
          · subst h2; rfl
          · by_cases h3 : z = Str.ofString "digits"
            · subst h3; rfl
            · by_cases h4 : z = Str.ofString "digit"
              · subst h4; rfl
              · by_cases h5 : z = Str.ofString "_"
                · subst h5; rfl
                · simp [h1, h2, h3, h4, h5]
    · intro m₁ nw h7 tk7 hJ F8 N8
      obtain ⟨c, b', u', tc, ti', hc, hBX', rfl, rfl⟩ := hJ
      have hc0 : c = 0 := by
        have : (58 : Nat) ^ (10 - 10) = 1 := by decide
        omega
      subst hc0
      rw [show (58 : Nat) ^ (10 - 10) = 1 from by decide, Nat.mul_one, Nat.add_zero] at hBX'
      refine wpS_execs_nil ⟨rfl, _, _, _, _, rfl, F8, N8, k / 430804206899405824, Nat.div_lt_self (by omega) (by decide), k / 430804206899405824, b', (fun z => if z = Str.ofString "chunk" then some (.int 0 tc) else u' z), ti', rfl, hBX', rfl, ?_⟩
      · funext z
        by_cases h1 : z = Str.ofString "chunk"
        · subst h1; rfl
        · by_cases h2 : z = Str.ofString "i"
          · subst h2; rfl
          · by_cases h3 : z = Str.ofString "digits"
            · subst h3; rfl
            · by_cases h4 : z = Str.ofString "digit"
              · subst h4; rfl
              · by_cases h5 : z = Str.ofString "_"
                · subst h5; rfl
                · simp [h1, h2, h3, h4, h5]
  · dsimp only
    refine wpS_execs_cons ?_
    with_reducible rename Fr _ _ _ _ => F6
    with_reducible rename News _ _ _ _ => N6
    refine While_S (n₀ := k + (if b = #[] then 1 else 0)) (fun k m₁ nw => ∃ (i : Nat) (b : Array UInt8) (u : Str → Option Value) (ti : Tok), k = i + (if b = #[] then 1 else 0) ∧ BX n i b ∧ nw = (x, baObj b) :: news ∧ m₁ = fun z => if z = Str.ofString "i" then some (.int (i : Int) ti) else if [Str.ofString "chunk", Str.ofString "digit", Str.ofString "_"].contains z then u z else if z = Str.ofString "digits" then some (.ref x) else none) F6 N6 ⟨k, b, u, ti, rfl, hBX, rfl, rfl⟩ ?_
    clear F6 N6
    intro k' m₁ nw h7 tk7 F7 N7 hJ
    clear hBX hsz
    obtain ⟨i, b', u', ti', rfl, hBX, rfl, rfl⟩ := hJ
    have hsz := hBX.size hn
    by_cases hb : b'.size = 0
    · refine wpS_of_any ?_
      k_steps
      · have hc : i ≠ 0 ∨ b' = #[] := by first | exact .inl (by omega) | exact .inr (Array.eq_empty_of_size_eq_zero hb)
        refine wpS_execs_any ?_
        k_steps
        with_reducible rename Fr _ _ _ _ => F9
        with_reducible rename News _ _ _ _ => N9
        rw [show (i : Int).fdiv 58 = ((i / 58 : Nat) : Int) from fdiv_nat i 58, show (i : Int).fmod 58 = ((i % 58 : Nat) : Int) from fmod_nat i 58] at F9
        have N10 := cb_drop (news := [] ++ (x, baObj b') :: news) N9 (fun p hp => List.mem_cons_of_mem _ hp)
        clear N9
        refine wpS_execs_cons (S_Expr (S_Method ?_))
        walk1
        refine get_ba slot_ba_append type_ba_append (N10 (x, baObj b') (List.mem_append_right _ (List.mem_cons_self ..))).1 ?_
        refine S_with_method ?_
        k_steps
        refine ba_push_at F9 N10 (fun p hp => d3 p hp) (by omega) (by omega) (by omega) (fun h8 F10 N11 => ⟨rfl, ?_⟩)
        have hch := hBX.turn hc
        have hne : b'.push ((i % 58 : Nat) : Int).toNat.toUInt8 ≠ #[] := by
          intro q
          have := congrArg Array.size q
          rw [Array.size_push] at this
          exact absurd this (Nat.succ_ne_zero _)
        refine wpS_execs_nil ⟨rfl, _, _, _, _, rfl, F10, N11, i / 58, ?_, i / 58, _, _, _, ?_, ?_, rfl, norm_map rfl ?_⟩
        · rcases hc with q | q
          · have : i / 58 < i := Nat.div_lt_self (by omega) (by decide)
            omega
          · rw [if_pos q]
            have : i / 58 ≤ i := Nat.div_le_self _ _
            omega
        · rw [if_neg hne, Nat.add_zero]
        · rw [Int.toNat_natCast]
          exact hch
        · intro z h1 h2
          have h2' := h2
          simp only [List.contains_cons, List.contains_nil, Bool.or_false, Bool.or_eq_false_iff, beq_eq_false_iff_ne, ne_eq] at h2'
          obtain ⟨h3, h4, h5⟩ := h2'
          simp [h1, h3, h4, h5]
      · have hc : i ≠ 0 ∨ b' = #[] := by first | exact .inl (by omega) | exact .inr (Array.eq_empty_of_size_eq_zero hb)
        refine wpS_execs_any ?_
        k_steps
        with_reducible rename Fr _ _ _ _ => F9
        with_reducible rename News _ _ _ _ => N9
        rw [show (i : Int).fdiv 58 = ((i / 58 : Nat) : Int) from fdiv_nat i 58, show (i : Int).fmod 58 = ((i % 58 : Nat) : Int) from fmod_nat i 58] at F9
        have N10 := cb_drop (news := [] ++ (x, baObj b') :: news) N9 (fun p hp => List.mem_cons_of_mem _ hp)
        clear N9
        refine wpS_execs_cons (S_Expr (S_Method ?_))
        walk1
        refine get_ba slot_ba_append type_ba_append (N10 (x, baObj b') (List.mem_append_right _ (List.mem_cons_self ..))).1 ?_
        refine S_with_method ?_
        k_steps
        refine ba_push_at F9 N10 (fun p hp => d3 p hp) (by omega) (by omega) (by omega) (fun h8 F10 N11 => ⟨rfl, ?_⟩)
        have hch := hBX.turn hc
        have hne : b'.push ((i % 58 : Nat) : Int).toNat.toUInt8 ≠ #[] := by
          intro q
          have := congrArg Array.size q
          rw [Array.size_push] at this
          exact absurd this (Nat.succ_ne_zero _)
        refine wpS_execs_nil ⟨rfl, _, _, _, _, rfl, F10, N11, i / 58, ?_, i / 58, _, _, _, ?_, ?_, rfl, norm_map rfl ?_⟩
        · rcases hc with q | q
          · have : i / 58 < i := Nat.div_lt_self (by omega) (by decide)
            omega
          · rw [if_pos q]
            have : i / 58 ≤ i := Nat.div_le_self _ _
            omega
        · rw [if_neg hne, Nat.add_zero]
        · rw [Int.toNat_natCast]
          exact hch
        · intro z h1 h2
          have h2' := h2
          simp only [List.contains_cons, List.contains_nil, Bool.or_false, Bool.or_eq_false_iff, beq_eq_false_iff_ne, ne_eq] at h2'
          obtain ⟨h3, h4, h5⟩ := h2'
          simp [h1, h3, h4, h5]
    · refine wpS_of_any ?_
      k_steps
      · have hc : i ≠ 0 ∨ b' = #[] := by first | exact .inl (by omega) | exact .inr (Array.eq_empty_of_size_eq_zero hb)
        refine wpS_execs_any ?_
        k_steps
        with_reducible rename Fr _ _ _ _ => F9
        with_reducible rename News _ _ _ _ => N9
        rw [show (i : Int).fdiv 58 = ((i / 58 : Nat) : Int) from fdiv_nat i 58, show (i : Int).fmod 58 = ((i % 58 : Nat) : Int) from fmod_nat i 58] at F9
        have N10 := cb_drop (news := [] ++ (x, baObj b') :: news) N9 (fun p hp => List.mem_cons_of_mem _ hp)
        clear N9
        refine wpS_execs_cons (S_Expr (S_Method ?_))
        walk1
        refine get_ba slot_ba_append type_ba_append (N10 (x, baObj b') (List.mem_append_right _ (List.mem_cons_self ..))).1 ?_
        refine S_with_method ?_
        k_steps
        refine ba_push_at F9 N10 (fun p hp => d3 p hp) (by omega) (by omega) (by omega) (fun h8 F10 N11 => ⟨rfl, ?_⟩)
        have hch := hBX.turn hc
        have hne : b'.push ((i % 58 : Nat) : Int).toNat.toUInt8 ≠ #[] := by
          intro q
          have := congrArg Array.size q
          rw [Array.size_push] at this
          exact absurd this (Nat.succ_ne_zero _)
        refine wpS_execs_nil ⟨rfl, _, _, _, _, rfl, F10, N11, i / 58, ?_, i / 58, _, _, _, ?_, ?_, rfl, norm_map rfl ?_⟩
        · rcases hc with q | q
          · have : i / 58 < i := Nat.div_lt_self (by omega) (by decide)
            omega
          · rw [if_pos q]
            have : i / 58 ≤ i := Nat.div_le_self _ _
            omega
        · rw [if_neg hne, Nat.add_zero]
        · rw [Int.toNat_natCast]
          exact hch
        · intro z h1 h2
          have h2' := h2
          simp only [List.contains_cons, List.contains_nil, Bool.or_false, Bool.or_eq_false_iff, beq_eq_false_iff_ne, ne_eq] at h2'
          obtain ⟨h3, h4, h5⟩ := h2'
          simp [h1, h3, h4, h5]
      · dsimp only
        have hi0 : i = 0 := by omega
        subst hi0
        have hbne : b' ≠ #[] := fun q => hb (by rw [q]; rfl)
        have hfin := hBX.done hbne
        refine wpS_execs_any ?_
        k_steps
        with_reducible rename Fr _ _ _ _ => F9
        with_reducible rename News _ _ _ _ => N9
        have N10 : News _ _ _ ([] ++ (x, baObj b') :: news) := N9
        refine get_ba slot_ba_reverse type_ba_reverse (N10 (x, baObj b') (List.mem_append_right _ (List.mem_cons_self ..))).1 ?_
        k_steps
        refine ba_turn_at F9 N10 (fun p hp => d3 p hp) (by omega) (fun h8 F10 N11 => ?_)
        clear F9 N9 N10
        k_steps
        dsimp only
        refine wpS_execs_any ?_
        k_steps
        with_reducible rename News _ _ _ _ => N12
        refine bytes_of_ba (N12 (x, baObj b'.reverse) (List.mem_cons_self ..)).1 (by rw [Array.size_reverse]; omega) ?_
        intro t9 k9
        have hrs : b'.reverse.size ≤ 52 := by rw [Array.size_reverse]; exact hsz
        k_steps
        exact hret _ _ _ ⟨_, congrArg (fun z => Value.bytes z _) hfin⟩ (by k_asm) (by walk_at "mine news")
end
section
theorem fresh_F108 : True := by (w_top off; trivial)
local macro_rules | `(tactic| walk_at "binaryOp Mult bytes int") => `(tactic| (k_here; (refine do_bmul ?bh1 ?bh2 ?_); (case bh1 => omega); (case bh2 => omega); intro _ _ _))
local macro_rules | `(tactic| walk_at "inplaceOp Add bytes bytes") => `(tactic| (k_here; (refine do_iadd (by walk_at "mine sizes") ?_); intro _ _ _))
local macro_rules | `(tactic| walk_at "mine sizes") => `(tactic| (simp only [List.size_toArray, List.length_map, Array.size_replicate]; (have hq9 := rd1_length_300 (by assumption)); omega))
theorem fromBE_300 {b : Array UInt8} (hb : b.size ≤ 37) : fromBE b.toList < 2 ^ 300 := by
  have h := fromBE_lt b.toList
  refine Nat.lt_of_lt_of_le h (Nat.pow_le_pow_right (by decide) ?_)
  rw [Array.length_toList]
  omega
theorem tells_b58e (b : Array UInt8) (hb : b.size ≤ 37) (t : Tok) : TellsS 2 108 [.bytes b t] [] (fun v => ∃ t', v = .bytes (encF b) t') := by
  have hcz := cutZ_le 0 b
  have hbig : fromBE (cutZ 0 b).toList < 2 ^ 300 := fromBE_300 (by omega)
  unfold TellsS
  k_fill
  intro w mean mg mb dp un gd cn cs a ccd cl outer A₀ base h₀ L m news s Q E B F X N T hk hd hu hret
  k_with_none
  walk_at "mine enterS"
  have hend : ∀ (x : Array UInt8) (t' : Tok) (h' : Heap) (tk' : Nat), x = encF b → Fr h₀ L h' m → News h₀ L h' news → Q (.bytes x t') { s with heap := h', toks := tk' } := fun x t' h' tk' e F N => hret _ _ _ ⟨t', by rw [e]⟩ F N
  refine wpS_execs_any ?_
  k_steps
  refine wpS_execs_any ?_
  k_steps
  refine wpS_execs_any ?_
  k_steps
  refine wpS_execs_any ?_
  k_steps
  refine wpS_execs_any ?_
  k_steps
  refine wpS_execs_cons (S_If ?_)
  refine wpS_of_any ?_
  k_steps
  · refine wpS_execs_any ?_
    k_steps
    refine wpS_execs_cons (S_AugAssign ?_)
    k_steps
    refine S_Call ?_
    k_steps
    walk_at "mine with"
    k_steps
    refine' TellsS.use (tells_efi _ hbig _) ?tB ?tF ?tX ?tN ?tT ?tk ?td ?tu ?_
    walk_at "mine used"
    intro v9 h9 tk9 hv9 F9 N9
    obtain ⟨t9, rfl⟩ := hv9
    try dsimp only
    try k_sweep
    k_steps
    dsimp only
    refine wpS_execs_nil ?_
    dsimp only
    refine wpS_execs_any ?_
    k_steps
    refine hend _ _ _ _ ?_ (by k_asm) (by walk_at "mine news")
    have hz : ¬ (cutZ 0 b).size = 0 := by omega
    unfold encF
    rw [if_neg hz]
    unfold txtB
    congr 2
    omega
  · refine wpS_execs_nil ?_
    dsimp only
    refine wpS_execs_any ?_
    k_steps
    refine hend _ _ _ _ ?_ (by k_asm) (by walk_at "mine news")
    have hz : (cutZ 0 b).size = 0 := by omega
    unfold encF
    rw [if_pos hz, Array.append_empty]
    congr 1
    omega
end
section
local macro_rules | `(tactic| walk_at "mine pad 0") => `(tactic| skip)
theorem fresh_F116 : True := by (w_top off; trivial)
local macro_rules | `(tactic| walk_at "call ref") => `(tactic| ((with_reducible show wpAny _ _ (call (Value.ref 59) [Value.bytes _ _, Value.none] _) _ _ _); k_dflt (refine' Tells.use (tells_bfo2 _ (by walk_at "mine size") _) ?tB ?tF ?tX ?tN ?tT ?tk ?td ?tu ?_); walk_at "mine used"; intro v9 h9 tk9 hv9 F9 N9; (try dsimp only at hv9); obtain ⟨t9, e9⟩ := hv9; subst e9; (try k_sweep)))
local macro_rules | `(tactic| walk_at "call ref") => `(tactic| ((with_reducible show wpAny _ _ (call (Value.ref 94) [Value.bytes _ _] _) _ _ _); k_dflt (refine' Tells.use (tells_hash _ (by walk_at "mine size") _) ?tB ?tF ?tX ?tN ?tT ?tk ?td ?tu ?_); walk_at "mine used"; intro v9 h9 tk9 hv9 F9 N9; (try dsimp only at hv9); obtain ⟨t9, e9⟩ := hv9; subst e9; (try k_sweep)))
local macro_rules | `(tactic| walk_at "subscriptTail") => `(tactic| (k_here; (with_reducible show wpAny _ _ (subscriptTail _ (Expr.Slice _ _ none _) (Value.bytes (mixF _) _) (Value.ref _)) _ _ _); (with_reducible rename Fr _ _ _ _ => F'); (with_reducible rename News _ _ _ _ => N'); k_dflt (refine do_slice (s := ⟨_, _, _, _, _⟩) F' N' (by constructor) (by constructor) (by walk_at "mine size") ?_); intro _ _ _ _ _ _))
theorem sumF_size (p : Array UInt8) : (sumF p).size = 4 := pick_four_size _ (mixF_size _)
theorem tells_enc (p : Array UInt8) (hp : p.size ≤ 33) (t : Tok) : TellsS 4 116 [.bytes p t] [] (fun v => ∃ t', v = .bytes (encF (p ++ sumF p)) t') := by
  have hs4 : (KBy.picked (mixF (mixF p)) none (some 4)).size = 4 := sumF_size p
  have hmx : (mixF (mixF p)).size ≤ 1000000 := by rw [mixF_size]; decide
  have hps : (p ++ KBy.picked (mixF (mixF p)) none (some 4)).size ≤ 37 := by rw [Array.size_append, hs4]; omega
  unfold TellsS
  k_fill
  intro w mean mg mb dp un gd cn cs a ccd cl outer A₀ base h₀ L m news s Q E B F X N T hk hd hu hret
  k_with_none
  walk_at "mine enterS"
  refine wpS_execs_any ?_
  k_steps
  refine wpS_execs_any ?_
  k_steps
  refine wpS_execs_cons (S_Return (S_Call ?_))
  k_steps
  walk_at "mine with"
  k_steps
  refine' TellsS.use (tells_b58e _ hps _) ?tB ?tF ?tX ?tN ?tT ?tk ?td ?tu ?_
  walk_at "mine used"
  intro v9 h9 tk9 hv9 F9 N9
  obtain ⟨t9, rfl⟩ := hv9
  try dsimp only
  try k_sweep
  k_steps
  exact hret _ _ _ ⟨_, rfl⟩ (by k_asm) (by walk_at "mine news")
end
section
theorem fresh_F180 : True := by (w_top off; trivial)
theorem ne_int_same {prog : Program} {w : World} {A : Around} {a : Int} {t u : Tok} {s : Shared} {Q E : Value → Shared → Prop} (h : Q (.bool false) s) : wpAny (model prog w) A (compareOp .NotEq (.int a t) (.int a u)) Q E s := by
  refine ne_int ?_
  simpa using h
theorem tells_b58ey (b c : Array UInt8) (hb : b.size ≤ 37) (h : encF b = c) (t : Tok) : TellsS 2 108 [.bytes b t] [] (fun v => ∃ t', v = .bytes c t') := by
  rw [← h]
  exact tells_b58e b hb t
/-- a text's octets by name -/
structure TldAs (x : Str) (b : Array UInt8) : Prop where
  eq : x.cps.map (·.toUInt8) = b
local macro_rules | `(tactic| walk_at "call ref") => `(tactic| ((with_reducible show wpAny _ _ (call (Value.ref 159) [Value.int _ _] _) _ _ _); k_dflt (refine' Tells.use (tells_text_of _ (by with_reducible assumption) _) ?tB ?tF ?tX ?tN ?tT ?tk ?td ?tu ?_); walk_at "mine used"; intro v9 h9 tk9 hv9 F9 N9; (try dsimp only at hv9); obtain ⟨t9, e9⟩ := hv9; subst e9; (try k_sweep)))
local macro_rules | `(tactic| walk_at "call ref") => `(tactic| ((with_reducible show wpAny _ _ (call (Value.ref 166) [Value.int _ _] _) _ _ _); k_dflt (refine' Tells.use (tells_octets _ (by with_reducible assumption) _) ?tB ?tF ?tX ?tN ?tT ?tk ?td ?tu ?_); walk_at "mine used"; intro v9 h9 tk9 hv9 F9 N9; (try dsimp only at hv9); obtain ⟨t9, e9⟩ := hv9; subst e9; (try k_sweep)))
theorem tells_dti_text (n : Nat) (hn : n < 2 ^ 300) (t : Tok) : Tells 2 123 [.bytes (txtB n) t] [] (fun v => ∃ t', v = .int (n : Int) t') := by
  have h := tells_decode_to_int (txtB n) (Nat.le_trans (txtB_size hn) (by decide)) t
  rw [txt_value] at h
  exact h
theorem tells_b58dy (b d : Array UInt8) (hb : b.size ≤ 200) (hbad : (badOf b).size = 0) (h : decF b = d) (t : Tok) : Tells 3 130 [.bytes b t] [] (fun v => ∃ t', v = .bytes d t') := by
  have h2 := tells_b58d b hb hbad t
  rw [← h]
  exact h2
local macro_rules | `(tactic| walk_at "call ref") => `(tactic| ((with_reducible show wpAny _ _ (call (Value.ref 123) [Value.bytes (txtB _) _] _) _ _ _); k_dflt (refine' Tells.use (tells_dti_text _ (by with_reducible assumption) _) ?tB ?tF ?tX ?tN ?tT ?tk ?td ?tu ?_); walk_at "mine used"; intro v9 h9 tk9 hv9 F9 N9; (try dsimp only at hv9); obtain ⟨t9, e9⟩ := hv9; subst e9; (try k_sweep)))
local macro_rules | `(tactic| walk_at "call ref") => `(tactic| ((with_reducible show wpAny _ _ (call (Value.ref 130) [Value.bytes _ _] _) _ _ _); k_dflt (refine' Tells.use (tells_b58dy _ _ (by with_reducible assumption) (by with_reducible assumption) (by with_reducible assumption) _) ?tB ?tF ?tX ?tN ?tT ?tk ?td ?tu ?_); walk_at "mine used"; intro v9 h9 tk9 hv9 F9 N9; (try dsimp only at hv9); obtain ⟨t9, e9⟩ := hv9; subst e9; (try k_sweep)))
local macro_rules | `(tactic| walk_at "call builtin:str.encode") => `(tactic| (k_here; (with_reducible show wpAny _ _ (call (Value.builtin _) [Value.str _ _, Value.str _ _]) _ _ _); k_dflt (refine do_encode (by with_reducible assumption) (by walk_at "mine size") ?_); intro _ _; walk_at "mine told"))
local macro_rules | `(tactic| walk_at "mine told") => `(tactic| first | (rw [text_bytes]) | (rename TldAs _ _ => hto'; rw [hto'.eq]))
local macro_rules | `(tactic| walk_at "compareOp NotEq bytes bytes") => `(tactic| (k_here; (with_reducible refine ne_same (by with_reducible rfl) ?_)))
local macro_rules | `(tactic| walk_at "compareOp Eq bytes bytes") => `(tactic| (k_here; (with_reducible refine eq_same (by with_reducible rfl) ?_)))
local macro_rules | `(tactic| walk_at "compareOp NotEq int int") => `(tactic| (k_here; (with_reducible refine ne_int_same ?_)))
local macro_rules | `(tactic| walk_at "binaryOp Mult str int") => `(tactic| (k_here; (with_reducible show wpAny _ _ (binaryOp _ (Value.str _ _) (Value.int _ _)) _ _ _); k_dflt (refine do_ones (by omega) ?_); intro _ _ _))
local macro_rules | `(tactic| walk_at "binaryOp Add str str") => `(tactic| (k_here; (with_reducible refine do_sadd (by walk_at "mine size") ?_); intro _ _ _))
local macro_rules | `(tactic| walk_at "call type:bytes") => `(tactic| (k_here; (with_reducible show wpAny _ _ (call (Value.type _) [Value.int _ _]) _ _ _); (refine bytes_of_int (by omega) ?_); intro _ _))
theorem tells_bare (n z : Nat) (hn : n < 2 ^ 256) (hz : z ≤ 3) (t u : Tok) : TellsS 4 180 [.int (n : Int) t, .int (z : Int) u] [] (fun v => v = .bool true) := by
  have hn300 : n < 2 ^ 300 := by omega
  have hn256 : n < 256 ^ 1000 := Nat.lt_trans hn (by decide)
  have hcl := text_clean n
  have hln := text_length hn300
  have hto := ones_length z
  have hmb : (minBytes n).toArray.size ≤ 32 := by
    rw [List.size_toArray, minBytes_length]
    exact minLen_le (Nat.lt_of_lt_of_le hn (by decide))
  have hmb2 : (minBytes n).length ≤ 32 := by rw [List.size_toArray] at hmb; exact hmb
  unfold TellsS
  k_fill
  intro w mean mg mb dp un gd cn cs a ccd cl outer A₀ base h₀ L m news s Q E B F X N T hk hd hu hret
  k_with_none
  walk_at "mine enterS"
  refine wpS_execs_any ?_
  k_steps
  refine wpS_execs_cons (S_If (S_or (S_test (S_Call ?_))))
  k_steps
  walk_at "mine with"
  k_steps
  refine' TellsS.use (tells_efi _ hn300 _) ?tB ?tF ?tX ?tN ?tT ?tk ?td ?tu ?_
  walk_at "mine used"
  intro v9 h9 tk9 hv9 F9 N9
  obtain ⟨t9, rfl⟩ := hv9
  try dsimp only
  try k_sweep
  rw [show ((rd1 n).map fun d => (sgn d).toUInt8).toArray = txtB n from rfl]
  k_steps
  refine S_or (wpS_of_any ?_)
  k_steps
  refine S_or_nil ?_
  try simp only [Bool.false_eq_true, if_false]
  refine wpS_execs_nil ?_
  try dsimp only
  have hE := enc_told z n
  have hD := dec_told z n
  have hbad : (badOf (Array.replicate z 49 ++ (if n = 0 then #[] else txtB n))).size = 0 := by rw [← hE]; exact enc_good _
  have hT : TldAs (ones z ++ (if n = 0 then Str.ofString "" else textOf n)) (Array.replicate z 49 ++ (if n = 0 then #[] else txtB n)) := by
    refine ⟨?_⟩
    rw [bytes_append, ones_bytes]
    split
    · rw [show (Str.ofString "").cps = #[] from by decide, Array.map_empty]
    · rw [text_bytes]
  have hC : Clean (ones z ++ (if n = 0 then Str.ofString "" else textOf n)) := by
    refine clean_append (ones_clean z) ?_
    split
    · intro c hc; exact absurd hc (by show c ∉ (#[] : Array Nat); simp)
    · exact text_clean n
  by_cases h0 : n = 0
  · have hi0 : (n : Int) = 0 := by omega
    rw [if_pos h0, if_pos h0] at hE hD
    rw [if_pos h0] at hbad
    rw [if_pos h0, if_pos h0] at hT
    rw [if_pos h0] at hC
    have hOs : (Array.replicate z (0 : UInt8) ++ #[]).size ≤ 37 := by rw [Array.size_append, Array.size_replicate]; show z + 0 ≤ 37; omega
    have hDs : (Array.replicate z (49 : UInt8) ++ #[]).size ≤ 200 := by rw [Array.size_append, Array.size_replicate]; show z + 0 ≤ 200; omega
    have hLs : (ones z ++ Str.ofString "").length ≤ 1000 := by show ((ones z).cps ++ _).size ≤ 1000; rw [Array.size_append]; show (ones z).length + 0 ≤ 1000; omega
    refine wpS_execs_any ?_
    k_steps
    all_goals try (exfalso; omega)
    refine wpS_execs_any ?_
    k_steps
    all_goals try (exfalso; omega)
    refine wpS_execs_cons (S_Return (S_and (S_Compare (S_Call ?_))))
    k_steps
    walk_at "mine with"
    k_steps
    refine' TellsS.use (tells_b58ey _ _ hOs hE _) ?tB ?tF ?tX ?tN ?tT ?tk ?td ?tu ?_
    walk_at "mine used"
    intro v9 h9 tk9 hv9 F9 N9
    obtain ⟨t9, rfl⟩ := hv9
    try dsimp only
    try k_sweep
    k_steps
    refine wpS_of_any ?_
    k_steps
    exact hret _ _ _ rfl (by k_asm) (by walk_at "mine news")
  · have hi0 : (n : Int) ≠ 0 := by omega
    rw [if_neg h0, if_neg h0] at hE hD
    rw [if_neg h0] at hbad
    rw [if_neg h0, if_neg h0] at hT
    rw [if_neg h0] at hC
    have hOs : (Array.replicate z (0 : UInt8) ++ (minBytes n).toArray).size ≤ 37 := by rw [Array.size_append, Array.size_replicate]; omega
    have hDs : (Array.replicate z (49 : UInt8) ++ txtB n).size ≤ 200 := by rw [Array.size_append, Array.size_replicate]; (have := txtB_size hn300); omega
    have hLs : (ones z ++ textOf n).length ≤ 1000 := by show ((ones z).cps ++ _).size ≤ 1000; rw [Array.size_append]; show (ones z).length + (textOf n).length ≤ 1000; omega
    refine wpS_execs_any ?_
    k_steps
    all_goals try (exfalso; omega)
    refine wpS_execs_any ?_
    k_steps
    all_goals try (exfalso; omega)
    refine wpS_execs_cons (S_Return (S_and (S_Compare (S_Call ?_))))
    k_steps
    walk_at "mine with"
    k_steps
    refine' TellsS.use (tells_b58ey _ _ hOs hE _) ?tB ?tF ?tX ?tN ?tT ?tk ?td ?tu ?_
    walk_at "mine used"
    intro v9 h9 tk9 hv9 F9 N9
    obtain ⟨t9, rfl⟩ := hv9
    try dsimp only
    try k_sweep
    k_steps
    refine wpS_of_any ?_
    k_steps
    exact hret _ _ _ rfl (by k_asm) (by walk_at "mine news")
end
section
local macro_rules | `(tactic| walk_at "mine pad 0") => `(tactic| skip)
theorem fresh_F211 : True := by (w_top off; trivial)
theorem said_same (c d : Array UInt8) : saidF c d = Str.ofString "invalid checksum: 0x" ++ hexStr c ++ Str.ofString " instead of 0x" ++ hexStr d := by
  have e : ∀ (a b : Str), a ++ b = ⟨a.cps ++ b.cps⟩ := fun _ _ => rfl
  unfold saidF
  have h : Str.ofString "invalid checksum: 0x" = Str.ofString "invalid checksum" ++ Str.ofString ": 0x" := by decide
  rw [h]
  simp only [e, Array.append_assoc]
local macro_rules | `(tactic| walk_at "call ref") => `(tactic| ((with_reducible show wpAny _ _ (call (Value.ref 194) [Value.bytes _ _, Value.bool true] _) _ _ _); k_dflt (refine' TellsT.use (tells_said_yes _ _ _ _ (by with_reducible assumption) (by with_reducible assumption) (by with_reducible assumption) (by with_reducible assumption) (by with_reducible assumption) (by with_reducible assumption) (by with_reducible assumption) (by with_reducible assumption) _) ?tB ?tF ?tX ?tN ?tT ?tXB ?tTB ?tD ?t0 ?tk ?td ?tu ?_); walk_at "mine usedT"; intro v9 g9 h9 tk9 hv9 T9 F9 N9 B9 X9 P9 D9; (try dsimp only at hv9); obtain ⟨t9, e9⟩ := hv9; subst e9; (try k_lift B9); (try k_sweep)))
local macro_rules | `(tactic| walk_at "call ref") => `(tactic| ((with_reducible show wpAny _ _ (call (Value.ref 194) [Value.bytes _ _, Value.bool false] _) _ _ _); k_dflt (refine' TellsT.use (tells_said_not _ _ _ _ (by with_reducible assumption) (by with_reducible assumption) (by with_reducible assumption) (by with_reducible assumption) (by with_reducible assumption) (by with_reducible assumption) (by with_reducible assumption) _) ?tB ?tF ?tX ?tN ?tT ?tXB ?tTB ?tD ?t0 ?tk ?td ?tu ?_); walk_at "mine usedT"; intro v9 g9 h9 tk9 hv9 T9 F9 N9 B9 X9 P9 D9; (try dsimp only at hv9); obtain ⟨t9, e9⟩ := hv9; subst e9; (try k_lift B9); (try k_sweep)))
local macro_rules | `(tactic| walk_at "call ref") => `(tactic| ((with_reducible show wpAny _ _ (call (Value.ref 94) [Value.bytes _ _] _) _ _ _); k_dflt (refine' Tells.use (tells_hash _ (by walk_at "mine size") _) ?tB ?tF ?tX ?tN ?tT ?tk ?td ?tu ?_); walk_at "mine used"; intro v9 h9 tk9 hv9 F9 N9; (try dsimp only at hv9); obtain ⟨t9, e9⟩ := hv9; subst e9; (try k_sweep)))
local macro_rules | `(tactic| walk_at "call ref") => `(tactic| ((with_reducible show wpAny _ _ (call (Value.ref 138) [Value.bytes _ _] _) _ _ _); k_dflt (refine' Tells.use (tells_decode _ _ _ (by with_reducible assumption) (by with_reducible assumption) (by with_reducible assumption) (by with_reducible assumption) (by with_reducible assumption) (by with_reducible assumption) _) ?tB ?tF ?tX ?tN ?tT ?tk ?td ?tu ?_); walk_at "mine used"; intro v9 h9 tk9 hv9 F9 N9; (try dsimp only at hv9); obtain ⟨t9, e9⟩ := hv9; subst e9; (try k_sweep)))
local macro_rules | `(tactic| walk_at "call ref") => `(tactic| ((with_reducible show wpAny _ _ (call (Value.ref 152) [Value.bytes _ _, Value.int _ _] _) _ _ _); k_dflt (refine' Tells.use (tells_dec_sized _ _ _ (by with_reducible assumption) (by with_reducible assumption) (by with_reducible assumption) (by with_reducible assumption) (by with_reducible assumption) (by with_reducible assumption) _ _ _) ?tB ?tF ?tX ?tN ?tT ?tk ?td ?tu ?_); walk_at "mine used"; intro v9 h9 tk9 hv9 F9 N9; (try dsimp only at hv9); obtain ⟨t9, e9⟩ := hv9; subst e9; (try k_sweep)))
local macro_rules | `(tactic| walk_at "call ref") => `(tactic| ((with_reducible show wpAny _ _ (call (Value.ref 159) [Value.int _ _] _) _ _ _); k_dflt (refine' Tells.use (tells_text_of _ (by with_reducible assumption) _) ?tB ?tF ?tX ?tN ?tT ?tk ?td ?tu ?_); walk_at "mine used"; intro v9 h9 tk9 hv9 F9 N9; (try dsimp only at hv9); obtain ⟨t9, e9⟩ := hv9; subst e9; (try k_sweep)))
local macro_rules | `(tactic| walk_at "call builtin:str.encode") => `(tactic| (k_here; (with_reducible show wpAny _ _ (call (Value.builtin _) [Value.str _ _, Value.str _ _]) _ _ _); k_dflt (refine do_encode (by with_reducible assumption) (by walk_at "mine size") ?_); intro _ _; walk_at "mine told"))
local macro_rules | `(tactic| walk_at "mine told") => `(tactic| first | (rw [text_bytes]) | (rename TldAs _ _ => hto'; rw [hto'.eq]))
local macro_rules | `(tactic| walk_at "compareOp NotEq bytes bytes") => `(tactic| (k_here; (with_reducible refine ne_same (by with_reducible rfl) ?_)))
local macro_rules | `(tactic| walk_at "compareOp Eq bytes bytes") => `(tactic| (k_here; (with_reducible refine eq_same (by with_reducible rfl) ?_)))
local macro_rules | `(tactic| walk_at "compareOp NotEq int int") => `(tactic| (k_here; (with_reducible refine ne_int_same ?_)))
local macro_rules | `(tactic| walk_at "binaryOp Add str str") => `(tactic| (k_here; (with_reducible refine do_sadd (by walk_at "mine size") ?_); intro _ _ _))
local macro_rules | `(tactic| walk_at "subscriptTail") => `(tactic| (k_here; (first | (with_reducible show wpAny _ _ (subscriptTail _ (Expr.Slice _ _ none _) (Value.bytes (_ ++ _) _) (Value.ref _)) _ _ _) | (with_reducible show wpAny _ _ (subscriptTail _ (Expr.Slice _ _ none _) (Value.bytes (mixF _) _) (Value.ref _)) _ _ _)); (with_reducible rename Fr _ _ _ _ => F'); (with_reducible rename News _ _ _ _ => N'); k_dflt (refine do_slice (s := ⟨_, _, _, _, _⟩) F' N' (by constructor) (by constructor) (by walk_at "mine size") ?_); intro _ _ _ _ _ _; walk_at "mine sliced"))
local macro_rules | `(tactic| walk_at "mine sliced") => `(tactic| first | (rw [pick_front _ _ (by with_reducible assumption)]) | (rw [pick_back _ _ (by with_reducible assumption)]) | (rename sumF _ = _ => hs'; unfold sumF at hs'; rw [hs']))
local macro_rules | `(tactic| walk_at "mine sliced") => `(tactic| first | (rw [pick_back3' _ _ _ (by with_reducible assumption)]) | (rw [pick_back4' _ _ _ (by with_reducible assumption)]) | (with_reducible rename KBy.picked _ _ _ = _ => hs'; rw [hs']))
local macro_rules | `(tactic| walk_at "subscriptTail") => `(tactic| (k_here; (with_reducible show wpAny _ _ (subscriptTail _ _ (Value.bytes (_ ++ (#[_] ++ _)) _) (Value.int _ _)) _ _ _); k_dflt (refine do_item4 (by with_reducible assumption) (by omega) ?_); intro _ _))
local macro_rules | `(tactic| walk_at "binaryOp BitXor int int") => `(tactic| (k_here; k_dflt (refine do_flip ?_); intro _ _))
local macro_rules | `(tactic| walk_at "binaryOp Add bytes bytes") => `(tactic| (k_here; (rw [byte_one]); (refine do_add (by walk_at "mine size") ?_); intro _ _ _))
local macro_rules | `(tactic| walk_at "compareOp Eq str str") => `(tactic| (k_here; (with_reducible refine eq_str_by ?se ?_); (case se => first | (with_reducible rfl) | exact said_same _ _)))

local macro_rules | `(tactic| walk_at "binaryOp Mult str int") => `(tactic| (k_here; (with_reducible show wpAny _ _ (binaryOp _ (Value.str _ _) (Value.int _ _)) _ _ _); (with_reducible refine do_onesK (by with_reducible assumption) (by with_reducible assumption) ?_); intro _ _ _))
theorem byte_one' (y : UInt8) : (List.map (fun (n : Int) => n.toNat.toUInt8) [((y.toNat : Nat) : Int)]).toArray = #[y] := byte_one y
theorem one_byte (y : UInt8) : ∀ n ∈ [((y.toNat : Nat) : Int)], 0 ≤ n ∧ n < 256 := by
  intro n hn
  rw [List.mem_singleton.mp hn]
  have := y.toNat_lt
  omega
local macro_rules | `(tactic| walk_at "call type:bytes") => `(tactic| (k_here; (with_reducible show wpAny _ _ (call (Value.type _) [Value.ref _]) _ _ _); k_dflt (refine' bytes_K ?F ?N ?l ?i ?r ?z ?h ?_; (case F => k_asm); (case N => k_asm); (case l => is_list); (case i => first | l_ints | l_intsW); (case r => exact one_byte _); (case z => first | size_fits | (simp only [sizeLine_eq, List.length_cons, List.length_nil]; decide)); (case h => with_unfolding_all rfl); k_whole); intro h' t' k' F' N' hB'; clear hB'; (rw [byte_one']); (try k_sweep)))
theorem tells_ency (p d c : Array UInt8) (hp : p.size ≤ 33) (hs : sumF p = d) (h : encF (p ++ d) = c) (t : Tok) : TellsS 4 116 [.bytes p t] [] (fun v => ∃ t', v = .bytes c t') := by
  rw [← h, ← hs]
  exact tells_enc p hp t
theorem tells_sums (n : Int) (h0 : 0 ≤ n) (h1 : n < 1152921504606846976) (t : Tok) : TellsST 6 211 [.int n t] [] (fun v => v = .bool true) := by
  have f12 := fmod_lo n (show (0 : Int) < 12 by decide)
  have g12 := fmod_hi n (show (0 : Int) < 12 by decide)
  have hpz : (byteArr (List.map (fun k' => (n.fdiv 3 + 5 * k').fmod 256) (rangeKs 0 (n.fmod 12 - 0).toNat))).size ≤ 11 := by
    rw [byteArr_size, List.length_map, rangeKs_length]
    omega
  unfold TellsST
  k_fill
  intro w mean mg mb dp un gd cn cs a ccd cl outer A₀ base g₀ h₀ L m news s Q E B F X N T XB TB D T0 hk hd hu hret
  k_with_none
  walk_at "mine enterCS"
  refine wpS_execs_any ?_
  k_steps
  with_reducible rename Fr _ _ _ _ => F1
  generalize byteArr (List.map (fun k' => (n.fdiv 3 + 5 * k').fmod 256) (rangeKs 0 (n.fmod 12 - 0).toNat)) = p at hpz F1 ⊢
  obtain ⟨x, r, hs, hr⟩ := four_split (sumF p) (sumF_size p)
  have hd4 : (#[x] ++ r).size = 4 := by rw [Array.size_append, hr]; rfl
  have hmx : (mixF (mixF p)).size ≤ 1000000 := by rw [mixF_size]; decide
  have hws : (p ++ (#[x] ++ r)).size ≤ 15 := by rw [Array.size_append, hd4]; omega
  obtain ⟨k, hw1, hw2, hw3⟩ := bytes_told (p ++ (#[x] ++ r))
  have hcle := cutZ_le 0 (p ++ (#[x] ++ r))
  have hN := fromBE_300 (b := p ++ (#[x] ++ r)) (by omega)
  have hE := enc_told k (fromBE (p ++ (#[x] ++ r)).toList)
  rw [← hw1] at hE
  have hDD := dec_enc (p ++ (#[x] ++ r))
  have hbad := enc_good (p ++ (#[x] ++ r))
  have hsz := enc_size (b := p ++ (#[x] ++ r)) (by omega)
  have hki : (((p ++ (#[x] ++ r)).size : Nat) : Int) - (((cutZ 0 (p ++ (#[x] ++ r))).size : Nat) : Int) = ((k : Nat) : Int) := by omega
  have hk1000 : k ≤ 1000 := by omega
  have hsX : KBy.picked (mixF (mixF p)) none (some 4) = #[x] ++ r := hs
  have hy := (xor_byte x).2
  have hd4' : (#[x ^^^ 1] ++ r).size = 4 := by rw [Array.size_append, hr]; rfl
  have hne : (#[x ^^^ 1] ++ r) ≠ #[x] ++ r := by
    intro q
    have q2 := congrArg (fun a => a.toList.head?) q
    simp at q2
    exact hy q2
  have hOs2 : (p ++ #[x ^^^ 1] ++ r).size ≤ 37 := by rw [Array.size_append, Array.size_append, hr]; show p.size + 1 + 3 ≤ 37; omega
  have hDD2 := dec_enc (p ++ #[x ^^^ 1] ++ r)
  have hbad2 := enc_good (p ++ #[x ^^^ 1] ++ r)
  have hsz3 := enc_size (b := p ++ #[x ^^^ 1] ++ r) (by omega)
  obtain ⟨tx2, htx2⟩ : ∃ y, encF (p ++ #[x ^^^ 1] ++ r) = y := ⟨_, rfl⟩
  rw [htx2] at hDD2 hbad2 hsz3
  have hDD3 : decF tx2 = p ++ (#[x ^^^ 1] ++ r) := by rw [hDD2, Array.append_assoc]
  have hsz4 : tx2.size ≤ 112 := by omega
  have hp1 : (p ++ #[x ^^^ 1]).size ≤ 37 := by rw [Array.size_append]; show p.size + 1 ≤ 37; omega
  have hh1 : (hexStr (#[x ^^^ 1] ++ r)).length ≤ 64 := by rw [hexStr_length]; omega
  have hh2 : (hexStr (#[x] ++ r)).length ≤ 64 := by rw [hexStr_length]; omega
  have hl20 : (Str.ofString "invalid checksum: 0x").length = 20 := by decide
  have hl14 : (Str.ofString " instead of 0x").length = 14 := by decide
  refine wpS_execs_any ?_
  k_steps
  obtain ⟨tx, htx⟩ : ∃ y, encF (p ++ (#[x] ++ r)) = y := ⟨_, rfl⟩
  rw [htx] at hE hDD hbad hsz
  have hsz2 : tx.size ≤ 112 := by omega
  have hp100 : p.size ≤ 100 := by omega
  refine wpS_execs_cons (S_Assign (S_Call ?_))
  k_steps
  walk_at "mine with"
  k_steps
  refine' TellsS.use (tells_ency _ _ _ (by omega) hs htx _) ?tB ?tF ?tX ?tN ?tT ?tk ?td ?tu ?_
  walk_at "mine used"
  intro v9 h9 tk9 hv9 F9 N9
  obtain ⟨t9, rfl⟩ := hv9
  try dsimp only
  try k_sweep
  k_steps
  have hT : TldAs (ones k ++ (if fromBE (p ++ (#[x] ++ r)).toList = 0 then Str.ofString "" else textOf (fromBE (p ++ (#[x] ++ r)).toList))) tx := by
    refine ⟨?_⟩
    rw [bytes_append, ones_bytes, hE]
    split
    · rw [show (Str.ofString "").cps = #[] from by decide, Array.map_empty]
    · rw [text_bytes]
  have hC : Clean (ones k ++ (if fromBE (p ++ (#[x] ++ r)).toList = 0 then Str.ofString "" else textOf (fromBE (p ++ (#[x] ++ r)).toList))) := by
    refine clean_append (ones_clean k) ?_
    split
    · intro c hc; exact absurd hc (by show c ∉ (#[] : Array Nat); simp)
    · exact text_clean _
  have hol := ones_length k
  have hln := text_length hN
  have hk37 : k ≤ 37 := by omega
  by_cases hN0 : fromBE (p ++ (#[x] ++ r)).toList = 0
  · rw [if_pos hN0] at hT hC
    have hLs : (ones k ++ Str.ofString "").length ≤ 1000 := by show ((ones k).cps ++ _).size ≤ 1000; rw [Array.size_append]; show (ones k).length + 0 ≤ 1000; omega
    have hcz : (cutZ 0 (p ++ (#[x] ++ r))).size = 0 := hw3.mpr hN0
    refine wpS_execs_any ?_
    k_steps
    refine wpS_execs_any ?_
    k_steps
    refine wpS_execs_any ?_
    k_steps
    refine wpS_execs_cons (S_Assign (S_Call ?_))
    k_steps
    walk_at "mine with"
    k_steps
    refine' TellsS.use (tells_b58ey _ _ hOs2 htx2 _) ?tB ?tF ?tX ?tN ?tT ?tk ?td ?tu ?_
    walk_at "mine used"
    intro v9 h9 tk9 hv9 F9 N9
    obtain ⟨t9, rfl⟩ := hv9
    try dsimp only
    try k_sweep
    k_steps
    refine wpS_execs_any ?_
    k_steps
    refine wpS_execs_any ?_
    k_steps
    refine wpS_execs_any ?_
    k_steps
    refine' hret _ ?h1 _ _ rfl ?tT ?tF ?tN ?tB ?tX ?tP ?tD
    walk_at "mine backT"
  · rw [if_neg hN0] at hT hC
    have hLs : (ones k ++ textOf (fromBE (p ++ (#[x] ++ r)).toList)).length ≤ 1000 := by show ((ones k).cps ++ _).size ≤ 1000; rw [Array.size_append]; show (ones k).length + (textOf _).length ≤ 1000; omega
    have hcz : (cutZ 0 (p ++ (#[x] ++ r))).size ≠ 0 := fun q => hN0 (hw3.mp q)
    refine wpS_execs_any ?_
    k_steps
    refine wpS_execs_any ?_
    k_steps
    refine wpS_execs_any ?_
    k_steps
    refine wpS_execs_cons (S_Assign (S_Call ?_))
    k_steps
    walk_at "mine with"
    k_steps
    refine' TellsS.use (tells_b58ey _ _ hOs2 htx2 _) ?tB ?tF ?tX ?tN ?tT ?tk ?td ?tu ?_
    walk_at "mine used"
    intro v9 h9 tk9 hv9 F9 N9
    obtain ⟨t9, rfl⟩ := hv9
    try dsimp only
    try k_sweep
    k_steps
    refine wpS_execs_any ?_
    k_steps
    refine wpS_execs_any ?_
    k_steps
    refine wpS_execs_any ?_
    k_steps
    refine' hret _ ?h2 _ _ rfl ?tT ?tF ?tN ?tB ?tX ?tP ?tD
    walk_at "mine backT"
end
section
theorem fresh_L218 : True := by (w_top off; trivial)
theorem callS_full {prog : Program} {w : World} {A : Around} {s : Shared} {R : Result → Shared → Prop} {name : Str} {params : Arguments} {body : List Stmt} {scope : Scope} {dV kV pm cd doc : Value} {a : Addr} {o : Obj} {args : Args} {binds : List (Str × Value)}
    (hroom : A.depth < recursionLimit) (ho : s.heap.get? a = some o) (hdata : o.data = .func { docDef name params body scope pm cd doc with defaults := dV, kwdefaults := kV }) (hlim : s.heap.NoLimit) (hcd : s.heap.CodeRec cd name)
    (hbind : BindsTo s { docDef name params body scope pm cd doc with defaults := dV, kwdefaults := kV } args binds) (hloc : ∀ x ∈ binds, scope.names.lookup x.1 = some .local)
    (hco : scope.isCoroutine = false) (hgen : scope.isGenerator = false) (hk : scope.kind = .function) (hcell : ∀ x ∈ scope.names, x.2 ≠ .cell)
    (h : ∀ L' h₁ tk, Fr s.heap L' h₁ (fun x => binds.reverse.lookup x) →
      wpS (model prog w) (A.deeper (envOf name scope L' a cd)) (execs body (envOf name scope L' a cd)) (fun f s' => R (.ok (.ret (match f with | .ret v => v | _ => .none))) s') (fun _ _ => False) { s with heap := h₁, toks := tk }) :
    codeS (model prog w) A (.call (.ref a) args) R s := by
  obtain ⟨c, oc', vs, tq, hc, hoc, hdc, hq⟩ := hcd
  subst hc
  refine codeS_of_tree rfl ?_
  show wpS _ A.in1 (callAny (.ref a) args) _ _ s
  simp only [callAny]
  refine wpS_bind_any (wpAny_load ho ?_)
  simp only [hdata, callFunction, docDef, hco, hgen]
  refine wpS_bind_any (m := field (.ref c) 1) (wpAny_field hoc hdc hq (wpS_bind_any (wpAny_pure ?_)))
  refine wpS_bind_any (hbind _ _ _ _ ?_)
  refine wpS_bind_any (wpAny_newFunctionEnv hcell hloc (fun h₁ hns hsb => ?_) hk)
  refine wpS_bind_any (wpAny_enterFrame (hlim.fresh _ hsb) hroom (wpS_pure ⟨rfl, codeS_func ?_⟩))
  exact h _ h₁ _ ⟨hns, fun b o e => hsb.extBut b o (Nat.ne_of_lt (Heap.lt_size e)) (Heap.get?_push_of_some _ e), Nat.le_refl _⟩
theorem namedInt (x : Int) : ∃ q, q = x := ⟨x, rfl⟩
/-- the turn's number is set -/
def AtNumber (s₁ : Shared) (L' : Addr) (mk : Int → Tok → Str → Option Value) (nw : List (Addr × Obj)) (f : Flow) (s' : Shared) : Prop :=
  f = .next ∧ ∃ (n : Int) (t : Tok) (h' : Heap) (tk' : Nat), s' = { s₁ with heap := h', toks := tk' } ∧ Fr s₁.heap L' h' (mk n t) ∧ News s₁.heap L' h' nw
theorem oddSigns (i : Nat) : alphB.contains (([48, 73, 79, 108, 43, 47, 32, 0, 255] : List Int).getD (i % 9) 0).toNat.toUInt8 = false ∧ 0 ≤ ([48, 73, 79, 108, 43, 47, 32, 0, 255] : List Int).getD (i % 9) 0 ∧ ([48, 73, 79, 108, 43, 47, 32, 0, 255] : List Int).getD (i % 9) 0 < 256 := by
  have h : ∀ j : Fin 9, alphB.contains (([48, 73, 79, 108, 43, 47, 32, 0, 255] : List Int).getD j.val 0).toNat.toUInt8 = false ∧ 0 ≤ ([48, 73, 79, 108, 43, 47, 32, 0, 255] : List Int).getD j.val 0 ∧ ([48, 73, 79, 108, 43, 47, 32, 0, 255] : List Int).getD j.val 0 < 256 := by decide +kernel
  exact h ⟨i % 9, Nat.mod_lt _ (by decide)⟩
theorem oddAt (x : Int) : alphB.contains (([48, 73, 79, 108, 43, 47, 32, 0, 255] : List Int).getD (x.fmod 9).toNat 0).toNat.toUInt8 = false ∧ 0 ≤ ([48, 73, 79, 108, 43, 47, 32, 0, 255] : List Int).getD (x.fmod 9).toNat 0 ∧ ([48, 73, 79, 108, 43, 47, 32, 0, 255] : List Int).getD (x.fmod 9).toNat 0 < 256 := by
  have e : (x.fmod 9).toNat = (x.fmod 9).toNat % 9 := by
    have := fmod_hi x (show (0 : Int) < 9 by decide)
    have := fmod_lo x (show (0 : Int) < 9 by decide)
    omega
  rw [e]
  exact oddSigns _
theorem refusedAt (k : Nat) (n : Int) (h : alphB.contains n.toNat.toUInt8 = false) : (badOf (Array.replicate k 49 ++ (List.map (fun (n : Int) => n.toNat.toUInt8) [n]).toArray ++ #[122])).size ≠ 0 := by
  have hm : n.toNat.toUInt8 ∈ badOf (Array.replicate k 49 ++ (List.map (fun (n : Int) => n.toNat.toUInt8) [n]).toArray ++ #[122]) := by
    unfold badOf
    rw [Array.mem_filter]
    refine ⟨?_, by rw [h]; rfl⟩
    simp
  intro q
  have := Array.size_pos_of_mem hm
  omega
theorem keep3 {m : Str → Option Value} {l : Addr} (h : ∀ z, z ≠ Str.ofString "number" → z ≠ Str.ofString "mixed" → z ≠ Str.ofString "k" → m z = if z = Str.ofString "script" then some (.ref l) else none) :
    m = fun z => if [Str.ofString "number", Str.ofString "mixed", Str.ofString "k"].contains z then m z else if z = Str.ofString "script" then some (.ref l) else none := by
  funext z
  cases hc : [Str.ofString "number", Str.ofString "mixed", Str.ofString "k"].contains z with
  | true => rfl
  | false =>
    simp only [List.contains_cons, List.contains_nil, Bool.or_false, Bool.or_eq_false_iff, beq_eq_false_iff_ne, ne_eq] at hc
    simp only [Bool.false_eq_true, if_false]
    exact h z hc.1 hc.2.1 hc.2.2
theorem tells_bare' (n : Nat) (z : Int) (hn : n < 2 ^ 256) (h0 : 0 ≤ z) (hz : z < 4) (t u : Tok) : TellsS 4 180 [.int (n : Int) t, .int z u] [] (fun v => v = .bool true) := by
  obtain ⟨y, rfl⟩ := Int.eq_ofNat_of_zero_le h0
  exact tells_bare n y hn (by omega) t u
local macro_rules | `(tactic| walk_at "mine used") => `(tactic| ((case tB => k_asm); (case tF => k_asm); (case tX => k_asm); (case tN => k_asm); (case tT => k_asm); (case tk => first | exact rfl | assumption); (case td => decide); (case tu => decide)))
local macro_rules | `(tactic| walk_at "mine usedT") => `(tactic| ((case tB => k_asm); (case tF => k_asm); (case tX => k_asm); (case tN => k_asm); (case tT => k_asm); (case tXB => assumption); (case tTB => assumption); (case tD => assumption); (case t0 => first | assumption | exact KtsTurn.refl); (case tk => first | exact rfl | assumption); (case td => decide); (case tu => decide)))
local macro_rules | `(tactic| walk_at "call ref") => `(tactic| ((with_reducible show wpAny _ _ (call (Value.ref 173) [Value.int _ _] _) _ _ _); k_dflt (refine' Tells.use (tells_number _ (by with_reducible assumption) (by with_reducible assumption) _) ?tB ?tF ?tX ?tN ?tT ?tk ?td ?tu ?_); walk_at "mine used"; intro v9 h9 tk9 hv9 F9 N9; (try dsimp only at hv9); obtain ⟨k9, t9, hk9, e9⟩ := hv9; subst e9; (try k_sweep)))
local macro_rules | `(tactic| walk_at "call ref") => `(tactic| ((with_reducible show wpAny _ _ (call (Value.ref 187) [Value.bytes _ _] _) _ _ _); k_dflt (refine' TellsT.use (tells_refused _ (by walk_at "mine size") (refusedAt _ _ (by with_reducible assumption)) _) ?tB ?tF ?tX ?tN ?tT ?tXB ?tTB ?tD ?t0 ?tk ?td ?tu ?_); walk_at "mine usedT"; intro v9 g9 h9 tk9 hv9 T9 F9 N9 B9 X9 P9 D9; (try dsimp only at hv9); subst hv9; (try k_lift B9); (try k_sweep)))
local macro_rules | `(tactic| walk_at "call ref") => `(tactic| ((with_reducible show wpAny _ _ (call (Value.ref 206) [Value.int _ _] _) _ _ _); k_dflt (refine' TellsT.use (tells_law_ascii _ (by with_reducible assumption) (by with_reducible assumption) _) ?tB ?tF ?tX ?tN ?tT ?tXB ?tTB ?tD ?t0 ?tk ?td ?tu ?_); walk_at "mine usedT"; intro v9 g9 h9 tk9 hv9 T9 F9 N9 B9 X9 P9 D9; (try dsimp only at hv9); subst hv9; (try k_lift B9); (try k_sweep)))
local macro_rules | `(tactic| walk_at "binaryOp Mult bytes int") => `(tactic| (k_here; (refine do_bmul ?bh1 ?bh2 ?_); (case bh1 => omega); (case bh2 => omega); intro _ _ _))
theorem law_holds : PySem.Challenge.rw_fc5003_01.Holds := Mine.Hd.hd (by
  k_fill
  intro w s₀ s₁ mg mb G Y fa o pm cd doc dV kV ho hd hcd hD hmg hg args vals as hpre hlay hrd hwl hlo
  have KX := kIn_of Y
  have X := (Ground.X G).1
  have V := (Ground.X G).2
  refine Ground.open G ?_
  intro T B D TE TW
  obtain ⟨_, _, M⟩ := bmod_of_top T
  have TA := at_of_top T
  try (obtain ⟨_, _, he, B0⟩ := based_of_top T rfl hmg ho hd; have he' : cd = _ := he; subst he'; clear he)
  clear hmg
  have hdf := Dflts.none hD rfl
  subst hdf
  wrow_args hpre hlay hrd hwl hlo
  rename_i ns _ _ _ _ _ _ _ l vs _ hL _ _ _ hI _ hlen _
  refine wpS_call ?_
  have K0 := below_caller (s₁.heap)
  refine callS_full (binds := [(Str.ofString "script", .ref l)]) (by decide) ho hd (Top.nolimit T) hcd (BindsTo.of_eq rfl) (locs rfl) rfl rfl rfl (by decide) ?_
  clear ho hd hD hcd
  intro L' h₁ tk1 F
  have N := News.nil (h₀ := s₁.heap) (L := L') (h := h₁)
  try dsimp only
  refine wpS_execs_cons (S_For ?_)
  k_steps
  with_reducible rename Fr _ _ _ _ => F6
  with_reducible rename News _ _ _ _ => N6
  with_reducible rename IsRange _ _ _ _ _ _ _ _ => R6
  have N7 := cb_drop (news := []) N6 (fun p hp => nomatch hp)
  refine ForS_go (pos := ⟨0, 0, 0, 0⟩) (n := 3) (fun j m₁ nw => ∃ (u : Str → Option Value), nw = [] ∧ m₁ = fun z => if [Str.ofString "number", Str.ofString "mixed", Str.ofString "k"].contains z then u z else if z = Str.ofString "script" then some (.ref l) else none)
    rfl rfl rfl rfl rfl R6 (by decide) (by decide) F6 N7 ⟨fun _ => none, rfl, ?_⟩ ?_ ?_
  · funext z
    by_cases h1 : z = Str.ofString "script"
    · subst h1; rfl
    · by_cases h2 : z = Str.ofString "number"
      · subst h2; rfl
      · by_cases h3 : z = Str.ofString "mixed"
        · subst h3; rfl
        · by_cases h4 : z = Str.ofString "k"
          · subst h4; rfl
          · simp [h1, h2, h3, h4]
            try exact fun q => h1 q
  · intro j I m₁ nw h7 tk7 tj hj hJ hd7 F8 N8
    obtain ⟨u, rfl, rfl⟩ := hJ
    clear F6 N6 N7 R6
    refine wpS_execs_any ?_
    refine wpAny_mono (Q := AtNumber s₁ L' (fun n t z => if z = Str.ofString "number" then some (.int n t) else if z = Str.ofString "k" then some (.int (0 + (j : Int)) tj) else if [Str.ofString "number", Str.ofString "mixed", Str.ofString "k"].contains z then u z else if z = Str.ofString "script" then some (.ref l) else none) [(I, itObj 0 3 (j + 1))]) (E := fun _ _ => False) ?_ ?_ (fun _ _ x => x.elim)
    · k_steps
      all_goals exact ⟨rfl, _, _, _, _, rfl, by assumption, by assumption⟩
    · rintro f s' ⟨rfl, n, t9, h9, tk9, rfl, F9, N9⟩
      clear F8 N8
      have f1 := fmod_lo n (show (0 : Int) < 1000003 by decide)
      have g1 := fmod_hi n (show (0 : Int) < 1000003 by decide)
      try dsimp only
      refine wpS_execs_any ?_
      k_steps
      with_reducible rename Fr _ _ _ _ => F10
      refine Exists.elim (namedInt ((n.fmod 1000003 + 19 * (0 + (j : Int)) + 1) * 2654435761)) ?_
      intro q hq
      rw [← hq] at F10
      have hq0 : 0 ≤ q := by omega
      have hq1 : q < 1152921504606846976 := by omega
      clear hq
      try dsimp only
      have e3 : q.fdiv 3 = q / 3 := Int.fdiv_eq_ediv_of_nonneg _ (by decide)
      have e11 : q.fdiv 11 = q / 11 := Int.fdiv_eq_ediv_of_nonneg _ (by decide)
      have a3 : 0 ≤ q.fdiv 3 := by omega
      have b3 : q.fdiv 3 < 1152921504606846976 := by omega
      have a11 : 0 ≤ q.fdiv 11 := by omega
      have b11 : q.fdiv 11 < 1152921504606846976 := by omega
      have f5 := fmod_lo (q.fdiv 5) (show (0 : Int) < 4 by decide)
      have g5 := fmod_hi (q.fdiv 5) (show (0 : Int) < 4 by decide)
      have f4 := fmod_lo q (show (0 : Int) < 4 by decide)
      have g4 := fmod_hi q (show (0 : Int) < 4 by decide)
      obtain ⟨hy, hyl, hyh⟩ := oddAt (q.fdiv 7)
      have D0 : KtsDicts (([] : List Env).filterMap (·.frame)) s₁.heap := fun _ hb => nomatch hb
      have T0 : KtsTurn (([] : List Env).filterMap (·.frame)) s₁.heap s₁.heap := KtsTurn.refl
      refine wpS_execs_cons (S_If (S_not (S_plain (S_Call ?_))))
      k_steps
      walk_at "mine with"
      k_steps
      refine' TellsS.use (tells_bare' _ _ (by assumption) f5 g5 _ _) ?tB ?tF ?tX ?tN ?tT ?tk ?td ?tu ?_
      walk_at "mine used"
      intro v9 h9 tk9 hv9 F9 N9
      subst hv9
      try dsimp only
      try k_sweep
      k_steps
      try simp only [Bool.false_eq_true, if_false, Bool.not_true]
      refine wpS_execs_nil ?_
      try dsimp only
      refine wpS_execs_any ?_
      k_steps
      try dsimp only
      refine wpS_execs_cons (S_If (S_or (S_not (wpS_of_any ?_))))
      k_steps
      try simp only [Bool.false_eq_true, if_false, Bool.not_true]
      refine S_or (S_not (S_plain (S_Call ?_)))
      k_steps
      walk_at "mine with"
      k_steps
      refine' TellsST.use (tells_sums _ a11 b11 _) ?tB ?tF ?tX ?tN ?tT ?tXB ?tTB ?tD ?t0 ?tk ?td ?tu ?_
      walk_at "mine usedT"
      intro v9 g9 h9 tk9 hv9 T9 F9 N9 B9 X9 P9 D9
      subst hv9
      try dsimp only
      try k_sweep
      k_steps
      try simp only [Bool.false_eq_true, if_false, Bool.not_true]
      refine S_or_nil ?_
      try simp only [Bool.false_eq_true, if_false, Bool.not_true]
      refine wpS_execs_nil ?_
      try dsimp only
      have N10 := cb_drop (news := [(I, itObj 0 3 (j + 1))]) N9 (fun p hp => by rw [List.mem_singleton.mp hp]; repeat (first | exact List.mem_cons_self .. | apply List.mem_cons_of_mem))
      refine wpS_execs_nil ⟨rfl, _, _, _, _, rfl, Fr_turn T9 F9, News_turn T9 N10, _, rfl, (fun p hp => nomatch hp), _, rfl, keep3 ?_⟩
      intro z z1 z2 z3
      have z4 : [Str.ofString "number", Str.ofString "mixed", Str.ofString "k"].contains z = false := by
        simp [z1, z2, z3]
      simp only [z1, z2, z3, z4, if_false, Bool.false_eq_true]
  · rintro m₁ nw h5 tk5 ⟨u, rfl, rfl⟩ F5 N5
    dsimp only
    refine wpS_execs_cons (S_Return (wpS_of_any ?_))
    k_steps
    show GoodWG _ _ _ _ _ (.ok (.ret (.bool true))) _
    refine GoodW.toG (goodW_bool F5 hg (raisesW_false ?_) ?_)
    · wrow_none_raised
    · first | kc_post | wrow_post)
end
end Mine
end
theorem PySem.Challenge.cw_fc5003_01_holds : PySem.Challenge.rw_fc5003_01.Holds := by
  exact Mine.law_holds
