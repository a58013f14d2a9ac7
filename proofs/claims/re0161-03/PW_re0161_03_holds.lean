import PyProof.Rows.All
import Wide.All
import OpenK.AllK
import Wide.FinOn
import PySem.Challenge.RW_re0161_03
set_option Elab.async false
set_option maxRecDepth 100000
set_option linter.all false
set_option compiler.extract_closed false
namespace Mine
section
open PySem PySem.W PyProof.Rows
local macro_rules | `(tactic| o_head $_:term) => `(tactic| assumption)
theorem pre (_h : (OpenLaw.row PySem.Challenge.rw_re0161_03).Holds) : True := by
  have : (OpenLaw.row PySem.Challenge.rw_re0161_03).Holds := by k_head
  trivial
end
end Mine
namespace Mine
theorem sub_c {α : Type} {a : α} {A B : List α} (h : a ∈ B) (t : ∀ p ∈ A, p ∈ B) : ∀ p ∈ a :: A, p ∈ B := fun p hp => (List.mem_cons.mp hp).elim (fun e => e ▸ h) (t p)
theorem sub_a {α : Type} {A C B : List α} (h : ∀ p ∈ A, p ∈ B) (t : ∀ p ∈ C, p ∈ B) : ∀ p ∈ A ++ C, p ∈ B := fun p hp => (List.mem_append.mp hp).elim (h p) (t p)
theorem sub_n {α : Type} {B : List α} : ∀ p ∈ ([] : List α), p ∈ B := fun _ hp => nomatch hp
theorem sub_r {α : Type} {A : List α} : ∀ p ∈ A, p ∈ A := fun _ hp => hp
theorem sub_t {α : Type} {b : α} {A B : List α} (h : ∀ p ∈ A, p ∈ B) : ∀ p ∈ A, p ∈ b :: B := fun p hp => List.mem_cons_of_mem _ (h p hp)
theorem sub_l {α : Type} {A B C : List α} (h : ∀ p ∈ A, p ∈ B) : ∀ p ∈ A, p ∈ B ++ C := fun p hp => List.mem_append_left _ (h p hp)
theorem sub_s {α : Type} {A B C : List α} (h : ∀ p ∈ A, p ∈ C) : ∀ p ∈ A, p ∈ B ++ C := fun p hp => List.mem_append_right _ (h p hp)
end Mine
namespace Mine
open PySem PySem.W PySem.Spec PySem.Calls PyProof.Rows

section
variable {prog : Program} {w : World} {A : Around} {s : Shared} {env : Env} {h₀ : Heap} {E : Value → Shared → Prop} {Q : Flow → Shared → Prop}

/-- a for with an else arm: what its iterator walks, and what holds between the turns -/
def LoopX (prog : Program) (w : World) (A : Around) (h₀ : Heap) (env : Env) (x : Str) (body orelse : List Stmt) (Q : Flow → Shared → Prop) (E : Value → Shared → Prop) (it : Value) (s₂ : Shared) : Prop :=
  ∃ (I : Addr) (fp wr : List Addr) (n : Nat) (P : Nat → Value → Prop) (St : Nat → Heap → Prop) (m : Str → Option Value) (news : List (Addr × Obj)) (J : Nat → (Str → Option Value) → List (Addr × Obj) → Prop),
    it = .ref I ∧ Walks prog w A I fp wr n P St ∧ env.locals ∉ fp ∧ (∀ b ∈ wr, h₀.get? b = none) ∧ (∀ p ∈ news, p.1 ∉ wr) ∧ St 0 s₂.heap ∧ Fr h₀ env.locals s₂.heap m ∧ News h₀ env.locals s₂.heap news ∧ J 0 m news ∧
    (∀ i v m₁ news₁ s₁ own, (∃ h tk, s₁ = { s₂ with heap := h, toks := tk }) → i < n → P i v → J i m₁ news₁ → (∀ p ∈ news₁, p.1 ∉ wr) → (∀ p ∈ own, p.1 ∈ fp) → (∀ p ∈ own, s₁.heap.get? p.1 = some p.2) → (∀ b ∈ fp, h₀.get? b = none → ∀ o, s₁.heap.get? b = some o → (b, o) ∈ own) → St (i + 1) s₁.heap →
      Fr h₀ env.locals s₁.heap (fun y => if y = x then some v else m₁ y) → News h₀ env.locals s₁.heap (own ++ news₁) →
      wpAny (model prog w) A (execs body env) (LoopStepV h₀ env.locals wr own (J (i + 1)) s₁ (fun v s' => Q (.ret v) s') fun s' => Q .next s') E s₁) ∧
    ∀ h' tk m' news', Fr h₀ env.locals h' m' → News h₀ env.locals h' news' → (∀ p ∈ news', p.1 ∉ wr) → J n m' news' → wpAny (model prog w) A (execs orelse env) Q E { s₂ with heap := h', toks := tk }

theorem For_X {x : Str} {px pos : Pos} {iter : Expr} {body orelse : List Stmt} {m₀ : Str → Option Value} (_F : Fr h₀ env.locals s.heap m₀) (hx : env.kindOf x = some .local)
    (hp : (env.scope.kind == .class || (env.scope.kind == .module && env.locals != env.globals)) = false)
    (h : wpAny (model prog w) A (eval iter env) (fun xv s₁ => wpAny (model prog w) A (pyIter xv) (fun it s₂ => LoopX prog w A h₀ env x body orelse Q E it s₂) E s₁) E s)
    (hs : ∀ x, foldedSetIterable iter env x = pure x := by intro _; rfl)
    (hE : PassesOwn (model prog w) A env E := by passes_own) :
    wpAny (model prog w) A (exec (.For (.Name x px) iter body orelse pos) env) Q E s := by
  refine wpAny_For (wpAny_mono h (fun xv s₁ h₁ => wpAny_mono h₁ (fun it s₂ h₂ => ?_) fun _ _ e => e) fun _ _ e => e) hs
  obtain ⟨I, fp, wr, n, P, St, m, news, J, rfl, W, hLf, hwr, hnw, hst, F, N, h0, step, hQ⟩ := h₂
  have hLw : env.locals ∉ wr := fun h => hLf (W.sub _ h)
  have old : ∀ b o, h₀.get? b = some o → b ∉ wr := fun b o e hb => by rw [hwr b hb] at e; cases e
  refine codeAny_forLoop
    (fun k s' => ∃ h' tk m' news' i, s' = { s₂ with heap := h', toks := tk } ∧ St i h' ∧ Fr h₀ env.locals h' m' ∧ News h₀ env.locals h' news' ∧ (∀ p ∈ news', p.1 ∉ wr) ∧ J i m' news' ∧ i ≤ n ∧ k = n + 1 - i) ?_ (n + 1)
    ⟨s₂.heap, s₂.toks, m, news, 0, rfl, hst, F, N, hnw, h0, Nat.zero_le _, rfl⟩
  rintro k s' ⟨h', tk, m', news', i, rfl, hst', F', N', hnw', hJ, hi, rfl⟩
  have next : ∀ h₁ : Heap, (∀ b o, b ∉ wr → h'.get? b = some o → h₁.get? b = some o) → Fr h₀ env.locals h₁ m' ∧ News h₀ env.locals h₁ news' := fun h₁ hk₁ =>
    ⟨⟨F'.ns.at' fun o e => hk₁ _ o hLw e, fun b o e => hk₁ b o (old b o e) (F'.keep b o e), F'.above⟩, fun p hp => ⟨hk₁ _ _ (hnw' p hp) (N' p hp).1, (N' p hp).2⟩⟩
  by_cases hlt : i < n
  · refine W.item i _ _ _ hlt hst' fun v h₁ tk₁ hP hst₁ hk₁ => ?_
    obtain ⟨F₁, N₁⟩ := next h₁ hk₁
    refine wpAny_assign_Name (wpAny_storeName_local hx F₁.ns (fun h₂ hn₂ hs₂ => ?_) hp)
    have F₂ := F₁.set hn₂ hs₂
    have Nown : News h₀ env.locals h₂ (ownOf h₀ fp h₂) := news_ownOf hLf
    have hst₂ : St (i + 1) h₂ := W.frame _ _ _ hst₁ fun b hb o e => (hs₂.2 b fun q => hLf (q ▸ hb)).trans e
    refine wpAny_mono (wpAny_passesOwn hE (step i v m' news' _ (ownOf h₀ fp h₂) ⟨_, _, rfl⟩ hlt hP hJ hnw' ownOf_sub (fun p hp => (Nown p hp).1) (fun b hb hn o e => mem_ownOf hb hn e) hst₂ F₂ (Nown.append (N₁.set hs₂)))) (fun f s₃ h₃ => ?_) fun _ _ e => e
    cases f with
    | ret v => exact h₃
    | brk => exact h₃
    | cont =>
      obtain ⟨_, h₃', tk₃, m₂, news₂, rfl, F₃, N₃, ha₃, hJ₃⟩ := h₃
      refine ⟨n + 1 - (i + 1), by omega, h₃', tk₃, m₂, news₂, i + 1, rfl, ?_, F₃, N₃.right, ha₃, hJ₃, hlt, rfl⟩
      refine W.frame _ _ _ hst₁ fun b hb o e => ?_
      have e₂ : h₂.get? b = some o := (hs₂.2 b fun q => hLf (q ▸ hb)).trans e
      cases hn : h₀.get? b with
      | some o₀ =>
        have : o₀ = o := by have := F₂.keep b o₀ hn; rw [e₂] at this; exact (Option.some.inj this).symm
        exact this ▸ F₃.keep b o₀ hn
      | none => exact (N₃ _ (List.mem_append_left _ (mem_ownOf hb hn e₂))).1
    | next =>
      obtain ⟨_, h₃', tk₃, m₂, news₂, rfl, F₃, N₃, ha₃, hJ₃⟩ := h₃
      refine ⟨n + 1 - (i + 1), by omega, h₃', tk₃, m₂, news₂, i + 1, rfl, ?_, F₃, N₃.right, ha₃, hJ₃, hlt, rfl⟩
      refine W.frame _ _ _ hst₁ fun b hb o e => ?_
      have e₂ : h₂.get? b = some o := (hs₂.2 b fun q => hLf (q ▸ hb)).trans e
      cases hn : h₀.get? b with
      | some o₀ =>
        have : o₀ = o := by have := F₂.keep b o₀ hn; rw [e₂] at this; exact (Option.some.inj this).symm
        exact this ▸ F₃.keep b o₀ hn
      | none => exact (N₃ _ (List.mem_append_left _ (mem_ownOf hb hn e₂))).1
  · have hin : i = n := by omega
    subst hin
    refine W.done _ _ _ hst' fun h₁ tk₁ hk₁ => ?_
    obtain ⟨F₁, N₁⟩ := next h₁ hk₁
    exact wpAny_passesOwn hE (hQ h₁ tk₁ m' news' F₁ N₁ hnw' hJ)

/-- what a turn of a loop hands on: the iterator lies as it lay, the rest is J's -/
def TurnEnd (h₀ : Heap) (L : Addr) (I : Addr) (it : Obj) (J : (Str → Option Value) → List (Addr × Obj) → Prop) (s₁ s₂ : Shared) : Prop :=
  ∃ h' tk m' nx, s₂ = { s₁ with heap := h', toks := tk } ∧ Fr h₀ L h' m' ∧ News h₀ L h' ((I, it) :: nx) ∧ (∀ p ∈ nx, p.1 ≠ I) ∧ J m' nx
def TurnPost (h₀ : Heap) (L : Addr) (I : Addr) (it : Obj) (J : (Str → Option Value) → List (Addr × Obj) → Prop) (s₁ : Shared) (Q : Flow → Shared → Prop) (f : Flow) (s₂ : Shared) : Prop :=
  match f with
  | .ret v => Q (.ret v) s₂
  | .brk => Q .next s₂
  | .cont => TurnEnd h₀ L I it J s₁ s₂
  | .next => TurnEnd h₀ L I it J s₁ s₂

theorem range_Y {r : Addr} {a₀ b₀ : Int} {t₀ u₀ v₀ : Tok} {n : Nat} {m₀ : Str → Option Value} {news : List (Addr × Obj)} {x : Str} {body orelse : List Stmt} (J : Nat → (Str → Option Value) → List (Addr × Obj) → Prop)
    (hh : A.handled = none) (hr : IsRange s.heap r a₀ b₀ 1 t₀ u₀ v₀) (hsmall : Builtin.Range.small a₀ b₀ 1 = true) (hn : Builtin.Range.rangeSize a₀ b₀ 1 = (n : Int)) (F : Fr h₀ env.locals s.heap m₀) (N : News h₀ env.locals s.heap news) (h0 : J 0 m₀ news)
    (turn : ∀ i t m₁ nx h tk I it, i < n → J i m₁ nx → (∀ p ∈ nx, p.1 ≠ I) → it.cls = .type "range_iterator" → (∃ k l : Int, it.data = .fields #[rawInt k, rawInt l, rawInt 1]) → Fr h₀ env.locals h (fun y => if y = x then some (.int (a₀ + (i : Int)) t) else m₁ y) → News h₀ env.locals h ((I, it) :: nx) →
      wpAny (model prog w) A (execs body env) (TurnPost h₀ env.locals I it (J (i + 1)) { s with heap := h, toks := tk } Q) E { s with heap := h, toks := tk })
    (done : ∀ m₁ nx h tk, J n m₁ nx → Fr h₀ env.locals h m₁ → News h₀ env.locals h nx → wpAny (model prog w) A (execs orelse env) Q E { s with heap := h, toks := tk }) :
    wpAny (model prog w) A (pyIter (.ref r)) (fun it s₂ => LoopX prog w A h₀ env x body orelse Q E it s₂) E s := by
  refine wpAny_pyIter_range hr hsmall ?_
  have W : Walks prog w A s.heap.objs.size [s.heap.objs.size] [s.heap.objs.size] n (fun i v => i < n ∧ ∃ t, v = .int (a₀ + i * 1) t)
      (fun i h => IsRangeIter h s.heap.objs.size (a₀ + (i : Nat) * 1) ((n : Int) - (i : Nat)) 1) := (Walks.range hh _ a₀ 1 n).bound
  have hnew := next_is_new F
  refine ⟨_, _, _, n, _, _, m₀, news, J, rfl, W, ?_, ?_, ?_, (by show IsRangeIter _ _ _ _ _; rw [hn]; simpa using Heap.get?_push_size _ rfl), F.push _, (fun p hp => ⟨Heap.get?_push_of_some _ (N p hp).1, (N p hp).2⟩), h0, ?_, ?_⟩
  · intro hm
    exact absurd F.ns.lt ((List.mem_singleton.mp hm) ▸ Nat.lt_irrefl _)
  · intro b hb
    rw [List.mem_singleton.mp hb]
    exact hnew
  · intro p hp hI
    exact absurd (Heap.lt_size (N p hp).1) ((List.mem_singleton.mp hI) ▸ Nat.lt_irrefl _)
  · rintro i v m₁ news₁ s₁ own ⟨hh', tk', rfl⟩ hin ⟨_, t, rfl⟩ hJ hoff hown hget hall hst F₁ N₁
    have hst' : hh'.get? s.heap.objs.size = some { cls := .type "range_iterator", dict := none, data := .fields #[rawInt (a₀ + ((i + 1 : Nat) : Int) * 1), rawInt ((n : Int) - ((i + 1 : Nat) : Int)), rawInt 1], slots := #[] } := hst
    generalize hito : ({ cls := .type "range_iterator", dict := none, data := .fields #[rawInt (a₀ + ((i + 1 : Nat) : Int) * 1), rawInt ((n : Int) - ((i + 1 : Nat) : Int)), rawInt 1], slots := #[] } : Obj) = ito at hst'
    have hic : ito.cls = .type "range_iterator" := hito ▸ rfl
    have hid : ∃ k l : Int, ito.data = .fields #[rawInt k, rawInt l, rawInt 1] := hito ▸ ⟨_, _, rfl⟩
    have hmem := hall s.heap.objs.size (List.mem_singleton.mpr rfl) hnew _ hst'
    have e1 : a₀ + (i : Int) * 1 = a₀ + (i : Int) := by rw [Int.mul_one]
    rw [e1] at F₁
    refine wpAny_mono (turn i t m₁ news₁ hh' tk' s.heap.objs.size ito hin hJ (fun p hp e => hoff p hp (List.mem_singleton.mpr e)) hic hid F₁ (fun p hp => ?_)) (fun f s₂ p => ?_) fun _ _ e => e
    · rcases List.mem_cons.mp hp with rfl | hp
      · exact N₁ _ (List.mem_append_left _ hmem)
      · exact N₁ _ (List.mem_append_right _ hp)
    · have fin : TurnEnd h₀ env.locals s.heap.objs.size ito (J (i + 1)) { s with heap := hh', toks := tk' } s₂ → LoopStepU h₀ env.locals [s.heap.objs.size] own (J (i + 1)) { s with heap := hh', toks := tk' } .next s₂ := by
        rintro ⟨h', tk, m', nx, rfl, F', N', ho, hJ'⟩
        refine ⟨rfl, h', tk, m', nx, rfl, F', fun p hp => ?_, fun p hp hI => ho p hp (List.mem_singleton.mp hI), hJ'⟩
        rcases List.mem_append.mp hp with hp | hp
        · have h1 : p.1 = s.heap.objs.size := List.mem_singleton.mp (hown p hp)
          have h2 : hh'.get? p.1 = some p.2 := hget p hp
          rw [h1, hst'] at h2
          have h3 : p = (s.heap.objs.size, ito) := Prod.ext h1 (Option.some.inj h2).symm
          rw [h3]; exact N' _ (List.mem_cons_self ..)
        · exact N' _ (List.mem_cons_of_mem _ hp)
      cases f with
      | ret v => exact .ret p
      | brk => exact .brk p
      | next => exact .next (fin p)
      | cont => exact .cont (fin p)
  · rintro h' tk m' news' F' N' _ hJ
    exact done m' news' h' tk hJ F' N'
theorem range_X {r : Addr} {a₀ b₀ : Int} {t₀ u₀ v₀ : Tok} {n : Nat} {m₀ : Str → Option Value} {news : List (Addr × Obj)} {x : Str} {body orelse : List Stmt} (J : Nat → (Str → Option Value) → List (Addr × Obj) → Prop)
    (hh : A.handled = none) (hr : IsRange s.heap r a₀ b₀ 1 t₀ u₀ v₀) (hsmall : Builtin.Range.small a₀ b₀ 1 = true) (hn : Builtin.Range.rangeSize a₀ b₀ 1 = (n : Int)) (F : Fr h₀ env.locals s.heap m₀) (N : News h₀ env.locals s.heap news) (h0 : J 0 m₀ news)
    (turn : ∀ i t m₁ nx h tk I it, i < n → J i m₁ nx → (∀ p ∈ nx, p.1 ≠ I) → it.cls = .type "range_iterator" → Fr h₀ env.locals h (fun y => if y = x then some (.int (a₀ + (i : Int)) t) else m₁ y) → News h₀ env.locals h ((I, it) :: nx) →
      wpAny (model prog w) A (execs body env) (TurnPost h₀ env.locals I it (J (i + 1)) { s with heap := h, toks := tk } Q) E { s with heap := h, toks := tk })
    (done : ∀ m₁ nx h tk, J n m₁ nx → Fr h₀ env.locals h m₁ → News h₀ env.locals h nx → wpAny (model prog w) A (execs orelse env) Q E { s with heap := h, toks := tk }) :
    wpAny (model prog w) A (pyIter (.ref r)) (fun it s₂ => LoopX prog w A h₀ env x body orelse Q E it s₂) E s :=
  range_Y J hh hr hsmall hn F N h0 (fun i t m₁ nx h tk I it h1 h2 h3 h4 _ h5 h6 => turn i t m₁ nx h tk I it h1 h2 h3 h4 h5 h6) done
end
end Mine
namespace Mine
open PySem PySem.W PySem.Spec PySem.Calls PyProof.Rows
theorem know {m : Str → Option Value} {x : Str} {v : Value} (hm : m x = some v) : m = fun y => if y = x then some v else m y := by
  funext y
  by_cases h : y = x
  · rw [if_pos h, h, hm]
  · rw [if_neg h]
end Mine
namespace Mine
open PySem PySem.W PySem.Spec PySem.Calls PyProof.Rows
structure CutP {α : Type} (V : α → Prop) (s : Shared) (v : α) (s' : Shared) : Prop where
  val : V v
  st : ∃ tk, s' = { s with toks := tk }
theorem CutP.of {α : Type} {V : α → Prop} {s : Shared} {v : α} {tk : Nat} (h : V v) : CutP V s v { s with toks := tk } := ⟨h, tk, rfl⟩
theorem wp_cut {α : Type} {M : Model} {A : Around} {t : Sem α} {Q : α → Shared → Prop} {E : Value → Shared → Prop} {s : Shared} (V : α → Prop) (h1 : wpAny M A t (CutP V s) E s) (h2 : ∀ v tk, V v → Q v { s with toks := tk }) : wpAny M A t Q E s :=
  wpAny_mono h1 (fun v _ ⟨hv, tk, e⟩ => e ▸ h2 v tk hv) fun _ _ e => e

section
variable {prog : Program} {w : World} {A : Around} {E : Value → Shared → Prop} {s : Shared} {h₀ : Heap} {L D : Addr} {m : Str → Option Value} {news news' : List (Addr × Obj)}
theorem append_M {vs : List Value} {x : Value} {Q : Value → Shared → Prop} (F : Fr h₀ L s.heap m) (N : News h₀ L s.heap news) (U : Upd D (listOf vs.toArray vs.length) (listOf (vs ++ [x]).toArray (vs ++ [x]).length) news news') (hsz : vs.length ≤ 100000)
    (h : ∀ h', Fr h₀ L h' m → News h₀ L h' news' → Q .none { s with heap := h' }) : wpAny (model prog w) A (call (.builtin "list.append") [.ref D, x]) Q E s := by
  have e : listOf (vs ++ [x]).toArray (vs ++ [x]).length = listOf (vs.toArray.push x) (vs.length + 1) := by simp
  rw [e] at U
  exact append_K F N U h (by rw [List.size_toArray, sizeLine_eq]; omega)
end
end Mine
namespace Mine
open PySem PySem.W PySem.Spec PySem.Calls PyProof.Rows
/-- what a def does, for every caller: from a ledger, an answer and a ledger behind it -/
abbrev Con (prog : Program) (w : World) (K : Frag) (p : Program) (loose : List Str) (mean : ExcName → Option Value) (mg mb : Str → Option Value) (dd uu : Nat) (f : Addr) (news : List (Addr × Obj)) (pre : Prop) (vs : List Value) (kw : List (Str × Value)) (post : Value → List (Addr × Obj) → Prop) : Prop :=
  ∀ {dp un : Nat} {gd : Option (List Code)} {cn : Str} {cs : Scope} {a : Addr} {ccd : Value} {cl : List (Str × Addr)} {outer : List Env} {A₀ : Around} {base h₀ : Heap} {L : Addr} {m : Str → Option Value} {s : Shared} {Q E : Value → Shared → Prop},
    Below A₀ base outer h₀ → Fr h₀ L s.heap m → K.In h₀ → News h₀ L s.heap news → Top topProg loose mean mg mb h₀ → Flt.MathXP p mg h₀ → cs.kind = .function → pre → dp + dd < recursionLimit → un + uu < cLine →
    (∀ r nw h' tk', Fr h₀ L h' m → News h₀ L h' nw → post r nw → Q r { s with heap := h', toks := tk' }) →
    wpAny (model prog w) (ktrTop dp un gd cn cs L a ccd cl outer) (call (.ref f) vs kw) Q E s
theorem news_sub {h₀ h : Heap} {L : Addr} {news news' : List (Addr × Obj)} (N : News h₀ L h news') (hs : ∀ p ∈ news, p ∈ news') : News h₀ L h news := fun p hp => N p (hs p hp)
end Mine
namespace Mine
open PySem PySem.W PySem.Spec PySem.Calls PyProof.Rows
theorem fr_gen {h₀ h : Heap} {L : Addr} {m : Str → Option Value} (F : Fr h₀ L h m) : ∃ m₁, m₁ = m ∧ Fr h₀ L h m₁ := ⟨m, rfl, F⟩
end Mine
namespace Mine
open PySem PySem.W PySem.Spec PySem.Calls PyProof.Rows
section
variable {prog : Program} {w : World} {A : Around} {s : Shared} {env : Env} {h₀ : Heap} {E : Value → Shared → Prop} {Q : Flow → Shared → Prop}
theorem letgo_any {elts : List Expr} {x1 : Nat} {pos : Pos} {I l : Addr} {v : Value} {i : Nat} {s : Shared} {E : Value → Shared → Prop} {Q : Unit → Shared → Prop} (hit : s.heap.IsListIter I l i) (hQ : Q () s) :
    wpAny (model prog w) A (letOwnedTupleGo (.Tuple elts x1 pos) (.ref I) v) Q E s := by
  cases v
  case ref T => exact wpAny_letOwnedTupleGo_listiter hit hQ
  all_goals exact wpAny_pure hQ
theorem list_T {l : Addr} {vs : List Value} {m₀ : Str → Option Value} {news : List (Addr × Obj)} {elts : List Expr} {x1 : Nat} {tpos : Pos} {body : List Stmt} (J : Nat → (Str → Option Value) → List (Addr × Obj) → Prop)
    (hh : A.handled = none) (hl : s.heap.IsList l vs.toArray) (hlL : l ≠ env.locals) (F : Fr h₀ env.locals s.heap m₀) (N : News h₀ env.locals s.heap news) (h0 : J 0 m₀ news)
    (hls : ∀ i m nx h, i ≤ vs.length → J i m nx → (∀ b o, h₀.get? b = some o → h.get? b = some o) → News h₀ env.locals h nx → h.get? l = s.heap.get? l)
    (turn : ∀ i v m₁ nx h tk I it, vs[i]? = some v → J i m₁ nx → (∀ p ∈ nx, p.1 ≠ I) → it.cls = .type "list_iterator" → Fr h₀ env.locals h m₁ → News h₀ env.locals h ((I, it) :: nx) →
      wpAny (model prog w) A (assign (.Tuple elts x1 tpos) env v) (fun _ s₃ => wpAny (model prog w) A (execs body env) (TurnPost h₀ env.locals I it (J (i + 1)) { s with heap := h, toks := tk } Q) E s₃) E { s with heap := h, toks := tk })
    (done : ∀ m₁ nx h tk, J vs.length m₁ nx → Fr h₀ env.locals h m₁ → News h₀ env.locals h nx → Q .next { s with heap := h, toks := tk }) :
    wpAny (model prog w) A (pyIter (.ref l)) (fun it s₂ => TurnsAt prog w A h₀ env (.Tuple elts x1 tpos) body Q E it s₂) E s := by
  obtain ⟨ol, hol, hlc, hld⟩ := id hl
  have hlt : l < s.heap.objs.size := Heap.lt_size hol
  refine wpAny_pyIter_list hl ?_
  have W := Walks.list (prog := prog) (w := w) hh s.heap.objs.size l (Nat.ne_of_lt hlt) vs.toArray
  rw [List.size_toArray] at W
  have KT := KTurns.ofWalks (target := .Tuple elts x1 tpos) W (fun i v s Q E st hQ => letgo_any st.1 hQ)
  have hnew := next_is_new F
  refine ⟨_, _, _, vs.length, _, _, _, m₀, news, fun i m nx => i ≤ vs.length ∧ J i m nx, rfl, KT, ?_, ?_, ?_, ⟨⟨_, Heap.get?_push_size _ rfl, rfl, rfl⟩, hl.push _⟩, F.push _, (fun p hp => ⟨Heap.get?_push_of_some _ (N p hp).1, (N p hp).2⟩), ⟨Nat.zero_le _, h0⟩, ?_, ?_⟩
  · intro hm
    rcases List.mem_cons.mp hm with e | hm
    · exact absurd F.ns.lt (e ▸ Nat.lt_irrefl _)
    · exact hlL (List.mem_singleton.mp hm).symm
  · intro b hb
    rw [List.mem_singleton.mp hb]
    exact hnew
  · intro p hp hI
    exact absurd (Heap.lt_size (N p hp).1) ((List.mem_singleton.mp hI) ▸ Nat.lt_irrefl _)
  · rintro i v m₁ news₁ hh' tk' own hin hP ⟨hile, hJ⟩ hoff hown hget hall ⟨⟨oit, hit, hic, hid⟩, hll⟩ F₁ N₁
    have hmem := hall s.heap.objs.size (List.mem_cons_self ..) hnew _ hit
    have hPv : vs[i]? = some v := by simpa using hP
    refine wpAny_mono (turn i v m₁ news₁ hh' tk' s.heap.objs.size oit hPv hJ (fun p hp e => hoff p hp (List.mem_singleton.mpr e)) hic F₁ (fun p hp => ?_)) (fun _ s₃ p => wpAny_mono p (fun f s₂ p => ?_) fun _ _ e => e) fun _ _ e => e
    · rcases List.mem_cons.mp hp with rfl | hp
      · exact N₁ _ (List.mem_append_left _ hmem)
      · exact N₁ _ (List.mem_append_right _ hp)
    · have fin : TurnEnd h₀ env.locals s.heap.objs.size oit (J (i + 1)) { s with heap := hh', toks := tk' } s₂ → LoopStepU h₀ env.locals [s.heap.objs.size] own (fun m nx => i + 1 ≤ vs.length ∧ J (i + 1) m nx) { s with heap := hh', toks := tk' } .next s₂ := by
        rintro ⟨h', tk, m', nx, rfl, F', N', ho, hJ'⟩
        have hi1 : i + 1 ≤ vs.length := hin
        refine ⟨rfl, h', tk, m', nx, rfl, F', fun p hp => ?_, fun p hp hI => ho p hp (List.mem_singleton.mp hI), hi1, hJ'⟩
        rcases List.mem_append.mp hp with hp | hp
        · have h2 : hh'.get? p.1 = some p.2 := hget p hp
          rcases List.mem_cons.mp (hown p hp) with h1 | h1
          · rw [h1, hit] at h2
            have h3 : p = (s.heap.objs.size, oit) := Prod.ext h1 (Option.some.inj h2).symm
            rw [h3]; exact N' _ (List.mem_cons_self ..)
          · have h1 := List.mem_singleton.mp h1
            have q := hls (i + 1) m' nx h' hi1 hJ' F'.keep (fun p hp => N' p (List.mem_cons_of_mem _ hp))
            have q2 := hls i m₁ news₁ hh' hile hJ F₁.keep (fun p hp => N₁ p (List.mem_append_right _ hp))
            have z := N₁ p (List.mem_append_left _ hp)
            refine ⟨?_, z.2⟩
            rw [h1] at h2 ⊢
            exact q.trans (q2.symm.trans h2)
        · exact N' _ (List.mem_cons_of_mem _ hp)
      cases f with
      | ret v => exact .ret p
      | brk => exact .brk p
      | next => exact .next (fin p)
      | cont => exact .cont (fin p)
  · rintro h' tk m' news' F' N' _ ⟨_, hJ⟩
    exact done m' news' h' tk hJ F' N'
end
end Mine
namespace Mine
open PySem PySem.W PySem.Spec PySem.Calls PyProof.Rows
theorem ne_allLt {d b : Nat} {rest : List (Addr × Obj)} (h : AllLt d rest) (hb : d ≤ b) : ∀ p ∈ rest, p.1 ≠ b :=
  fun p hp => Nat.ne_of_lt (Nat.lt_of_lt_of_le (ktn_ltOf h p hp) hb)
end Mine
set_option linter.unusedSimpArgs false
namespace Mine
open PySem PySem.W PySem.Spec PySem.Calls PyProof.Rows

/-- the word of a place -/
def W (k : Nat) : Str :=
  if k = 0 then Str.ofString "OPTIMIZED" else if k = 1 then Str.ofString "NEWLOCALS" else if k = 2 then Str.ofString "VARARGS" else if k = 3 then Str.ofString "VARKEYWORDS"
  else if k = 4 then Str.ofString "NESTED" else if k = 5 then Str.ofString "GENERATOR" else if k = 6 then Str.ofString "NOFREE" else if k = 7 then Str.ofString "COROUTINE"
  else if k = 8 then Str.ofString "ITERABLE_COROUTINE" else if k = 9 then Str.ofString "ASYNC_GENERATOR" else baseText "0x" 16 ((2 ^ k : Nat) : Int)
def bitsB (n i : Nat) : List Nat := (List.range i).filter (n.testBit ·)
def pfNames (n : Nat) : List Str := if n = 0 then [Str.ofString "0x0"] else (bitsB n 32).map W
def pf (n : Nat) : Str := Txt.join (Str.ofString ", ") (pfNames n)

theorem bitsB_succ (n i : Nat) : bitsB n (i + 1) = bitsB n i ++ (if n.testBit i then [i] else []) := by
  unfold bitsB
  rw [List.range_succ, List.filter_append]
  congr 1
  by_cases h : n.testBit i <;> simp [h]
theorem bitsB_len (n i : Nat) : (bitsB n i).length ≤ i := by
  unfold bitsB
  exact Nat.le_trans (List.length_filter_le _ _) (by simp)
theorem bitsB_of_lt {n i : Nat} (h : n / 2 ^ i = 0) (j : Nat) : bitsB n (i + j) = bitsB n i := by
  induction j with
  | zero => rfl
  | succ j ih =>
    rw [← Nat.add_assoc, bitsB_succ, ih]
    have hlt : n < 2 ^ i := by
      rcases Nat.lt_or_ge n (2 ^ i) with q | q
      · exact q
      · have := Nat.div_pos q (Nat.two_pow_pos i); omega
    have : n.testBit (i + j) = false := Nat.testBit_lt_two_pow (Nat.lt_of_lt_of_le hlt (Nat.pow_le_pow_right (by decide) (Nat.le_add_right i j)))
    simp [this]

theorem shr_bit (n i : Nat) : (n / 2 ^ i * 2 ^ i) &&& 2 ^ i = if n.testBit i then 2 ^ i else 0 := by
  rw [← Nat.shiftRight_eq_div_pow, ← Nat.shiftLeft_eq]
  apply Nat.eq_of_testBit_eq
  intro j
  by_cases hb : n.testBit i
  · rw [if_pos hb]
    by_cases hj : i = j
    · subst hj; simp [Nat.testBit_shiftLeft, Nat.testBit_two_pow, hb]
    · simp [Nat.testBit_two_pow, hj]
  · rw [if_neg hb]
    by_cases hj : i = j
    · subst hj; simp [Nat.testBit_shiftLeft, Nat.testBit_two_pow]; simpa using hb
    · simp [Nat.testBit_two_pow, hj]
theorem shr_next {n i : Nat} (h : n.testBit i = true) : n / 2 ^ i * 2 ^ i = n / 2 ^ (i + 1) * 2 ^ (i + 1) + 2 ^ i := by
  have h1 : n / 2 ^ i % 2 = 1 := by
    have := h
    rw [Nat.testBit_eq_decide_div_mod_eq] at this
    simpa using this
  have h2 : n / 2 ^ (i + 1) = n / 2 ^ i / 2 := by rw [Nat.pow_succ, Nat.div_div_eq_div_mul]
  rw [h2, Nat.pow_succ]
  generalize n / 2 ^ i = q at *
  generalize 2 ^ i = p
  have : q = q / 2 * 2 + 1 := by omega
  rw [show q / 2 * (p * 2) = q / 2 * 2 * p by rw [Nat.mul_comm p 2, Nat.mul_assoc]]
  conv => lhs; rw [this, Nat.add_mul, Nat.one_mul]
theorem shr_next0 {n i : Nat} (h : n.testBit i = false) : n / 2 ^ i * 2 ^ i = n / 2 ^ (i + 1) * 2 ^ (i + 1) := by
  have h1 : n / 2 ^ i % 2 = 0 := by
    have := h
    rw [Nat.testBit_eq_decide_div_mod_eq] at this
    have := of_decide_eq_false this
    omega
  have h2 : n / 2 ^ (i + 1) = n / 2 ^ i / 2 := by rw [Nat.pow_succ, Nat.div_div_eq_div_mul]
  rw [h2, Nat.pow_succ]
  generalize n / 2 ^ i = q at *
  generalize 2 ^ i = p
  have : q = q / 2 * 2 := by omega
  rw [show q / 2 * (p * 2) = q / 2 * 2 * p by rw [Nat.mul_comm p 2, Nat.mul_assoc], ← this]
theorem two_pow_i (i : Nat) : (1 : Int) * 2 ^ (0 + (i : Int)).toNat = ((2 ^ i : Nat) : Int) := by
  rw [Int.one_mul, Int.zero_add, Int.toNat_natCast]; simp
theorem pf_and (n i : Nat) : Builtin.bitAnd ((n / 2 ^ i * 2 ^ i : Nat) : Int) (1 * 2 ^ (0 + (i : Int)).toNat) = if n.testBit i then ((2 ^ i : Nat) : Int) else 0 := by
  rw [two_pow_i, bitAnd_pp (Int.natCast_nonneg _) (Int.natCast_nonneg _)]
  simp only [Int.toNat_natCast]
  rw [shr_bit]
  split <;> rfl
theorem pf_xor {n i : Nat} (h : n.testBit i = true) : Builtin.bitXor ((n / 2 ^ i * 2 ^ i : Nat) : Int) (1 * 2 ^ (0 + (i : Int)).toNat) = ((n / 2 ^ (i + 1) * 2 ^ (i + 1) : Nat) : Int) := by
  rw [bitXor_and, pf_and, if_pos h, two_pow_i, shr_next h]
  push_cast
  omega

theorem W_lo (k : Nat) (h : k < 32) : (W k).length ≤ 18 := by
  revert k; decide +kernel
theorem strsAre_snoc {vs : List Value} {ys : List Str} (h : StrsAre vs ys) (y : Str) (t : Tok) : StrsAre (vs ++ [.str y t]) (ys ++ [y]) := by
  induction h with
  | nil => exact .cons y t .nil
  | cons z u _ ih => exact .cons z u ih
theorem strsAre_len {vs : List Value} {ys : List Str} (h : StrsAre vs ys) : vs.length = ys.length := by
  induction h with
  | nil => rfl
  | cons z u _ ih => rw [List.length_cons, List.length_cons, ih]
theorem sum_le {ys : List Str} {b : Nat} (h : ∀ y ∈ ys, y.length ≤ b) : (ys.map (·.length)).sum ≤ ys.length * b := by
  induction ys with
  | nil => simp
  | cons y r ih =>
    rw [List.map_cons, List.sum_cons, List.length_cons, Nat.succ_mul]
    have := h y (List.mem_cons_self ..)
    have := ih fun z hz => h z (List.mem_cons_of_mem _ hz)
    omega
theorem bits_lt {n i k : Nat} (h : k ∈ bitsB n i) : k < i := by
  have := (List.mem_filter.mp h).1
  simpa using this
theorem words_weight (n i : Nat) (hi : i ≤ 32) : (((bitsB n i).map W).map (·.length)).sum ≤ 32 * 18 := by
  refine Nat.le_trans (sum_le (b := 18) fun y hy => ?_) ?_
  · obtain ⟨k, hk, rfl⟩ := List.mem_map.mp hy
    exact W_lo k (Nat.lt_of_lt_of_le (bits_lt hk) hi)
  · rw [List.length_map]
    have := bitsB_len n i
    omega
theorem hex_fits {i : Nat} (hi : i < 32) : (baseText "0x" 16 (1 * 2 ^ (0 + (i : Int)).toNat)).length ≤ sizeLine := by
  rw [two_pow_i]
  revert i; decide +kernel
end Mine
namespace Mine
open PySem PySem.W PySem.Spec PySem.Calls PyProof.Rows
theorem W_at {i k : Nat} {c : Int} (hc : c = ((2 ^ k : Nat) : Int)) (h : (1 : Int) * 2 ^ (0 + (i : Int)).toNat = c) : W k = W i := by
  rw [two_pow_i, hc] at h
  have h2 : 2 ^ i = 2 ^ k := Int.ofNat.inj h
  have h3 : i = k := by
    rcases Nat.lt_trichotomy i k with q | q | q
    · have := Nat.pow_lt_pow_right (a := 2) (by decide) q; omega
    · exact q
    · have := Nat.pow_lt_pow_right (a := 2) (by decide) q; omega
  rw [h3]
theorem W_hi {i : Nat} (h : 10 ≤ i) : baseText "0x" 16 (1 * 2 ^ (0 + (i : Int)).toNat) = W i := by
  unfold W
  simp only [show i ≠ 0 by omega, show i ≠ 1 by omega, show i ≠ 2 by omega, show i ≠ 3 by omega, show i ≠ 4 by omega, show i ≠ 5 by omega, show i ≠ 6 by omega, show i ≠ 7 by omega, show i ≠ 8 by omega, show i ≠ 9 by omega, if_false]
  rw [two_pow_i]
theorem W_hi' {i : Nat} (h0 : ¬ (1 : Int) * 2 ^ (0 + (i : Int)).toNat = 1) (h1 : ¬ (1 : Int) * 2 ^ (0 + (i : Int)).toNat = 2) (h2 : ¬ (1 : Int) * 2 ^ (0 + (i : Int)).toNat = 4) (h3 : ¬ (1 : Int) * 2 ^ (0 + (i : Int)).toNat = 8)
    (h4 : ¬ (1 : Int) * 2 ^ (0 + (i : Int)).toNat = 16) (h5 : ¬ (1 : Int) * 2 ^ (0 + (i : Int)).toNat = 32) (h6 : ¬ (1 : Int) * 2 ^ (0 + (i : Int)).toNat = 64) (h7 : ¬ (1 : Int) * 2 ^ (0 + (i : Int)).toNat = 128)
    (h8 : ¬ (1 : Int) * 2 ^ (0 + (i : Int)).toNat = 256) (h9 : ¬ (1 : Int) * 2 ^ (0 + (i : Int)).toNat = 512) : baseText "0x" 16 (1 * 2 ^ (0 + (i : Int)).toNat) = W i := by
  apply W_hi
  rcases (by omega : i = 0 ∨ i = 1 ∨ i = 2 ∨ i = 3 ∨ i = 4 ∨ i = 5 ∨ i = 6 ∨ i = 7 ∨ i = 8 ∨ i = 9 ∨ 10 ≤ i) with rfl | rfl | rfl | rfl | rfl | rfl | rfl | rfl | rfl | rfl | h
  all_goals first | exact h | exact absurd (by decide) h0 | exact absurd (by decide) h1 | exact absurd (by decide) h2 | exact absurd (by decide) h3 | exact absurd (by decide) h4 | exact absurd (by decide) h5 | exact absurd (by decide) h6 | exact absurd (by decide) h7 | exact absurd (by decide) h8 | exact absurd (by decide) h9
theorem shr_zero {n i : Nat} (h : n / 2 ^ i * 2 ^ i = 0) : n / 2 ^ i = 0 := by
  rcases Nat.mul_eq_zero.mp h with q | q
  · exact q
  · exact absurd q (Nat.ne_of_gt (Nat.two_pow_pos i))
theorem not_zero_next {n i : Nat} (hz : n = 0 ∨ n / 2 ^ i ≠ 0) (h : n.testBit i = false) : n = 0 ∨ n / 2 ^ (i + 1) ≠ 0 := by
  rcases hz with h0 | h0
  · exact .inl h0
  · refine .inr fun q => h0 (shr_zero ?_)
    rw [shr_next0 h, q, Nat.zero_mul]
theorem bits_all {n i : Nat} (hi : i ≤ 32) (h : n / 2 ^ i = 0) : bitsB n i = bitsB n 32 := by
  have := bitsB_of_lt h (32 - i)
  rw [Nat.add_sub_cancel' hi] at this
  exact this.symm
theorem pf_of_bits {n i : Nat} (hi : i ≤ 32) (h : n / 2 ^ i = 0) (hn : n ≠ 0) : (bitsB n i).map W = pfNames n := by
  unfold pfNames
  rw [if_neg hn, bits_all hi h]
end Mine
namespace Mine
open PySem PySem.W PySem.Spec PySem.Calls PyProof.Rows
theorem W_0 {i : Nat} (h : (1 : Int) * 2 ^ (0 + (i : Int)).toNat = 1) : Str.ofString "OPTIMIZED" = W i := (show W 0 = Str.ofString "OPTIMIZED" from rfl) ▸ W_at (k := 0) (by decide) h
theorem W_1 {i : Nat} (h : (1 : Int) * 2 ^ (0 + (i : Int)).toNat = 2) : Str.ofString "NEWLOCALS" = W i := (show W 1 = Str.ofString "NEWLOCALS" from rfl) ▸ W_at (k := 1) (by decide) h
theorem W_2 {i : Nat} (h : (1 : Int) * 2 ^ (0 + (i : Int)).toNat = 4) : Str.ofString "VARARGS" = W i := (show W 2 = Str.ofString "VARARGS" from rfl) ▸ W_at (k := 2) (by decide) h
theorem W_3 {i : Nat} (h : (1 : Int) * 2 ^ (0 + (i : Int)).toNat = 8) : Str.ofString "VARKEYWORDS" = W i := (show W 3 = Str.ofString "VARKEYWORDS" from rfl) ▸ W_at (k := 3) (by decide) h
theorem W_4 {i : Nat} (h : (1 : Int) * 2 ^ (0 + (i : Int)).toNat = 16) : Str.ofString "NESTED" = W i := (show W 4 = Str.ofString "NESTED" from rfl) ▸ W_at (k := 4) (by decide) h
theorem W_5 {i : Nat} (h : (1 : Int) * 2 ^ (0 + (i : Int)).toNat = 32) : Str.ofString "GENERATOR" = W i := (show W 5 = Str.ofString "GENERATOR" from rfl) ▸ W_at (k := 5) (by decide) h
theorem W_6 {i : Nat} (h : (1 : Int) * 2 ^ (0 + (i : Int)).toNat = 64) : Str.ofString "NOFREE" = W i := (show W 6 = Str.ofString "NOFREE" from rfl) ▸ W_at (k := 6) (by decide) h
theorem W_7 {i : Nat} (h : (1 : Int) * 2 ^ (0 + (i : Int)).toNat = 128) : Str.ofString "COROUTINE" = W i := (show W 7 = Str.ofString "COROUTINE" from rfl) ▸ W_at (k := 7) (by decide) h
theorem W_8 {i : Nat} (h : (1 : Int) * 2 ^ (0 + (i : Int)).toNat = 256) : Str.ofString "ITERABLE_COROUTINE" = W i := (show W 8 = Str.ofString "ITERABLE_COROUTINE" from rfl) ▸ W_at (k := 8) (by decide) h
theorem W_9 {i : Nat} (h : (1 : Int) * 2 ^ (0 + (i : Int)).toNat = 512) : Str.ofString "ASYNC_GENERATOR" = W i := (show W 9 = Str.ofString "ASYNC_GENERATOR" from rfl) ▸ W_at (k := 9) (by decide) h
end Mine
namespace Mine
open PySem PySem.W PySem.Spec PySem.Calls PyProof.Rows
theorem pfNames_weight (n : Nat) : ((pfNames n).map (·.length)).sum + (pfNames n).length ≤ 1048576 := by
  unfold pfNames
  split
  · decide
  · have := words_weight n 32 (Nat.le_refl _)
    have := bitsB_len n 32
    rw [List.length_map]
    omega
end Mine
namespace Mine
open PySem PySem.W PySem.Spec PySem.Calls PyProof.Rows PySem.Builtin.Re
theorem slot_search : Slot "re.Pattern" "search" "re.Pattern.search" :=
  .of (owner := "re.Pattern") (n := "search") (by rw [typeLookup_type, builtinLookup_eq_fast]; kernel_rfl) (by decide +kernel) (by decide +kernel) (by decide +kernel)
    (by first | exact .inl (by decide +kernel) | exact .inr (by decide +kernel)) (by rw [isSubtype_type]; kernel_rfl)
theorem entry_search : entryFor table "re.Pattern.search" = some Builtin.«re.Pattern.search» := entryFor_of_fast (by kernel_rfl)
theorem named1 (x : Str) (t : Tok) : reNamed "re.Pattern.search" "search" ["string", "pos", "endpos"] 1 [.str x t] [] = pure [some (.str x t), none, none] := by rfl

section
variable {prog : Program} {w : World} {A : Around} {E : Value → Shared → Prop} {s : Shared}
theorem rules_only {α : Type} (f : α → PUnit → Sem (ForInStep PUnit)) (hf : ∀ a s (Q : ForInStep PUnit → Shared → Prop), Q (.yield ⟨⟩) s → wpAny (model prog w) A (f a ⟨⟩) Q E s) :
    ∀ (l : List α) {Q : PUnit → Shared → Prop}, Q ⟨⟩ s → wpAny (model prog w) A (forIn l (⟨⟩ : PUnit) f) Q E s
  | [], Q, h => wpAny_pure h
  | a :: l, Q, h => by
    rw [List.forIn_cons]
    refine wpAny_bind (hf a s _ ?_)
    exact rules_only f hf l h
theorem drive_done {m : Sre.M} (h : (m.runFor reTurnSteps).outcome.isSome = true) {n : Nat} {Q : Sre.M → Shared → Prop} (hq : Q (m.runFor reTurnSteps) s) : wpAny (model prog w) A (reDrive (n + 1) m) Q E s := by
  unfold reDrive
  simp only [h, if_true]
  exact wpAny_pure hq
theorem run_said {m : Sre.M} (h1 : m.answer = some false) (h2 : m.frames = []) (h3 : m.outcome = none) : (m.runFor reTurnSteps).outcome = some .failed := by
  have hs : m.step.outcome = some .failed := by
    unfold Sre.M.step
    rw [h3, h1, h2]
    rfl
  show (Sre.M.runFor 4 m).outcome = _
  have stay : ∀ n (k : Sre.M), k.outcome.isSome = true → Sre.M.runFor n k = k := by
    intro n k hk
    cases n with
    | zero => rfl
    | succ n => unfold Sre.M.runFor; rw [if_pos hk]
  rw [Sre.M.runFor, h3, if_neg (by simp), stay _ _ (by rw [hs]; rfl), hs]
theorem runToEnd_failed {m : Sre.M} (h1 : m.answer = some false) (h2 : m.frames = []) (h3 : m.outcome = none) {Q : Option Sre.M → Shared → Prop} (hq : Q none s) : wpAny (model prog w) A (reRunToEnd m) Q E s := by
  have hr := run_said h1 h2 h3
  unfold reRunToEnd
  rw [show (2 : Nat) ^ 64 = (2 ^ 64 - 1) + 1 from rfl]
  refine wpAny_bind (drive_done (by rw [hr]; rfl) ?_)
  refine wpAny_bind (rules_only _ (fun a s Q h => ?_) _ ?_)
  · split
    · exact wpAny_bind (wpAny_rule (wpAny_pure h))
    · exact wpAny_bind (wpAny_pure (wpAny_pure h))
  · rw [hr]
    exact wpAny_pure hq
end
def frM (code text : Array Nat) (groups lim : Nat) : Sre.M :=
  { code, text, lim, start := 0, pc := (Sre.header code).2, pos := 0, handed := 0, marks := Array.replicate (2 * groups) none, mustAdvance := false,
    seen := if (Sre.header code).2 == 0 then {} else ({} : Sre.Seen).add 14 }
theorem forSearch_eq (code text : Array Nat) (groups lim : Nat) : Sre.forSearch code text groups 0 lim false =
    (let m := frM code text groups lim
     let least := (Sre.header code).1
     let hinted := (Sre.header code).2 != 0 && code.getD 2 0 &&& 5 != 0
     if 0 > lim || lim - 0 < least then m.say false
     else { m with lastStart := if least > 1 && !hinted then max 0 (lim - (least - 1)) else lim }.attemptFrom 0 true) := rfl
def Said (m : Sre.M) : Prop := m.answer = some false ∧ m.frames = [] ∧ m.outcome = none
theorem admitted_none {m : Sre.M} (good : ∀ j seen, j < m.lim → ∃ seen', Sre.inSet m.code (m.text.getD j 0) m.code.size 5 true seen = .ok (false, seen')) :
    ∀ fuel s seen, ∃ seen', Sre.M.admitted m fuel s seen = .ok (none, seen')
  | 0, s, seen => ⟨_, rfl⟩
  | fuel + 1, s, seen => by
    unfold Sre.M.admitted
    by_cases h : s ≥ m.lim
    · exact ⟨_, by rw [if_pos h]⟩
    · rw [if_neg h]
      obtain ⟨seen', e⟩ := good s seen (by omega)
      rw [e]
      exact admitted_none good fuel (s + 1) seen'
theorem search_said {code text : Array Nat} {groups : Nat} (hf : ∀ m : Sre.M, m.code = code → m.hasFirstSet = true)
    (good : ∀ j seen, j < text.size → ∃ seen', Sre.inSet code (text.getD j 0) code.size 5 true seen = .ok (false, seen')) : Said (Sre.forSearch code text groups 0 text.size false) := by
  rw [forSearch_eq]
  dsimp only
  split
  · exact ⟨rfl, rfl, rfl⟩
  · unfold Sre.M.attemptFrom
    rw [hf _ rfl]
    simp only [Bool.not_true, Bool.false_eq_true, if_false]
    obtain ⟨seen', e⟩ := admitted_none (m := { frM code text groups text.size with lastStart := if ((Sre.header code).1 > 1 && !((Sre.header code).2 != 0 && code.getD 2 0 &&& 5 != 0)) = true then max 0 (text.size - ((Sre.header code).1 - 1)) else text.size }) good (text.size + 1 - 0) 0 (frM code text groups text.size).seen
    have e' := e
    simp only [frM] at e' ⊢
    rw [e']
    exact ⟨rfl, rfl, rfl⟩

def Plain (x : Str) : Prop := ∀ c ∈ x.cps.toList, 32 ≤ c ∧ c < 127
abbrev nameCode : Array Nat := #[14, 10, 4, 1, 1, 22, 0, 31, 16, 127, 0, 13, 7, 22, 0, 31, 16, 127, 0, 1]
abbrev valCode : Array Nat := #[14, 14, 4, 1, 1, 9, 4294966783, 0, 0, 2147483648, 0, 0, 0, 0, 0, 13, 11, 9, 4294966783, 0, 0, 2147483648, 0, 0, 0, 0, 0, 1]
theorem plain_at {x : Str} (h : Plain x) {j : Nat} (hj : j < x.cps.size) : 32 ≤ x.cps.getD j 0 ∧ x.cps.getD j 0 < 127 := by
  have e : x.cps.getD j 0 = x.cps[j] := by simp [Array.getD, hj]
  rw [e]
  exact h _ (by simp)
theorem name_good (c : Nat) (h : 32 ≤ c ∧ c < 127) (seen : Sre.Seen) : ∃ seen', Sre.inSet nameCode c nameCode.size 5 true seen = .ok (false, seen') := by
  have h1 : ¬ (c ≤ 31) := by omega
  have h2 : ¬ (c = 127) := by omega
  refine ⟨((seen.add 22).add 16).add 0, ?_⟩
  simp [Sre.inSet, Sre.ops, h1, h2]
theorem val_bit : ∀ c, c < 127 → 32 ≤ c → (valCode.getD (5 + (1 + c / 32)) 0).testBit (c % 32) = false := by decide +kernel
theorem val_good (c : Nat) (h : 32 ≤ c ∧ c < 127) (seen : Sre.Seen) : ∃ seen', Sre.inSet valCode c valCode.size 5 true seen = .ok (false, seen') := by
  refine ⟨(seen.add 9).add 0, ?_⟩
  have hb := val_bit c h.2 h.1
  generalize hv : (valCode : Array Nat) = vc at hb ⊢
  have e0 : vc.getD (5 + 0) 0 = 9 := by rw [← hv]; rfl
  have e9 : vc.getD (5 + 9 + 0) 0 = 0 := by rw [← hv]; rfl
  have es : vc.size = 26 + 1 + 1 := by rw [← hv]; rfl
  have o9 : Sre.ops[9]? = some .CHARSET := rfl
  have o0 : Sre.ops[0]? = some .FAILURE := rfl
  rw [es]
  unfold Sre.inSet
  simp only [e0, o9, hb, Bool.and_false, Bool.false_eq_true, if_false]
  unfold Sre.inSet
  simp only [e9, o0, Bool.not_true]

section
variable {prog : Program} {w : World} {A : Around} {E : Value → Shared → Prop} {s : Shared}
theorem search_none {P : Addr} {r : Flt.PatRec} {x : Str} {t : Tok} {Q : Value → Shared → Prop} (hP : Flt.IsPattern s.heap P r) (hk : r.kind = 0) {code : Array Nat} (hc : r.code = code.toList) (hs : x.cps.size < 2 ^ 62)
    (hsaid : Said (Sre.forSearch code x.cps r.groups 0 x.cps.size false)) (h : Q .none s) :
    wpAny (model prog w) A (call (.builtin "re.Pattern.search") [.ref P, .str x t]) Q E s := by
  obtain ⟨fs, T, ws, n, h1, h2, h3, h4, h5, h6⟩ := hP
  refine wpAny_call_entry (T := "re.Pattern") slot_search ⟨_, h1, rfl⟩ entry_search ?_ (by rfl)
  unfold Builtin.«re.Pattern.search»
  have ht : wpAny (model prog w) A.in1 (reTarget "re.Pattern.search" "search" ⟨[.ref P, .str x t], []⟩) (fun r' s' => r' = ⟨.ref P, .str x t, code, x.cps, 0, r.groups, 0, x.cps.size⟩ ∧ s' = s) E s := by
    unfold reTarget
    dsimp only
    rw [named1]
    refine wpAny_bind (wpAny_pure ?_)
    dsimp only
    refine wpAny_bind (wpAny_pure ?_)
    refine wpAny_bind (wpAny_pure ?_)
    refine wpAny_bind (wpAny_fieldsOf h1 rfl ?_)
    refine wpAny_bind (wpAny_pure ?_)
    rw [h4, hk, h3, h2]
    rw [if_neg (by simp), if_neg (by simp)]
    unfold reNoCollectionInside
    rw [if_neg (by simp)]
    refine wpAny_bind (wpAny_pure ?_)
    unfold reRawItems
    refine wpAny_bind (wpAny_bind (wpAny_seqItems h5 rfl (wpAny_pure ?_)))
    refine wpAny_pure ⟨?_, rfl⟩
    have hcode : Array.map (fun x => x.toNat) (Array.map reRawOf ws) = code := by
      rw [hc] at h6
      exact Array.ext' h6
    have hlim : min ((2 : Int) ^ 63 - 1).toNat x.cps.size = x.cps.size := by
      have : x.cps.size ≤ ((2 : Int) ^ 63 - 1).toNat := by
        have : ((2 : Int) ^ 63 - 1).toNat = 2 ^ 63 - 1 := by decide
        omega
      omega
    simp only [Option.getD_some, hcode, hlim, Int.toNat_zero, Nat.zero_min]
  refine wpAny_bind (wpAny_mono ht (fun r' s' hr => ?_) fun _ _ e => e)
  obtain ⟨rfl, rfl⟩ := hr
  unfold reAnswer
  refine wpAny_bind (runToEnd_failed hsaid.1 hsaid.2.1 hsaid.2.2 ?_)
  exact wpAny_pure ⟨_, rfl, h⟩

theorem search_name {P : Addr} {r : Flt.PatRec} {x : Str} {t : Tok} {Q : Value → Shared → Prop} (hP : Flt.IsPattern s.heap P r) (hk : r.kind = 0) (hc : r.code = nameCode.toList) (hp : Plain x) (hs : x.length < 2 ^ 62) (h : Q .none s) :
    wpAny (model prog w) A (call (.builtin "re.Pattern.search") [.ref P, .str x t]) Q E s :=
  search_none hP hk hc hs (search_said (fun m hm => by unfold Sre.M.hasFirstSet; rw [hm]; rfl) fun j seen hj => name_good _ (plain_at hp hj) seen) h
theorem search_val {P : Addr} {r : Flt.PatRec} {x : Str} {t : Tok} {Q : Value → Shared → Prop} (hP : Flt.IsPattern s.heap P r) (hk : r.kind = 0) (hc : r.code = valCode.toList) (hp : Plain x) (hs : x.length < 2 ^ 62) (h : Q .none s) :
    wpAny (model prog w) A (call (.builtin "re.Pattern.search") [.ref P, .str x t]) Q E s :=
  search_none hP hk hc hs (search_said (fun m hm => by unfold Sre.M.hasFirstSet; rw [hm]; rfl) fun j seen hj => val_good _ (plain_at hp hj) seen) h
end
end Mine
namespace Mine
open PySem PySem.W PySem.Spec PySem.Calls PyProof.Rows PySem.Builtin.Re
theorem plainAttrs_pat : PlainAttrs "re.Pattern" :=
  ⟨⟨"object.__getattribute__", by rw [typeLookup_type, builtinLookup_eq_fast]; kernel_rfl, by decide +kernel⟩, by rw [typeLookup_type, builtinLookup_eq_fast]; kernel_rfl⟩
theorem type_search : typeOf (.builtin "re.Pattern.search") = pure (.type "method_descriptor") := by show builtinType _ = _; rw [builtinType_eq_fast]; kernel_rfl
section
variable {prog : Program} {w : World} {A : Around} {E : Value → Shared → Prop} {s : Shared}
theorem getMethod_search {P : Addr} {r : Flt.PatRec} {pl : Sem Bool} {Q : Value × List Value → Shared → Prop} (hP : Flt.IsPattern s.heap P r) (h : Q (.builtin "re.Pattern.search", [.ref P]) s) :
    wpAny (model prog w) A (getMethod (.ref P) (Str.ofString "search") pl) Q E s := by
  obtain ⟨fs, T, ws, n, h1, _⟩ := hP
  exact getMethod_builtin (T := "re.Pattern") ⟨_, h1, rfl⟩ plainAttrs_pat slot_search type_search (fun a e => by cases e; exact ⟨_, h1, rfl⟩) h
end
/-- a pattern of the top's, by its name -/
theorem pat_at {p : Program} {mg : Str → Option Value} {h : Heap} {x : Str} {a : Addr} {r : Flt.PatRec} (X : Flt.MathXP p mg h) (hm : mg x = some (.ref a)) (hx : (Flt.patsOf p).find? (·.name == x) = some r) : Flt.IsPattern h a r := by
  have hn : r.name = x := beq_iff_eq.mp (List.find?_some (p := fun e : Flt.PatRec => e.name == x) hx)
  obtain ⟨b, h1, h2⟩ := X.pats r (List.mem_of_find?_eq_some hx)
  rw [hn, hm] at h1
  cases h1
  exact h2
end Mine
namespace Mine
open PySem PySem.W PySem.Spec PySem.Calls PyProof.Rows PySem.Builtin.Re
section
variable {prog : Program} {w : World} {A : Around} {E : Value → Shared → Prop} {s : Shared} {h₀ : Heap} {L P : Addr} {m : Str → Option Value} {r : Flt.PatRec} {x : Str} {t : Tok}
theorem getMethod_searchH {pl : Sem Bool} {Q : Value × List Value → Shared → Prop} (hP : Flt.IsPattern h₀ P r) (F : Fr h₀ L s.heap m) (h : Q (.builtin "re.Pattern.search", [.ref P]) s) :
    wpAny (model prog w) A (getMethod (.ref P) (Str.ofString "search") pl) Q E s := getMethod_search (hP.keeps F.keep) h
/-- a text that the headers take -/
def Txl (x : Str) : Prop := Plain x ∧ x.length ≤ 100000
theorem search_nameH {n : Str} {Q : Value → Shared → Prop} (hP : Flt.IsPattern h₀ P ⟨n, nameCode.toList, 0, 0⟩) (F : Fr h₀ L s.heap m) (hp : Txl x) (h : Q .none s) :
    wpAny (model prog w) A (call (.builtin "re.Pattern.search") [.ref P, .str x t]) Q E s := search_name (hP.keeps F.keep) rfl rfl hp.1 (by have := hp.2; omega) h
theorem search_valH {n : Str} {Q : Value → Shared → Prop} (hP : Flt.IsPattern h₀ P ⟨n, valCode.toList, 0, 0⟩) (F : Fr h₀ L s.heap m) (hp : Txl x) (h : Q .none s) :
    wpAny (model prog w) A (call (.builtin "re.Pattern.search") [.ref P, .str x t]) Q E s := search_val (hP.keeps F.keep) rfl rfl hp.1 (by have := hp.2; omega) h
end
end Mine
namespace Mine
open PySem PySem.W PySem.Spec PySem.Calls PyProof.Rows

theorem lo1_plain : ∀ c, c < 127 → 32 ≤ c → 32 ≤ lo1 c ∧ lo1 c < 127 := by decide +kernel
theorem plain_ascii {x : Str} (h : Plain x) : ∀ c ∈ x.cps.toList, c < 128 := fun c hc => by have := h c hc; omega
theorem lower_eq {x : Str} (h : Plain x) : Txt.lower x = ⟨x.cps.map lo1⟩ := lower_ascii (plain_ascii h)
theorem Txl.lower {x : Str} (h : Txl x) : Txl (Txt.lower x) := by
  rw [lower_eq h.1]
  refine ⟨fun c hc => ?_, ?_⟩
  · have hc' : c ∈ (x.cps.map lo1).toList := hc
    rw [Array.toList_map] at hc'
    obtain ⟨d, hd, rfl⟩ := List.mem_map.mp hc'
    exact lo1_plain d (h.1 d hd).2 (h.1 d hd).1
  · show (x.cps.map lo1).size ≤ _
    rw [Array.size_map]
    exact h.2
section
variable {prog : Program} {w : World} {A : Around} {E : Value → Shared → Prop} {s : Shared} {x : Str} {t : Tok}
theorem lower_T {Q : Value → Shared → Prop} (hx : Txl x) (h : ∀ k t', Q (.str (Txt.lower x) t') { s with toks := k }) : wpAny (model prog w) A (call (.builtin "str.lower") [.str x t]) Q E s :=
  SCL.lower (by have := hx.2; omega) fun _ => h _ _
end

abbrev hdrDict (P : Params) (tk : Tok) (hl : Addr) : Obj := dictOf [⟨PyData.keyHash P (Str.ofString "_headers"), .str (Str.ofString "_headers") tk, .ref hl⟩] 1
abbrev tupObj (vs : List Value) : Obj := { cls := .type "tuple", data := .seq vs.toArray }
/-- a headers object and its list -/
structure Tab (P : Params) (C : Addr) (news : List (Addr × Obj)) (t d : Addr) (tk : Tok) (hl : Addr) (vs : List Value) : Prop where
  inst : (t, instObj C d) ∈ news
  dict : (d, hdrDict P tk hl) ∈ news
  list : (hl, W.listOf vs.toArray vs.length) ∈ news
  few : vs.length ≤ 1000
/-- the pairs of a headers list, each a tuple of two texts -/
inductive Rows (news : List (Addr × Obj)) : List Value → List (Str × Str) → Prop
  | nil : Rows news [] []
  | cons {a : Addr} {k v : Str} {tk tv : Tok} {vs : List Value} {ps : List (Str × Str)} : (a, tupObj [.str k tk, .str v tv]) ∈ news → Txl k → Txl v → Rows news vs ps → Rows news (.ref a :: vs) ((k, v) :: ps)
theorem Rows.mono {news news' : List (Addr × Obj)} (hs : ∀ p ∈ news, p ∈ news') {vs : List Value} {ps : List (Str × Str)} (h : Rows news vs ps) : Rows news' vs ps := by
  induction h with
  | nil => exact .nil
  | cons h1 h2 h3 _ ih => exact .cons (hs _ h1) h2 h3 ih
theorem Rows.len {news : List (Addr × Obj)} {vs : List Value} {ps : List (Str × Str)} (h : Rows news vs ps) : vs.length = ps.length := by
  induction h with
  | nil => rfl
  | cons _ _ _ _ ih => rw [List.length_cons, List.length_cons, ih]
theorem Rows.at {news : List (Addr × Obj)} {vs : List Value} {ps : List (Str × Str)} (h : Rows news vs ps) : ∀ {i : Nat} {v : Value}, vs[i]? = some v →
    ∃ a k y tk ty, v = .ref a ∧ (a, tupObj [.str k tk, .str y ty]) ∈ news ∧ Txl k ∧ Txl y ∧ ps[i]? = some (k, y) := by
  induction h with
  | nil => intro i v e; simp at e
  | cons h1 h2 h3 _ ih =>
    intro i v e
    cases i with
    | zero => simp at e; exact ⟨_, _, _, _, _, e.symm, h1, h2, h3, by simp⟩
    | succ i => simp only [List.getElem?_cons_succ] at e ⊢; exact ih e
theorem Rows.snoc {news : List (Addr × Obj)} {vs : List Value} {ps : List (Str × Str)} (h : Rows news vs ps) {a : Addr} {k v : Str} {tk tv : Tok} (hm : (a, tupObj [.str k tk, .str v tv]) ∈ news) (hk : Txl k) (hv : Txl v) : Rows news (vs ++ [.ref a]) (ps ++ [(k, v)]) := by
  induction h with
  | nil => exact .cons hm hk hv .nil
  | cons h1 h2 h3 _ ih => exact .cons h1 h2 h3 ih

/-- what get finds -/
def hget (ps : List (Str × Str)) (x : Str) : Option Str := (ps.find? fun p => Txt.lower p.1 == Txt.lower x).map (·.2)
theorem hget_none {ps : List (Str × Str)} {x : Str} (h : ∀ (i : Nat) (p : Str × Str), ps[i]? = some p → Txt.lower p.1 ≠ Txt.lower x) : hget ps x = none := by
  unfold hget
  rw [List.find?_eq_none.mpr (fun p hp => by
    obtain ⟨i, hi⟩ := List.getElem?_of_mem hp
    simpa using h i p hi)]
  rfl
theorem hget_some {ps : List (Str × Str)} {x : Str} {i : Nat} {p : Str × Str} (hi : ps[i]? = some p) (he : Txt.lower p.1 = Txt.lower x) (h : ∀ (j : Nat) (q : Str × Str), j < i → ps[j]? = some q → Txt.lower q.1 ≠ Txt.lower x) : hget ps x = some p.2 := by
  unfold hget
  have : ps.find? (fun p => Txt.lower p.1 == Txt.lower x) = some p := by
    rw [List.find?_eq_some_iff_getElem]
    have hlt : i < ps.length := by
      rcases Nat.lt_or_ge i ps.length with q | q
      · exact q
      · rw [List.getElem?_eq_none q] at hi; cases hi
    refine ⟨by simpa using he, i, hlt, ?_, fun j hj => ?_⟩
    · rw [List.getElem?_eq_getElem hlt] at hi; exact Option.some.inj hi
    · have := h j ps[j] hj (by rw [List.getElem?_eq_getElem])
      simpa using this
  rw [this]; rfl
theorem list_at {h₀ h : Heap} {L l : Addr} {vs : List Value} {n : Nat} {news : List (Addr × Obj)} (N : News h₀ L h news) (hm : (l, W.listOf vs.toArray n) ∈ news) : h.IsList l vs.toArray := ⟨_, (N _ hm).1, rfl, n, rfl⟩
end Mine
namespace Mine
open PySem PySem.W PySem.Spec PySem.Calls PyProof.Rows

/-- k digits of x to the base 2 ^ n, the lowest first -/
def digs (n : Nat) : Nat → Nat → List Int
  | _, 0 => []
  | x, k + 1 => ((x % 2 ^ n : Nat) : Int) :: digs n (x / 2 ^ n) k
theorem digs_len (n : Nat) : ∀ x k, (digs n x k).length = k
  | _, 0 => rfl
  | x, k + 1 => by rw [digs, List.length_cons, digs_len]
theorem digs_add (n : Nat) : ∀ k x l, digs n x (k + l) = digs n (x % 2 ^ (n * k)) k ++ digs n (x / 2 ^ (n * k)) l
  | 0, x, l => by simp [digs]
  | k + 1, x, l => by
    rw [Nat.add_right_comm, digs, digs, List.cons_append, digs_add n k (x / 2 ^ n) l]
    have e : 2 ^ (n * (k + 1)) = 2 ^ n * 2 ^ (n * k) := by rw [Nat.mul_succ, Nat.add_comm, Nat.pow_add]
    rw [e]
    congr 1
    · congr 1
      rw [Nat.mod_mul_right_mod]
    · congr 1
      · congr 1
        rw [Nat.mod_mul_right_div_self]
      · rw [Nat.div_div_eq_div_mul]
/-- the digits laid at place l -/
def laid (ds : List Int) (l : Nat) (es : List Int) : List Int := ds.take l ++ es ++ ds.drop (l + es.length)
theorem laid_len {ds es : List Int} {l : Nat} (h : l + es.length ≤ ds.length) : (laid ds l es).length = ds.length := by
  unfold laid
  simp only [List.length_append, List.length_take, List.length_drop]
  omega
theorem laid_laid {ds es fs : List Int} {l : Nat} (h : l + es.length + fs.length ≤ ds.length) : laid (laid ds l es) (l + es.length) fs = laid ds l (es ++ fs) := by
  unfold laid
  have h1 : (ds.take l ++ es).length = l + es.length := by simp; omega
  rw [List.take_left' h1, List.append_assoc (ds.take l ++ es)]
  rw [show l + es.length + fs.length = (ds.take l ++ es).length + fs.length by rw [h1], List.drop_append, h1]
  simp only [List.append_assoc]
  congr 3
  rw [List.drop_eq_nil_of_le (by rw [h1]; omega), List.nil_append]
  rw [show (l + es.length + fs.length - (l + es.length)) = fs.length by omega, List.drop_drop]
  rw [List.length_append]
  congr 1
  omega
theorem laid_one {ds : List Int} {l : Nat} (h : l < ds.length) (x : Int) : ds.set l x = laid ds l [x] := by
  unfold laid
  rw [List.set_eq_take_append_cons_drop, if_pos h]
  simp
theorem xor_low (x s : Nat) : x ^^^ (x / 2 ^ s * 2 ^ s) = x % 2 ^ s := by
  rw [← Nat.shiftRight_eq_div_pow, ← Nat.shiftLeft_eq]
  apply Nat.eq_of_testBit_eq
  intro j
  rw [Nat.testBit_xor, Nat.testBit_mod_two_pow, Nat.testBit_shiftLeft, Nat.testBit_shiftRight]
  by_cases h : j < s
  · simp [h, Nat.not_le.mpr h]
  · have hs : s ≤ j := Nat.le_of_not_lt h
    simp [h, hs, Nat.add_sub_cancel' hs]

/-- what the inner def of _int2digits does: it lays the digits of x at the places from l up -/
def InnerSpec (prog : Program) (w : World) (K : Frag) (p : Program) (loose : List Str) (mean : ExcName → Option Value) (mg mb : Str → Option Value) (fix : List (Addr × Obj)) (f al : Addr) (nn n : Nat) (k : Nat) : Prop :=
  ∀ {dp un : Nat} {gd : Option (List Code)} {cn : Str} {cs : Scope} {a : Addr} {ccd : Value} {cl : List (Str × Addr)} {outer : List Env} {A₀ : Around} {base h₀ : Heap} {L : Addr} {m : Str → Option Value} {s : Shared} {Q E : Value → Shared → Prop}
    {rest : List (Addr × Obj)} {x l r : Nat} {tx tl tr : Tok} {vs : List Value} {ds : List Int},
    Below A₀ base outer h₀ → Fr h₀ L s.heap m → K.In h₀ → News h₀ L s.heap ((al, W.listOf vs.toArray nn) :: rest) → Top topProg loose mean mg mb h₀ → Flt.MathXP p mg h₀ → cs.kind = .function →
    r = l + (k + 1) → (∀ q ∈ fix, q ∈ rest) → (∀ q ∈ rest, q.1 ≠ al) → IntsAre vs ds → r ≤ ds.length → ds.length ≤ 1000 → x < 2 ^ (n * (k + 1)) → dp + (k + 1) < recursionLimit → un + 8 * (k + 1) < cLine →
    (∀ vs' h' tk', Fr h₀ L h' m → News h₀ L h' ((al, W.listOf vs'.toArray nn) :: rest) → IntsAre vs' (laid ds l (digs n x (k + 1))) → Q .none { s with heap := h', toks := tk' }) →
    wpAny (model prog w) (ktrTop dp un gd cn cs L a ccd cl outer) (call (.ref f) [.int (x : Int) tx, .int (l : Int) tl, .int (r : Int) tr]) Q E s
theorem inner_ind {prog : Program} {w : World} {K : Frag} {p : Program} {loose : List Str} {mean : ExcName → Option Value} {mg mb : Str → Option Value} {fix : List (Addr × Obj)} {f al : Addr} {nn n : Nat}
    (step : ∀ k, (∀ j, j < k → InnerSpec prog w K p loose mean mg mb fix f al nn n j) → InnerSpec prog w K p loose mean mg mb fix f al nn n k) : ∀ k, InnerSpec prog w K p loose mean mg mb fix f al nn n k := by
  intro k
  induction k using Nat.strongRecOn with
  | _ k ih =>
    apply step
    intro j hj
    exact ih j hj
/-- the code table of a def that makes one def: empty, or with the code made at its first time -/
def TbOk (line col : Int) (qual : Str) (ps : Array Value) (news : List (Addr × Obj)) : Prop :=
  ps = #[] ∨ ∃ c' oc vs t, ps = #[rawInt line, rawInt col, .ref c'] ∧ (c', oc) ∈ news ∧ oc.data = .fields vs ∧ vs[1]? = some (.str qual t)
theorem TbOk.mono {line col : Int} {qual : Str} {ps : Array Value} {news news' : List (Addr × Obj)} (h : TbOk line col qual ps news) (hs : ∀ p ∈ news, p ∈ news') : TbOk line col qual ps news' := by
  rcases h with h | ⟨c', oc, vs, t, h1, h2, h3⟩
  · exact .inl h
  · exact .inr ⟨c', oc, vs, t, h1, hs _ h2, h3⟩
section
variable {M : Model} {A : Around} {E : Value → Shared → Prop} {s : Shared} {h₀ : Heap} {L a c P : Addr} {m mg mb : Str → Option Value} {cn : Str} {cs : Scope} {ccd : Value} {cl : List (Str × Addr)} {news : List (Addr × Obj)} {g : Obj → List (Addr × Obj)}
  {p : Program} {loose : List Str} {mean : ExcName → Option Value} {name qual : Str} {params : Arguments} {body : List Stmt} {scope : Scope} {ps : Array Value} {pos : Pos} {firstLine : Nat} {clos : List (Str × Addr)}
structure Hold (P : Prop) : Prop where
  out : P
theorem nestAny_K {line col : Int} {rest0 : List (Addr × Obj)} {Q : Value → Shared → Prop} (F : Fr h₀ L s.heap m) (N : News h₀ L s.heap news) (T : Top topProg loose mean mg mb h₀) (C : CodeHd h₀ c P) (hcd : ccd = .ref c) (U : UpdF P (tabObj ps) news g) (hTb : TbOk line col qual ps rest0) (_hsub : ∀ p ∈ rest0, p ∈ news) (hline : line = pos.line) (hcol : col = pos.col)
    (hcl : closureFor scope (envX cn cs L a ccd cl) = pure clos)
    (h : Hold (∀ f c' oc vs t ctv doc h' tk add ps', Fr h₀ L h' m →
      News h₀ L h' ((f, fnMade name qual params body scope clos doc ((mg "__name__").getD .none) c' ctv) :: (add ++ g (tabObj ps'))) → ps' = #[rawInt line, rawInt col, .ref c'] → (c', oc) ∈ add ++ rest0 →
      oc.data = .fields vs → vs[1]? = some (.str qual t) → (∀ q ∈ news, q.1 < f) → (∀ q ∈ add, q.1 < f ∧ ∀ r ∈ news, r.1 < q.1) → Q (.ref f) { s with heap := h', toks := tk })) :
    wpAny M A (makeFunction name qual params (.stmts body) scope (envX cn cs L a ccd cl) [] [] [] pos firstLine) Q E s := by
  subst hline hcol
  rcases hTb with rfl | ⟨c', oc, vs, t, rfl, h2, h3, h4⟩
  · refine nest_K F N T C hcd U trivial rfl hcl fun f c' oc vs t ctv doc h' tk F' N' d1 d2 l1 l2 => ?_
    have l3 : ∀ q ∈ news, q.1 < f := fun q hq => Nat.lt_trans (l1 q hq) l2
    refine h.out f c' oc vs t ctv doc h' tk [(c', oc)] _ F' N' (by simp) (List.mem_cons_self ..) d1 d2 l3 fun q hq => ?_
    rw [List.mem_singleton.mp hq]
    exact ⟨l2, l1⟩
  · obtain ⟨pre, post, hn, hg, _, _⟩ := U.split
    have hgn : g (tabObj #[rawInt pos.line, rawInt pos.col, .ref c']) = news := by rw [hn, hg]
    have hm : (P, tabObj #[rawInt pos.line, rawInt pos.col, .ref c']) ∈ news := by rw [hn]; exact List.mem_append_right _ (.head _)
    refine nestHit_K (c' := c') F N T C hcd hm (by simp [TriplesOk, rawInt]) (by simp [codeAmong, rawInt]) hcl fun f ctv doc h' tk F' N' l1 => ?_
    exact h.out f c' oc vs t ctv doc h' tk [] _ F' (by rw [List.nil_append, hgn]; exact N') rfl h2 h3 h4 l1 (fun q hq => nomatch hq)
end
theorem news_head {h₀ h : Heap} {L a : Addr} {o : Obj} {r : List (Addr × Obj)} (N : News h₀ L h ((a, o) :: r)) : ∃ o', o' = o ∧ News h₀ L h ((a, o') :: r) := ⟨o, rfl, N⟩
end Mine
namespace Mine
open PySem PySem.W PySem.Spec PySem.Calls PyProof.Rows
theorem inner_call {prog : Program} {w : World} {K : Frag} {p : Program} {loose : List Str} {mean : ExcName → Option Value} {mg mb : Str → Option Value} {fix : List (Addr × Obj)} {f al : Addr} {nn n : Nat} {k : Nat}
    {dp un : Nat} {gd : Option (List Code)} {cn : Str} {cs : Scope} {a : Addr} {ccd : Value} {cl : List (Str × Addr)} {outer : List Env} {A₀ : Around} {base h₀ : Heap} {L : Addr} {m : Str → Option Value} {s : Shared} {Q E : Value → Shared → Prop}
    {rest : List (Addr × Obj)} {x l r : Nat} {X Lv Rv : Int} {tx tl tr : Tok} {vs : List Value} {ds : List Int} (S : InnerSpec prog w K p loose mean mg mb fix f al nn n k) (ex : X = (x : Int)) (el : Lv = (l : Int)) (er : Rv = (r : Int))
    (B : Below A₀ base outer h₀) (F : Fr h₀ L s.heap m) (XK : K.In h₀) (N : News h₀ L s.heap ((al, W.listOf vs.toArray nn) :: rest)) (T : Top topProg loose mean mg mb h₀) (XM : Flt.MathXP p mg h₀) (hk : cs.kind = .function)
    (hr : r = l + (k + 1)) (hfix : ∀ q ∈ fix, q ∈ rest) (hoff : ∀ q ∈ rest, q.1 ≠ al) (hi : IntsAre vs ds) (hrl : r ≤ ds.length) (hd1 : ds.length ≤ 1000) (hx : x < 2 ^ (n * (k + 1))) (hd : dp + (k + 1) < recursionLimit) (hu : un + 8 * (k + 1) < cLine)
    (ret : ∀ vs' h' tk', Fr h₀ L h' m → News h₀ L h' ((al, W.listOf vs'.toArray nn) :: rest) → IntsAre vs' (laid ds l (digs n x (k + 1))) → Q .none { s with heap := h', toks := tk' }) :
    wpAny (model prog w) (ktrTop dp un gd cn cs L a ccd cl outer) (call (.ref f) [.int X tx, .int Lv tl, .int Rv tr]) Q E s := by
  subst ex el er
  exact S B F XK N T XM hk hr hfix hoff hi hrl hd1 hx hd hu ret
theorem flat1 (k : Nat) (v : Value) : (List.replicate k [v]).flatten = List.replicate k v := by
  induction k with
  | zero => rfl
  | succ k ih => rw [List.replicate_succ, List.flatten_cons, ih, List.replicate_succ]; rfl
theorem ints_rep (k : Nat) (t : Tok) : IntsAre (List.replicate k (.int 0 t)) (List.replicate k 0) := by
  induction k with
  | zero => exact .nil
  | succ k ih => exact .cons 0 t ih
section
variable {prog : Program} {w : World} {A : Around} {E : Value → Shared → Prop} {s : Shared} {h₀ : Heap} {L : Addr}
theorem len_M {l : Addr} {vs : List Value} {nn : Nat} {news : List (Addr × Obj)} {Q : Value → Shared → Prop} (N : News h₀ L s.heap news) (hm : (l, W.listOf vs.toArray nn) ∈ news) (hs : vs.length < 2 ^ 62)
    (h : ∀ t k, Q (.int (vs.length : Int) t) { s with toks := k }) : wpAny (model prog w) A (call (.builtin "len") [.ref l]) Q E s := by
  refine len_list (items := vs.toArray) ⟨_, (N _ hm).1, rfl, _, rfl⟩ (by rw [List.size_toArray]; omega) ?_
  rw [List.size_toArray]
  exact h _ _
end
end Mine
namespace Mine
open PySem PySem.W PySem.Spec PySem.Calls PyProof.Rows
theorem bits_lt_pow (x : Nat) : x < 2 ^ Builtin.Int.intBits (x : Int) := by
  unfold Builtin.Int.intBits
  by_cases h : x = 0
  · subst h; simp
  · rw [if_neg (by simpa using h), Int.natAbs_natCast]
    exact Nat.lt_log2_self
theorem bits_zero_iff (x : Nat) : Builtin.Int.intBits (x : Int) = 0 ↔ x = 0 := by
  unfold Builtin.Int.intBits
  by_cases h : x = 0
  · subst h; simp
  · rw [if_neg (by simpa using h)]; simp [h]
theorem bits_le {x b : Nat} (h : x < 2 ^ b) : Builtin.Int.intBits (x : Int) ≤ b := by
  unfold Builtin.Int.intBits
  by_cases h0 : x = 0
  · subst h0; simp
  · rw [if_neg (by simpa using h0), Int.natAbs_natCast]
    exact (Nat.log2_lt h0).mpr h
/-- how many digits x has -/
def ndig (x n : Nat) : Nat := (Builtin.Int.intBits (x : Int) + n - 1) / n
theorem ndig_int (x n : Nat) (hn : 0 < n) : (((Builtin.Int.intBits (x : Int) : Nat) : Int) + (n : Int) - 1).fdiv (n : Int) = (ndig x n : Int) := by
  unfold ndig
  have e : ((Builtin.Int.intBits (x : Int) : Nat) : Int) + (n : Int) - 1 = ((Builtin.Int.intBits (x : Int) + n - 1 : Nat) : Int) := by omega
  rw [e, Int.fdiv_eq_ediv_of_nonneg _ (by omega)]
  rfl
theorem ndig_lt (x n : Nat) (hn : 0 < n) : x < 2 ^ (n * ndig x n) := by
  refine Nat.lt_of_lt_of_le (bits_lt_pow x) (Nat.pow_le_pow_right (by decide) ?_)
  unfold ndig
  generalize Builtin.Int.intBits (x : Int) = b
  have h1 := Nat.div_add_mod (b + n - 1) n
  have h2 := Nat.mod_lt (b + n - 1) hn
  omega
theorem ndig_pos {x n : Nat} (hn : 0 < n) (hx : x ≠ 0) : 0 < ndig x n := by
  unfold ndig
  have := (not_congr (bits_zero_iff x)).mpr hx
  exact Nat.div_pos (by omega) hn
theorem ndig_zero (n : Nat) (hn : 0 < n) : ndig 0 n = 0 := by
  unfold ndig
  rw [(bits_zero_iff 0).mpr rfl]
  exact Nat.div_eq_of_lt (by omega)
theorem ndig_le {x n b : Nat} (h : x < 2 ^ b) (hn : 0 < n) : ndig x n ≤ b := by
  unfold ndig
  have := bits_le h
  generalize Builtin.Int.intBits (x : Int) = c at *
  refine Nat.le_trans (Nat.div_le_div_right (c := n) (show c + n - 1 ≤ b + (n - 1) by omega)) ?_
  rcases Nat.eq_zero_or_pos b with h0 | h0
  · subst h0; rw [Nat.zero_add, Nat.div_eq_of_lt (by omega)]; exact Nat.zero_le _
  · have : b + (n - 1) < n * (b + 1) := by
      have : n * (b + 1) = n * b + n := Nat.mul_succ n b
      have : b ≤ n * b := Nat.le_mul_of_pos_left b hn
      omega
    exact Nat.lt_succ_iff.mp ((Nat.div_lt_iff_lt_mul hn).mpr (by rw [Nat.mul_comm]; exact this))
end Mine
namespace Mine
open PySem PySem.W PySem.Spec PySem.Calls PyProof.Rows
theorem i2d_led {h₀ h : Heap} {L f lA l' c3 c2 c1 P : Addr} {fo lo lo' oI oA oN pt : Obj} {add rest : List (Addr × Obj)} (N : News h₀ L h ((f, fo) :: (add ++ (lA, lo) :: (l', lo') :: (c3, oI) :: (c2, oA) :: (c1, oN) :: (P, pt) :: rest))) :
    ∃ oI' oA' oN', oI' = oI ∧ oA' = oA ∧ oN' = oN ∧ News h₀ L h ((c3, oI') :: (lA, lo) :: (P, pt) :: (f, fo) :: (c2, oA') :: (c1, oN') :: (add ++ rest)) :=
  ⟨oI, oA, oN, rfl, rfl, rfl, news_sub N fun p hp => by simp only [List.mem_cons, List.mem_append] at hp ⊢; grind⟩
end Mine
namespace Mine
open PySem PySem.W PySem.Spec PySem.Calls PyProof.Rows
theorem fnAt_of {h₀ h : Heap} {L f : Addr} {fo : Obj} {name qual : Str} {params : Arguments} {body : List Stmt} {scope : Scope} {clos : List (Str × Addr)} {doc pm ctv : Value} {c' : Addr} {news : List (Addr × Obj)} (hfo : fo = fnMade name qual params body scope clos doc pm c' ctv)
    (N : News h₀ L h news) (hm : (f, fo) ∈ news) : FnAt f h := by
  subst hfo
  exact FnAt.of N hm
theorem codeRec_of9 {h₀ h : Heap} {L c : Addr} {oc : Obj} {vs : Array Value} {qual : Str} {t : Tok} {news : List (Addr × Obj)} (N : News h₀ L h news) (hm : (c, oc) ∈ news) (hd : oc.data = .fields vs) (hv : vs[1]? = some (.str qual t)) : h.CodeRec (.ref c) qual :=
  codeRec_news N hm hd hv
end Mine
namespace Mine
open PySem PySem.W PySem.Spec PySem.Calls PyProof.Rows
theorem mid_eq {l r k : Nat} (hr : r = l + (k + 1)) : ((l : Int) + (r : Int)).fdiv (2 ^ Int.toNat 1) = ((l + (k + 1) / 2 : Nat) : Int) := by
  rw [show (2 : Int) ^ Int.toNat 1 = 2 by decide, Int.fdiv_eq_ediv_of_nonneg _ (by decide)]
  omega
theorem shift_eq (l j n : Nat) : (((l + j : Nat) : Int) - (l : Int)) * (n : Int) = ((n * j : Nat) : Int) := by
  rw [show ((l + j : Nat) : Int) - (l : Int) = (j : Int) by omega, Nat.mul_comm]
  exact (Int.natCast_mul j n).symm
theorem upper_eq (x s : Nat) : ((x : Int)).fdiv (2 ^ ((s : Nat) : Int).toNat) = ((x / 2 ^ s : Nat) : Int) := by
  rw [Int.toNat_natCast, Int.fdiv_eq_ediv_of_nonneg _ (by exact Int.le_of_lt (Int.pow_pos (by decide)))]
  simp
theorem back_eq (x s : Nat) : ((x / 2 ^ s : Nat) : Int) * 2 ^ ((s : Nat) : Int).toNat = ((x / 2 ^ s * 2 ^ s : Nat) : Int) := by
  rw [Int.toNat_natCast]; simp
theorem lower_low (x s : Nat) : Builtin.bitXor (x : Int) ((x / 2 ^ s * 2 ^ s : Nat) : Int) = ((x % 2 ^ s : Nat) : Int) := by
  have h := xor_low x s
  rw [bitXor_and, bitAnd_pp (Int.natCast_nonneg _) (Int.natCast_nonneg _)]
  simp only [Int.toNat_natCast]
  have hle : x / 2 ^ s * 2 ^ s ≤ x := Nat.div_mul_le_self x (2 ^ s)
  have ha : x &&& (x / 2 ^ s * 2 ^ s) = x / 2 ^ s * 2 ^ s := by
    rw [← Nat.shiftRight_eq_div_pow, ← Nat.shiftLeft_eq]
    apply Nat.eq_of_testBit_eq
    intro j
    rw [Nat.testBit_and, Nat.testBit_shiftLeft, Nat.testBit_shiftRight]
    by_cases q : s ≤ j
    · simp [q, Nat.add_sub_cancel' q]
    · simp [q]
  rw [ha]
  have hm : x % 2 ^ s = x - x / 2 ^ s * 2 ^ s := by
    have := Nat.div_add_mod x (2 ^ s)
    rw [Nat.mul_comm] at this
    omega
  rw [hm]
  omega
theorem shl_room {x s : Nat} (hx : x < 2 ^ 100000) (hs : s ≤ 100000) : ((Builtin.Int.intBits ((x / 2 ^ s : Nat) : Int) : Nat) : Int) + ((s : Nat) : Int) ≤ 2 ^ 27 := by
  have h1 : x / 2 ^ s < 2 ^ 100000 := Nat.lt_of_le_of_lt (Nat.div_le_self _ _) hx
  have h2 := bits_le h1
  omega
end Mine
namespace Mine
open PySem PySem.W PySem.Spec PySem.Calls PyProof.Rows
theorem laid_two {ds : List Int} {l j k n x : Nat} (hj : j ≤ k) (h : l + (k + 1) ≤ ds.length) : laid (laid ds l (digs n (x % 2 ^ (n * j)) j)) (l + j) (digs n (x / 2 ^ (n * j)) (k - j + 1)) = laid ds l (digs n x (k + 1)) := by
  have h1 := digs_len n (x % 2 ^ (n * j)) j
  have h2 := digs_len n (x / 2 ^ (n * j)) (k - j + 1)
  have e := laid_laid (ds := ds) (l := l) (es := digs n (x % 2 ^ (n * j)) j) (fs := digs n (x / 2 ^ (n * j)) (k - j + 1)) (by omega)
  rw [h1] at e
  rw [e, ← digs_add, show j + (k - j + 1) = k + 1 by omega]
theorem laid_all (k n x : Nat) : laid (List.replicate k 0) 0 (digs n x k) = digs n x k := by
  unfold laid
  rw [digs_len]
  simp
theorem div_room {x n j k : Nat} (hj : j ≤ k) (hx : x < 2 ^ (n * (k + 1))) : x / 2 ^ (n * j) < 2 ^ (n * (k - j + 1)) := by
  apply Nat.div_lt_of_lt_mul
  rw [← Nat.pow_add, ← Nat.mul_add, show j + (k - j + 1) = k + 1 by omega]
  exact hx
theorem halv {l r k j n dp un R C : Nat} (hr : r = l + (k + 1)) (hn : r ≤ n) (h0 : n ≤ 1000) (hj : (k + 1) / 2 = j) (hne : ¬ ((l : Int) + 1 = (r : Int))) (hd : dp + (k + 1) < R) (hu : un + 8 * (k + 1) < C) :
    (1 ≤ j ∧ j ≤ k ∧ j - 1 + 1 = j ∧ k + 1 ≤ 1000 ∧ j ≤ 1000 ∧ k - j + 1 ≤ 1000 ∧ l + (k + 1) ≤ n) ∧ (j - 1 < k ∧ l + j = l + (j - 1 + 1) ∧ l + j ≤ n ∧ dp + 1 + (j - 1 + 1) < R ∧ un + 3 + 8 * (j - 1 + 1) < C) ∧
    (k - j < k ∧ r = l + j + (k - j + 1) ∧ dp + 1 + (k - j + 1) < R ∧ un + 3 + 8 * (k - j + 1) < C) := by
  have hk : k ≠ 0 := by rintro rfl; exact hne (by rw [hr]; rfl)
  have hk1 : k + 1 ≤ n := Nat.le_trans (Nat.le_trans (Nat.le_add_left _ _) (Nat.le_of_eq hr.symm)) hn
  have h1 : 1 ≤ j := by rw [← hj]; exact Nat.div_pos (Nat.succ_le_succ (Nat.pos_of_ne_zero hk)) (by decide)
  have h2 : j ≤ k := by omega
  clear hj hne hk
  obtain ⟨i, rfl⟩ := Nat.exists_eq_add_of_le' h1
  obtain ⟨d, rfl⟩ := Nat.exists_eq_add_of_le h2
  subst hr
  rw [Nat.add_sub_cancel_left, Nat.add_sub_cancel]
  have e1 : i + 1 ≤ i + 1 + d := Nat.le_add_right _ _
  have e2 : d + 1 ≤ i + 1 + d := by rw [Nat.add_comm (i + 1) d]; exact Nat.add_le_add_left (Nat.succ_le_succ (Nat.zero_le i)) d
  have e3 : i + 1 + d ≤ 1000 := Nat.le_trans (Nat.le_succ _) (Nat.le_trans hk1 h0)
  have s1 : ∀ q, q ≤ i + 1 + d → dp + 1 + q < R := fun q hq => Nat.lt_of_le_of_lt (by rw [Nat.add_assoc, Nat.add_comm 1 q]; exact Nat.add_le_add_left (Nat.succ_le_succ hq) dp) hd
  have s2 : ∀ q, q ≤ i + 1 + d → un + 3 + 8 * q < C := fun q hq => Nat.lt_of_le_of_lt (by rw [Nat.add_assoc, Nat.mul_succ, Nat.add_comm 3]; exact Nat.add_le_add_left (Nat.add_le_add (Nat.mul_le_mul_left 8 hq) (by decide)) un) hu
  exact ⟨⟨h1, h2, rfl, Nat.le_trans hk1 h0, Nat.le_trans e1 e3, Nat.le_trans e2 e3, hn⟩, ⟨Nat.lt_of_lt_of_le (Nat.lt_succ_self i) e1, rfl, Nat.le_trans (Nat.add_le_add_left (Nat.le_trans e1 (Nat.le_succ _)) l) hn, s1 _ e1, s2 _ e1⟩,
    Nat.lt_of_lt_of_le (Nat.lt_succ_self d) e2, by rw [Nat.add_assoc l, ← Nat.add_assoc (i + 1) d 1], s1 _ e2, s2 _ e2⟩
theorem top_dp {dp k R : Nat} (h : k ≤ 80) (hd : dp + 100 < R) : dp + 1 + k < R := Nat.lt_of_le_of_lt (by rw [Nat.add_assoc]; exact Nat.add_le_add_left (Nat.le_trans (Nat.add_le_add_left h 1) (by decide)) dp) hd
theorem top_un {un k C : Nat} (h : k ≤ 80) (hu : un + 900 < C) : un + 3 + 8 * k < C := Nat.lt_of_le_of_lt (by rw [Nat.add_assoc]; exact Nat.add_le_add_left (Nat.le_trans (Nat.add_le_add_left (Nat.mul_le_mul_left 8 h) 3) (by decide)) un) hu
theorem nk_le {n k : Nat} (hn : n < 100) (hk : k ≤ 1000) : n * k ≤ 100000 := Nat.mul_le_mul (Nat.le_of_lt hn) hk
theorem room_of {x n k : Nat} (hx : x < 2 ^ (n * (k + 1))) (hk : n * (k + 1) ≤ 100000) : x < 2 ^ 100000 := Nat.lt_of_lt_of_le hx (Nat.pow_le_pow_right (by decide) hk)
end Mine
namespace Mine
open PySem PySem.W PySem.Spec PySem.Calls PyProof.Rows
theorem IntsAre_len : ∀ {vs : List Value} {ns : List Int}, IntsAre vs ns → vs.length = ns.length
  | _, _, .nil => rfl
  | _, _, .cons _ _ h => by rw [List.length_cons, List.length_cons, IntsAre_len h]
theorem IntsAre_get : ∀ {vs : List Value} {ns : List Int}, IntsAre vs ns → ∀ i (h : i < ns.length), ∃ t, vs[i]? = some (.int ns[i] t)
  | _, _, .nil, i, h => absurd h (Nat.not_lt_zero i)
  | _, _, .cons _ t _, 0, _ => ⟨t, rfl⟩
  | _, _, .cons _ _ hh, i + 1, h => IntsAre_get hh i (Nat.lt_of_succ_lt_succ h)
/-- the number of these digits to the base 2 ^ n, the lowest first -/
def undig (n : Nat) : List Nat → Nat
  | [] => 0
  | e :: es => e + 2 ^ n * undig n es
theorem undig_append (n : Nat) : ∀ xs ys, undig n (xs ++ ys) = undig n xs + 2 ^ (n * xs.length) * undig n ys
  | [], ys => by simp [undig]
  | x :: xs, ys => by
    rw [List.cons_append, undig, undig, undig_append n xs ys, List.length_cons, Nat.mul_succ, Nat.add_comm (n * _) n, Nat.pow_add, Nat.mul_add, Nat.mul_assoc, Nat.add_assoc]
theorem undig_lt (n : Nat) : ∀ es : List Nat, (∀ e ∈ es, e < 2 ^ n) → undig n es < 2 ^ (n * es.length)
  | [], _ => by simp [undig]
  | e :: es, h => by
    have h1 := h e (List.mem_cons_self ..)
    have h2 := undig_lt n es fun a ha => h a (List.mem_cons_of_mem _ ha)
    rw [undig, List.length_cons, Nat.mul_succ, Nat.add_comm (n * _) n, Nat.pow_add]
    have h3 : 2 ^ n * (undig n es + 1) ≤ 2 ^ n * 2 ^ (n * es.length) := Nat.mul_le_mul_left _ h2
    rw [Nat.mul_succ] at h3
    omega
/-- the digits from place l on, k + 1 of them -/
def seg (es : List Nat) (l k : Nat) : List Nat := (es.drop l).take k
theorem seg_len {es : List Nat} {l k : Nat} (h : l + k ≤ es.length) : (seg es l k).length = k := by
  unfold seg
  simp only [List.length_take, List.length_drop]
  omega
theorem seg_add (es : List Nat) (l j k : Nat) : seg es l (j + k) = seg es l j ++ seg es (l + j) k := by
  unfold seg
  rw [List.take_add, List.drop_drop]
theorem seg_lt {n : Nat} {es : List Nat} (h : ∀ e ∈ es, e < 2 ^ n) (l k : Nat) : ∀ e ∈ seg es l k, e < 2 ^ n :=
  fun e he => h e (List.mem_of_mem_drop (List.mem_of_mem_take he))
theorem seg_all (es : List Nat) : seg es 0 es.length = es := by simp [seg]
theorem seg_one {es : List Nat} {l n : Nat} (h : l < es.length) : undig n (seg es l 1) = es[l] := by
  unfold seg
  rw [List.drop_eq_getElem_cons h, List.take_succ_cons, List.take_zero]
  simp only [undig, Nat.mul_zero, Nat.add_zero]
theorem seg_room {n : Nat} {es : List Nat} (h : ∀ e ∈ es, e < 2 ^ n) (l k : Nat) (hl : l + k ≤ es.length) : undig n (seg es l k) < 2 ^ (n * k) := by
  have := undig_lt n _ (seg_lt h l k)
  rwa [seg_len hl] at this
theorem seg_two {n : Nat} {es : List Nat} {l j k : Nat} (hj : j ≤ k) (h : l + (k + 1) ≤ es.length) : ((undig n (seg es (l + j) (k - j + 1)) : Nat) : Int) * 2 ^ ((n * j : Nat) : Int).toNat + ((undig n (seg es l j) : Nat) : Int) = ((undig n (seg es l (k + 1)) : Nat) : Int) := by
  have e : undig n (seg es l (k + 1)) = undig n (seg es l j) + 2 ^ (n * j) * undig n (seg es (l + j) (k - j + 1)) := by
    have h1 := seg_add es l j (k - j + 1)
    rw [show j + (k - j + 1) = k + 1 by omega] at h1
    rw [h1, undig_append, seg_len (by omega)]
  rw [e, Int.toNat_natCast]
  push_cast
  rw [Int.mul_comm, Int.add_comm]
theorem lift_room {x s : Nat} (hx : x < 2 ^ 100000) (hs : s ≤ 100000) : ((Builtin.Int.intBits (x : Int) : Nat) : Int) + ((s : Nat) : Int) ≤ 2 ^ 27 := by
  have h2 := bits_le hx
  omega
/-- what the inner def of _digits2int does: it tells the number of the digits from l to r -/
def SumSpec (prog : Program) (w : World) (K : Frag) (p : Program) (loose : List Str) (mean : ExcName → Option Value) (mg mb : Str → Option Value) (fix : List (Addr × Obj)) (f : Addr) (n : Nat) (es : List Nat) (k : Nat) : Prop :=
  ∀ {dp un : Nat} {gd : Option (List Code)} {cn : Str} {cs : Scope} {a : Addr} {ccd : Value} {cl : List (Str × Addr)} {outer : List Env} {A₀ : Around} {base h₀ : Heap} {L : Addr} {m : Str → Option Value} {s : Shared} {Q E : Value → Shared → Prop}
    {rest : List (Addr × Obj)} {l r : Nat} {tl tr : Tok},
    Below A₀ base outer h₀ → Fr h₀ L s.heap m → K.In h₀ → News h₀ L s.heap rest → Top topProg loose mean mg mb h₀ → Flt.MathXP p mg h₀ → cs.kind = .function →
    r = l + (k + 1) → (∀ q ∈ fix, q ∈ rest) → r ≤ es.length → dp + (k + 1) < recursionLimit → un + 8 * (k + 1) < cLine →
    (∀ t' h' tk', Fr h₀ L h' m → News h₀ L h' rest → Q (.int ((undig n (seg es l (k + 1)) : Nat) : Int) t') { s with heap := h', toks := tk' }) →
    wpAny (model prog w) (ktrTop dp un gd cn cs L a ccd cl outer) (call (.ref f) [.int (l : Int) tl, .int (r : Int) tr]) Q E s
theorem sum_ind {prog : Program} {w : World} {K : Frag} {p : Program} {loose : List Str} {mean : ExcName → Option Value} {mg mb : Str → Option Value} {fix : List (Addr × Obj)} {f : Addr} {n : Nat} {es : List Nat}
    (step : ∀ k, (∀ j, j < k → SumSpec prog w K p loose mean mg mb fix f n es j) → SumSpec prog w K p loose mean mg mb fix f n es k) : ∀ k, SumSpec prog w K p loose mean mg mb fix f n es k := by
  intro k
  induction k using Nat.strongRecOn with
  | _ k ih =>
    apply step
    intro j hj
    exact ih j hj
theorem sum_call {prog : Program} {w : World} {K : Frag} {p : Program} {loose : List Str} {mean : ExcName → Option Value} {mg mb : Str → Option Value} {fix : List (Addr × Obj)} {f : Addr} {n k : Nat} {es : List Nat}
    {dp un : Nat} {gd : Option (List Code)} {cn : Str} {cs : Scope} {a : Addr} {ccd : Value} {cl : List (Str × Addr)} {outer : List Env} {A₀ : Around} {base h₀ : Heap} {L : Addr} {m : Str → Option Value} {s : Shared} {Q E : Value → Shared → Prop}
    {rest : List (Addr × Obj)} {l r : Nat} {Lv Rv : Int} {tl tr : Tok} (S : SumSpec prog w K p loose mean mg mb fix f n es k) (el : Lv = (l : Int)) (er : Rv = (r : Int))
    (B : Below A₀ base outer h₀) (F : Fr h₀ L s.heap m) (XK : K.In h₀) (N : News h₀ L s.heap rest) (T : Top topProg loose mean mg mb h₀) (XM : Flt.MathXP p mg h₀) (hk : cs.kind = .function)
    (hr : r = l + (k + 1)) (hfix : ∀ q ∈ fix, q ∈ rest) (hrl : r ≤ es.length) (hd : dp + (k + 1) < recursionLimit) (hu : un + 8 * (k + 1) < cLine)
    (ret : ∀ t' h' tk', Fr h₀ L h' m → News h₀ L h' rest → Q (.int ((undig n (seg es l (k + 1)) : Nat) : Int) t') { s with heap := h', toks := tk' }) :
    wpAny (model prog w) (ktrTop dp un gd cn cs L a ccd cl outer) (call (.ref f) [.int Lv tl, .int Rv tr]) Q E s := by
  subst el er
  exact S B F XK N T XM hk hr hfix hrl hd hu ret
theorem d2i_led {h₀ h : Heap} {L f lq c3 c2 c1 P : Addr} {fo lo o3 o2 o1 pt : Obj} {add rest : List (Addr × Obj)} (N : News h₀ L h ((f, fo) :: (add ++ (c3, o3) :: (c2, o2) :: (c1, o1) :: (lq, lo) :: (P, pt) :: rest))) :
    ∃ o3' o2' o1', o3' = o3 ∧ o2' = o2 ∧ o1' = o1 ∧ News h₀ L h ((c3, o3') :: (lq, lo) :: (P, pt) :: (f, fo) :: (c2, o2') :: (c1, o1') :: (add ++ rest)) :=
  ⟨o3, o2, o1, rfl, rfl, rfl, news_sub N fun p hp => by simp only [List.mem_cons, List.mem_append] at hp ⊢; grind⟩
end Mine
namespace Mine
open PySem PySem.W PySem.Spec PySem.Calls PyProof.Rows
section
variable {prog : Program} {w : World} {A : Around} {s : Shared} {env : Env} {h₀ : Heap} {E : Value → Shared → Prop} {Q : Flow → Shared → Prop}
theorem rev_X {I l : Addr} {vs : List Value} {nn : Nat} {m₀ : Str → Option Value} {news : List (Addr × Obj)} {x : Str} {body orelse : List Stmt} (J : Nat → (Str → Option Value) → List (Addr × Obj) → Prop)
    (hh : A.handled = none) (F : Fr h₀ env.locals s.heap m₀) (N : News h₀ env.locals s.heap ((I, revObj l ((vs.length : Int) - 1)) :: news)) (hoff : ∀ p ∈ news, p.1 ≠ I) (hm : (l, listOf vs.toArray nn) ∈ news) (h0 : J 0 m₀ news)
    (hls : ∀ i m nx, J i m nx → (l, listOf vs.toArray nn) ∈ nx)
    (turn : ∀ i v m₁ nx h tk it, i < vs.length → vs[vs.length - 1 - i]? = some v → J i m₁ nx → (∀ p ∈ nx, p.1 ≠ I) → it.cls = .type "list_reverseiterator" → Fr h₀ env.locals h (fun y => if y = x then some v else m₁ y) → News h₀ env.locals h ((I, it) :: nx) →
      wpAny (model prog w) A (execs body env) (TurnPost h₀ env.locals I it (J (i + 1)) { s with heap := h, toks := tk } Q) E { s with heap := h, toks := tk })
    (done : ∀ m₁ nx h tk, J vs.length m₁ nx → Fr h₀ env.locals h m₁ → News h₀ env.locals h nx → wpAny (model prog w) A (execs orelse env) Q E { s with heap := h, toks := tk }) :
    wpAny (model prog w) A (pyIter (.ref I)) (fun it s₂ => LoopX prog w A h₀ env x body orelse Q E it s₂) E s := by
  have hIx := N _ (List.mem_cons_self ..)
  have hax := N _ (List.mem_cons_of_mem _ hm)
  have hl : s.heap.IsList l vs.toArray := ⟨_, hax.1, rfl, _, rfl⟩
  have hne : l ≠ I := hoff _ hm
  have hit : s.heap.IsRevIter I l ((vs.length : Int) - 1) := ⟨_, hIx.1, rfl, rfl⟩
  refine wpAny_pyIter_revIter hit ?_
  have W := Walks.listRev (prog := prog) (w := w) hh I l hne vs.toArray
  have hlen : vs.toArray.size = vs.length := by simp
  rw [hlen] at W
  refine ⟨I, _, _, vs.length, _, _, m₀, news, J, rfl, W, ?_, ?_, ?_, ⟨Nat.zero_le _, by simpa using hit, hl⟩, F, (fun p hp => N p (List.mem_cons_of_mem _ hp)), h0, ?_, ?_⟩
  · intro hmm
    rcases List.mem_cons.mp hmm with e | hmm
    · exact hIx.2.1 e.symm
    · exact hax.2.1 (List.mem_singleton.mp hmm).symm
  · intro b hb
    rw [List.mem_singleton.mp hb]
    exact hIx.2.2
  · intro p hp hI
    exact hoff p hp (List.mem_singleton.mp hI)
  · rintro i v m₁ news₁ s₁ own ⟨hh', tk', rfl⟩ hin hP hJ hofs hown hget hall hst F₁ N₁
    obtain ⟨it, hit', hic, hid⟩ := hst.2.1
    have hmemI := hall I (List.mem_cons_self ..) hIx.2.2 _ hit'
    have N₂ : News h₀ env.locals hh' ((I, it) :: news₁) := fun p hp => by
      rcases List.mem_cons.mp hp with rfl | hp
      · exact N₁ _ (List.mem_append_left _ hmemI)
      · exact N₁ _ (List.mem_append_right _ hp)
    have hPv : vs[vs.length - 1 - i]? = some v := by simpa using hP
    refine wpAny_mono (turn i v m₁ news₁ hh' tk' it hin hPv hJ (fun p hp e => hofs p hp (List.mem_singleton.mpr e)) hic F₁ N₂) (fun f s₂ p => ?_) fun _ _ e => e
    have fin : TurnEnd h₀ env.locals I it (J (i + 1)) { s with heap := hh', toks := tk' } s₂ → LoopStepU h₀ env.locals [I] own (J (i + 1)) { s with heap := hh', toks := tk' } .next s₂ := by
      rintro ⟨h', tk, m', nx, rfl, F', N', ho, hJ'⟩
      refine ⟨rfl, h', tk, m', nx, rfl, F', fun p hp => ?_, fun p hp hI => ho p hp (List.mem_singleton.mp hI), hJ'⟩
      rcases List.mem_append.mp hp with hp | hp
      · have h2 : hh'.get? p.1 = some p.2 := hget p hp
        rcases List.mem_cons.mp (hown p hp) with h1 | h1
        · have h3 : p = (I, it) := by
            rw [h1, hit'] at h2
            exact Prod.ext h1 (Option.some.inj h2).symm
          rw [h3]; exact N' _ (List.mem_cons_self ..)
        · have h1' : p.1 = l := List.mem_singleton.mp h1
          have h3 : p = (l, listOf vs.toArray nn) := by
            rw [h1', (N₁ _ (List.mem_append_right _ (hls i _ _ hJ))).1] at h2
            exact Prod.ext h1' (Option.some.inj h2).symm
          rw [h3]; exact N' _ (List.mem_cons_of_mem _ (hls _ _ _ hJ'))
      · exact N' _ (List.mem_cons_of_mem _ hp)
    cases f with
    | ret v => exact .ret p
    | brk => exact .brk p
    | next => exact .next (fin p)
    | cont => exact .cont (fin p)
  · rintro h' tk m' news' F' N' _ hJ
    exact done m' news' h' tk hJ F' N'
end
end Mine
namespace Mine
open PySem PySem.W PySem.Spec PySem.Calls PyProof.Rows
theorem div_next {X B d b : Nat} (hb : 0 < b) : (X * B + d) / b = (X / b) * B + ((X % b) * B + d) / b ∧ (X * B + d) % b = ((X % b) * B + d) % b := by
  have e : X * B + d = ((X % b) * B + d) + b * ((X / b) * B) := by
    have h := Nat.div_add_mod X b
    calc X * B + d = (b * (X / b) + X % b) * B + d := by rw [h]
      _ = _ := by rw [Nat.add_mul, Nat.mul_assoc]; omega
  rw [e]
  exact ⟨by rw [Nat.add_mul_div_left _ _ hb, Nat.add_comm], by rw [Nat.add_mul_mod_self_left]⟩
theorem div_digit {X B d b : Nat} (hb : 0 < b) (hd : d < B) : (X % b) * B + d < b * B := by
  have h1 : X % b + 1 ≤ b := Nat.mod_lt _ hb
  have h2 := Nat.mul_le_mul_right B h1
  rw [Nat.add_mul] at h2
  omega
theorem digs_get {n : Nat} : ∀ {k x i : Nat} (h : i < (digs n x k).length), (digs n x k)[i] = ((x / 2 ^ (n * i) % 2 ^ n : Nat) : Int)
  | k + 1, x, 0, _ => by simp [digs]
  | k + 1, x, i + 1, h => by
    simp only [digs, List.getElem_cons_succ]
    rw [digs_get (k := k) (x := x / 2 ^ n) (i := i), Nat.div_div_eq_div_mul, ← Nat.pow_add, Nat.mul_succ, Nat.add_comm n]
theorem top_next {x n K i : Nat} (hi : i < K) : x / 2 ^ (n * (K - (i + 1))) = x / 2 ^ (n * (K - i)) * 2 ^ n + x / 2 ^ (n * (K - 1 - i)) % 2 ^ n := by
  rw [show K - (i + 1) = K - 1 - i by omega, show K - i = (K - 1 - i) + 1 by omega, Nat.mul_succ, Nat.pow_add, ← Nat.div_div_eq_div_mul]
  have := Nat.div_add_mod (x / 2 ^ (n * (K - 1 - i))) (2 ^ n)
  rw [Nat.mul_comm] at this
  exact this.symm
/-- what the loop of _divmod_pos has told: the digits so far, the highest first, and the rest -/
structure Told (n x b K i : Nat) (es : List Nat) (r : Nat) : Prop where
  len : es.length = i
  val : undig n es.reverse = x / 2 ^ (n * (K - i)) / b
  rest : r = x / 2 ^ (n * (K - i)) % b
  small : ∀ e ∈ es, e < 2 ^ n
theorem Told.zero {n x b K : Nat} (h : x < 2 ^ (n * K)) (_hb : 0 < b) : Told n x b K 0 [] 0 := by
  refine ⟨rfl, ?_, ?_, fun e he => nomatch he⟩
  · rw [Nat.sub_zero, Nat.div_eq_of_lt h, Nat.zero_div]; rfl
  · rw [Nat.sub_zero, Nat.div_eq_of_lt h, Nat.zero_mod]
theorem Told.next {n x b K i r : Nat} {es : List Nat} (h : Told n x b K i es r) (hi : i < K) (hb : 0 < b) :
    Told n x b K (i + 1) (es ++ [(r * 2 ^ n + x / 2 ^ (n * (K - 1 - i)) % 2 ^ n) / b]) ((r * 2 ^ n + x / 2 ^ (n * (K - 1 - i)) % 2 ^ n) % b) := by
  have hd : x / 2 ^ (n * (K - 1 - i)) % 2 ^ n < 2 ^ n := Nat.mod_lt _ (Nat.two_pow_pos _)
  obtain ⟨e1, e2⟩ := div_next (X := x / 2 ^ (n * (K - i))) (B := 2 ^ n) (d := x / 2 ^ (n * (K - 1 - i)) % 2 ^ n) hb
  refine ⟨by simp [h.len], ?_, ?_, ?_⟩
  · rw [List.reverse_append, List.reverse_singleton, List.singleton_append, undig, h.val, top_next hi, e1, h.rest, Nat.mul_comm (2 ^ n), Nat.add_comm]
  · rw [top_next hi, e2, h.rest]
  · intro e he
    rcases List.mem_append.mp he with he | he
    · exact h.small e he
    · rw [List.mem_singleton.mp he]
      have := div_digit (X := x / 2 ^ (n * (K - i))) hb hd
      rw [← h.rest] at this
      exact Nat.div_lt_of_lt_mul this
theorem Told.room {n x b K i r : Nat} {es : List Nat} (h : Told n x b K i es r) (hb : 0 < b) : r < b := by
  rw [h.rest]; exact Nat.mod_lt _ hb
theorem Told.all {n x b K r : Nat} {es : List Nat} (h : Told n x b K K es r) : undig n es.reverse = x / b ∧ r = x % b := by
  have h1 := h.val
  have h2 := h.rest
  rw [Nat.sub_self, Nat.mul_zero, Nat.pow_zero, Nat.div_one] at h1 h2
  exact ⟨h1, h2⟩
theorem ints_snoc {vs : List Value} {es : List Nat} (h : IntsAre vs (es.map Int.ofNat)) (e : Nat) (t : Tok) : IntsAre (vs ++ [.int (e : Int) t]) ((es ++ [e]).map Int.ofNat) := by
  rw [List.map_append]
  exact h.append (.cons _ t .nil)
theorem bits_pos {b : Nat} (hb : 0 < b) : 0 < Builtin.Int.intBits (b : Int) := Nat.pos_of_ne_zero fun h => by have := (bits_zero_iff b).mp h; omega
end Mine
namespace Mine
open PySem PySem.W PySem.Spec PySem.Calls PyProof.Rows
theorem TbOk.off {l c l2 c2 : Int} {q q2 : Str} {ps qs : Array Value} {news news' news2 : List (Addr × Obj)} (h : TbOk l c q ps news) (h2 : TbOk l2 c2 q2 qs news2)
    (hs : ∀ p ∈ news, p ∈ news' ∨ p.2 = tabObj qs ∨ ∃ vs n, p.2 = W.listOf vs n) : TbOk l c q ps news' := by
  rcases h with h | ⟨c', oc, vs, t, h1, hm, hd, hv⟩
  · exact .inl h
  · refine .inr ⟨c', oc, vs, t, h1, ?_, hd, hv⟩
    rcases hs _ hm with h | h | ⟨ws, n, h⟩
    · exact h
    · exfalso
      have h : oc = tabObj qs := h
      rw [h] at hd
      have hd : Data.fields qs = .fields vs := hd
      cases hd
      rcases h2 with h2 | ⟨_, _, _, _, h2, _⟩
      · rw [h2] at hv; cases hv
      · rw [h2] at hv; cases hv
    · exfalso
      have h : oc = W.listOf ws n := h
      rw [h] at hd
      cases hd
end Mine
namespace Mine
open PySem PySem.W PySem.Spec PySem.Calls PyProof.Rows
/-- the two code tables of _int2digits and _digits2int, as a call finds them -/
def DvPre (Pi Pd : Addr) (li ld : Int) (ps qs : Array Value) (rest : List (Addr × Obj)) : Prop :=
  (∀ p ∈ rest, p.1 ≠ Pi ∧ p.1 ≠ Pd) ∧ TbOk li 4 (Str.ofString "_int2digits.<locals>.inner") ps rest ∧ TbOk ld 4 (Str.ofString "_digits2int.<locals>.inner") qs rest
/-- what a division leaves -/
def DvPost (Pi Pd : Addr) (li ld : Int) (rest : List (Addr × Obj)) (q m : Int) (r : Value) (nw : List (Addr × Obj)) : Prop :=
  ∃ ps' qs' add d t1 t2, r = .ref d ∧ ((d, { cls := .type "tuple", data := .seq #[.int q t1, .int m t2] }) :: (Pi, tabObj ps') :: (Pd, tabObj qs') :: (add ++ rest)) = nw ∧ 
       TbOk li 4 (Str.ofString "_int2digits.<locals>.inner") ps' (add ++ rest) ∧ TbOk ld 4 (Str.ofString "_digits2int.<locals>.inner") qs' (add ++ rest) ∧
       (Pi < d ∧ Pd < d ∧ (∀ q ∈ add, q.1 < d) ∧ ∀ q ∈ rest, q.1 < d) ∧ ∀ p ∈ add, Pi < p.1 ∧ Pd < p.1 ∧ ∀ q ∈ rest, q.1 < p.1
theorem fdiv_neg_of (x b : Nat) (hb : 0 < b) : (-(x : Int) - 1).fdiv (b : Int) = -((x / b : Nat) : Int) - 1 ∧ (-(x : Int) - 1).fmod (b : Int) = (b : Int) - ((x % b : Nat) : Int) - 1 := by
  rw [Int.fdiv_eq_ediv_of_nonneg _ (by omega), Int.fmod_eq_emod_of_nonneg _ (by omega)]
  have h1 := Nat.div_add_mod x b
  have h2 := Nat.mod_lt x hb
  generalize x / b = q at *
  generalize x % b = r at *
  have e : (-(x : Int) - 1) = ((b : Int) - (r : Int) - 1) + (b : Int) * (-(q : Int) - 1) := by
    have : (x : Int) = (b : Int) * (q : Int) + (r : Int) := by rw [← h1]; simp
    rw [this, Int.mul_sub, Int.mul_neg]
    omega
  rw [e]
  have h3 : (0 : Int) ≤ (b : Int) - (r : Int) - 1 := by omega
  have h4 : (b : Int) - (r : Int) - 1 < (b : Int) := by omega
  refine ⟨?_, ?_⟩
  · rw [Int.add_mul_ediv_left _ _ (by omega), Int.ediv_eq_zero_of_lt h3 h4, Int.zero_add]
  · rw [Int.add_mul_emod_self_left, Int.emod_eq_of_lt h3 h4]
theorem fdiv_minus (a b : Int) : (-a).fdiv (-b) = a.fdiv b ∧ (-a).fmod (-b) = -(a.fmod b) := by
  have h1 : (-a).fdiv (-b) = a.fdiv b := Int.neg_fdiv_neg a b
  refine ⟨h1, ?_⟩
  have h2 := Int.fmod_def a b
  have h3 := Int.fmod_def (-a) (-b)
  rw [h1] at h3
  rw [h3, h2, Int.neg_mul]
  omega
end Mine
namespace Mine
open PySem PySem.W PySem.Spec PySem.Calls PyProof.Rows
section
variable {prog : Program} {w : World} {A : Around} {s : Shared} {h₀ : Heap} {L : Addr} {m : Str → Option Value} {env : Env}
theorem comp_inv {elt : Expr} {x : Str} {scope : Scope} {cl : List (Str × Addr)} {S : List (Addr × Obj) → Prop} {P : Nat → Value → Prop} {Fin : List Value → List (Addr × Obj) → Prop} {n : Nat} {news : List (Addr × Obj)} (J : Nat → List Value → List (Addr × Obj) → Prop) (h0 : J 0 [] news)
    (turn : ∀ i ys nx v I oI C oC D m₂ h tk (E' : Value → Shared → Prop), i < n → J i ys nx → P i v → LCg.NsObj oC m₂ → m₂ x = some v → Fr h₀ L h m → News h₀ L h ((I, oI) :: (C, oC) :: (D, LCg.lst ys) :: nx) → LCg.Off3 I C D nx → ((@Ne Nat I C) ∧ (@Ne Nat I D) ∧ (@Ne Nat C D)) →
      wpAny (model prog w) A (eval elt (compEnvC scope cl C env)) (LCg.CompEnd h₀ L m { s with heap := h, toks := tk } I oI C oC D (LCg.lst ys) S (fun y nx' => J (i + 1) (ys ++ [y]) nx')) E' { s with heap := h, toks := tk })
    (done : ∀ ys nx, J n ys nx → Fin ys nx) : LCg.CompRest prog w A h₀ L m env elt x scope cl s S P Fin n 0 [] news := by
  have key : ∀ (j i : Nat) ys nx, i + j = n → J i ys nx → LCg.CompRest prog w A h₀ L m env elt x scope cl s S P Fin j i ys nx := by
    intro j
    induction j with
    | zero =>
      intro i ys nx hi hJ
      have e : i = n := by omega
      subst e
      exact LCg.CompRest.zero (done ys nx hJ)
    | succ j ih =>
      intro i ys nx hi hJ
      refine LCg.CompRest.succ ?_
      intro v I oI C oC D m₂ h tk E' hv hC hx F N off ne
      refine wpAny_mono (turn i ys nx v I oI C oC D m₂ h tk E' (by omega) hJ hv hC hx F N off ne) (fun y s₂ hq => ?_) fun _ _ e => e
      obtain ⟨h', tk', nw, e, F', N', off', hS, hJ'⟩ := hq
      exact ⟨h', tk', nw, e, F', N', off', hS, ih (i + 1) _ _ (by omega) hJ'⟩
  exact key n 0 [] news (by omega) h0
theorem comp_invT {ct elt : Expr} {x : Str} {scope : Scope} {cl : List (Str × Addr)} {S : List (Addr × Obj) → Prop} {P : Nat → Value → Prop} {Fin : List Value → List (Addr × Obj) → Prop} {n : Nat} {news : List (Addr × Obj)} (J : Nat → List Value → List (Addr × Obj) → Prop) (h0 : J 0 [] news)
    (turn : ∀ i ys nx v I oI C oC D m₂ h tk (E' : Value → Shared → Prop), i < n → J i ys nx → P i v → LCg.NsObj oC m₂ → m₂ x = some v → Fr h₀ L h m → News h₀ L h ((I, oI) :: (C, oC) :: (D, LCg.lst ys) :: nx) → LCg.Off3 I C D nx → ((@Ne Nat I C) ∧ (@Ne Nat I D) ∧ (@Ne Nat C D)) →
      wpAny (model prog w) A (isTrue ct (compEnvC scope cl C env) (eval ct (compEnvC scope cl C env))) (fun b s' => if b = true then wpAny (model prog w) A (eval elt (compEnvC scope cl C env)) (LCg.CompEnd h₀ L m { s with heap := h, toks := tk } I oI C oC D (LCg.lst ys) S (fun y nx' => J (i + 1) (ys ++ [y]) nx')) E' s'
        else LCg.CompEnd h₀ L m { s with heap := h, toks := tk } I oI C oC D (LCg.lst ys) S (fun _ nx' => J (i + 1) ys nx') Value.none s') E' { s with heap := h, toks := tk })
    (done : ∀ ys nx, J n ys nx → Fin ys nx) : LCt.CompRestT prog w A h₀ L m env ct elt x scope cl s S P Fin n 0 [] news := by
  have key : ∀ (j i : Nat) ys nx, i + j = n → J i ys nx → LCt.CompRestT prog w A h₀ L m env ct elt x scope cl s S P Fin j i ys nx := by
    intro j
    induction j with
    | zero =>
      intro i ys nx hi hJ
      have e : i = n := by omega
      subst e
      exact LCt.CompRestT.zero (done ys nx hJ)
    | succ j ih =>
      intro i ys nx hi hJ
      refine LCt.CompRestT.succ ?_
      intro v I oI C oC D m₂ h tk E' hv hC hx F N off ne
      refine wpAny_mono (turn i ys nx v I oI C oC D m₂ h tk E' (by omega) hJ hv hC hx F N off ne) (fun b s₂ hq => ?_) fun _ _ e => e
      cases b with
      | true =>
        simp only [if_true] at hq ⊢
        refine wpAny_mono hq (fun y s₃ hr => ?_) fun _ _ e => e
        obtain ⟨h', tk', nw, e, F', N', off', hS, hJ'⟩ := hr
        exact ⟨h', tk', nw, e, F', N', off', hS, ih (i + 1) _ _ (by omega) hJ'⟩
      | false =>
        simp only [Bool.false_eq_true, if_false] at hq ⊢
        obtain ⟨h', tk', nw, e, F', N', off', hS, hJ'⟩ := hq
        exact ⟨h', tk', nw, e, F', N', off', hS, ih (i + 1) _ _ (by omega) hJ'⟩
  exact key n 0 [] news (by omega) h0
end
end Mine
namespace Mine
open PySem PySem.W PySem.Spec PySem.Calls PyProof.Rows
end Mine
namespace Mine
open PySem PySem.W PySem.Spec PySem.Calls PyProof.Rows
end Mine
namespace Mine
open PySem PySem.W PySem.Spec PySem.Calls PyProof.Rows
section
variable {prog : Program} {w : World} {A : Around} {E : Value → Shared → Prop} {s : Shared}
end
end Mine
namespace Mine
open PySem PySem.W PySem.Spec PySem.Calls PyProof.Rows
end Mine
namespace Mine
open PySem PySem.W PySem.Spec PySem.Calls PyProof.Rows
section
variable {prog : Program} {w : World} {A : Around} {s : Shared} {h₀ : Heap} {L : Addr} {m : Str → Option Value} {env : Env}
theorem comp_invP {elt : Expr} {x x₂ : Str} {scope : Scope} {cl : List (Str × Addr)} {S : List (Addr × Obj) → Prop} {P : Nat → Value → Prop} {Fin : List Value → List (Addr × Obj) → Prop} {n : Nat} {news : List (Addr × Obj)} (J : Nat → List Value → List (Addr × Obj) → Prop) (h0 : J 0 [] news)
    (turn : ∀ i ys nx v, i < n → J i ys nx → P i v → ∃ (t : Addr) (ot : Obj) (v₁ v₂ : Value) (nt : Nat), v = .ref t ∧ (t, ot) ∈ nx ∧ ot.cls = .type "tuple" ∧ ot.data = .seq #[v₁, v₂] nt ∧
      ∀ I oI C oC D m₂ h tk (E' : Value → Shared → Prop), LCg.NsObj oC m₂ → m₂ x = some v₁ → m₂ x₂ = some v₂ → Fr h₀ L h m → News h₀ L h ((I, oI) :: (C, oC) :: (D, LCg.lst ys) :: nx) → LCg.Off3 I C D nx → ((@Ne Nat I C) ∧ (@Ne Nat I D) ∧ (@Ne Nat C D)) →
      wpAny (model prog w) A (eval elt (compEnvC scope cl C env)) (LCg.CompEnd h₀ L m { s with heap := h, toks := tk } I oI C oC D (LCg.lst ys) S (fun y nx' => J (i + 1) (ys ++ [y]) nx')) E' { s with heap := h, toks := tk })
    (done : ∀ ys nx, J n ys nx → Fin ys nx) : LCp.CompRestP prog w A h₀ L m env elt x x₂ scope cl s S P Fin n 0 [] news := by
  have key : ∀ (j i : Nat) ys nx, i + j = n → J i ys nx → LCp.CompRestP prog w A h₀ L m env elt x x₂ scope cl s S P Fin j i ys nx := by
    intro j
    induction j with
    | zero =>
      intro i ys nx hi hJ
      have e : i = n := by omega
      subst e
      exact LCp.CompRestP.zero (done ys nx hJ)
    | succ j ih =>
      intro i ys nx hi hJ
      show ∀ v, P i v → _
      intro v hv
      obtain ⟨t, ot, v₁, v₂, nt, e1, e2, e3, e4, hh⟩ := turn i ys nx v (by omega) hJ hv
      refine ⟨t, ot, v₁, v₂, nt, e1, e2, e3, e4, fun I oI C oC D m₂ h tk E' hC hx hx2 F N off ne => ?_⟩
      refine wpAny_mono (hh I oI C oC D m₂ h tk E' hC hx hx2 F N off ne) (fun y s₂ hq => ?_) fun _ _ e => e
      obtain ⟨h', tk', nw, e, F', N', off', hS, hJ'⟩ := hq
      exact ⟨h', tk', nw, e, F', N', off', hS, ih (i + 1) _ _ (by omega) hJ'⟩
  exact key n 0 [] news (by omega) h0
end
theorem off1_mem {D : Addr} {l : List (Addr × Obj)} (x : LCg.Off1 D l) : ∀ p ∈ l, p.1 ≠ D := by
  induction l with
  | nil => intro p h; cases h
  | cons q r ih =>
    intro p h
    rcases List.mem_cons.mp h with rfl | h
    · exact x.1
    · exact ih x.2 p h
end Mine
namespace Mine
open PySem PySem.W PySem.Spec PySem.Calls PyProof.Rows
section
variable {prog : Program} {w : World} {A : Around} {E : Value → Shared → Prop} {s : Shared} {h₀ : Heap} {L D : Addr} {m : Str → Option Value} {news news' : List (Addr × Obj)}
theorem append_C {vs : List Value} {c : Nat} {x : Value} {Q : Value → Shared → Prop} (F : Fr h₀ L s.heap m) (N : News h₀ L s.heap news) (U : Upd D (listOf vs.toArray c) (listOf (vs ++ [x]).toArray (c + 1)) news news') (hsz : vs.length ≤ 100000)
    (h : ∀ h', Fr h₀ L h' m → News h₀ L h' news' → Q .none { s with heap := h' }) : wpAny (model prog w) A (call (.builtin "list.append") [.ref D, x]) Q E s := by
  have e : listOf (vs ++ [x]).toArray (c + 1) = listOf (vs.toArray.push x) (c + 1) := by simp
  rw [e] at U
  exact append_K F N U h (by rw [List.size_toArray, sizeLine_eq]; omega)
end
end Mine
namespace Mine
open PySem PySem.W PySem.Spec PySem.Calls PyProof.Rows
structure Good (st : List Nat × List (Str × Str)) (k : Nat) : Prop where
  small : ∀ r ∈ st.1, r < 32
  len : st.1.length ≤ k
  zero : 0 ∈ st.1
  same : st.2.length = st.1.length
end Mine
namespace Mine
open PySem PySem.W PySem.Spec PySem.Calls PyProof.Rows
end Mine
namespace Mine
open PySem PySem.W PySem.Spec PySem.Calls PyProof.Rows
end Mine
namespace Mine
open PySem PySem.W PySem.Spec PySem.Calls PyProof.Rows
theorem txl_num : ∀ a : Nat, a < 32 → Txl (Str.ofString (toString (a : Int))) := by
  show ∀ a : Nat, a < 32 → (∀ c ∈ (Str.ofString (toString (a : Int))).cps.toList, 32 ≤ c ∧ c < 127) ∧ (Str.ofString (toString (a : Int))).length ≤ 100000
  decide +kernel
theorem txl_no : Txl (Str.ofString "") := show (∀ c ∈ (Str.ofString "").cps.toList, 32 ≤ c ∧ c < 127) ∧ (Str.ofString "").length ≤ 100000 by decide +kernel
end Mine
namespace Mine
end Mine
namespace Mine
open PySem
/-- a set of rows that is closed under «places that just one has» -/
structure Sub (rows : List Nat) : Prop where
  zero : 0 ∈ rows
  closed : ∀ x ∈ rows, ∀ y ∈ rows, x ^^^ y ∈ rows
  nodup : rows.Nodup
  small : ∀ r ∈ rows, r < 32
end Mine

namespace Mine
open PySem
end Mine
namespace Mine
open PySem
end Mine

namespace Mine
open PySem
end Mine
namespace Mine
open PySem PySem.W PySem.Spec PySem.Calls PyProof.Rows
theorem cut1 {M : Model} {A : Around} {env : Env} {st : Stmt} {rest : List Stmt} {Q : Flow → Shared → Prop} {E : Value → Shared → Prop} {s : Shared} (Mid : Shared → Prop)
    (h1 : wpAny M A (exec st env) (fun f s' => f = .next ∧ Hold (Mid s')) E s) (h2 : ∀ s', Mid s' → wpAny M A (execs rest env) Q E s') : wpAny M A (execs (st :: rest) env) Q E s := by
  refine wpAny_execs_cons (wpAny_mono h1 (fun f s' h => ?_) fun _ _ e => e)
  obtain ⟨rfl, h⟩ := h
  exact h2 s' h.out
end Mine
namespace Mine
open PySem PySem.W PySem.Spec PySem.Calls PyProof.Rows
end Mine
namespace Mine
open PySem PySem.W PySem.Spec PySem.Calls PyProof.Rows
theorem ghost_math {h₁ : Heap} {tabs : List (Addr × Addr)} {p : Program} {mg : Str → Option Value} (hT : TabsAt tabs h₁) (X : Flt.MathXP p mg h₁) (hm : Flt.mathMods p = []) : Flt.MathXP p mg (ghostOf h₁ tabs) := by
  refine ⟨fun x hx => (by rw [hm] at hx; cases hx), X.drawn, fun r hr => ?_⟩
  obtain ⟨a, e, fs, T, ws, n, h1, h2, h3, h4, h5, h6⟩ := X.pats r hr
  exact ⟨a, e, fs, T, ws, n, ghost_get hT h1 (fun q => by have := congrArg Obj.cls q; cases this), h2, h3, h4, ghost_get hT h5 (fun q => by have := congrArg Obj.cls q; cases this), h6⟩
end Mine
namespace Mine
open PySem PySem.W PySem.Spec PySem.Calls PyProof.Rows
theorem fr_back {h₀ h : Heap} {L : Addr} {m : Str → Option Value} {x : Str} {v : Value} (hm : m x = some v) (F : Fr h₀ L h (fun y => if y = x then some v else m y)) : Fr h₀ L h m :=
  Eq.mpr (congrArg (Fr h₀ L h) (know hm)) F
end Mine
namespace Mine
open PySem PySem.W PySem.Spec PySem.Calls PyProof.Rows
def numS (r : Nat) : Str := Str.ofString (toString (r : Int))
/-- each row has its pair -/
inductive Pairs : List Nat → List (Str × Str) → Prop
  | nil : Pairs [] []
  | cons {r : Nat} {k : Str} {rs : List Nat} {ps : List (Str × Str)} : Txt.lower k = Txt.lower (pf r) → Pairs rs ps → Pairs (r :: rs) ((k, numS r) :: ps)
end Mine
namespace Mine
open PySem PySem.W PySem.Spec PySem.Calls PyProof.Rows
theorem Txl.ok {x : Str} (h : Txl x) : PyData.strOk x = true := by
  unfold PyData.strOk
  rw [Array.all_eq_true_iff_forall_mem]
  intro c hc
  have := h.1 c (Array.mem_toList_iff.mpr hc)
  exact decide_eq_true (by omega)
section
variable {prog : Program} {w : World} {A : Around} {s : Shared} {E : Value → Shared → Prop} {Q : Value → Shared → Prop}
end
end Mine
namespace Mine
open PySem PySem.W PySem.Spec PySem.Calls PyProof.Rows
section
variable {prog : Program} {w : World} {A : Around} {s : Shared} {env : Env} {h₀ : Heap} {m : Str → Option Value}
end
end Mine
namespace Mine
open PySem PySem.W PySem.Spec PySem.Calls PyProof.Rows
end Mine
namespace Mine
open PySem PySem.W PySem.Spec PySem.Calls PyProof.Rows
section
variable {prog : Program} {w : World} {A : Around} {E : Value → Shared → Prop} {s : Shared} {h₀ : Heap} {L : Addr} {m : Str → Option Value} {env : Env}
end
end Mine
namespace Mine
open PySem PySem.W PySem.Spec PySem.Calls PyProof.Rows PySem.Builtin.Str
def SEP : Str := Str.ofString ", "
/-- the parting stands at place i -/
def mAt (l : List Nat) (i : Nat) : Bool := decide ((l.drop i).take 2 = [44, 32])
theorem mAt_none {l : List Nat} {i : Nat} (h : l[i]? ≠ some 44) : mAt l i = false := by
  unfold mAt
  refine decide_eq_false fun e => h ?_
  have : (l.drop i)[0]? = some 44 := by
    cases q : l.drop i with
    | nil => rw [q] at e; cases e
    | cons a r => rw [q] at e; cases r <;> simp_all
  rwa [List.getElem?_drop, Nat.add_zero] at this
theorem mAt_next {l : List Nat} {i : Nat} (h : mAt l i = true) : l[i + 1]? = some 32 ∧ i + 2 ≤ l.length := by
  have e := of_decide_eq_true h
  have h1 : (l.drop i).length ≥ 2 := by
    have := congrArg List.length e
    simp only [List.length_take, List.length_cons, List.length_nil] at this
    omega
  rw [List.length_drop] at h1
  refine ⟨?_, by omega⟩
  have : ((l.drop i).take 2)[1]? = some 32 := by rw [e]; rfl
  rw [List.getElem?_take, if_pos (by decide), List.getElem?_drop] at this
  exact this
theorem occ_run (x : Str) : ∀ (n a : Nat) (st : Array Nat × Nat), (st.2 ≤ a ∨ (st.2 = a + 1 ∧ mAt x.cps.toList a = false)) → st.1.size ≤ a → a + n ≤ x.length + 1 →
    (forIn (List.range' a n) st (StrLaws.occBody x SEP x.length (x.length + 1))).run.fst.toList = st.1.toList ++ (List.range' a n).filter (mAt x.cps.toList)
  | 0, a, st, _, _, _ => by simp
  | n + 1, a, st, h1, h2, h3 => by
    have hsub : subAt x SEP a = mAt x.cps.toList a := by
      rw [StrLaws.subAt_eq]
      unfold mAt
      show ((List.take 2 (List.drop a x.cps.toList)) == [44, 32]) = _
      cases h : decide (List.take 2 (List.drop a x.cps.toList) = [44, 32]) with
      | true => rw [of_decide_eq_true h]; rfl
      | false => exact beq_eq_false_iff_ne.mpr (of_decide_eq_false h)
    rw [List.range'_succ, List.forIn_cons]
    unfold StrLaws.occBody
    cases hm : mAt x.cps.toList a with
    | true =>
      have hx : x.cps.toList.length = x.length := by simp [Str.length]
      obtain ⟨n1, n2⟩ := mAt_next hm
      have hf : st.2 ≤ a := h1.resolve_right fun q => by rw [hm] at q; cases q.2
      rw [if_pos ⟨⟨⟨by omega, hf⟩, by show a + 2 ≤ x.length; omega⟩, by rw [hsub]; exact hm⟩]
      have hn : mAt x.cps.toList (a + 1) = false := mAt_none (by rw [n1]; decide)
      have ih := occ_run x n (a + 1) (st.1.push a, a + SEP.length) (.inr ⟨rfl, hn⟩) (by simp; omega) (by omega)
      refine Eq.trans ih ?_
      rw [List.filter_cons_of_pos hm]
      simp
    | false =>
      rw [if_neg (fun q => by rw [hsub, hm] at q; cases q.2)]
      have hle : st.2 ≤ a + 1 := h1.elim (fun h => Nat.le_succ_of_le h) fun h => Nat.le_of_eq h.1
      have ih := occ_run x n (a + 1) (st.1, st.2) (.inl hle) (by show st.1.size ≤ a + 1; omega) (by omega)
      refine Eq.trans ih ?_
      rw [List.filter_cons_of_neg (by rw [hm]; decide)]
theorem occ_all (x : Str) : occurrences x SEP 0 x.length (x.length + 1) = (List.range (x.length + 1)).filter (mAt x.cps.toList) := by
  rw [StrLaws.occ_eq, Nat.sub_zero, occ_run x (x.length + 1) 0 (#[], 0) (.inl (Nat.le_refl _)) (Nat.le_refl _) (by omega), List.range_eq_range']
  rfl
/-- the places of the parting -/
def cutsOf (l : List Nat) : List Nat := (List.range (l.length + 1)).filter (mAt l)
theorem cuts_free {l : List Nat} (h : 44 ∉ l) : cutsOf l = [] := by
  unfold cutsOf
  rw [List.filter_eq_nil_iff]
  intro i _
  rw [mAt_none fun e => h (List.mem_of_getElem? e)]
  decide
theorem cuts_cons {w r : List Nat} (h : 44 ∉ w) : cutsOf (w ++ 44 :: 32 :: r) = w.length :: (cutsOf r).map (· + (w.length + 2)) := by
  unfold cutsOf
  have e : (w ++ 44 :: 32 :: r).length + 1 = w.length + (1 + (1 + (r.length + 1))) := by simp; omega
  rw [e, List.range_add, List.range_add, List.range_add]
  simp only [List.filter_append, List.map_append, List.map_map]
  have a1 : (List.range w.length).filter (mAt (w ++ 44 :: 32 :: r)) = [] := by
    rw [List.filter_eq_nil_iff]
    intro i hi
    rw [mAt_none fun e => h ?_]; · decide
    rw [List.getElem?_append_left (List.mem_range.mp hi)] at e
    exact List.mem_of_getElem? e
  have a2 : (List.map (w.length + ·) (List.range 1)).filter (mAt (w ++ 44 :: 32 :: r)) = [w.length] := by
    have : mAt (w ++ 44 :: 32 :: r) w.length = true := decide_eq_true (by simp)
    simp [List.range_succ, this]
  have a3 : (List.map ((w.length + ·) ∘ (1 + ·)) (List.range 1)).filter (mAt (w ++ 44 :: 32 :: r)) = [] := by
    have : mAt (w ++ 44 :: 32 :: r) (w.length + 1) = false := mAt_none (by rw [List.getElem?_append_right (by omega)]; simp)
    simp [List.range_succ, this]
  have a4 : (List.map ((w.length + ·) ∘ (1 + ·) ∘ (1 + ·)) (List.range (r.length + 1))).filter (mAt (w ++ 44 :: 32 :: r)) = ((List.range (r.length + 1)).filter (mAt r)).map (· + (w.length + 2)) := by
    rw [List.filter_map]
    have e1 : ((w.length + ·) ∘ (1 + ·) ∘ (1 + ·) : Nat → Nat) = (· + (w.length + 2)) := by funext i; simp only [Function.comp]; omega
    rw [e1]
    congr 1
    refine List.filter_congr fun i _ => ?_
    show mAt (w ++ 44 :: 32 :: r) (i + (w.length + 2)) = mAt r i
    unfold mAt
    rw [show i + (w.length + 2) = w.length + (2 + i) by omega, ← List.drop_drop, List.drop_left, ← List.drop_drop]
    rfl
  rw [a1, a2, a3, a4]
  rfl
/-- the parts between -/
def partsL (l : List Nat) (cuts : List Nat) : List (List Nat) := ((0 :: cuts.map (· + 2)).zip (cuts ++ [l.length])).map fun p => (l.drop p.1).take (p.2 - p.1)
theorem parts_cons (w r : List Nat) (cs : List Nat) : partsL (w ++ 44 :: 32 :: r) (w.length :: cs.map (· + (w.length + 2))) = w :: partsL r cs := by
  unfold partsL
  rw [List.map_cons, List.cons_append, List.zip_cons_cons, List.map_cons]
  congr 1
  · simp
  · have e1 : (w.length + 2) :: List.map (· + 2) (List.map (· + (w.length + 2)) cs) = (0 :: cs.map (· + 2)).map (· + (w.length + 2)) := by
      simp only [List.map_cons, List.map_map, Nat.zero_add]
      congr 1
      refine List.map_congr_left fun a _ => ?_
      simp only [Function.comp]; omega
    have e2 : List.map (· + (w.length + 2)) cs ++ [(w ++ 44 :: 32 :: r).length] = (cs ++ [r.length]).map (· + (w.length + 2)) := by
      rw [List.map_append]
      congr 1
      simp; omega
    rw [e1, e2, List.zip_map, List.map_map]
    refine List.map_congr_left fun p _ => ?_
    simp only [Function.comp, Prod.map]
    have e3 : (w ++ 44 :: 32 :: r).drop (p.1 + (w.length + 2)) = r.drop p.1 := by
      rw [show p.1 + (w.length + 2) = w.length + (2 + p.1) by omega, ← List.drop_drop, List.drop_left, ← List.drop_drop]
      rfl
    rw [e3]
    congr 1
    omega
def joinL : List (List Nat) → List Nat
  | [] => []
  | [w] => w
  | w :: ws => w ++ 44 :: 32 :: joinL ws
theorem split_joinL : ∀ ws : List (List Nat), ws ≠ [] → (∀ w ∈ ws, 44 ∉ w) → partsL (joinL ws) (cutsOf (joinL ws)) = ws
  | [w], _, h => by
    show partsL w (cutsOf w) = _
    rw [cuts_free (h w (List.mem_cons_self ..))]
    simp [partsL]
  | w :: v :: ws, _, h => by
    show partsL (w ++ 44 :: 32 :: joinL (v :: ws)) (cutsOf (w ++ 44 :: 32 :: joinL (v :: ws))) = _
    rw [cuts_cons (h w (List.mem_cons_self ..)), parts_cons, split_joinL (v :: ws) (by simp) fun u hu => h u (List.mem_cons_of_mem _ hu)]
theorem join_toList : ∀ ws : List Str, (Txt.join SEP ws).cps.toList = joinL (ws.map (·.cps.toList))
  | [] => by unfold Txt.join; rw [StrLaws.glued_eq_join]; rfl
  | [w] => by unfold Txt.join; rw [StrLaws.glued_eq_join]; rfl
  | w :: v :: ws => by
    have ih := join_toList (v :: ws)
    unfold Txt.join at ih ⊢
    rw [StrLaws.glued_eq_join] at ih ⊢
    show (w ++ SEP ++ Str.join SEP (v :: ws)).cps.toList = w.cps.toList ++ 44 :: 32 :: joinL ((v :: ws).map (·.cps.toList))
    rw [← ih]
    show (w.cps ++ SEP.cps ++ (Str.join SEP (v :: ws)).cps).toList = _
    rw [Array.toList_append, Array.toList_append]
    show _ ++ [44, 32] ++ _ = _
    simp
theorem parts_toList (x : Str) (cuts : List Nat) : (partsBetween x cuts 2).map (·.cps.toList) = partsL x.cps.toList cuts := by
  unfold partsBetween partsL
  simp only [List.map_map]
  rw [show x.length = x.cps.toList.length by simp [Str.length]]
  refine List.map_congr_left fun p _ => ?_
  obtain ⟨i, j⟩ := p
  exact StrLaws.strSub_toList x i j
theorem split_parts (x : Str) : Txt.split x SEP = partsBetween x (occurrences x SEP 0 x.length (x.length + 1)) 2 := by
  have hone : partsBetween x [] 2 = [x] := by
    have := parts_toList x []
    unfold partsBetween
    simp [strSub, Str.length]
  unfold Txt.split
  have hk : decide (Builtin.Str.strKind x < Builtin.Str.strKind SEP) = false := decide_eq_false (by
    have h1 : Builtin.Str.strKind SEP = 1 := by decide +kernel
    rw [h1]
    unfold Builtin.Str.strKind
    split; · omega
    split <;> omega)
  rw [hk, Bool.or_false]
  by_cases h : x.length < SEP.length
  · rw [if_pos (decide_eq_true h)]
    have h2 : x.length < 2 := h
    have : occurrences x SEP 0 x.length (x.length + 1) = [] := by
      rw [occ_all, List.filter_eq_nil_iff]
      intro i _
      cases hm : mAt x.cps.toList i with
      | false => decide
      | true =>
        have := (mAt_next hm).2
        have hx : x.cps.toList.length = x.length := by simp [Str.length]
        omega
    rw [this, hone]
  · rw [if_neg (by rw [decide_eq_true_eq]; exact h)]
    cases ho : occurrences x SEP 0 x.length (x.length + 1) with
    | nil => rw [List.isEmpty_nil]; exact (if_pos rfl).trans hone.symm
    | cons a r => rw [List.isEmpty_cons]; exact if_neg (by decide)
/-- what is joined is parted again -/
theorem split_join {ws : List Str} (h0 : ws ≠ []) (h : ∀ w ∈ ws, 44 ∉ w.cps.toList) : Txt.split (Txt.join SEP ws) SEP = ws := by
  have hx : (Txt.join SEP ws).cps.toList.length = (Txt.join SEP ws).length := by simp [Str.length]
  have e : (Txt.split (Txt.join SEP ws) SEP).map (·.cps.toList) = ws.map (·.cps.toList) := by
    rw [split_parts, parts_toList, occ_all, ← hx, join_toList]
    exact split_joinL _ (by simpa using h0) fun w hw => by
      obtain ⟨v, hv, rfl⟩ := List.mem_map.mp hw
      exact h v hv
  have inj : ∀ a b : Str, a.cps.toList = b.cps.toList → a = b := fun a b h => Str.ext' (Array.toList_inj.mp h)
  exact List.map_inj_right inj |>.mp e
theorem W_free : ∀ k : Nat, k < 32 → 44 ∉ (W k).cps.toList := by decide +kernel
theorem split_words {ps : List Nat} (h0 : ps ≠ []) (h : ∀ p ∈ ps, p < 32) : Txt.split (Txt.join (Str.ofString ", ") (ps.map W)) (Str.ofString ", ") = ps.map W :=
  split_join (by simpa using h0) fun w hw => by
    obtain ⟨p, hp, rfl⟩ := List.mem_map.mp hw
    exact W_free p (h p hp)
end Mine
namespace Mine
open PySem PySem.W PySem.Spec PySem.Calls PyProof.Rows PySem.MeetsSeq PySem.SeqAt
section
variable {prog : Program} {w : World} {A : Around} {E : Value → Shared → Prop} {s : Shared}
end
theorem told_len {ps : List Nat} (hp : ∀ p ∈ ps, p < 32) (hl : ps.length ≤ 32) : (Txt.join (Str.ofString ", ") (ps.map W)).length ≤ 1000 := by
  have h := StrLaws.join_length_le (Str.ofString ", ") (ps.map W)
  have e : Txt.join (Str.ofString ", ") (ps.map W) = Str.join (Str.ofString ", ") (ps.map W) := StrLaws.glued_eq_join _ _
  rw [e]
  have h2 : ((ps.map W).map (·.length)).sum ≤ (ps.map W).length * 18 := sum_le fun y hy => by
    obtain ⟨p, hp', rfl⟩ := List.mem_map.mp hy
    exact W_lo p (hp p hp')
  have h3 : (Str.ofString ", ").length = 2 := by decide +kernel
  rw [h3, List.length_map] at h
  rw [List.length_map] at h2
  omega
end Mine
namespace Mine
open PySem PySem.W PySem.Spec PySem.Calls PyProof.Rows
theorem upper_eqT {x : Str} (h : Plain x) : Txt.upper x = ⟨x.cps.map up1⟩ := upper_ascii (plain_ascii h)
section
variable {prog : Program} {w : World} {A : Around} {E : Value → Shared → Prop} {s : Shared} {x : Str} {t : Tok}
theorem upper_T {Q : Value → Shared → Prop} (hx : Txl x) (h : ∀ k t', Q (.str (Txt.upper x) t') { s with toks := k }) : wpAny (model prog w) A (call (.builtin "str.upper") [.str x t]) Q E s :=
  SCL.upper (by have := hx.2; omega) fun _ => h _ _
end
end Mine
namespace Mine
open PySem PySem.W PySem.Spec PySem.Calls PyProof.Rows
end Mine
namespace Mine
open PySem PySem.W PySem.Spec PySem.Calls PyProof.Rows
section
variable {prog : Program} {w : World} {A : Around} {E : Value → Shared → Prop} {s : Shared} {h₀ : Heap} {L : Addr} {m : Str → Option Value}
/-- l[:] = b, of two lists -/
theorem setSlice_all {l sl b n nb : Nat} {items new : Array Value} {Q : Unit → Shared → Prop} (ho : s.heap.get? l = some (W.listOf items n)) (hb : s.heap.get? b = some (W.listOf new nb)) (hne : l ≠ b)
    (hs : s.heap.IsSliceOf sl .none .none .none) (hsz : items.size + new.size ≤ sizeLine) (hQ : ∀ f : Array Value → Array Value, f items = new → Q () { s with heap := s.heap.update l (Obj.mapSeq f) }) :
    wpAny (model prog w) A (setItem (.ref l) (.ref sl) (.ref b)) Q E s := by
  have hl : s.heap.IsList l items := PySem.IsL.isList (n := n) ho
  have hlb : s.heap.IsList b new := PySem.IsL.isList (n := nb) hb
  obtain ⟨os, hos, hcs, hds⟩ := id hs
  have hTs : s.TypeIs (.ref sl) "slice" := ⟨os, hos, hcs⟩
  unfold setItem
  try with_reducible refine wpAny_holding ?_
  first | refine wpAny_bind (wpAny_pure ?_) | skip
  refine wpAny_bind (wpAny_sequenceKey hl.typeIs (by decide) ?_)
  refine wpAny_bind (wpAny_callSpecial?_slot (name := Str.ofString "__setitem__") hl.typeIs slot_list_setitem
    (wpAny_call_entry slot_list_setitem hl.typeIs entry_list_setitem ?_ (args_list_setitem _ _ _)))
  show wpAny _ _ (Builtin.List.listSubscript? (.ref sl) >>= _) _ _ s
  refine wpAny_bind ?_
  unfold Builtin.List.listSubscript?
  refine wpAny_bind (wpAny_specialOf hTs slice_no_index ?_)
  simp only [Option.isNone_none, if_true]
  refine wpAny_pure ?_
  show wpAny _ _ (typeOf (.ref sl) >>= _) _ _ s
  refine wpAny_bind (wpAny_typeOf hTs ?_)
  rw [if_neg (by decide)]
  rw [listSliceParts_eq]
  refine wpAny_bind (wpAny_bind (wpAny_field hos hds (x := .none) rfl (wpAny_bind (wpAny_listPart IsPart.none ?_))))
  rw [if_neg (by decide)]
  refine wpAny_bind (wpAny_field hos hds (x := .none) rfl (wpAny_bind (wpAny_listPart IsPart.none ?_)))
  refine wpAny_bind (wpAny_field hos hds (x := .none) rfl (wpAny_bind (wpAny_listPart IsPart.none (wpAny_pure ?_))))
  have hsame : ¬ (Builtin.List.listSameRef (.ref l) (.ref b) = true) := by
    show ¬ ((l == b) = true)
    simpa using hne
  rw [if_neg hsame]
  refine wpAny_bind ?_
  unfold Builtin.List.listAllItems
  refine wpAny_bind (wpAny_typeOf hlb.typeIs ?_)
  rw [if_pos (by decide)]
  refine wpAny_bind ?_
  unfold Builtin.List.listItems
  first | refine wpAny_bind (wpAny_seqItems hb rfl (wpAny_pure (wpAny_pure ?_))) | refine wpAny_bind (wpAny_seqItems hb rfl (wpAny_pure ?_)) | refine wpAny_seqItems hb rfl (wpAny_pure ?_) | refine wpAny_bind (wpAny_bind (wpAny_seqItems hb rfl (wpAny_pure ?_))) | trace_state
  try refine wpAny_pure ?_
  refine wpAny_bind (wpAny_bind (wpAny_seqItems ho rfl (wpAny_pure ?_)))
  refine wpAny_bind (wpAny_of_eq (sliceIndices_raw none none none items.size (by decide)) ?_)
  rw [show sliceBounds none none none items.size = (0, (items.size : Int), 1) from rfl]
  dsimp only
  rw [if_pos (by decide)]
  refine wpAny_bind (wpAny_rule ?_)
  rw [if_neg (by simp [Builtin.List.listTooLong]; omega)]
  refine wpAny_bind ?_
  unfold Builtin.List.listUpdate
  refine wpAny_updateSeq ho rfl ?_ (by omega) (by simp; omega)
  refine wpAny_bind (wpAny_letGo ?_)
  have e : (fun xs : Array Value => xs.extract 0 (0 : Int).toNat ++ new ++ xs.extract (max (0 : Int) (items.size : Int)).toNat) items = new := by
    simp
  exact wpAny_pure ⟨.none, rfl, wpAny_pure (hQ _ e)⟩
/-- the same in a ledger -/
theorem setSlice_M {D sl b n nb : Nat} {its new : Array Value} {news news' : List (Addr × Obj)} {Q : Unit → Shared → Prop} (F : Fr h₀ L s.heap m) (N : News h₀ L s.heap news) (hb : (b, W.listOf new nb) ∈ news) (hne : @Ne Nat D b)
    (hs : s.heap.IsSliceOf sl .none .none .none) (hsz : its.size + new.size ≤ sizeLine) (U : Upd D (W.listOf its n) (W.listOf new (if new.size == its.size then n else n + 1)) news news')
    (h : ∀ h', Fr h₀ L h' m → News h₀ L h' news' → Q () { s with heap := h' }) : wpAny (model prog w) A (setItem (.ref D) (.ref sl) (.ref b)) Q E s := by
  obtain ⟨pre, post, rfl, rfl, a, c⟩ := U.split
  have z := N (D, W.listOf its n) (List.mem_append.mpr (.inr (.head _)))
  refine setSlice_all z.1 (N _ hb).1 hne hs hsz fun f hf => ?_
  exact h _ (F.change (Heap.SameBut.update ..) z.2.1 z.2.2) (ki_turn f N a c hf rfl)
/-- the same behind the slice's own object -/
theorem setSlice_P {h : Heap} {D sl b n nb n' : Nat} {its new : List Value} {news news' : List (Addr × Obj)} {Q : Unit → Shared → Prop} (F : Fr h₀ L h m) (N : News h₀ L h news) (e1 : sl = h.objs.size)
    (e2 : s.heap = h.push { cls := .type "slice", data := .fields #[.none, .none, .none] }) (hb : (b, W.listOf new.toArray nb) ∈ news) (hne : @Ne Nat D b)
    (hsz : its.length + new.length ≤ sizeLine) (en : (if new.toArray.size == its.toArray.size then n else n + 1) = n') (U : Upd D (W.listOf its.toArray n) (W.listOf new.toArray n') news news')
    (hQ : ∀ h', Fr h₀ L h' m → News h₀ L h' news' → Q () { s with heap := h' }) : wpAny (model prog w) A (setItem (.ref D) (.ref sl) (.ref b)) Q E s := by
  subst e1 en
  refine setSlice_M (m := m) ?_ (fun p hp => ?_) hb hne (by rw [e2]; exact Heap.IsSliceOf.new ..) (by rw [List.size_toArray, List.size_toArray]; exact hsz) U hQ
  · rw [e2]; exact F.keeps fun b o e => Heap.get?_push_of_some _ e
  · rw [e2]; exact ⟨Heap.get?_push_of_some _ (N p hp).1, (N p hp).2⟩
end
end Mine
namespace Mine
open PySem PySem.W PySem.Spec PySem.Calls PyProof.Rows
/-- a headers object and its list, of any count of size changes -/
structure TabN (P : Params) (C : Addr) (news : List (Addr × Obj)) (t d : Addr) (tk : Tok) (hl : Addr) (vs : List Value) (n : Nat) : Prop where
  inst : (t, instObj C d) ∈ news
  dict : (d, hdrDict P tk hl) ∈ news
  list : (hl, W.listOf vs.toArray n) ∈ news
  few : vs.length ≤ 1000
end Mine
namespace Mine
open PySem PySem.W PySem.Spec PySem.Calls PyProof.Rows
/-- going back from the said number, as the law's while does -/
def goneN : Nat → Nat → Nat → Nat → Nat
  | 0, _, _, s => s
  | f + 1, m, n, s => if n < s then goneN f m n ((m * (s - n) - 1) / (m - 1)) else s
/-- the while ends within the fuel, and its numbers stay small -/
def goneOk : Nat → Nat → Nat → Nat → Bool
  | 0, _, n, s => Nat.ble s n
  | f + 1, m, n, s => if n < s then Nat.ble 2 m && Nat.ble s 400 && goneOk f m n ((m * (s - n) - 1) / (m - 1)) else Nat.ble s 400
def sizeM (st : Int) : Nat := if 0 ≤ st then (st + 1).toNat else (-st).toNat
def goneI (n : Nat) (st : Int) (k : Nat) : Int := if 0 ≤ st then (goneN 400 (sizeM st) n (k * sizeM st) : Int) - 1 else (n : Int) - (goneN 400 (sizeM st) n (k * sizeM st) : Int)
theorem gone_ok : ∀ n, n < 11 → ∀ m, m < 32 → ∀ k, k < 11 → 1 ≤ m → k ≤ n → goneOk 400 m n (k * m) = true := by decide +kernel
theorem sizeM_pos {st : Int} (h1 : -30 ≤ st) (h2 : st ≤ 30) : 1 ≤ sizeM st ∧ sizeM st < 32 := by unfold sizeM; split <;> omega
theorem sizeM_cast (st : Int) : (sizeM st : Int) = if 0 ≤ st then st + 1 else -st := by unfold sizeM; split <;> omega
theorem gone_step {f m n s : Nat} (h : goneOk (f + 1) m n s = true) (hs : n < s) : 2 ≤ m ∧ s ≤ 400 ∧ goneOk f m n ((m * (s - n) - 1) / (m - 1)) = true ∧ goneN (f + 1) m n s = goneN f m n ((m * (s - n) - 1) / (m - 1)) := by
  unfold goneOk at h
  rw [if_pos hs] at h
  simp only [Bool.and_eq_true] at h
  refine ⟨Nat.le_of_ble_eq_true h.1.1, Nat.le_of_ble_eq_true h.1.2, h.2, ?_⟩
  conv => lhs; unfold goneN
  rw [if_pos hs]
theorem gone_stop {f m n s : Nat} (hs : ¬ n < s) : goneN f m n s = s := by
  cases f with
  | zero => rfl
  | succ f => unfold goneN; rw [if_neg hs]
theorem gone_small {f m n s : Nat} (h : goneOk f m n s = true) (hn : n ≤ 10) : s ≤ 400 := by
  cases f with
  | zero => exact Nat.le_trans (Nat.le_of_ble_eq_true h) (Nat.le_trans hn (by decide))
  | succ f =>
    unfold goneOk at h
    split at h
    · simp only [Bool.and_eq_true] at h
      exact Nat.le_of_ble_eq_true h.1.2
    · exact Nat.le_of_ble_eq_true h
theorem gone_turn {f m n s : Nat} (h : goneOk f m n s = true) (hs : n < s) : ∃ f', f = f' + 1 ∧ 2 ≤ m ∧ goneOk f' m n ((m * (s - n) - 1) / (m - 1)) = true ∧ goneN f m n s = goneN f' m n ((m * (s - n) - 1) / (m - 1)) := by
  cases f with
  | zero => exact absurd (Nat.le_of_ble_eq_true h) (Nat.not_le.mpr hs)
  | succ f => obtain ⟨a, _, b, c⟩ := gone_step h hs; exact ⟨f, rfl, a, b, c⟩
/-- the while's step in ints -/
theorem gone_int {m n s : Nat} (hm : 2 ≤ m) (hs : n < s) : ((m : Int) * ((s : Int) - (n : Int)) - 1).fdiv ((m : Int) - 1) = (((m * (s - n) - 1) / (m - 1) : Nat) : Int) := by
  have h1 : 1 ≤ m * (s - n) := Nat.mul_pos (by omega) (by omega)
  have e1 : (m : Int) * ((s : Int) - (n : Int)) - 1 = ((m * (s - n) - 1 : Nat) : Int) := by
    rw [Int.natCast_sub h1, Int.natCast_mul, Int.natCast_sub (Nat.le_of_lt hs)]; rfl
  have e2 : (m : Int) - 1 = ((m - 1 : Nat) : Int) := by rw [Int.natCast_sub (by omega)]; rfl
  rw [e1, e2, Int.fdiv_eq_ediv_of_nonneg _ (Int.natCast_nonneg _)]
  rfl
end Mine
namespace Mine
open PySem PySem.W PySem.Spec PySem.Calls PyProof.Rows
/-- exchanged letter -/
def sw1 (c : Nat) : Nat := if 65 ≤ c ∧ c ≤ 90 then c + 32 else if 97 ≤ c ∧ c ≤ 122 then c - 32 else c
theorem sw1_up : ∀ c, c < 128 → Unicode.isUpper c = true → sw1 c = lo1 c := by decide +kernel
theorem sw1_lo : ∀ c, c < 128 → Unicode.isUpper c = false → Unicode.isLower c = true → sw1 c = up1 c := by decide +kernel
theorem sw1_no : ∀ c, c < 128 → Unicode.isUpper c = false → Unicode.isLower c = false → sw1 c = c := by decide +kernel
theorem sw1_plain : ∀ c, c < 127 → 32 ≤ c → 32 ≤ sw1 c ∧ sw1 c < 127 := by decide +kernel
theorem lo1_sw1 : ∀ c, c < 127 → lo1 (sw1 c) = lo1 c := by decide +kernel
theorem swap_eq {x : Str} (h : Plain x) : Txt.swapcase x = ⟨x.cps.map sw1⟩ := by
  unfold Txt.swapcase
  rw [placed_single x _ sw1 fun i c hc => by
    have hc' : x.cps[i]? = some c := by simpa using hc
    have hlt : c < 128 := plain_ascii h c (List.mem_of_getElem? hc)
    cases hu : Unicode.isUpper c with
    | true =>
      rw [if_pos rfl, sw1_up c hlt hu]
      unfold Unicode.lowerAt
      rw [hc']
      have hne : (c == 0x3A3) = false := by rw [beq_eq_false_iff_ne]; omega
      simp only [hne, Bool.false_and, Bool.false_eq_true, if_false]
      exact lowerOf_ascii c hlt
    | false =>
      rw [if_neg (by decide)]
      cases hl : Unicode.isLower c with
      | true => rw [if_pos rfl, sw1_lo c hlt hu hl]; exact upperOf_ascii c hlt
      | false => rw [if_neg (by decide), sw1_no c hlt hu hl]]
theorem Txl.swap {x : Str} (h : Txl x) : Txl (Txt.swapcase x) := by
  rw [swap_eq h.1]
  refine ⟨fun c hc => ?_, ?_⟩
  · have hc' : c ∈ (x.cps.map sw1).toList := hc
    rw [Array.toList_map] at hc'
    obtain ⟨d, hd, rfl⟩ := List.mem_map.mp hc'
    exact sw1_plain d (h.1 d hd).2 (h.1 d hd).1
  · show (x.cps.map sw1).size ≤ _
    rw [Array.size_map]
    exact h.2
theorem lower_swap {x : Str} (h : Txl x) : Txt.lower (Txt.swapcase x) = Txt.lower x := by
  rw [lower_eq h.swap.1, swap_eq h.1, lower_eq h.1]
  show Str.mk _ = Str.mk _
  congr 1
  rw [Array.map_map]
  exact Array.map_congr_left fun c hc => lo1_sw1 c (h.1 c (Array.mem_toList_iff.mpr hc)).2
section
variable {prog : Program} {w : World} {A : Around} {E : Value → Shared → Prop} {s : Shared} {x : Str} {t : Tok}
theorem swap_T {Q : Value → Shared → Prop} (hx : Txl x) (h : ∀ k t', Q (.str (Txt.swapcase x) t') { s with toks := k }) : wpAny (model prog w) A (call (.builtin "str.swapcase") [.str x t]) Q E s :=
  SCL.swapcase (by have := hx.2; omega) fun _ => h _ _
end
theorem delItem_own {M : Model} {A : Around} {E : Value → Shared → Prop} {s : Shared} {K : Frag} {x C L f : Addr} {h₀ : Heap} {m : Str → Option Value} {ox : Obj} {od : Option Obj} {i : Value} {Q : Unit → Shared → Prop} (F : Fr h₀ L s.heap m) (X₀ : K.In h₀)
    (I : InstAt s.heap x ox C od) (hq : noSeq K C = true) (hs : findIn K (.ref C) "__delitem__" = some (some (.ref f))) (hf : isFn K (.ref f) = true) (h : wpAny M A (call (.ref f) [.ref x, i]) (fun _ s' => Q () s') E s) :
    wpAny M A (delItem (.ref x) i) Q E s := by
  have X := X₀.keeps F.keep
  unfold delItem sequenceKey
  refine wpAny_holding (wpAny_bind (wpAny_bind (I.type.here ?_)))
  refine wpAny_bind ((anyM_none X hq).here ?_)
  rw [if_pos (show (!false) = true from rfl)]
  exact wpAny_pure (wpAny_bind (special_fn X I hs (beq_iff_eq.mp hf) (wpAny_mono h (fun _ _ z => wpAny_pure z) fun _ _ z => z)))
theorem hget_head {x v : Str} {ps : List (Str × Str)} : hget ((x, v) :: ps) x = some v := by
  unfold hget
  rw [List.find?_cons_of_pos (by simp)]
  rfl
theorem hget_swap {ps : List (Str × Str)} {x : Str} (h : Txl x) : hget ps (Txt.swapcase x) = hget ps x := by
  unfold hget; rw [lower_swap h]
end Mine
namespace Mine
open PySem PySem.W PySem.Spec PySem.Calls PyProof.Rows
/-- the flags that the law begins with -/
def flags0 (n1 n3 : Int) : Nat := (1 + (n1.fmod 1023).toNat) * 2 ^ (n3.fmod 23).toNat
theorem flags0_cast {n1 n3 : Int} (h : 0 ≤ n1.fmod 1023) : (1 + n1.fmod 1023) * 2 ^ (n3.fmod 23).toNat = ((flags0 n1 n3 : Nat) : Int) := by
  unfold flags0
  rw [Int.natCast_mul, Int.natCast_add, Int.toNat_of_nonneg h]
  simp
theorem bit_any (x k : Nat) : (((x : Int).fdiv (2 ^ (0 + (k : Int)).toNat)).fmod 2 = 1) ↔ x.testBit k = true := by
  rw [Int.zero_add, upper_eq, Int.fmod_eq_emod_of_nonneg _ (by decide), Nat.testBit_eq_decide_div_mod_eq, decide_eq_true_iff]
  exact Int.ofNat_inj (m := x / 2 ^ k % 2) (n := 1)
theorem flags0_lt (n1 n3 : Int) : 0 < flags0 n1 n3 ∧ flags0 n1 n3 < 2 ^ 32 := by
  unfold flags0
  have h1 : (n1.fmod 1023).toNat < 1023 := by
    have := Int.fmod_lt_of_pos n1 (show (0 : Int) < 1023 by decide)
    have := Int.fmod_nonneg_of_pos n1 (show (0 : Int) < 1023 by decide)
    omega
  have h2 : (n3.fmod 23).toNat ≤ 22 := by
    have := Int.fmod_lt_of_pos n3 (show (0 : Int) < 23 by decide)
    have := Int.fmod_nonneg_of_pos n3 (show (0 : Int) < 23 by decide)
    omega
  have h3 := Nat.pow_le_pow_right (show 0 < 2 by decide) h2
  refine ⟨Nat.mul_pos (by omega) (Nat.two_pow_pos _), Nat.lt_of_le_of_lt (Nat.mul_le_mul (show 1 + (n1.fmod 1023).toNat ≤ 1023 by omega) h3) (by decide)⟩
theorem bits_ne {n : Nat} (h : n < 2 ^ 32) (h0 : n ≠ 0) : bitsB n 32 ≠ [] := by
  intro e
  refine h0 (Nat.eq_of_testBit_eq fun i => ?_)
  rw [Nat.zero_testBit]
  rcases Nat.lt_or_ge i 32 with hi | hi
  · have hm : i ∉ bitsB n 32 := by rw [e]; exact List.not_mem_nil
    cases ht : n.testBit i with
    | false => rfl
    | true => exact absurd (List.mem_filter.mpr ⟨List.mem_range.mpr hi, ht⟩) hm
  · exact Nat.testBit_lt_two_pow (Nat.lt_of_lt_of_le h (Nat.pow_le_pow_right (by decide) hi))
end Mine
namespace Mine
open PySem PySem.W PySem.Spec PySem.Calls PyProof.Rows
theorem strs_eqv : ∀ ys : List Str, PyData.eqvAll (ys.map PyData.str) (ys.map PyData.str) = true
  | [] => by simp [PyData.eqvAll]
  | y :: ys => by simp [PyData.eqvAll, PyData.eqv, strs_eqv ys]
theorem strs_can : ∀ ys : List Str, (∀ y ∈ ys, PyData.strOk y = true) → PyData.canLayAll0 (ys.map PyData.str) = true
  | [], _ => rfl
  | y :: ys, h => by simp [PyData.canLayAll0, PyData.canLay0, h y (List.mem_cons_self ..), strs_can ys fun z hz => h z (List.mem_cons_of_mem _ hz)]
theorem strs_depth : ∀ ys : List Str, PyData.depthAll (ys.map PyData.str) = 0
  | [] => by simp [PyData.depthAll]
  | y :: ys => by simp [PyData.depthAll, PyData.depth, strs_depth ys]
theorem strs_shaped {ys : List Str} (h : ∀ y ∈ ys, PyData.strOk y = true) : SeqAt.shaped (.list (ys.map PyData.str)) = true := by
  have h1 := strs_can ys h
  have h2 := strs_depth ys
  simp only [SeqAt.shaped, PyData.canLay0, PyData.depth, h1, h2, Bool.true_and]
  decide
theorem W_ok : ∀ p, p < 32 → PyData.strOk (Mine.W p) = true := by decide +kernel
section
variable {prog : Program} {w : World} {A : Around} {s : Shared} {E : Value → Shared → Prop} {Q : Value → Shared → Prop}
theorem ne_strs {h₀ : Heap} {L a b na nb : Nat} {news : List (Addr × Obj)} {vs ws : List Value} {ys : List Str} (N : News h₀ L s.heap news) (ha : (a, W.listOf vs.toArray na) ∈ news) (hb : (b, W.listOf ws.toArray nb) ∈ news)
    (h1 : StrsAre vs ys) (h2 : StrsAre ws ys) (ok : ∀ y ∈ ys, PyData.strOk y = true) (hu : A.units + 64 < cLine) (h : Q (.bool false) s) : wpAny (model prog w) A (compareOp .NotEq (.ref a) (.ref b)) Q E s := by
  refine ne_dataH (da := .list (ys.map PyData.str)) (db := .list (ys.map PyData.str)) (reads_list_at (N _ ha).1 rfl rfl (StrsAre.reads _ h1)) (reads_list_at (N _ hb).1 rfl rfl (StrsAre.reads _ h2)) (strs_shaped ok) (strs_shaped ok) hu ?_
  rw [PyData.eqv, strs_eqv]
  exact h
end
end Mine
namespace Mine
open PySem PySem.W PySem.Spec PySem.Calls PyProof.Rows
/-- the k-th name as laid -/
def nm (n3 : Int) (P : List Nat) (k : Nat) : Str := if ((n3.fdiv 23).fdiv (2 ^ k)).fmod 2 = 1 then Txt.lower (Mine.W (P.getD k 0)) else Mine.W (P.getD k 0)
/-- the rows of the names that are left -/
def rowsOf (n3 : Int) (P : List Nat) (R : List Nat) : List (Str × Str) := R.map fun k => (nm n3 P k, numS (P.getD k 0))
theorem range_small : ∀ n : Nat, n < 11 → Builtin.Range.small 0 (n : Int) 1 = true ∧ Builtin.Range.rangeSize 0 (n : Int) 1 = (n : Int) := by decide +kernel
/-- places: below 32, each once -/
structure Plc (P : List Nat) : Prop where
  lt : ∀ p ∈ P, p < 32
  nd : P.Nodup
theorem plc_bits (n : Nat) : Plc (bitsB n 32) := ⟨fun p hp => List.mem_range.mp (List.mem_filter.mp hp).1, (List.nodup_range).filter _⟩
theorem lowW_nodup : ((List.range 32).map fun p => Txt.lower (Mine.W p)).Nodup := by decide +kernel
theorem lowW_inj {p q : Nat} (hp : p < 32) (hq : q < 32) (h : Txt.lower (Mine.W p) = Txt.lower (Mine.W q)) : p = q := by
  have hl : ((List.range 32).map fun p => Txt.lower (Mine.W p)).length = 32 := by rw [List.length_map, List.length_range]
  have h2 := (List.getElem_inj (h₀ := by rw [hl]; exact hp) (h₁ := by rw [hl]; exact hq) lowW_nodup).mp (by simpa using h)
  exact h2
theorem lo1_lo1 : ∀ c, c < 127 → lo1 (lo1 c) = lo1 c := by decide +kernel
theorem W_txl : ∀ p, p < 32 → Txl (Mine.W p) := by
  show ∀ p, p < 32 → (∀ c ∈ (Mine.W p).cps.toList, 32 ≤ c ∧ c < 127) ∧ (Mine.W p).length ≤ 100000
  decide +kernel
theorem lower_lower {x : Str} (h : Txl x) : Txt.lower (Txt.lower x) = Txt.lower x := by
  rw [lower_eq h.lower.1, lower_eq h.1]
  show Str.mk _ = Str.mk _
  congr 1
  rw [Array.map_map]
  exact Array.map_congr_left fun c hc => lo1_lo1 c (h.1 c (Array.mem_toList_iff.mpr hc)).2
theorem chain5 {m : Str → Option Value} {x1 x2 x3 x4 x5 : Str} {v1 v2 v3 v4 v5 : Value} (h1 : m x1 = some v1) (h2 : m x2 = some v2) (h3 : m x3 = some v3) (h4 : m x4 = some v4) (h5 : m x5 = some v5) :
    m = fun y => if y = x1 then some v1 else if y = x2 then some v2 else if y = x3 then some v3 else if y = x4 then some v4 else if y = x5 then some v5 else m y := by
  funext y
  by_cases e1 : y = x1
  · rw [if_pos e1, e1, h1]
  rw [if_neg e1]
  by_cases e2 : y = x2
  · rw [if_pos e2, e2, h2]
  rw [if_neg e2]
  by_cases e3 : y = x3
  · rw [if_pos e3, e3, h3]
  rw [if_neg e3]
  by_cases e4 : y = x4
  · rw [if_pos e4, e4, h4]
  rw [if_neg e4]
  by_cases e5 : y = x5
  · rw [if_pos e5, e5, h5]
  rw [if_neg e5]
theorem rows_succ (n3 : Int) (P : List Nat) (i : Nat) : rowsOf n3 P (List.range (i + 1)) = rowsOf n3 P (List.range i) ++ [(nm n3 P i, numS (P.getD i 0))] := by
  unfold rowsOf; rw [List.range_succ, List.map_append]; rfl
theorem mem_mid {α : Type} {a b c p : α} {tl rest : List α} (h : p ∈ a :: b :: c :: (tl ++ rest)) : p ∈ tl ∨ p ∈ a :: b :: c :: rest := by
  rcases List.mem_cons.mp h with rfl | h
  · exact .inr (.head _)
  rcases List.mem_cons.mp h with rfl | h
  · exact .inr (.tail _ (.head _))
  rcases List.mem_cons.mp h with rfl | h
  · exact .inr (.tail _ (.tail _ (.head _)))
  exact (List.mem_append.mp h).elim .inl fun h => .inr (.tail _ (.tail _ (.tail _ h)))
theorem word_at {P : List Nat} {k : Nat} (h : k < P.length) : (P.map Mine.W).getD (k : Int).toNat Str.empty = Mine.W (P.getD k 0) := by
  rw [Int.toNat_natCast, List.getD_eq_getElem?_getD, List.getD_eq_getElem?_getD, List.getElem?_map, List.getElem?_eq_getElem h]
  rfl
theorem place_at {P : List Nat} {k : Nat} (h : k < P.length) : (P.map Int.ofNat).getD (k : Int).toNat 0 = ((P.getD k 0 : Nat) : Int) := by
  rw [Int.toNat_natCast, List.getD_eq_getElem?_getD, List.getD_eq_getElem?_getD, List.getElem?_map, List.getElem?_eq_getElem h]
  rfl
section
variable {n3 : Int} {P : List Nat} (hP : Plc P)
include hP
theorem Plc.at {k : Nat} (hk : k < P.length) : P.getD k 0 < 32 := by
  rw [List.getD_eq_getElem?_getD, List.getElem?_eq_getElem hk]
  exact hP.lt _ (List.getElem_mem hk)
theorem Plc.inj {j k : Nat} (hj : j < P.length) (hk : k < P.length) (h : P.getD j 0 = P.getD k 0) : j = k := by
  rw [List.getD_eq_getElem?_getD, List.getElem?_eq_getElem hj, List.getD_eq_getElem?_getD, List.getElem?_eq_getElem hk] at h
  exact (List.getElem_inj hP.nd).mp h
theorem nm_txl {k : Nat} (hk : k < P.length) : Txl (nm n3 P k) := by
  have h := W_txl _ (hP.at hk)
  unfold nm
  split
  · exact h.lower
  · exact h
theorem nm_low {k : Nat} (hk : k < P.length) : Txt.lower (nm n3 P k) = Txt.lower (Mine.W (P.getD k 0)) := by
  unfold nm
  split
  · exact lower_lower (W_txl _ (hP.at hk))
  · rfl
theorem nm_inj {j k : Nat} (hj : j < P.length) (hk : k < P.length) (h : Txt.lower (nm n3 P j) = Txt.lower (nm n3 P k)) : j = k := by
  rw [nm_low hP hj, nm_low hP hk] at h
  exact hP.inj hj hk (lowW_inj (hP.at hj) (hP.at hk) h)
theorem num_txl {k : Nat} (hk : k < P.length) : Txl (numS (P.getD k 0)) := txl_num _ (hP.at hk)
theorem get_none {R : List Nat} {k : Nat} (hR : ∀ j ∈ R, j < P.length) (hk : k < P.length) (h : k ∉ R) : hget (rowsOf n3 P R) (nm n3 P k) = none := by
  refine hget_none fun i p hi e => ?_
  obtain ⟨j, hj, rfl⟩ := List.mem_map.mp (List.mem_of_getElem? hi)
  exact h (nm_inj hP (hR j hj) hk e ▸ hj)
theorem get_some {R : List Nat} {k : Nat} (hR : ∀ j ∈ R, j < P.length) (hk : k < P.length) (h : k ∈ R) : hget (rowsOf n3 P R) (nm n3 P k) = some (numS (P.getD k 0)) := by
  unfold hget rowsOf
  rw [List.find?_map]
  cases hf : R.find? ((fun p => Txt.lower p.1 == Txt.lower (nm n3 P k)) ∘ fun k => (nm n3 P k, numS (P.getD k 0))) with
  | none =>
    have := List.find?_eq_none.mp hf k h
    simp at this
  | some j =>
    have h1 := List.find?_some hf
    have h2 := List.mem_of_find?_eq_some hf
    have h3 : j = k := nm_inj hP (hR j h2) hk (by simpa using h1)
    subst h3
    rfl
theorem rows_del {R : List Nat} {k : Nat} (hR : ∀ j ∈ R, j < P.length) (hk : k < P.length) : (rowsOf n3 P R).filter (fun p => decide (Txt.lower p.1 ≠ Txt.lower (nm n3 P k))) = rowsOf n3 P (R.filter fun j => decide (j ≠ k)) := by
  unfold rowsOf
  rw [List.filter_map]
  congr 1
  refine List.filter_congr fun j hj => ?_
  show decide (Txt.lower (nm n3 P j) ≠ Txt.lower (nm n3 P k)) = decide (j ≠ k)
  by_cases e : j = k
  · subst e; simp
  · exact (decide_eq_true (p := Txt.lower (nm n3 P j) ≠ Txt.lower (nm n3 P k)) fun h => e (nm_inj hP (hR j hj) hk h)).trans (decide_eq_true e).symm
end
end Mine
namespace Mine
open PySem PySem.W PySem.Spec PySem.Calls PyProof.Rows
/-- where the t-th division leads -/
def thereOf (n : Nat) (st : Int) (t p : Nat) : Nat := (((p : Int) + st).fmod ((n - t : Nat) : Int)).toNat
/-- the counting-out, round by round, against the law told without going round -/
def simOk (n : Nat) (st : Int) : Nat → Nat → Nat → List Nat → Bool
  | 0, _, _, R => R.isEmpty
  | f + 1, t, p, R => decide (0 ≤ goneI n st (t + 1)) && (R[thereOf n st t p]? == some (goneI n st (t + 1)).toNat) && Nat.beq R.length (n - t) && simOk n st f (t + 1) (thereOf n st t p) (R.filter fun j => decide (j ≠ (goneI n st (t + 1)).toNat))
theorem sim_ok : ∀ n, n < 11 → ∀ k, k < 61 → simOk n ((k : Nat) - 30 : Int) n 0 0 (List.range n) = true := by decide +kernel
theorem sim_turn {n f t p : Nat} {st : Int} {R : List Nat} (h : simOk n st (f + 1) t p R = true) :
    ∃ gn : Nat, goneI n st (t + 1) = (gn : Int) ∧ R[thereOf n st t p]? = some gn ∧ R.length = n - t ∧ simOk n st f (t + 1) (thereOf n st t p) (R.filter fun j => decide (j ≠ gn)) = true := by
  unfold simOk at h
  simp only [Bool.and_eq_true, decide_eq_true_eq, beq_iff_eq] at h
  refine ⟨(goneI n st (t + 1)).toNat, (Int.toNat_of_nonneg h.1.1.1).symm, h.1.1.2, Nat.eq_of_beq_eq_true h.1.2, h.2⟩
theorem sim_end {n t p : Nat} {st : Int} {R : List Nat} (h : simOk n st 0 t p R = true) : R = [] := List.isEmpty_iff.mp h
/-- taking a set flag away -/
theorem sub_bit {x i : Nat} (h : x.testBit i = true) (j : Nat) : (x - 2 ^ i).testBit j = (x.testBit j && decide (j ≠ i)) := by
  have hodd : x / 2 ^ i % 2 = 1 := by rw [Nat.testBit_eq_decide_div_mod_eq] at h; exact of_decide_eq_true h
  have hx := Nat.div_add_mod x (2 ^ i)
  have hlt := Nat.mod_lt x (Nat.two_pow_pos i)
  generalize x / 2 ^ i = a at *
  generalize x % 2 ^ i = b at *
  subst hx
  obtain ⟨c, rfl⟩ : ∃ c, a = 2 * c + 1 := ⟨a / 2, by omega⟩
  have e : 2 ^ i * (2 * c + 1) + b - 2 ^ i = 2 ^ i * (2 * c) + b := by rw [Nat.mul_add, Nat.mul_one]; omega
  rw [e, Nat.testBit_two_pow_mul_add _ hlt, Nat.testBit_two_pow_mul_add _ hlt]
  split
  · rename_i hj
    rw [decide_eq_true (Nat.ne_of_lt hj), Bool.and_true]
  · rename_i hj
    rcases Nat.eq_or_lt_of_le (Nat.not_lt.mp hj) with hj | hj
    · subst hj; simp
    · rw [decide_eq_true (Nat.ne_of_gt hj), Bool.and_true]
      obtain ⟨k, hk⟩ : ∃ k, j - i = k + 1 := ⟨j - i - 1, by omega⟩
      rw [hk, Nat.testBit_succ, Nat.testBit_succ]
      congr 1
      omega
theorem bits_sub {x i : Nat} (h : x.testBit i = true) : bitsB (x - 2 ^ i) 32 = (bitsB x 32).filter fun j => decide (j ≠ i) := by
  unfold bitsB
  rw [List.filter_filter]
  refine List.filter_congr fun j _ => ?_
  rw [sub_bit h, Bool.and_comm]
theorem rem_map {P R : List Nat} {k : Nat} (hP : Plc P) (hR : ∀ j ∈ R, j < P.length) (hk : k < P.length) : (R.map (P.getD · 0)).filter (fun j => decide (j ≠ P.getD k 0)) = (R.filter fun j => decide (j ≠ k)).map (P.getD · 0) := by
  rw [List.filter_map]
  congr 1
  refine List.filter_congr fun j hj => ?_
  show decide (P.getD j 0 ≠ P.getD k 0) = decide (j ≠ k)
  by_cases e : j = k
  · subst e; simp
  · exact (decide_eq_true (p := P.getD j 0 ≠ P.getD k 0) fun h => e (hP.inj (hR j hj) hk h)).trans (decide_eq_true e).symm
theorem range_places (P : List Nat) : (List.range P.length).map (P.getD · 0) = P := by
  refine List.ext_getElem (by simp) fun i h1 h2 => ?_
  simp at h1
  rw [List.getElem_map, List.getElem_range, List.getD_eq_getElem?_getD, List.getElem?_eq_getElem h1]
  rfl
/-- the flags that are left are those of the names that are left -/
theorem flags_step {P R : List Nat} {x k : Nat} (hP : Plc P) (hR : ∀ j ∈ R, j < P.length) (hk : k ∈ R) (hb : bitsB x 32 = R.map (P.getD · 0)) :
    2 ^ P.getD k 0 ≤ x ∧ bitsB (x - 2 ^ P.getD k 0) 32 = (R.filter fun j => decide (j ≠ k)).map (P.getD · 0) := by
  have hm : P.getD k 0 ∈ bitsB x 32 := by rw [hb]; exact List.mem_map.mpr ⟨k, hk, rfl⟩
  have ht : x.testBit (P.getD k 0) = true := (List.mem_filter.mp hm).2
  refine ⟨Nat.ge_two_pow_of_testBit ht, ?_⟩
  rw [bits_sub ht, hb, rem_map hP hR (hR k hk)]
theorem joinL_map {f : Nat → Nat} (h1 : f 44 = 44) (h2 : f 32 = 32) : ∀ l : List (List Nat), (joinL l).map f = joinL (l.map (List.map f))
  | [] => rfl
  | [w] => rfl
  | w :: v :: ws => by
    show (w ++ 44 :: 32 :: joinL (v :: ws)).map f = w.map f ++ 44 :: 32 :: joinL ((v :: ws).map (List.map f))
    rw [List.map_append, List.map_cons, List.map_cons, h1, h2, joinL_map h1 h2 (v :: ws)]
theorem joinL_mem {c : Nat} : ∀ l : List (List Nat), c ∈ joinL l → c = 44 ∨ c = 32 ∨ ∃ w ∈ l, c ∈ w
  | [], h => nomatch h
  | [w], h => .inr (.inr ⟨w, List.mem_cons_self .., h⟩)
  | w :: v :: ws, h => by
    rcases List.mem_append.mp (show c ∈ w ++ 44 :: 32 :: joinL (v :: ws) from h) with h | h
    · exact .inr (.inr ⟨w, List.mem_cons_self .., h⟩)
    rcases List.mem_cons.mp h with h | h
    · exact .inl h
    rcases List.mem_cons.mp h with h | h
    · exact .inr (.inl h)
    rcases joinL_mem (v :: ws) h with h | h | ⟨u, hu, hc⟩
    · exact .inl h
    · exact .inr (.inl h)
    · exact .inr (.inr ⟨u, List.mem_cons_of_mem _ hu, hc⟩)
theorem join_plain {ws : List Str} (h : ∀ w ∈ ws, Plain w) : Plain (Txt.join SEP ws) := fun c hc => by
  rw [join_toList] at hc
  rcases joinL_mem _ hc with rfl | rfl | ⟨u, hu, hcu⟩
  · decide
  · decide
  · obtain ⟨w, hw, rfl⟩ := List.mem_map.mp hu
    exact h w hw c hcu
theorem upper_join {ws vs : List Str} (hw : ∀ w ∈ ws, Plain w) (hv : ∀ w ∈ vs, Plain w) (h : ws.map Txt.upper = vs.map Txt.upper) : Txt.upper (Txt.join SEP ws) = Txt.upper (Txt.join SEP vs) := by
  have key : ∀ us : List Str, (∀ w ∈ us, Plain w) → (Txt.upper (Txt.join SEP us)).cps.toList = joinL (us.map fun w => (Txt.upper w).cps.toList) := fun us hu => by
    rw [upper_eqT (join_plain hu)]
    show ((Txt.join SEP us).cps.map up1).toList = _
    rw [Array.toList_map, join_toList, joinL_map (by decide) (by decide), List.map_map]
    congr 1
    refine List.map_congr_left fun w hw => ?_
    rw [upper_eqT (hu w hw)]
    exact (Array.toList_map ..).symm
  have e : (Txt.upper (Txt.join SEP ws)).cps.toList = (Txt.upper (Txt.join SEP vs)).cps.toList := by
    have g : ∀ us : List Str, us.map (fun w => (Txt.upper w).cps.toList) = (us.map Txt.upper).map fun w => w.cps.toList := fun us => by rw [List.map_map]; rfl
    rw [key ws hw, key vs hv, g, g, h]
  exact congrArg Str.mk (Array.toList_inj.mp e)
theorem up1_lo1 : ∀ c, c < 127 → up1 (lo1 c) = up1 c := by decide +kernel
theorem upper_lower {x : Str} (h : Txl x) : Txt.upper (Txt.lower x) = Txt.upper x := by
  rw [upper_eqT h.lower.1, lower_eq h.1, upper_eqT h.1]
  show Str.mk _ = Str.mk _
  congr 1
  rw [Array.map_map]
  exact Array.map_congr_left fun c hc => up1_lo1 c (h.1 c (Array.mem_toList_iff.mpr hc)).2
theorem nm_up {n3 : Int} {P : List Nat} (hP : Plc P) {k : Nat} (hk : k < P.length) : Txt.upper (nm n3 P k) = Txt.upper (Mine.W (P.getD k 0)) := by
  unfold nm
  split
  · exact upper_lower (W_txl _ (hP.at hk))
  · rfl
theorem len_lower {x : Str} (h : Txl x) : (Txt.lower x).length = x.length := by
  rw [lower_eq h.1]; exact Array.size_map ..
theorem nm_len {n3 : Int} {P : List Nat} (hP : Plc P) {k : Nat} (hk : k < P.length) : (nm n3 P k).length ≤ 18 := by
  unfold nm
  split
  · rw [len_lower (W_txl _ (hP.at hk))]; exact W_lo _ (hP.at hk)
  · exact W_lo _ (hP.at hk)
theorem nms_sum {n3 : Int} {P : List Nat} (hP : Plc P) {R : List Nat} (hR : ∀ j ∈ R, j < P.length) : ((R.map (nm n3 P)).map (·.length)).sum ≤ R.length * 18 := by
  have h := sum_le (b := 18) (ys := R.map (nm n3 P)) fun y hy => by
    obtain ⟨p, hp', rfl⟩ := List.mem_map.mp hy
    exact nm_len hP (hR p hp')
  rwa [List.length_map] at h
theorem nms_join {n3 : Int} {P : List Nat} (hP : Plc P) {R : List Nat} (hR : ∀ j ∈ R, j < P.length) (hl : R.length ≤ 10) : Txl (Txt.join SEP (R.map (nm n3 P))) := by
  refine ⟨join_plain fun w hw => ?_, ?_⟩
  · obtain ⟨k, hk, rfl⟩ := List.mem_map.mp hw
    exact (nm_txl hP (hR k hk)).1
  · have h := StrLaws.join_length_le SEP (R.map (nm n3 P))
    have e : Txt.join SEP (R.map (nm n3 P)) = Str.join SEP (R.map (nm n3 P)) := StrLaws.glued_eq_join _ _
    rw [e]
    have h2 := nms_sum (n3 := n3) hP hR
    have h3 : SEP.length = 2 := by decide +kernel
    rw [h3, List.length_map] at h
    omega
theorem few : ∀ b, b < 23 → ((List.range 32).filter fun i => decide (b ≤ i ∧ i < b + 10)).length ≤ 10 := by decide +kernel
theorem bits_few (n1 n3 : Int) : (bitsB (flags0 n1 n3) 32).length ≤ 10 := by
  have h1 : 1 + (n1.fmod 1023).toNat < 2 ^ 10 := by
    have := Int.fmod_lt_of_pos n1 (show (0 : Int) < 1023 by decide)
    have := Int.fmod_nonneg_of_pos n1 (show (0 : Int) < 1023 by decide)
    omega
  have h2 : (n3.fmod 23).toNat < 23 := by
    have := Int.fmod_lt_of_pos n3 (show (0 : Int) < 23 by decide)
    have := Int.fmod_nonneg_of_pos n3 (show (0 : Int) < 23 by decide)
    omega
  unfold flags0 bitsB
  generalize 1 + (n1.fmod 1023).toNat = c at *
  generalize (n3.fmod 23).toNat = b at *
  refine Nat.le_trans ?_ (few b h2)
  rw [← List.countP_eq_length_filter, ← List.countP_eq_length_filter]
  refine List.countP_mono_left fun i _ hi => ?_
  rw [Nat.testBit_mul_two_pow] at hi
  simp only [Bool.and_eq_true, decide_eq_true_eq] at hi ⊢
  refine ⟨hi.1, ?_⟩
  false_or_by_contra
  have := Nat.testBit_lt_two_pow (Nat.lt_of_lt_of_le h1 (Nat.pow_le_pow_right (by decide) (show 10 ≤ i - b by omega)))
  rw [this] at hi
  exact absurd hi.2 (by decide)
theorem TbOk.drop {l c : Int} {q : Str} {ps : Array Value} {news news' : List (Addr × Obj)} (h : TbOk l c q ps news) (hs : ∀ p ∈ news, p ∈ news' ∨ ∀ vs, p.2.data ≠ .fields vs) : TbOk l c q ps news' := by
  rcases h with h | ⟨c', oc, vs, t, h1, hm, hd, hv⟩
  · exact .inl h
  · rcases hs _ hm with h | h
    · exact .inr ⟨c', oc, vs, t, h1, h, hd, hv⟩
    · exact absurd hd (h vs)
theorem cell_nfld {o : Obj} {v : Option Value} (h : o.data = .cell v) : ∀ ws, o.data ≠ .fields ws := fun ws e => by rw [e] at h; cases h
theorem list_nfld {l : List Value} {c : Nat} : ∀ ws, (W.listOf (List.toArray l) c).data ≠ .fields ws := fun ws h => by cases h
theorem nm_at {n3 : Int} {P R : List Nat} {th gn : Nat} (h : R[th]? = some gn) : (R.map (nm n3 P)).getD (th : Int).toNat Str.empty = nm n3 P gn := by
  rw [Int.toNat_natCast, List.getD_eq_getElem?_getD, List.getElem?_map, h]
  rfl
theorem fr_if {h₀ h : Heap} {L : Addr} {m c : Str → Option Value} {x : Str} {v : Option Value} (e : m = c) (F : Fr h₀ L h (fun y => if y = x then v else c y)) : Fr h₀ L h (fun y => if y = x then v else m y) := by
  subst e; exact F
theorem fr_if2 {h₀ h : Heap} {L : Addr} {m c : Str → Option Value} {x1 x2 : Str} {v1 v2 : Option Value} (e : m = c) (F : Fr h₀ L h (fun y => if y = x1 then v1 else if y = x2 then v2 else c y)) : Fr h₀ L h (fun y => if y = x1 then v1 else if y = x2 then v2 else m y) := by
  subst e; exact F
theorem Rows.drop {news news' : List (Addr × Obj)} (hs : ∀ p ∈ news, p ∈ news' ∨ ∀ ws, p.2 ≠ tupObj ws) {vs : List Value} {ps : List (Str × Str)} (h : Rows news vs ps) : Rows news' vs ps := by
  induction h with
  | nil => exact .nil
  | cons h1 h2 h3 _ ih =>
    rcases hs _ h1 with h | h
    · exact .cons h h2 h3 ih
    · exact absurd rfl (h _)
theorem tab_ntup {ps : Array Value} : ∀ ws, tabObj ps ≠ tupObj ws := fun ws h => by injection h with h1 _; cases h1
theorem cell_ntup {o : Obj} {v : Option Value} (h : o.data = .cell v) : ∀ ws, o ≠ tupObj ws := fun ws e => by rw [e] at h; cases h
theorem left_eq {n3 : Int} {P R : List Nat} {x : Nat} (hP : Plc P) (hR : ∀ j ∈ R, j < P.length) (h0 : x ≠ 0) (hb : bitsB x 32 = R.map (P.getD · 0)) : Txt.upper (Txt.join SEP (R.map (nm n3 P))) = Txt.upper (pf x) := by
  unfold pf pfNames
  rw [if_neg h0, hb, List.map_map]
  refine upper_join (fun w hw => ?_) (fun w hw => ?_) ?_
  · obtain ⟨k, hk, rfl⟩ := List.mem_map.mp hw
    exact (nm_txl hP (hR k hk)).1
  · obtain ⟨k, hk, rfl⟩ := List.mem_map.mp hw
    exact (W_txl _ (hP.at (hR k hk))).1
  · rw [List.map_map, List.map_map]
    exact List.map_congr_left fun k hk => nm_up hP (hR k hk)
theorem pf_txl {x : Nat} (hx : x < 2 ^ 32) : Txl (pf x) := by
  unfold pf pfNames
  split
  · exact ⟨show ∀ z ∈ (Txt.join (Str.ofString ", ") [Str.ofString "0x0"]).cps.toList, 32 ≤ z ∧ z < 127 by decide +kernel, by decide +kernel⟩
  · have h1 : ∀ p ∈ bitsB x 32, p < 32 := fun p hp => List.mem_range.mp (List.mem_filter.mp hp).1
    have h2 : (bitsB x 32).length ≤ 32 := Nat.le_trans (List.length_filter_le _ _) (by rw [List.length_range]; exact Nat.le_refl _)
    refine ⟨join_plain fun w hw => ?_, Nat.le_trans (told_len h1 h2) (by decide)⟩
    obtain ⟨k, hk, rfl⟩ := List.mem_map.mp hw
    exact (W_txl _ (h1 k hk)).1
theorem up0 : Txt.upper (pf 0) = Str.ofString "0X0" := by decide +kernel
theorem sub_cast {x k : Nat} (h : 2 ^ k ≤ x) : (x : Int) - 2 ^ ((k : Nat) : Int).toNat = ((x - 2 ^ k : Nat) : Int) := by
  rw [Int.natCast_sub h, Int.toNat_natCast]
  simp
theorem fr_eq {h₀ h : Heap} {L : Addr} {m c : Str → Option Value} (e : m = c) (F : Fr h₀ L h c) : Fr h₀ L h m := e ▸ F
theorem nms_weight {n3 : Int} {P : List Nat} (hP : Plc P) {R : List Nat} (hR : ∀ j ∈ R, j < P.length) (hl : R.length ≤ 10) : ((R.map (nm n3 P)).map (·.length)).sum + (R.map (nm n3 P)).length ≤ 1048576 := by
  have h := nms_sum (n3 := n3) hP hR
  rw [List.length_map]
  omega
theorem TbOk.drop2 {l c : Int} {q : Str} {ps : Array Value} {news news' : List (Addr × Obj)} (h : TbOk l c q ps news) (hs : ∀ p ∈ news, p ∈ news' ∨ (∀ vs, p.2.data ≠ .fields vs) ∨ ∃ a b : Int, p.2.data = .fields #[rawInt a, rawInt b, rawInt 1]) : TbOk l c q ps news' := by
  rcases h with h | ⟨c', oc, vs, t, h1, hm, hd, hv⟩
  · exact .inl h
  · rcases hs _ hm with h | h | ⟨a, b, h⟩
    · exact .inr ⟨c', oc, vs, t, h1, h, hd, hv⟩
    · exact absurd hd (h vs)
    · have e := hd.symm.trans h
      injection e with e
      subst e
      cases hv
theorem at_if {m : Str → Option Value} {x y : Str} {v w : Option Value} (h : y ≠ x) (e : m y = w) : (fun z => if z = x then v else m z) y = w := by
  show (if y = x then v else m y) = w
  rw [if_neg h]; exact e
theorem at_eq {m : Str → Option Value} {x : Str} {v w : Option Value} (e : v = w) : (fun z => if z = x then v else m z) x = w := by
  show (if x = x then v else m x) = w
  rw [if_pos rfl]; exact e
theorem there_cast {n t : Nat} {st : Int} {p : Nat} (h : t < n) : ((p : Int) + st).fmod ((n - t : Nat) : Int) = (thereOf n st t p : Int) := (Int.toNat_of_nonneg (Int.fmod_nonneg_of_pos _ (by omega))).symm
theorem there_lt {n t : Nat} {st : Int} {p : Nat} (h : t < n) : thereOf n st t p < n - t := by
  have h1 := there_cast (st := st) (p := p) h
  have h2 := Int.fmod_lt_of_pos ((p : Int) + st) (show (0 : Int) < ((n - t : Nat) : Int) by omega)
  omega
def thriceData (x y : Str) : PyData := .tuple [.list [.str x, .str x, .str y], .str (Str.ofString ""), .str (Str.ofString ""), .list []]
theorem thrice_shaped {x y : Str} (hx : Txl x) (hy : Txl y) : SeqAt.shaped (thriceData x y) = true := by
  have e0 : PyData.strOk (Str.ofString "") = true := by decide +kernel
  simp [thriceData, SeqAt.shaped, PyData.canLay0, PyData.canLayAll0, PyData.depth, PyData.depthAll, hx.ok, hy.ok, e0]
theorem thrice_eqv (x y : Str) : PyData.eqv (thriceData x y) (thriceData x y) = true := by
  simp [thriceData, PyData.eqv, PyData.eqvAll]
theorem thrice_reads {h₀ h : Heap} {L a k1 k2 n1 n2 : Nat} {news : List (Addr × Obj)} {t1 t2 : Tok} {ys : List Value} {x y : Str} (N : News h₀ L h news) (h1 : (a, tupObj [.ref k1, .str (Str.ofString "") t1, .str (Str.ofString "") t2, .ref k2]) ∈ news)
    (h2 : (k2, W.listOf (List.toArray []) n2) ∈ news) (h3 : (k1, W.listOf (List.toArray ys) n1) ∈ news) (hys : StrsAre ys [x, x, y]) : ∃ as, Reads h (.ref a) (thriceData x y) as :=
  ⟨_, reads_tuple_at (N _ h1).1 rfl rfl (.cons (reads_list_at (N _ h3).1 rfl rfl (StrsAre.reads _ hys)) (.cons (Reads.str _ t1) (.cons (Reads.str _ t2) (.cons (reads_list_at (N _ h2).1 rfl rfl .nil) .nil))))⟩
theorem eq_thrice {prog : Program} {w : World} {A : Around} {s : Shared} {E : Value → Shared → Prop} {Q : Value → Shared → Prop} {a b : Addr} {x y : Str} (ra : ∃ as, Reads s.heap (.ref a) (thriceData x y) as) (rb : ∃ as, Reads s.heap (.ref b) (thriceData x y) as) (hx : Txl x) (hy : Txl y)
    (hu : A.units + 64 < cLine) (h : Q (.bool true) s) : wpAny (model prog w) A (compareOp .Eq (.ref a) (.ref b)) Q E s := by
  obtain ⟨_, ra⟩ := ra
  obtain ⟨_, rb⟩ := rb
  refine eq_dataH ra rb (thrice_shaped hx hy) (thrice_shaped hx hy) hu ?_
  rw [thrice_eqv]; exact h
end Mine
set_option maxHeartbeats 400000
namespace Mine
open PySem PySem.W PyProof.Rows PySem.Spec PySem.Calls
local macro_rules | `(tactic| walk_at $k:str) => if k.getString ∈ ["exec For Name Name cons nil", "exec For Name Call cons nil", "CompSrc", "CompSrcT", "binaryOp BitXor int int"] then `(tactic| (refine Hold.out ?_)) else Lean.Macro.throwUnsupported
local macro_rules | `(tactic| walk_at "mine mem") => `(tactic| (first | assumption | with_reducible exact List.mem_cons_self .. | (refine List.mem_append_left _ ?_; walk_at "mine mem"; done) | (refine List.mem_append_right _ ?_; walk_at "mine mem"; done) | (refine List.mem_cons_of_mem _ ?_; walk_at "mine mem")))
local macro_rules | `(tactic| walk_at "mine sub") => `(tactic| (first | exact sub_n | with_reducible exact sub_r | (refine sub_c ?_ ?_; (case' refine_1 => walk_at "mine mem"); walk_at "mine sub") | (refine sub_a ?_ ?_; (case' refine_1 => walk_at "mine sub"); walk_at "mine sub") | (refine sub_l ?_; walk_at "mine sub"; done) | (refine sub_s ?_; walk_at "mine sub"; done) | (refine sub_t ?_; walk_at "mine sub")))
local macro_rules | `(tactic| k_all) => `(tactic| first | assumption | exact List.forall_mem_nil _ | (refine' List.forall_mem_cons.mpr ⟨?a, ?b⟩; (case a => k_ne); (case b => k_all)) | exact ne_allLt (by assumption) (by omega))
local macro_rules | `(tactic| walk_at "call ref") => `(tactic| ((fail_if_success (with_reducible show wpAny _ _ (call (Value.ref 184) _ _) _ _ _)); refine Hold.out ?_))
local macro_rules | `(tactic| walk_at "eval ListComp") => `(tactic| (first | ((with_reducible show wpAny _ _ (eval (Expr.ListComp _ [⟨Expr.Name _ _, _, [], _⟩] _ _) _) _ _ _); k_dflt (refine LCg.ListComp_U (F₀ := by k_asm) (by rfl) (by decide) (by rfl) (by decide) (by rfl) ?_)) | ((with_reducible show wpAny _ _ (eval (Expr.ListComp _ [⟨Expr.Name _ _, _, [_], _⟩] _ _) _) _ _ _); k_dflt (refine LCt.ListComp_T (F₀ := by k_asm) (by with_unfolding_all rfl) (by decide) (by rfl) (by decide) (by rfl) ?_)) | k_dflt (refine LCp.ListComp_P (F₀ := by k_asm) (by with_unfolding_all rfl) (by decide) (by rfl) (by decide) (by rfl) (by rfl) (by decide) ?_)))
local macro_rules | `(tactic| walk_at "call builtin:str.lower") => `(tactic| ((with_reducible show wpAny _ _ (call _ [Value.str _ _]) _ _ _); refine lower_T (by assumption) ?_; intro _ _))
section
theorem pf_con {w : World} {loose : List PySem.Str} {mean : ExcName → Option Value} {mg mb : PySem.Str → Option Value} {news : List (Addr × Obj)} {e : Int} {tk : Tok} :
   Con PySem.Challenge.rw_re0161_03.row.prog w (Mine.pre.heap_1 w.params) PySem.Challenge.rw_re0161_03.row.prog loose mean mg mb 1 8 238 news (0 ≤ e ∧ e < 2^32) [.int e tk] [] (fun r nw => (∃ t, r = .str (pf e.toNat) t) ∧ news = nw) := by
  intro dp un gd cn cs a ccd cl outer A₀ base h₀ L m s Q E B F X N T XM hk hpre hd hu hret
  obtain ⟨n, rfl⟩ : ∃ n : Nat, e = (n : Int) := ⟨e.toNat, by omega⟩
  have hn32 : n < 2 ^ 32 := by omega
  rw [Int.toNat_natCast] at hret
  refine wpAny_call ?_
  k_dflt (refine' code_def ?k1 ?k2 ?k3 ?k4 ?k5 ?kA ?kF ?kK ?k6 ?k7 ?k8 ?k9 ?kB ?_ ?c2 ?c3 ?c4 ?c5; (case kA => exact rfl); (case kF => exact rfl); (case kK => first | exact rfl | assumption); (case k1 => k_asm); (case k2 => k_asm); (case k3 => k_asm); (case k4 => k_asm); (case k5 => k_asm); (case k6 => k_is); (case k7 => k_is); (case k8 => ktr_room); (case k9 => first | exact BindsTo.of_eq rfl | exact binds_K (by k_in) rfl (by k_is) rfl rfl rfl); (case c5 => decide); (case kB => exact locs rfl); (case c2 => exact rfl); (case c3 => exact rfl); (case c4 => exact rfl); k_whole; intro g' L' h' FG' F' N' B' X' T'; (try dsimp only); (try k_lift B'); (try k_fold))
  obtain ⟨mE, hmE, FE⟩ := fr_gen F'
  clear F'
  have XM' := Flt.MathXP.keeps _ _ _ XM FG'.keep
  have e0E : mE (Str.ofString "flags") = some (.int (n : Int) tk) := by rw [hmE]; rfl
  rw [know e0E] at FE
  clear hmE e0E
  k_steps
  rename_i tk' l' h' l1 h'' F' N'
  refine For_X (by assumption) (by rfl) (by rfl) ?_
  k_steps
  refine range_X (fun i m nx => ∃ (t : Tok) (vs : List Value), m (Str.ofString "flags") = some (.int ((n / 2 ^ i * 2 ^ i : Nat) : Int) t) ∧ m (Str.ofString "names") = some (.ref l') ∧ nx = (l', W.listOf vs.toArray vs.length) :: news ∧
     StrsAre vs ((bitsB n i).map W) ∧ (n = 0 ∨ n / 2 ^ i ≠ 0)) (n := 32) rfl (by assumption) (by decide) (by decide) (by assumption) (by assumption) ?_ ?_ ?_
  · exact ⟨_, [], by simp; rfl, by rfl, rfl, .nil, by simp; omega⟩
  · rintro i t m₁ nx h tk₁ I it hi ⟨t₂, vs, hf, hn, rfl, hs, hz⟩ hI hic F₁ N₁
    rw [know hn, know hf] at F₁
    clear hf hn
    have hle := Nat.le_trans (Nat.le_of_eq (strsAre_len hs)) (Nat.le_trans (Nat.le_of_eq (List.length_map ..)) (bitsB_len n i))
    k_steps
    · refine P.hex_of_int ?_ (hex_fits hi)
      rename_i hb kyX
      rw [pf_and] at hb
      have hb' : n.testBit i = true := by
        by_cases q : n.testBit i = true
        · exact q
        · rw [if_neg q] at hb; exact absurd rfl hb
      clear hb
      walk1
      refine wp_cut (fun v => ∃ t', v = .str (W i) t') ?_ ?_
      · k_steps
        all_goals refine CutP.of ⟨_, congrArg (fun x => Value.str x _) ?_⟩
        all_goals first | exact W_0 (by assumption) | exact W_1 (by assumption) | exact W_2 (by assumption) | exact W_3 (by assumption) | exact W_4 (by assumption) | exact W_5 (by assumption) | exact W_6 (by assumption) | exact W_7 (by assumption) | exact W_8 (by assumption) | exact W_9 (by assumption) | exact W_hi' (by assumption) (by assumption) (by assumption) (by assumption) (by assumption) (by assumption) (by assumption) (by assumption) (by assumption) (by assumption)
      · rintro _ tk₂ ⟨t', rfl⟩
        dsimp only
        k_steps
        refine append_M (by assumption) (by assumption) (.tail (Ne.symm (hI _ (List.mem_cons_self ..))) (.head fun p hp => Nat.ne_of_lt (l1 p hp))) (by omega) (fun h₃ F₃ N₃ => ?_)
        k_steps
        · rename_i hx
          rw [pf_xor hb'] at hx
          refine ⟨_, _, _, _, rfl, by assumption, by assumption, ?_, _, _, congrArg (fun z => some (Value.int z _)) (pf_xor hb'), by rfl, rfl, ?_, ?_⟩
          · intro p hp
            rcases List.mem_cons.mp hp with rfl | hp
            · have hIl := hI _ (List.mem_cons_self ..)
              exact hIl
            · exact hI p (List.mem_cons_of_mem _ hp)
          · rw [bitsB_succ, hb', if_pos rfl, List.map_append]
            exact strsAre_snoc hs _ _
          · exact .inr fun q => hx (by rw [q, Nat.zero_mul]; rfl)
        · rename_i hx
          rw [pf_xor hb'] at hx
          have hx' : n / 2 ^ (i + 1) = 0 := shr_zero (Int.ofNat.inj hx)
          have hn0 : n ≠ 0 := fun q => by rw [q] at hb'; simp at hb'
          have hss := strsAre_snoc hs (W i) t'
          rw [show List.map W (bitsB n i) ++ [W i] = pfNames n by rw [← pf_of_bits (i := i + 1) hi hx' hn0, bitsB_succ, hb', if_pos rfl, List.map_append]; rfl] at hss
          dsimp only [TurnPost]
          k_steps
          refine join_listW (by is_list) (by simpa using hss) (by decide) (pfNames_weight n) ?_
          intro t' k'
          k_steps
          exact hret _ _ _ _ (by assumption) (news_sub (by assumption) fun p hp => List.mem_cons_of_mem _ (List.mem_cons_of_mem _ hp)) ⟨⟨_, rfl⟩, rfl⟩
    · rename_i hb
      rw [pf_and] at hb
      have hb' : n.testBit i = false := by
        by_cases q : n.testBit i = true
        · rw [if_pos q] at hb; have := Nat.two_pow_pos i; omega
        · simpa using q
      refine ⟨_, _, _, _, rfl, by assumption, by assumption, hI, t₂, vs, ?_, by rfl, rfl, ?_, ?_⟩
      · rw [← shr_next0 hb']; rfl
      · rw [bitsB_succ, hb']; simpa using hs
      · exact not_zero_next hz hb'
  · rintro m₁ nx h tk₁ ⟨t₂, vs, hf, hn, rfl, hs, hz⟩ F₁ N₁
    rw [know hn, know hf] at F₁
    clear hf hn
    have hn0 : n = 0 := by
      rcases hz with q | q
      · exact q
      · exact absurd (Nat.div_eq_of_lt (by assumption)) q
    subst hn0
    cases hs
    k_steps
    exact hret _ _ _ _ (by assumption) (news_sub (by assumption) fun p hp => List.mem_cons_of_mem _ hp) ⟨⟨_, rfl⟩, rfl⟩
end
section
local macro_rules | `(tactic| walk_at "mine 0") => Lean.Macro.throwUnsupported
abbrev nameRec : Flt.PatRec := ⟨Str.ofString "_name_disallowed_re", nameCode.toList, 0, 0⟩
abbrev valRec : Flt.PatRec := ⟨Str.ofString "_value_disallowed_re", valCode.toList, 0, 0⟩
theorem pats_name : (Flt.patsOf PySem.Challenge.rw_re0161_03.row.prog).find? (fun r => r.name == Str.ofString "_name_disallowed_re") = some nameRec := by kernel_rfl
theorem pats_val : (Flt.patsOf PySem.Challenge.rw_re0161_03.row.prog).find? (fun r => r.name == Str.ofString "_value_disallowed_re") = some valRec := by kernel_rfl
theorem pats_of {w : World} {loose : List PySem.Str} {mean : ExcName → Option Value} {mg mb : PySem.Str → Option Value} {h : Heap} (XM : Flt.MathXP PySem.Challenge.rw_re0161_03.row.prog mg h) (X : (Mine.pre.heap_1 w.params).In h) (T : Top topProg loose mean mg mb h) :
    Flt.IsPattern h 48 nameRec ∧ Flt.IsPattern h 53 valRec :=
  ⟨pat_at XM (mg_of X T.g (n := Str.ofString "_name_disallowed_re") (v := .ref 48) rfl) pats_name, pat_at XM (mg_of X T.g (n := Str.ofString "_value_disallowed_re") (v := .ref 53) rfl) pats_val⟩
end
section
local macro_rules | `(tactic| walk_at "mine 0") => Lean.Macro.throwUnsupported
local macro_rules | `(tactic| walk_at $k:str) => if k.getString ∈ ["getMethod ref", "call builtin:re.Pattern.search"] then `(tactic| (refine Hold.out ?_)) else Lean.Macro.throwUnsupported
theorem conv_con {w : World} {loose : List PySem.Str} {mean : ExcName → Option Value} {mg mb : PySem.Str → Option Value} {news : List (Addr × Obj)} {t : Value} {x : Str} {tk : Tok} {b : Bool} :
   Con PySem.Challenge.rw_re0161_03.row.prog w (Mine.pre.heap_1 w.params) PySem.Challenge.rw_re0161_03.row.prog loose mean mg mb 1 8 83 news (Txl x) [t, .str x tk] [(Str.ofString "name", .bool b)] (fun r nw => r = .str x tk ∧ news = nw) := by
  intro dp un gd cn cs a ccd cl outer A₀ base h₀ L m s Q E B F X N T XM hk hp1 hd hu hret
  refine wpAny_call ?_
  k_dflt (refine' code_def ?k1 ?k2 ?k3 ?k4 ?k5 ?kA ?kF ?kK ?k6 ?k7 ?k8 ?k9 ?kB ?_ ?c2 ?c3 ?c4 ?c5; (case kA => exact rfl); (case kF => exact rfl); (case kK => first | exact rfl | assumption); (case k1 => k_asm); (case k2 => k_asm); (case k3 => k_asm); (case k4 => k_asm); (case k5 => k_asm); (case k6 => k_is); (case k7 => k_is); (case k8 => ktr_room); (case k9 => first | exact BindsTo.of_eq rfl | exact binds_K (by k_in) rfl (by k_is) rfl rfl rfl); (case c5 => decide); (case kB => exact locs rfl); (case c2 => exact rfl); (case c3 => exact rfl); (case c4 => exact rfl); k_whole; intro g' L' h' FG' F' N' B' X' T'; (try dsimp only); (try k_lift B'); (try k_fold))
  obtain ⟨mE, hmE, FE⟩ := fr_gen F'
  clear F'
  have XM' := Flt.MathXP.keeps _ _ _ XM FG'.keep
  have e0E : mE (Str.ofString "self") = some t := by rw [hmE]; rfl
  have e1E : mE (Str.ofString "value") = some (.str x tk) := by rw [hmE]; rfl
  have e2E : mE (Str.ofString "name") = some (.bool b) := by rw [hmE]; rfl
  rw [know e0E, know e1E, know e2E] at FE
  clear hmE e0E e1E e2E
  obtain ⟨hP1, hP2⟩ := pats_of XM' X' T'
  k_steps
  all_goals refine ⟨?_⟩
  all_goals first | refine getMethod_searchH (P := 48) (by assumption) (by assumption) ?_ | refine getMethod_searchH (P := 53) (by assumption) (by assumption) ?_
  all_goals k_steps
  all_goals refine ⟨?_⟩
  all_goals first | refine search_nameH (P := 48) (by assumption) (by assumption) (by assumption) ?_ | refine search_valH (P := 53) (by assumption) (by assumption) (by assumption) ?_
  all_goals k_steps
  all_goals exact hret _ _ _ _ (by assumption) (by assumption) ⟨rfl, rfl⟩
end
section
local macro_rules | `(tactic| walk_at "exec For Tuple Attribute cons nil") => `(tactic| (refine Hold.out ?_))
theorem get_con {w : World} {loose : List PySem.Str} {mean : ExcName → Option Value} {mg mb : PySem.Str → Option Value} {news : List (Addr × Obj)} {t d hl : Addr} {tkk : Tok} {vs : List Value} {nl : Nat} {ps : List (Str × Str)} {x : Str} {tk : Tok} :
   Con PySem.Challenge.rw_re0161_03.row.prog w (Mine.pre.heap_1 w.params) PySem.Challenge.rw_re0161_03.row.prog loose mean mg mb 2 20 131 news (TabN w.params 184 news t d tkk hl vs nl ∧ Rows news vs ps ∧ Txl x) [.ref t, .str x tk] []
     (fun r nw => news = nw ∧ match hget ps x with | some v => ∃ t, r = .str v t | none => r = .none) := by
  intro dp un gd cn cs a ccd cl outer A₀ base h₀ L m s Q E B F X N T XM hk ⟨⟨hp1, hp2, hp3, hp4⟩, hr, hx⟩ hd hu hret
  refine wpAny_call ?_
  k_dflt (refine' code_def ?k1 ?k2 ?k3 ?k4 ?k5 ?kA ?kF ?kK ?k6 ?k7 ?k8 ?k9 ?kB ?_ ?c2 ?c3 ?c4 ?c5; (case kA => exact rfl); (case kF => exact rfl); (case kK => first | exact rfl | assumption); (case k1 => k_asm); (case k2 => k_asm); (case k3 => k_asm); (case k4 => k_asm); (case k5 => k_asm); (case k6 => k_is); (case k7 => k_is); (case k8 => ktr_room); (case k9 => first | exact BindsTo.of_eq rfl | exact binds_K (by k_in) rfl (by k_is) rfl rfl rfl); (case c5 => decide); (case kB => exact locs rfl); (case c2 => exact rfl); (case c3 => exact rfl); (case c4 => exact rfl); k_whole; intro g' L' h' FG' F' N' B' X' T'; (try dsimp only); (try k_lift B'); (try k_fold))
  obtain ⟨mE, hmE, FE⟩ := fr_gen F'
  clear F'
  have XM' := Flt.MathXP.keeps _ _ _ XM FG'.keep
  have e0E : mE (Str.ofString "self") = some (.ref t) := by rw [hmE]; rfl
  have e1E : mE (Str.ofString "name") = some (.str x tk) := by rw [hmE]; rfl
  have e2E : mE (Str.ofString "default") = some .none := by rw [hmE]; rfl
  rw [know e0E, know e1E, know e2E] at FE
  clear hmE e0E e1E e2E
  have hlx := hx.lower
  k_steps
  refine ⟨?_⟩
  k_dflt (refine conv_con (by k_asm) (by k_asm) (by k_asm) (by k_asm) (by k_asm) (by k_asm) (by first | exact rfl | assumption) (by assumption) (by ktr_room) (by ktr_units) ?_)
  intro r9 nw9 h9 tk9 F9 N9 hp9
  have e1 := hp9.1
  have e2 := hp9.2
  subst e1
  subst e2
  clear hp9
  try k_sweep
  k_steps
  refine ⟨?_⟩
  refine For_turns (by assumption) ?_
  k_steps
  rename News _ _ _ _ => NS
  refine list_T (fun i m nx => (∃ t, m (Str.ofString "name") = some (.str (Txt.lower x) t)) ∧ m (Str.ofString "default") = some .none ∧ news = nx ∧ ∀ (j : Nat) (q : Str × Str), j < i → ps[j]? = some q → Txt.lower q.1 ≠ Txt.lower x) (vs := vs) rfl (list_at (by assumption) hp3) (NS _ hp3).2.1 (by assumption) (by assumption) ⟨⟨_, rfl⟩, rfl, rfl, fun j q hj => absurd hj (Nat.not_lt_zero _)⟩ ?_ ?_ ?_
  · rintro i m nx h _ ⟨_, _, hnx, _⟩ _ N₂
    subst hnx
    exact (N₂ _ hp3).1.trans (NS _ hp3).1.symm
  · rintro i v m₁ nx h tk₁ I it hv ⟨⟨t₂, hn⟩, hdf, hnx, hno⟩ hI hic F₁ N₁
    subst hnx
    obtain ⟨a₁, k, y, tk₃, ty, rfl, hmem, hkx, hy, hps⟩ := hr.at hv
    rw [know hn, know hdf] at F₁
    have hmem' := List.mem_cons_of_mem (I, it) hmem
    k_steps
    · rename_i hE
      dsimp only [TurnPost]
      k_steps
      rw [hget_some (i := i) (p := (k, y)) hps (by simpa using hE) hno] at hret
      exact hret _ _ _ _ (by assumption) (news_sub (by assumption) fun p hp => List.mem_cons_of_mem _ hp) ⟨rfl, _, rfl⟩
    · rename_i hE
      refine ⟨_, _, _, _, rfl, by assumption, by assumption, hI, ⟨_, rfl⟩, rfl, rfl, fun j q hj hq => ?_⟩
      rcases Nat.lt_or_ge j i with hji | hji
      · exact hno j q hji hq
      · have hje : j = i := by omega
        rw [hje, hps] at hq
        cases hq
        simpa using hE
  · rintro m₁ nx h tk₁ ⟨⟨t₂, hn⟩, hdf, hnx, hno⟩ F₁ N₁
    subst hnx
    rw [know hn, know hdf] at F₁
    rw [hget_none fun i p hp => hno i p (by rw [hr.len]; exact (List.getElem?_eq_some_iff.mp hp).1) hp] at hret
    k_steps
    exact hret _ _ _ _ (by assumption) (by assumption) ⟨rfl, rfl⟩
end
section
local macro_rules | `(tactic| walk_at "mine 0") => Lean.Macro.throwUnsupported
local macro_rules | `(tactic| walk_at "call builtin:list.append") => `(tactic| (refine Hold.out ?_))
theorem setd_con {w : World} {loose : List PySem.Str} {mean : ExcName → Option Value} {mg mb : PySem.Str → Option Value} {rest : List (Addr × Obj)} {t d hl : Addr} {tkk : Tok} {vs : List Value} {nl : Nat} {ps : List (Str × Str)} {x y : Str} {tk tky : Tok} :
   Con PySem.Challenge.rw_re0161_03.row.prog w (Mine.pre.heap_1 w.params) PySem.Challenge.rw_re0161_03.row.prog loose mean mg mb 3 32 174 ((hl, W.listOf vs.toArray nl) :: rest)
     ((t, instObj 184 d) ∈ rest ∧ (d, hdrDict w.params tkk hl) ∈ rest ∧ vs.length ≤ 999 ∧ Rows rest vs ps ∧ (∀ p ∈ rest, p.1 ≠ hl) ∧ Txl x ∧ Txl y) [.ref t, .str x tk, .str y tky] []
     (fun r nw => match hget ps x with
       | some v => (∃ t, r = .str v t) ∧ ((hl, W.listOf vs.toArray nl) :: rest) = nw
       | none => r = .str y tky ∧ ∃ a', ((hl, W.listOf (vs ++ [Value.ref a']).toArray (nl + 1)) :: (a', tupObj [.str x tk, .str y tky]) :: rest) = nw ∧ hl < a' ∧ ∀ p ∈ rest, p.1 < a') := by
  intro dp un gd cn cs a ccd cl outer A₀ base h₀ L m s Q E B F X N T XM hk ⟨hp1, hp2, hp4, hr, hoff, hx, hy⟩ hd hu hret
  have hp1' := List.mem_cons_of_mem (hl, W.listOf vs.toArray nl) hp1
  have hp2' := List.mem_cons_of_mem (hl, W.listOf vs.toArray nl) hp2
  have hr' := hr.mono (fun p hp => List.mem_cons_of_mem (hl, W.listOf vs.toArray nl) hp)
  have hT : TabN w.params 184 ((hl, W.listOf vs.toArray nl) :: rest) t d tkk hl vs nl ∧ Rows ((hl, W.listOf vs.toArray nl) :: rest) vs ps ∧ Txl x := ⟨⟨hp1', hp2', List.mem_cons_self .., by omega⟩, hr', hx⟩
  refine wpAny_call ?_
  k_dflt (refine' code_def ?k1 ?k2 ?k3 ?k4 ?k5 ?kA ?kF ?kK ?k6 ?k7 ?k8 ?k9 ?kB ?_ ?c2 ?c3 ?c4 ?c5; (case kA => exact rfl); (case kF => exact rfl); (case kK => first | exact rfl | assumption); (case k1 => k_asm); (case k2 => k_asm); (case k3 => k_asm); (case k4 => k_asm); (case k5 => k_asm); (case k6 => k_is); (case k7 => k_is); (case k8 => ktr_room); (case k9 => first | exact BindsTo.of_eq rfl | exact binds_K (by k_in) rfl (by k_is) rfl rfl rfl); (case c5 => decide); (case kB => exact locs rfl); (case c2 => exact rfl); (case c3 => exact rfl); (case c4 => exact rfl); k_whole; intro g' L' h' FG' F' N' B' X' T'; (try dsimp only); (try k_lift B'); (try k_fold))
  obtain ⟨mE, hmE, FE⟩ := fr_gen F'
  clear F'
  have XM' := Flt.MathXP.keeps _ _ _ XM FG'.keep
  have e0E : mE (Str.ofString "self") = some (.ref t) := by rw [hmE]; rfl
  have e1E : mE (Str.ofString "name") = some (.str x tk) := by rw [hmE]; rfl
  have e2E : mE (Str.ofString "value") = some (.str y tky) := by rw [hmE]; rfl
  rw [know e0E, know e1E, know e2E] at FE
  clear hmE e0E e1E e2E
  k_steps
  refine ⟨?_⟩
  k_dflt (refine get_con (by k_asm) (by k_asm) (by k_asm) (by k_asm) (by k_asm) (by k_asm) (by first | exact rfl | assumption) (by assumption) (by ktr_room) (by ktr_units) ?_)
  intro r9 nw9 h9 tk9 F9 N9 hp9
  have e2 := hp9.1
  have e3 := hp9.2
  subst e2
  clear hp9
  try k_sweep
  cases hg : hget ps x with
  | some v =>
    rw [hg] at e3 hret
    obtain ⟨t', e3⟩ := e3
    subst e3
    k_steps
    exact hret _ _ _ _ (by assumption) (by assumption) ⟨⟨_, rfl⟩, rfl⟩
  | none =>
    rw [hg] at e3 hret
    dsimp only at e3
    subst e3
    k_steps
    refine ⟨?_⟩
    k_dflt (refine conv_con (by k_asm) (by k_asm) (by k_asm) (by k_asm) (by k_asm) (by k_asm) (by first | exact rfl | assumption) (by assumption) (by ktr_room) (by ktr_units) ?_)
    intro r9 nw9 h9 tk9 F9 N9 hp9
    have e1 := hp9.1
    have e2 := hp9.2
    subst e1
    subst e2
    clear hp9
    try k_sweep
    k_steps
    refine ⟨?_⟩
    k_dflt (refine conv_con (by k_asm) (by k_asm) (by k_asm) (by k_asm) (by k_asm) (by k_asm) (by first | exact rfl | assumption) (by assumption) (by ktr_room) (by ktr_units) ?_)
    intro r9 nw9 h9 tk9 F9 N9 hp9
    have e1 := hp9.1
    have e2 := hp9.2
    subst e1
    subst e2
    clear hp9
    try k_sweep
    k_steps
    refine ⟨?_⟩
    refine append_C (by k_asm) (by k_asm) (by k_upd) (by omega) ?_
    intro h9 F9 N9
    try k_sweep
    k_steps
    rename _ ∧ AllLt _ _ => lD
    refine hret _ _ _ _ (by assumption) (news_sub (by assumption) fun p hp => ?_) ⟨rfl, _, rfl, lD.1, ktn_ltOf lD.2⟩
    rcases List.mem_cons.mp hp with rfl | hp
    · exact .tail _ (.head _)
    · rcases List.mem_cons.mp hp with rfl | hp
      · exact .head _
      · exact .tail _ (.tail _ hp)
end
section
local macro_rules | `(tactic| walk_at $k:str) => if k.getString ∈ ["exec FunctionDef", "call builtin:len", "setItem ref int", "binaryOp RShift int int", "binaryOp LShift int int"] then `(tactic| (refine Hold.out ?_)) else Lean.Macro.throwUnsupported
local macro_rules | `(tactic| walk_at "callWith ref") => `(tactic| (refine callWith_F (fnAt_of (by assumption) (by k_asm) (by k_mem)) ?_))
local macro_rules | `(tactic| walk_at "FnAt") => `(tactic| (exact fnAt_of (by assumption) (by k_asm) (by k_mem)))
local macro_rules | `(tactic| walk_at "eval Name") => `(tactic| ((with_reducible show wpAny _ _ (eval (Expr.Name _ _) (envX _ _ _ _ _ _)) _ _ _); k_dflt (refine' nameX_F ?N ?c ?m ?d ?_ ?a ?b; (case a => rfl); (case b => rfl); (case N => k_asm); (case c => rfl); (case m => k_mem); (case d => k_asm); k_whole)))
theorem i2d_con {w : World} {loose : List PySem.Str} {mean : ExcName → Option Value} {mg mb : PySem.Str → Option Value} {rest : List (Addr × Obj)} {x n : Nat} {tk tkn : Tok} {ps : Array Value} :
   Con PySem.Challenge.rw_re0161_03.row.prog w (Mine.pre.heap_1 w.params) PySem.Challenge.rw_re0161_03.row.prog loose mean mg mb 100 900 209 ((204, tabObj ps) :: rest)
     ((∀ p ∈ rest, p.1 ≠ 204) ∧ TbOk 135 4 (Str.ofString "_int2digits.<locals>.inner") ps rest ∧ x < 2 ^ 80 ∧ 0 < n ∧ n < 100) [.int (x : Int) tk, .int (n : Int) tkn] []
     (fun r nw => ∃ ps' add la vs, r = .ref la ∧ ((204, tabObj ps') :: (la, W.listOf vs.toArray 0) :: (add ++ rest)) = nw ∧ IntsAre vs (digs n x (ndig x n)) ∧ TbOk 135 4 (Str.ofString "_int2digits.<locals>.inner") ps' (add ++ rest) ∧
       (204 < la ∧ ∀ q ∈ rest, q.1 < la) ∧ ∀ p ∈ add, la < p.1 ∧ 204 < p.1 ∧ ∀ q ∈ rest, q.1 < p.1) := by
  intro dp un gd cn cs a ccd cl outer A₀ base h₀ L m s Q E B F X N T XM hk ⟨hoff, hTb, hx1, hn0, hn1⟩ hd hu hret
  have hK80 : ndig x n ≤ 80 := ndig_le hx1 hn0
  refine wpAny_call ?_
  k_dflt (refine' code_defC ?k1 ?k2 ?k3 ?k4 ?k5 ?kA ?kF ?kK ?k6 ?k7 ?k8 ?k9 ?kB ?kD ?_ ?c2 ?c3 ?c4; (case kA => exact rfl); (case kF => exact rfl); (case kK => first | exact rfl | assumption); (case k1 => k_asm); (case k2 => k_asm); (case k3 => k_asm); (case k4 => k_asm); (case k5 => k_asm); (case k6 => k_is); (case k7 => k_is); (case k8 => ktr_room); (case k9 => first | exact BindsTo.of_eq rfl | exact binds_K (by k_in) rfl (by k_is) rfl rfl rfl | fail "k_enter: no rule for these arguments"); (case kB => exact rfl); (case kD => decide +kernel); (case c2 => exact rfl); (case c3 => exact rfl); (case c4 => exact rfl); k_whole; intro g' L' h' tk' cells' FG' F' N' Y' B' X' T' l1; (try k_lt l1); k_cells Y'; (try simp only [List.cons_append, List.nil_append] at N'); (try dsimp only); (try k_lift B'); (try k_fold))
  have hR := l1.2
  obtain ⟨mE, hmE, FE⟩ := fr_gen F'
  clear F'
  have XM' := Flt.MathXP.keeps _ _ _ XM FG'.keep
  have e0E : mE (Str.ofString "a") = some (.int (x : Int) tk) := by rw [hmE]; rfl
  rw [know e0E] at FE
  clear hmE e0E
  have hC := codeHd_of_K X' (c := 208) (P := 204) rfl
  k_steps
  have hnd := ndig_int x n hn0
  refine KMa.mul (by assumption) (by assumption) (by is_list) (by rw [hnd]; omega) (by rw [hnd]; omega) (by rw [hnd, Int.toNat_natCast]; simp; omega) (flat1 _ _) ?_
  intro lA hA FA NA lA1
  rw [hnd, Int.toNat_natCast] at NA
  (try k_lt lA1)
  k_steps
  refine ⟨?_⟩
  refine nestDef_K (by exact rfl) (by exact rfl) (by exact rfl) ?_
  refine nestAny_K (by k_asm) (by k_asm) (by k_asm) (by assumption) rfl (by k_updF) (by assumption) (fun p hp => by repeat (first | exact hp | apply List.mem_cons_of_mem)) rfl rfl rfl ?_
  refine ⟨?_⟩
  intro f c' oc vs9 t9 ctv doc h9 tk9 add ps9 F9 N9 e9 hm9 d19 d29 l19 l29
  obtain ⟨fo, hfo, N9b⟩ := news_head N9
  clear N9
  have l2A := fun q (hq : q ∈ add) => And.intro (ltN (l29 q hq).1) (allLt_of (l29 q hq).2)
  clear l29
  simp only [AllLt] at l2A
  k_lt l19
  obtain ⟨oI, oA, oN, eI, eA, eN, N10⟩ := i2d_led N9b
  subst eI eA eN
  clear N9b
  rename oA.data = _ => dA
  rename oN.data = _ => dN
  have dN' : oN.data = .cell (some (.int (n : Int) tkn)) := dN
  clear dN
  have l3 : ∀ q ∈ add ++ rest, q.1 ≠ L' + 1 + 1 + 1 := fun q hq => (List.mem_append.mp hq).elim (fun h => Nat.ne_of_gt (by have := l2A q h; omega)) fun h => Nat.ne_of_lt (Nat.lt_of_lt_of_le (ktn_ltOf hR q h) (by omega))
  k_steps
  · refine ⟨?_⟩
    refine len_M (by k_asm) (by k_mem) (by rw [List.length_replicate]; exact Nat.lt_of_le_of_lt hK80 (by decide)) ?_
    intro _ _
    k_steps
    rename News _ _ _ _ => N11
    obtain ⟨oJ, eJ, N12⟩ := news_head N11
    subst eJ
    clear N11
    rename oJ.data = _ => dI
    have key : ∀ k, InnerSpec PySem.Challenge.rw_re0161_03.row.prog w (Mine.pre.heap_1 w.params) PySem.Challenge.rw_re0161_03.row.prog loose mean mg mb [(f, fo), (c', oc), (L' + 1 + 1 + 1, oJ), (L' + 1 + 1, oA), (L' + 1, oN)] f lA 0 n k := inner_ind fun k IH => by
      clear N12 hret hx1 hK80 hnd hd hu l1 l2A l3 lA1
      unfold InnerSpec
      intro dp un gd cn cs a ccd cl outer A₀ base h₀ L m s Q E rest x l r tx tl tr vs ds B F X N T XM hk hr hfix hoff hi hrl hd1 hx hd hu hret
      have m1 := hfix (f, fo) (by simp)
      have m2 := hfix (c', oc) (by simp)
      have m3 := hfix (L' + 1 + 1 + 1, oJ) (by simp)
      have m4 := hfix (L' + 1 + 1, oA) (by simp)
      have m5 := hfix (L' + 1, oN) (by simp)
      subst hfo
      have M1 := List.mem_cons_of_mem (lA, W.listOf vs.toArray 0) m1
      have M2 := List.mem_cons_of_mem (lA, W.listOf vs.toArray 0) m2
      have M3 := List.mem_cons_of_mem (lA, W.listOf vs.toArray 0) m3
      have M4 := List.mem_cons_of_mem (lA, W.listOf vs.toArray 0) m4
      have M5 := List.mem_cons_of_mem (lA, W.listOf vs.toArray 0) m5
      refine wpAny_call ?_
      k_dflt (refine' code_nest ?k1 ?k2 ?k3 ?k4 ?k5 ?kA ?kF ?kK ?k6 ?k7 ?k8 ?k9 ?kB ?_ ?c2 ?c3 ?c4 ?c5; (case kA => exact rfl); (case kF => exact rfl); (case kK => first | exact rfl | assumption); (case k1 => k_asm); (case k2 => k_asm); (case k3 => k_asm); (case k4 => k_asm); (case k5 => k_asm); (case k6 => exact List.mem_cons_of_mem _ m1); (case k7 => exact codeRec_of9 N (List.mem_cons_of_mem _ m2) d19 d29); (case k8 => ktr_room); (case k9 => exact BindsTo.of_eq rfl); (case c5 => decide); (case kB => exact locs rfl); (case c2 => exact rfl); (case c3 => exact rfl); (case c4 => exact rfl); k_whole; intro g' L'' h' FG' F' N' B' X' T'; (try dsimp only); (try k_lift B'); (try k_fold))
      obtain ⟨mE, hmE, FE⟩ := fr_gen F'
      clear F'
      have e0E : mE (Str.ofString "x") = some (.int (x : Int) tx) := by rw [hmE]; rfl
      have e1E : mE (Str.ofString "L") = some (.int (l : Int) tl) := by rw [hmE]; rfl
      have e2E : mE (Str.ofString "R") = some (.int (r : Int) tr) := by rw [hmE]; rfl
      rw [know e0E, know e1E, know e2E] at FE
      clear hmE e0E e1E e2E
      have XM' := Flt.MathXP.keeps _ _ _ XM FG'.keep
      k_steps
      · rename_i hE
        have hk0 : k = 0 := by omega
        subst hk0
        refine ⟨?_⟩
        refine ksa_set (by assumption) (by assumption) (.head hoff) hi (by omega) (by omega) (by omega) ?_
        intro h8 F8 N8 hi8 _ _
        k_steps
        refine hret _ _ _ (by assumption) (by assumption) ?_
        rw [Int.toNat_natCast, laid_one (by omega)] at hi8
        rw [Int.toNat_natCast]
        have e : digs n x (0 + 1) = [(x : Int)] := by
          simp only [digs]
          rw [Nat.mod_eq_of_lt (by simpa using hx)]
        rw [e]
        exact hi8
      · rename_i hE
        refine ⟨?_⟩
        refine rshift_int (by decide) ?_
        rw [mid_eq hr]
        generalize hj : (k + 1) / 2 = j at *
        obtain ⟨⟨hj1, hj2, hje, hk1, hk2, _, hk3⟩, ⟨a1, a2, a3, a4, a5⟩, b1, b2, b3, b4⟩ := halv hr hrl hd1 hj hE hd hu
        k_steps
        refine ⟨?_⟩
        rename Fr _ _ _ _ => F8
        rw [shift_eq] at F8 ⊢
        refine rshift_int (Int.natCast_nonneg _) ?_
        rw [upper_eq]
        k_steps
        refine ⟨?_⟩
        refine lshift_int (Int.natCast_nonneg _) (shl_room (room_of hx (nk_le hn1 hk1)) (nk_le hn1 hk2)) ?_
        rw [back_eq]
        k_steps
        refine ⟨?_⟩
        refine xor_int ?_
        rw [lower_low]
        k_steps
        refine ⟨?_⟩
        refine inner_call (IH (j - 1) a1) (x := x % 2 ^ (n * j)) (l := l) (r := l + j) rfl rfl rfl (by k_asm) (by k_asm) (by k_asm) (by k_asm) (by k_asm) (by k_asm) (by first | exact rfl | assumption) a2 hfix hoff hi a3 hd1
          (by rw [hje]; exact Nat.mod_lt _ (Nat.two_pow_pos _)) a4 a5 ?_
        intro vs1 h1 tk1 F1 N1 hi1
        rw [hje] at hi1
        have M1 := List.mem_cons_of_mem (lA, W.listOf vs1.toArray 0) m1
        have M2 := List.mem_cons_of_mem (lA, W.listOf vs1.toArray 0) m2
        have M3 := List.mem_cons_of_mem (lA, W.listOf vs1.toArray 0) m3
        have M4 := List.mem_cons_of_mem (lA, W.listOf vs1.toArray 0) m4
        have M5 := List.mem_cons_of_mem (lA, W.listOf vs1.toArray 0) m5
        k_steps
        refine ⟨?_⟩
        have hl1 : (laid ds l (digs n (x % 2 ^ (n * j)) j)).length = ds.length := laid_len (by rw [digs_len]; exact a3)
        refine inner_call (IH (k - j) b1) (x := x / 2 ^ (n * j)) (l := l + j) (r := r) rfl rfl rfl (by k_asm) (by k_asm) (by k_asm) (by k_asm) (by k_asm) (by k_asm) (by first | exact rfl | assumption) b2 hfix hoff hi1 (by rw [hl1]; exact hrl) (by rw [hl1]; exact hd1)
          (div_room hj2 hx) b3 b4 ?_
        intro vs2 h2 tk2 F2 N2 hi2
        rw [laid_two hj2 hk3] at hi2
        k_steps
        exact hret _ _ _ (by assumption) (by assumption) hi2
    have hx0 : x ≠ 0 := by omega
    have hkp := ndig_pos hn0 hx0
    have hke := Nat.sub_add_cancel hkp
    have hk9 : ndig x n ≤ 1000 := Nat.le_trans hK80 (by decide)
    refine ⟨?_⟩
    refine inner_call (key (ndig x n - 1)) (x := x) (l := 0) (r := ndig x n) (rest := (L' + 1 + 1 + 1, oJ) :: (204, tabObj ps9) :: (f, fo) :: (L' + 1 + 1, oA) :: (L' + 1, oN) :: (add ++ rest)) rfl rfl (by simp) (by k_asm) (by k_asm) (by k_asm)
      (news_sub N12 (by walk_at "mine sub")) (by k_asm) (by k_asm) (by first | exact rfl | assumption) (by rw [hke]; exact (Nat.zero_add _).symm)
      (fun q hq => by
        simp only [List.mem_cons, List.not_mem_nil, or_false] at hq
        rcases hq with rfl | rfl | rfl | rfl | rfl
        all_goals repeat (first | exact hm9 | exact List.mem_cons_self .. | apply List.mem_cons_of_mem))
      (fun q hq => by
        rcases List.mem_cons.mp hq with rfl | hq
        · exact Nat.ne_of_lt (by omega)
        rcases List.mem_cons.mp hq with rfl | hq
        · exact Nat.ne_of_lt (by omega)
        rcases List.mem_cons.mp hq with rfl | hq
        · exact Nat.ne_of_gt (by omega)
        rcases List.mem_cons.mp hq with rfl | hq
        · exact Nat.ne_of_lt (by omega)
        rcases List.mem_cons.mp hq with rfl | hq
        · exact Nat.ne_of_lt (by omega)
        rcases List.mem_append.mp hq with hq | hq
        · exact Nat.ne_of_gt (l2A q hq).2.1
        · exact Nat.ne_of_lt (ktn_ltOf lA1.2.2.2.2.2 q hq))
      (ints_rep (ndig x n) tk') (by simp) (by simpa using hk9) (by rw [hke]; exact ndig_lt x n hn0) (by rw [hke]; exact top_dp hK80 hd) (by rw [hke]; exact top_un hK80 hu) ?_
    intro vs2 h2 tk2 F2 N2 hi2
    rw [hke, laid_all] at hi2
    k_steps
    refine hret _ _ _ _ (by assumption) (news_sub (by assumption) fun p hp => ?_) ⟨ps9, add, lA, vs2, rfl, rfl, hi2, .inr ⟨c', oc, vs9, t9, e9, hm9, d19, d29⟩, ⟨lA1.2.2.2.2.1, fun q hq => ktn_ltOf lA1.2.2.2.2.2 q hq⟩, fun p hp => ⟨(l2A p hp).2.1, (l2A p hp).2.2.2.2.2.2.1, fun q hq => ktn_ltOf (l2A p hp).2.2.2.2.2.2.2 q hq⟩⟩
    simp only [List.mem_cons, List.mem_append] at hp ⊢
    grind
  · rename News _ _ _ _ => N11
    have hx0 : x = 0 := by omega
    subst hx0
    rw [ndig_zero n hn0] at N11
    refine hret _ _ _ _ (by assumption) (news_sub N11 fun p hp => ?_) ⟨ps9, add, lA, [], rfl, rfl, by rw [ndig_zero n hn0]; exact .nil, .inr ⟨c', oc, vs9, t9, e9, hm9, d19, d29⟩, ⟨lA1.2.2.2.2.1, fun q hq => ktn_ltOf lA1.2.2.2.2.2 q hq⟩, fun p hp => ⟨(l2A p hp).2.1, (l2A p hp).2.2.2.2.2.2.1, fun q hq => ktn_ltOf (l2A p hp).2.2.2.2.2.2.2 q hq⟩⟩
    simp only [List.mem_cons, List.mem_append] at hp ⊢
    simp only [List.replicate_zero] 
    grind
theorem d2i_con {w : World} {loose : List PySem.Str} {mean : ExcName → Option Value} {mg mb : PySem.Str → Option Value} {rest : List (Addr × Obj)} {n lq nq : Nat} {es : List Nat} {vs : List Value} {tkn : Tok} {ps : Array Value} :
   Con PySem.Challenge.rw_re0161_03.row.prog w (Mine.pre.heap_1 w.params) PySem.Challenge.rw_re0161_03.row.prog loose mean mg mb 100 900 216 ((lq, W.listOf vs.toArray nq) :: (211, tabObj ps) :: rest)
     ((∀ p ∈ rest, p.1 ≠ 211) ∧ (∀ p ∈ rest, p.1 < lq) ∧ 211 < lq ∧ TbOk 150 4 (Str.ofString "_digits2int.<locals>.inner") ps rest ∧ IntsAre vs (es.map Int.ofNat) ∧ (∀ e ∈ es, e < 2 ^ n) ∧ es.length ≤ 80 ∧ 0 < n ∧ n < 100) [.ref lq, .int (n : Int) tkn] []
     (fun r nw => ∃ ps' add t, r = .int (undig n es : Int) t ∧ ((lq, W.listOf vs.toArray nq) :: (211, tabObj ps') :: (add ++ rest)) = nw ∧ TbOk 150 4 (Str.ofString "_digits2int.<locals>.inner") ps' (add ++ rest) ∧
       ∀ p ∈ add, lq < p.1 ∧ 211 < p.1 ∧ ∀ q ∈ rest, q.1 < p.1) := by
  intro dp un gd cn cs a ccd cl outer A₀ base h₀ L m s Q E B F X N T XM hk ⟨hoff, hoff2, hoff3, hTb, hvs, hes, hlen, hn0, hn1⟩ hd hu hret
  have hvl : vs.length = es.length := by rw [IntsAre_len hvs, List.length_map]
  refine wpAny_call ?_
  k_dflt (refine' code_defC ?k1 ?k2 ?k3 ?k4 ?k5 ?kA ?kF ?kK ?k6 ?k7 ?k8 ?k9 ?kB ?kD ?_ ?c2 ?c3 ?c4; (case kA => exact rfl); (case kF => exact rfl); (case kK => first | exact rfl | assumption); (case k1 => k_asm); (case k2 => k_asm); (case k3 => k_asm); (case k4 => k_asm); (case k5 => k_asm); (case k6 => k_is); (case k7 => k_is); (case k8 => ktr_room); (case k9 => first | exact BindsTo.of_eq rfl | exact binds_K (by k_in) rfl (by k_is) rfl rfl rfl | fail "k_enter: no rule for these arguments"); (case kB => exact rfl); (case kD => decide +kernel); (case c2 => exact rfl); (case c3 => exact rfl); (case c4 => exact rfl); k_whole; intro g' L' h' tk' cells' FG' F' N' Y' B' X' T' l1; (try k_lt l1); k_cells Y'; (try simp only [List.cons_append, List.nil_append] at N'); (try dsimp only); (try k_lift B'); (try k_fold))
  have hR := l1.2
  obtain ⟨mE, hmE, FE⟩ := fr_gen F'
  clear F'
  have XM' := Flt.MathXP.keeps _ _ _ XM FG'.keep
  clear hmE
  have hC := codeHd_of_K X' (c := 215) (P := 211) rfl
  k_steps
  refine ⟨?_⟩
  refine nestDef_K (by exact rfl) (by exact rfl) (by exact rfl) ?_
  refine nestAny_K (by k_asm) (by k_asm) (by k_asm) (by assumption) rfl (by k_updF) (by assumption) (fun p hp => by repeat (first | exact hp | apply List.mem_cons_of_mem)) rfl rfl rfl ?_
  refine ⟨?_⟩
  intro f c' oc vs9 t9 ctv doc h9 tk9 add ps9 F9 N9 e9 hm9 d19 d29 l19 l29
  obtain ⟨fo, hfo, N9b⟩ := news_head N9
  clear N9
  have l2A := fun q (hq : q ∈ add) => And.intro (ltN (l29 q hq).1) (allLt_of (l29 q hq).2)
  clear l29
  simp only [AllLt] at l2A
  k_lt l19
  obtain ⟨o3, o2, o1, eI, eA, eN, N10⟩ := d2i_led N9b
  subst eI eA eN
  clear N9b
  rename o2.data = _ => dA
  rename o1.data = _ => dN
  have dA' : o2.data = .cell (some (.int (n : Int) tkn)) := dA
  have dN' : o1.data = .cell (some (.ref lq)) := dN
  clear dA dN
  have hR2 := hR.2
  have l3 : ∀ q ∈ add ++ rest, q.1 ≠ L' + 1 + 1 + 1 := fun q hq => (List.mem_append.mp hq).elim (fun h => Nat.ne_of_gt (by have := l2A q h; omega)) fun h => Nat.ne_of_lt (Nat.lt_of_lt_of_le (ktn_ltOf hR2 q h) (by omega))
  k_steps
  · refine ⟨?_⟩
    refine len_M (by k_asm) (by k_mem) (by rw [hvl]; exact Nat.lt_of_le_of_lt hlen (by decide)) ?_
    intro _ _
    k_steps
    rename News _ _ _ _ => N11
    obtain ⟨oJ, eJ, N12⟩ := news_head N11
    subst eJ
    clear N11
    rename oJ.data = _ => dI
    have key : ∀ k, SumSpec PySem.Challenge.rw_re0161_03.row.prog w (Mine.pre.heap_1 w.params) PySem.Challenge.rw_re0161_03.row.prog loose mean mg mb [(lq, W.listOf vs.toArray nq), (f, fo), (c', oc), (L' + 1 + 1 + 1, oJ), (L' + 1 + 1, o2), (L' + 1, o1)] f n es k := sum_ind fun k IH => by
      clear N12 hret hd hu l1 l2A l3
      unfold SumSpec
      intro dp un gd cn cs a ccd cl outer A₀ base h₀ L m s Q E rest l r tl tr B F X N T XM hk hr hfix hrl hd hu hret
      have m0 := hfix (lq, W.listOf vs.toArray nq) (by simp)
      have m1 := hfix (f, fo) (by simp)
      have m2 := hfix (c', oc) (by simp)
      have m3 := hfix (L' + 1 + 1 + 1, oJ) (by simp)
      have m4 := hfix (L' + 1 + 1, o2) (by simp)
      have m5 := hfix (L' + 1, o1) (by simp)
      subst hfo
      refine wpAny_call ?_
      k_dflt (refine' code_nest ?k1 ?k2 ?k3 ?k4 ?k5 ?kA ?kF ?kK ?k6 ?k7 ?k8 ?k9 ?kB ?_ ?c2 ?c3 ?c4 ?c5; (case kA => exact rfl); (case kF => exact rfl); (case kK => first | exact rfl | assumption); (case k1 => k_asm); (case k2 => k_asm); (case k3 => k_asm); (case k4 => k_asm); (case k5 => k_asm); (case k6 => exact m1); (case k7 => exact codeRec_of9 N m2 d19 d29); (case k8 => ktr_room); (case k9 => exact BindsTo.of_eq rfl); (case c5 => decide); (case kB => exact locs rfl); (case c2 => exact rfl); (case c3 => exact rfl); (case c4 => exact rfl); k_whole; intro g' L'' h' FG' F' N' B' X' T'; (try dsimp only); (try k_lift B'); (try k_fold))
      obtain ⟨mE, hmE, FE⟩ := fr_gen F'
      clear F'
      have e1E : mE (Str.ofString "L") = some (.int (l : Int) tl) := by rw [hmE]; rfl
      have e2E : mE (Str.ofString "R") = some (.int (r : Int) tr) := by rw [hmE]; rfl
      rw [know e1E, know e2E] at FE
      clear hmE e1E e2E
      have XM' := Flt.MathXP.keeps _ _ _ XM FG'.keep
      k_steps
      · rename_i hE
        have hk0 : k = 0 := by omega
        subst hk0
        have e : (List.map Int.ofNat es).getD ((l : Int)).toNat 0 = ((undig n (seg es l (0 + 1)) : Nat) : Int) := by
          rw [Int.toNat_natCast, Nat.zero_add, seg_one (by omega : l < es.length), List.getD_eq_getElem?_getD, List.getElem?_map, List.getElem?_eq_getElem (by omega : l < es.length)]
          rfl
        rw [e]
        exact hret _ _ _ (by assumption) (by assumption)
      · rename_i hE
        refine ⟨?_⟩
        refine rshift_int (by decide) ?_
        rw [mid_eq hr]
        generalize hj : (k + 1) / 2 = j at *
        obtain ⟨⟨hj1, hj2, hje, _, hk2, hk4, hk3⟩, ⟨a1, a2, a3, a4, a5⟩, b1, b2, b3, b4⟩ := halv hr hrl (Nat.le_trans hlen (by decide)) hj hE hd hu
        k_steps
        refine ⟨?_⟩
        rename Fr _ _ _ _ => F8
        rw [shift_eq] at F8
        refine sum_call (IH (k - j) b1) (l := l + j) (r := r) rfl rfl (by k_asm) (by k_asm) (by k_asm) (by k_asm) (by k_asm) (by k_asm) (by first | exact rfl | assumption) b2 hfix hrl b3 b4 ?_
        intro t1 h1 tk1 F1 N1
        k_steps
        refine ⟨?_⟩
        refine lshift_int (Int.natCast_nonneg _) (lift_room (Nat.lt_of_lt_of_le (seg_room hes _ _ (by rw [← b2]; exact hrl)) (Nat.pow_le_pow_right (by decide) (nk_le hn1 hk4))) (nk_le hn1 hk2)) ?_
        k_steps
        refine ⟨?_⟩
        refine sum_call (IH (j - 1) a1) (l := l) (r := l + j) rfl rfl (by k_asm) (by k_asm) (by k_asm) (by k_asm) (by k_asm) (by k_asm) (by first | exact rfl | assumption) a2 hfix a3 a4 a5 ?_
        intro t2 h2 tk2 F2 N2
        k_steps
        rw [hje, seg_two hj2 hk3]
        exact hret _ _ _ (by assumption) (by assumption)
    have hel : 0 < es.length := by
      have a : 0 < (List.map Int.ofNat es).length := by assumption
      rwa [List.length_map] at a
    have hke := Nat.sub_add_cancel hel
    refine ⟨?_⟩
    refine sum_call (key (es.length - 1)) (l := 0) (r := es.length) (rest := (L' + 1 + 1 + 1, oJ) :: (lq, W.listOf vs.toArray nq) :: (211, tabObj ps9) :: (f, fo) :: (L' + 1 + 1, o2) :: (L' + 1, o1) :: (add ++ rest)) rfl (by rw [hvl]) (by k_asm) (by k_asm) (by k_asm)
      N12 (by k_asm) (by k_asm) (by first | exact rfl | assumption) (by rw [hke]; exact (Nat.zero_add _).symm)
      (fun q hq => by
        simp only [List.mem_cons, List.not_mem_nil, or_false] at hq
        rcases hq with rfl | rfl | rfl | rfl | rfl | rfl
        all_goals repeat (first | exact hm9 | exact List.mem_cons_self .. | apply List.mem_cons_of_mem))
      (Nat.le_refl _) (by rw [hke]; exact top_dp hlen hd) (by rw [hke]; exact top_un hlen hu) ?_
    intro t2 h2 tk2 F2 N2
    rw [hke, seg_all]
    k_steps
    refine hret _ _ _ _ (by assumption) (news_sub (by assumption) fun p hp => ?_) ⟨ps9, add, _, rfl, rfl, .inr ⟨c', oc, vs9, t9, e9, hm9, d19, d29⟩, fun p hp => ⟨(l2A p hp).2.2.2.2.1, (l2A p hp).2.2.2.2.2.1, fun q hq => ktn_ltOf (l2A p hp).2.2.2.2.2.2 q hq⟩⟩
    simp only [List.mem_cons, List.mem_append] at hp ⊢
    grind
  · have hel : es = [] := by
      have a : ¬ 0 < (List.map Int.ofNat es).length := by assumption
      rw [List.length_map] at a
      exact List.length_eq_zero_iff.mp (by omega)
    subst hel
    refine hret _ _ _ _ (by assumption) (news_sub (by assumption) fun p hp => ?_) ⟨ps9, add, _, rfl, rfl, .inr ⟨c', oc, vs9, t9, e9, hm9, d19, d29⟩, fun p hp => ⟨(l2A p hp).2.2.2.2.1, (l2A p hp).2.2.2.2.2.1, fun q hq => ktn_ltOf (l2A p hp).2.2.2.2.2.2 q hq⟩⟩
    simp only [List.mem_cons, List.mem_append] at hp ⊢
    grind
end
section
theorem dv2_con {w : World} {loose : List PySem.Str} {mean : ExcName → Option Value} {mg mb : PySem.Str → Option Value} {news : List (Addr × Obj)} {x b n : Nat} {tx tb tn : Tok} :
   Con PySem.Challenge.rw_re0161_03.row.prog w (Mine.pre.heap_1 w.params) PySem.Challenge.rw_re0161_03.row.prog loose mean mg mb 2 20 195 news (0 < b ∧ b < 2 ^ 400 ∧ x < 2 ^ 400) [.int (x : Int) tx, .int (b : Int) tb, .int (n : Int) tn] []
     (fun r nw => ∃ d t1 t2, r = .ref d ∧ ((d, { cls := .type "tuple", data := .seq #[.int ((x / b : Nat) : Int) t1, .int ((x % b : Nat) : Int) t2] }) :: news) = nw ∧ ∀ p ∈ news, p.1 < d) := by
  intro dp un gd cn cs a ccd cl outer A₀ base h₀ L m s Q E B F X N T XM hk ⟨hb, hb2, hx⟩ hd hu hret
  have hbits := bits_le hx
  refine wpAny_call ?_
  k_dflt (refine' code_def ?k1 ?k2 ?k3 ?k4 ?k5 ?kA ?kF ?kK ?k6 ?k7 ?k8 ?k9 ?kB ?_ ?c2 ?c3 ?c4 ?c5; (case kA => exact rfl); (case kF => exact rfl); (case kK => first | exact rfl | assumption); (case k1 => k_asm); (case k2 => k_asm); (case k3 => k_asm); (case k4 => k_asm); (case k5 => k_asm); (case k6 => k_is); (case k7 => k_is); (case k8 => ktr_room); (case k9 => first | exact BindsTo.of_eq rfl | exact binds_K (by k_in) rfl (by k_is) rfl rfl rfl); (case c5 => decide); (case kB => exact locs rfl); (case c2 => exact rfl); (case c3 => exact rfl); (case c4 => exact rfl); k_whole; intro g' L' h' FG' F' N' B' X' T'; (try dsimp only); (try k_lift B'); (try k_fold))
  obtain ⟨mE, hmE, FE⟩ := fr_gen F'
  clear F'
  have XM' := Flt.MathXP.keeps _ _ _ XM FG'.keep
  have e0E : mE (Str.ofString "a") = some (.int (x : Int) tx) := by rw [hmE]; rfl
  have e1E : mE (Str.ofString "b") = some (.int (b : Int) tb) := by rw [hmE]; rfl
  have e2E : mE (Str.ofString "n") = some (.int (n : Int) tn) := by rw [hmE]; rfl
  rw [know e0E, know e1E, know e2E] at FE
  clear hmE e0E e1E e2E
  k_steps
  have hp : Builtin.divisionGoesByPylong (x : Int) (b : Int) = false := PyProof.noPylong_of_log2 (by
    rw [Int.natAbs_natCast]
    exact Nat.lt_trans ((Nat.log2_lt (by omega)).mpr hb2) (by decide))
  rename News _ _ _ _ => N2
  refine divmod_N (by assumption) (by assumption) (by omega) ?_ (.inl hp)
  intro h3 F3 N3
  have ed : (x : Int).fdiv (b : Int) = ((x / b : Nat) : Int) := by rw [Int.fdiv_eq_ediv_of_nonneg _ (by omega)]; rfl
  have em : (x : Int).fmod (b : Int) = ((x % b : Nat) : Int) := by rw [Int.fmod_eq_emod_of_nonneg _ (by omega)]; rfl
  rw [ed, em] at N3
  k_steps
  exact hret _ _ _ _ (by assumption) (by assumption) ⟨_, _, _, rfl, rfl, fun p hp => Heap.lt_size (N2 p hp).1⟩
end
section
local macro_rules | `(tactic| walk_at $k:str) => if k.getString ∈ ["binaryOp LShift int int", "call builtin:list.append", "call builtin:list.reverse"] then `(tactic| (refine Hold.out ?_)) else Lean.Macro.throwUnsupported
theorem divp_con {w : World} {loose : List PySem.Str} {mean : ExcName → Option Value} {mg mb : PySem.Str → Option Value} {rest : List (Addr × Obj)} {x b : Nat} {tx tb : Tok} {ps qs : Array Value} :
   Con PySem.Challenge.rw_re0161_03.row.prog w (Mine.pre.heap_1 w.params) PySem.Challenge.rw_re0161_03.row.prog loose mean mg mb 105 950 223 ((204, tabObj ps) :: (211, tabObj qs) :: rest)
     ((∀ p ∈ rest, p.1 ≠ 204 ∧ p.1 ≠ 211) ∧ TbOk 135 4 (Str.ofString "_int2digits.<locals>.inner") ps rest ∧ TbOk 150 4 (Str.ofString "_digits2int.<locals>.inner") qs rest ∧ x < 2 ^ 80 ∧ 0 < b ∧ b < 2 ^ 80) [.int (x : Int) tx, .int (b : Int) tb] []
     (fun r nw => ∃ ps' qs' add d t1 t2, r = .ref d ∧ ((d, { cls := .type "tuple", data := .seq #[.int ((x / b : Nat) : Int) t1, .int ((x % b : Nat) : Int) t2] }) :: (204, tabObj ps') :: (211, tabObj qs') :: (add ++ rest)) = nw ∧ 
       TbOk 135 4 (Str.ofString "_int2digits.<locals>.inner") ps' (add ++ rest) ∧ TbOk 150 4 (Str.ofString "_digits2int.<locals>.inner") qs' (add ++ rest) ∧
       (204 < d ∧ 211 < d ∧ (∀ q ∈ add, q.1 < d) ∧ ∀ q ∈ rest, q.1 < d) ∧ ∀ p ∈ add, 204 < p.1 ∧ 211 < p.1 ∧ ∀ q ∈ rest, q.1 < p.1) := by
  intro dp un gd cn cs a ccd cl outer A₀ base h₀ L m s Q E B F X N T XM hk ⟨hoff, hTb, hTc, hx1, hb0, hb1⟩ hd hu hret
  refine wpAny_call ?_
  k_dflt (refine' code_def ?k1 ?k2 ?k3 ?k4 ?k5 ?kA ?kF ?kK ?k6 ?k7 ?k8 ?k9 ?kB ?_ ?c2 ?c3 ?c4 ?c5; (case kA => exact rfl); (case kF => exact rfl); (case kK => first | exact rfl | assumption); (case k1 => k_asm); (case k2 => k_asm); (case k3 => k_asm); (case k4 => k_asm); (case k5 => k_asm); (case k6 => k_is); (case k7 => k_is); (case k8 => ktr_room); (case k9 => first | exact BindsTo.of_eq rfl | exact binds_K (by k_in) rfl (by k_is) rfl rfl rfl); (case c5 => decide); (case kB => exact locs rfl); (case c2 => exact rfl); (case c3 => exact rfl); (case c4 => exact rfl); k_whole; intro g' L' h' FG' F' N' B' X' T'; (try dsimp only); (try k_lift B'); (try k_fold))
  obtain ⟨mE, hmE, FE⟩ := fr_gen F'
  clear F'
  have XM' := Flt.MathXP.keeps _ _ _ XM FG'.keep
  have e0E : mE (Str.ofString "a") = some (.int (x : Int) tx) := by rw [hmE]; rfl
  have e1E : mE (Str.ofString "b") = some (.int (b : Int) tb) := by rw [hmE]; rfl
  rw [know e0E, know e1E] at FE
  clear hmE e0E e1E
  k_steps
  refine ⟨?_⟩
  have hn0 := bits_pos hb0
  have hbn := bits_lt_pow b
  have hn1 := bits_le hb1
  generalize Builtin.Int.intBits (b : Int) = n at *
  refine i2d_con (rest := (211, tabObj qs) :: rest) (by k_asm) (by k_asm) (by k_asm) (by k_asm) (by k_asm) (by k_asm) rfl
    ⟨fun p hp => (List.mem_cons.mp hp).elim (fun e => by rw [e]; show (211 : Nat) ≠ 204; decide) fun h => (hoff p h).1, hTb.mono fun p hp => List.mem_cons_of_mem _ hp, hx1, hn0, by omega⟩ (by show dp + 1 + 100 < _; omega) (by show un + 3 + 900 < _; omega) ?_
  intro r1 nw1 h1 tk1 F1 N1 hp1
  obtain ⟨ps1, add1, la, vs1, e1, e2, hi1, hTb1, ⟨lo1, lo2⟩, lo3⟩ := hp1
  subst e1 e2
  have hK := ndig_le hx1 hn0
  have hlv : vs1.length = ndig x n := by rw [IntsAre_len hi1, digs_len]
  have la1 : 211 < la := lo2 (211, tabObj qs) (List.mem_cons_self ..)
  k_steps
  refine ⟨?_⟩
  rename_i l2' h2' l2 _ _
  refine For_X (by assumption) (by rfl) (by rfl) ?_
  k_steps
  rename_i _ _ lq D _ F3 N3 l3
  have hh2 := h2'
  have lR : ∀ p ∈ (204, tabObj ps1) :: (la, W.listOf vs1.toArray 0) :: (add1 ++ (211, tabObj qs) :: rest), p.1 < lq := fun p hp => by
    rcases List.mem_cons.mp hp with rfl | hp
    · exact hh2.1
    rcases List.mem_cons.mp hp with rfl | hp
    · exact hh2.2.1
    exact ktn_ltOf hh2.2.2 p hp
  refine rev_X (l := la) (vs := vs1) (nn := 0) (fun i m nx => ∃ es r t tn vs, m (Str.ofString "b") = some (.int (b : Int) tb) ∧ m (Str.ofString "n") = some (.int (n : Int) tn) ∧ m (Str.ofString "r") = some (.int ((r : Nat) : Int) t) ∧ m (Str.ofString "q_digits") = some (.ref lq) ∧
     nx = (lq, W.listOf vs.toArray vs.length) :: (204, tabObj ps1) :: (la, W.listOf vs1.toArray 0) :: (add1 ++ (211, tabObj qs) :: rest) ∧ IntsAre vs (es.map Int.ofNat) ∧ Told n x b (ndig x n) i es r) rfl (by assumption) (by assumption) ?_ ?_ ?_ ?_ ?_ ?_
  · intro p hp
    rcases List.mem_cons.mp hp with rfl | hp
    · exact Nat.ne_of_lt l3.1
    · exact Nat.ne_of_lt (Nat.lt_trans (lR p hp) l3.1)
  · simp
  · exact ⟨[], 0, _, _, [], rfl, rfl, rfl, rfl, rfl, .nil, .zero (ndig_lt x n hn0) hb0⟩
  · rintro i m nx ⟨_, _, _, _, _, _, _, _, _, rfl, _, _⟩
    simp
  · rintro i v m₁ nx h tk₁ it hi hv ⟨es, r, t, tn, vs, hmb, hmn, hmr, hmq, rfl, hvs, hT⟩ hI hic F₁ N₁
    have hlt : vs1.length - 1 - i < (digs n x (ndig x n)).length := by rw [digs_len, ← hlv]; omega
    obtain ⟨tv, hv2⟩ := IntsAre_get hi1 _ hlt
    rw [hv] at hv2
    cases hv2
    rw [digs_get, hlv] at F₁
    rw [know hmb, know hmn, know hmr, know hmq] at F₁
    clear hmb hmn hmr hmq
    k_steps
    refine ⟨?_⟩
    have hr := hT.room hb0
    have hr80 : r < 2 ^ 80 := Nat.lt_trans hr hb1
    refine lshift_int (Int.natCast_nonneg _) (lift_room (Nat.lt_of_lt_of_le hr80 (Nat.pow_le_pow_right (by decide) (by decide))) (by omega)) ?_
    rw [Int.toNat_natCast, show (r : Int) * 2 ^ n = ((r * 2 ^ n : Nat) : Int) by simp]
    k_steps
    refine ⟨?_⟩
    rw [← Int.natCast_add]
    have hxx : r * 2 ^ n + x / 2 ^ (n * (ndig x n - 1 - i)) % 2 ^ n < 2 ^ 400 := by
      have hm : x / 2 ^ (n * (ndig x n - 1 - i)) % 2 ^ n < 2 ^ n := Nat.mod_lt _ (Nat.two_pow_pos _)
      have hp : 2 ^ n ≤ 2 ^ 80 := Nat.pow_le_pow_right (by decide) hn1
      have hq := Nat.mul_le_mul (Nat.le_of_lt hr80) hp
      have : (2 ^ 80 * 2 ^ 80 + 2 ^ 80 : Nat) < 2 ^ 400 := by decide
      omega
    have hN := hT.next (by omega : i < ndig x n) hb0
    have hle : vs.length ≤ 80 := by
      have := IntsAre_len hvs
      rw [List.length_map, hT.len] at this
      omega
    generalize r * 2 ^ n + x / 2 ^ (n * (ndig x n - 1 - i)) % 2 ^ n = y at *
    refine dv2_con (by k_asm) (by k_asm) (by k_asm) (by k_asm) (by k_asm) (by k_asm) rfl ⟨hb0, Nat.lt_trans hb1 (by decide), hxx⟩ (by show dp + 1 + 2 < _; omega) (by show un + 3 + 20 < _; omega) ?_
    intro r2 nw2 h2 tk2 F2 N2 hp2
    obtain ⟨d2, u1, u2, e3, e4, ld2⟩ := hp2
    subst e3 e4
    k_steps
    refine ⟨?_⟩
    rename News _ _ _ _ => N5
    have N6 := news_sub (news := (lq, W.listOf vs.toArray vs.length) :: (D, it) :: (204, tabObj ps1) :: (la, W.listOf vs1.toArray 0) :: (add1 ++ (211, tabObj qs) :: rest)) N5 fun p hp => by
      simp only [List.mem_cons, List.mem_append] at hp ⊢
      grind
    clear N5
    have hDq : lq ≠ D := hI _ (List.mem_cons_self ..)
    refine append_M (by assumption) N6 (.head fun p hp => (List.mem_cons.mp hp).elim (fun e => by rw [e]; exact Ne.symm hDq) fun hp => Nat.ne_of_lt (lR p hp)) (by omega) (fun h₃ F₃ N₃ => ?_)
    clear N6
    k_steps
    have N7 := news_sub (news := (D, it) :: (lq, W.listOf (vs ++ [Value.int ((y / b : Nat) : Int) u1]).toArray (vs ++ [Value.int ((y / b : Nat) : Int) u1]).length) :: (204, tabObj ps1) :: (la, W.listOf vs1.toArray 0) :: (add1 ++ (211, tabObj qs) :: rest)) N₃ fun p hp => by
      simp only [List.mem_cons, List.mem_append] at hp ⊢
      grind
    refine ⟨_, _, _, _, rfl, by assumption, N7, ?_, es ++ [y / b], y % b, _, _, _, rfl, rfl, rfl, rfl, rfl, ints_snoc hvs _ _, hN⟩
    · intro p hp
      rcases List.mem_cons.mp hp with rfl | hp
      · exact hDq
      · exact Nat.ne_of_lt (Nat.lt_trans (lR p hp) l3.1)
  · rintro m₁ nx h tk₁ ⟨es, r, t, tn, vs, hmb, hmn, hmr, hmq, rfl, hvs, hT⟩ F₁ N₁
    rw [know hmb, know hmn, know hmr, know hmq] at F₁
    clear hmb hmn hmr hmq
    rw [hlv] at hT
    have hA := hT.all
    k_steps
    refine ⟨?_⟩
    refine kl_reverse (by assumption) (by assumption) rfl (.head fun p hp => Nat.ne_of_lt (lR p hp)) (by have := IntsAre_len hvs; rw [List.length_map, hT.len] at this; rw [List.toList_toArray, this, sizeLine_eq]; omega) ?_
    intro h4 F4 N4
    have hvr : IntsAre vs.reverse (es.reverse.map Int.ofNat) := by
      rw [List.map_reverse]
      exact PyProof.Rows.IntsAre.reverse hvs
    rw [List.toList_toArray] at N4
    k_steps
    refine ⟨?_⟩
    have hlen : vs.length = ndig x n := by have := IntsAre_len hvs; rw [List.length_map, hT.len] at this; exact this
    refine d2i_con (nq := vs.length) (rest := (204, tabObj ps1) :: (la, W.listOf vs1.toArray 0) :: (add1 ++ rest)) (by k_asm) (by k_asm) (by k_asm)
      (news_sub N4 (by walk_at "mine sub")) (by k_asm) (by k_asm) rfl
      ⟨fun p hp => ?_, fun p hp => lR p ?_, hh2.2.2 |> fun h => ktn_ltOf h (211, tabObj qs) (by simp), hTc.mono fun p hp => by simp [hp], hvr, fun e he => hT.small e (List.mem_reverse.mp he), by rw [List.length_reverse, hT.len]; exact hK, hn0, by omega⟩ (by show dp + 1 + 100 < _; omega) (by show un + 3 + 900 < _; omega) ?_
    · rcases List.mem_cons.mp hp with rfl | hp
      · show (204 : Nat) ≠ 211; decide
      rcases List.mem_cons.mp hp with rfl | hp
      · exact Nat.ne_of_gt la1
      rcases List.mem_append.mp hp with hp | hp
      · exact Nat.ne_of_gt ((lo3 p hp).2.2 (211, tabObj qs) (List.mem_cons_self ..))
      · exact (hoff p hp).2
    · simp only [List.mem_cons, List.mem_append] at hp ⊢
      grind
    intro r5 nw5 h5 tk5 F5 N5 hp5
    obtain ⟨qs2, add2, t5, e5, e6, hTc2, lo5⟩ := hp5
    subst e5 e6
    rw [hA.1, hA.2] at *
    k_steps
    rename_i D9 _ _ _ l9 _ kN9 _ _
    have l10 := ktn_ltOf l9.2.2
    have kN8 := news_sub (news := (D9, { cls := .type "tuple", data := .seq #[.int ((x / b : Nat) : Int) t5, .int ((x % b : Nat) : Int) t] }) :: (204, tabObj ps1) :: (211, tabObj qs2) :: ((add2 ++ add1) ++ rest)) kN9 fun p hp => by
      simp only [List.mem_cons, List.mem_append] at hp ⊢
      grind
    refine hret _ _ _ _ (by assumption) kN8 ⟨ps1, qs2, add2 ++ add1, _, _, _, rfl, rfl, ?_, ?_, ⟨l10 (204, tabObj ps1) (by simp), l9.2.1, fun q hq => l10 q ?_, fun q hq => l10 q (by simp [hq])⟩, fun p hp => ?_⟩
    · refine hTb1.off hTc fun p hp => ?_
      simp only [List.mem_cons, List.mem_append] at hp ⊢
      rcases hp with h | h | h
      · exact .inl (.inl (.inr h))
      · exact .inr (.inl (by rw [h]))
      · exact .inl (.inr h)
    · refine hTc2.off hTb1 fun p hp => ?_
      simp only [List.mem_cons, List.mem_append] at hp ⊢
      rcases hp with h | h | h | h | h
      · exact .inl (.inl (.inl h))
      · exact .inr (.inl (by rw [h]))
      · exact .inr (.inr ⟨_, _, by rw [h]⟩)
      · exact .inl (.inl (.inr h))
      · exact .inl (.inr h)
    · simp only [List.mem_cons, List.mem_append] at hq ⊢
      grind
    · rcases List.mem_append.mp hp with hp | hp
      · exact ⟨(lo5 p hp).2.2 (204, tabObj ps1) (by simp), (lo5 p hp).2.1, fun q hq => (lo5 p hp).2.2 q (by simp [hq])⟩
      · exact ⟨(lo3 p hp).2.1, (lo3 p hp).2.2 (211, tabObj qs) (by simp), fun q hq => (lo3 p hp).2.2 q (by simp [hq])⟩
end
section
theorem idvA_con {w : World} {loose : List PySem.Str} {mean : ExcName → Option Value} {mg mb : PySem.Str → Option Value} {rest : List (Addr × Obj)} {x b : Nat} {tx tb : Tok} {ps qs : Array Value} :
   Con PySem.Challenge.rw_re0161_03.row.prog w (Mine.pre.heap_1 w.params) PySem.Challenge.rw_re0161_03.row.prog loose mean mg mb 107 960 230 ((204, tabObj ps) :: (211, tabObj qs) :: rest)
     (DvPre 204 211 135 150 ps qs rest ∧ x < 2 ^ 80 ∧ 0 < b ∧ b < 2 ^ 80) [.int (x : Int) tx, .int (b : Int) tb] []
     (fun r nw => DvPost 204 211 135 150 rest ((x / b : Nat) : Int) ((x % b : Nat) : Int) r nw) := by
  intro dp un gd cn cs a ccd cl outer A₀ base h₀ L m s Q E B F X N T XM hk ⟨⟨hoff, hTb, hTc⟩, hx1, hb0, hb1⟩ hd hu hret
  refine wpAny_call ?_
  k_dflt (refine' code_def ?k1 ?k2 ?k3 ?k4 ?k5 ?kA ?kF ?kK ?k6 ?k7 ?k8 ?k9 ?kB ?_ ?c2 ?c3 ?c4 ?c5; (case kA => exact rfl); (case kF => exact rfl); (case kK => first | exact rfl | assumption); (case k1 => k_asm); (case k2 => k_asm); (case k3 => k_asm); (case k4 => k_asm); (case k5 => k_asm); (case k6 => k_is); (case k7 => k_is); (case k8 => ktr_room); (case k9 => first | exact BindsTo.of_eq rfl | exact binds_K (by k_in) rfl (by k_is) rfl rfl rfl); (case c5 => decide); (case kB => exact locs rfl); (case c2 => exact rfl); (case c3 => exact rfl); (case c4 => exact rfl); k_whole; intro g' L' h' FG' F' N' B' X' T'; (try dsimp only); (try k_lift B'); (try k_fold))
  obtain ⟨mE, hmE, FE⟩ := fr_gen F'
  clear F'
  have XM' := Flt.MathXP.keeps _ _ _ XM FG'.keep
  have e0E : mE (Str.ofString "a") = some (.int (x : Int) tx) := by rw [hmE]; rfl
  have e1E : mE (Str.ofString "b") = some (.int (b : Int) tb) := by rw [hmE]; rfl
  rw [know e0E, know e1E] at FE
  clear hmE e0E e1E
  k_steps
  all_goals try (exfalso; omega)
  refine ⟨?_⟩
  refine divp_con (by k_asm) (by k_asm) (by k_asm) (by k_asm) (by k_asm) (by k_asm) rfl ⟨hoff, hTb, hTc, hx1, hb0, hb1⟩ (by show dp + 1 + 105 < _; omega) (by show un + 3 + 950 < _; omega) ?_
  intro r2 nw2 h2 tk2 F2 N2 hp2
  have hp3 := hp2
  obtain ⟨ps', qs', add, d, t1, t2, e1, e2, _⟩ := hp2
  subst e1 e2
  k_steps
  exact hret _ _ _ _ (by assumption) (by assumption) hp3
theorem idvB_con {w : World} {loose : List PySem.Str} {mean : ExcName → Option Value} {mg mb : PySem.Str → Option Value} {rest : List (Addr × Obj)} {x b : Nat} {tx tb : Tok} {ps qs : Array Value} :
   Con PySem.Challenge.rw_re0161_03.row.prog w (Mine.pre.heap_1 w.params) PySem.Challenge.rw_re0161_03.row.prog loose mean mg mb 109 970 230 ((204, tabObj ps) :: (211, tabObj qs) :: rest)
     (DvPre 204 211 135 150 ps qs rest ∧ x < 2 ^ 80 ∧ 0 < b ∧ b < 2 ^ 80) [.int (-(x : Int) - 1) tx, .int (b : Int) tb] []
     (fun r nw => DvPost 204 211 135 150 rest (-((x / b : Nat) : Int) - 1) ((b : Int) - ((x % b : Nat) : Int) - 1) r nw) := by
  intro dp un gd cn cs a ccd cl outer A₀ base h₀ L m s Q E B F X N T XM hk ⟨hpre, hx1, hb0, hb1⟩ hd hu hret
  refine wpAny_call ?_
  k_dflt (refine' code_def ?k1 ?k2 ?k3 ?k4 ?k5 ?kA ?kF ?kK ?k6 ?k7 ?k8 ?k9 ?kB ?_ ?c2 ?c3 ?c4 ?c5; (case kA => exact rfl); (case kF => exact rfl); (case kK => first | exact rfl | assumption); (case k1 => k_asm); (case k2 => k_asm); (case k3 => k_asm); (case k4 => k_asm); (case k5 => k_asm); (case k6 => k_is); (case k7 => k_is); (case k8 => ktr_room); (case k9 => first | exact BindsTo.of_eq rfl | exact binds_K (by k_in) rfl (by k_is) rfl rfl rfl); (case c5 => decide); (case kB => exact locs rfl); (case c2 => exact rfl); (case c3 => exact rfl); (case c4 => exact rfl); k_whole; intro g' L' h' FG' F' N' B' X' T'; (try dsimp only); (try k_lift B'); (try k_fold))
  obtain ⟨mE, hmE, FE⟩ := fr_gen F'
  clear F'
  have XM' := Flt.MathXP.keeps _ _ _ XM FG'.keep
  have e0E : mE (Str.ofString "a") = some (.int (-(x : Int) - 1) tx) := by rw [hmE]; rfl
  have e1E : mE (Str.ofString "b") = some (.int (b : Int) tb) := by rw [hmE]; rfl
  rw [know e0E, know e1E] at FE
  clear hmE e0E e1E
  k_steps
  all_goals try (exfalso; omega)
  refine ⟨?_⟩
  rw [show Builtin.bitNot (-(x : Int) - 1) = (x : Int) by unfold Builtin.bitNot; omega]
  refine idvA_con (by k_asm) (by k_asm) (by k_asm) (by k_asm) (by k_asm) (by k_asm) rfl ⟨hpre, hx1, hb0, hb1⟩ (by show dp + 1 + 107 < _; omega) (by show un + 3 + 960 < _; omega) ?_
  intro r2 nw2 h2 tk2 F2 N2 hp2
  obtain ⟨ps', qs', add, d, t1, t2, e1, e2, hT1, hT2, hl1, hl2⟩ := hp2
  subst e1 e2
  k_steps
  rename_i D9 _ _ _ l9 _ kN9 _ _
  have l10 := ktn_ltOf l9.2.2.2
  obtain ⟨o9, ho9, kN8⟩ := news_head kN9
  have kN7 := news_sub (news := (D9, o9) :: (204, tabObj ps') :: (211, tabObj qs') :: (add ++ rest)) kN8 fun p hp => by
    simp only [List.mem_cons, List.mem_append] at hp ⊢
    grind
  rw [show (b : Int) + Builtin.bitNot ((x % b : Nat) : Int) = (b : Int) - ((x % b : Nat) : Int) - 1 by unfold Builtin.bitNot; omega] at ho9
  subst ho9
  exact hret _ _ _ _ (by assumption) kN7 ⟨ps', qs', add, _, _, _, rfl, rfl, hT1, hT2, ⟨l9.2.1, l9.2.2.1, fun q hq => l10 q (List.mem_append_left _ hq), fun q hq => l10 q (List.mem_append_right _ hq)⟩, hl2⟩
theorem idvP_con {w : World} {loose : List PySem.Str} {mean : ExcName → Option Value} {mg mb : PySem.Str → Option Value} {rest : List (Addr × Obj)} {a : Int} {b : Nat} {tx tb : Tok} {ps qs : Array Value} :
   Con PySem.Challenge.rw_re0161_03.row.prog w (Mine.pre.heap_1 w.params) PySem.Challenge.rw_re0161_03.row.prog loose mean mg mb 109 970 230 ((204, tabObj ps) :: (211, tabObj qs) :: rest)
     (DvPre 204 211 135 150 ps qs rest ∧ a.natAbs < 2 ^ 80 ∧ 0 < b ∧ b < 2 ^ 80) [.int a tx, .int (b : Int) tb] []
     (fun r nw => DvPost 204 211 135 150 rest (a.fdiv b) (a.fmod b) r nw) := by
  intro dp un gd cn cs ad ccd cl outer A₀ base h₀ L m s Q E B F X N T XM hk ⟨hpre, hx1, hb0, hb1⟩ hd hu hret
  rcases Int.lt_or_le a 0 with ha | ha
  · obtain ⟨x, rfl⟩ : ∃ x : Nat, a = -(x : Int) - 1 := ⟨(-a - 1).toNat, by omega⟩
    refine idvB_con B F X N T XM hk ⟨hpre, by omega, hb0, hb1⟩ (by omega) (by omega) ?_
    obtain ⟨e1, e2⟩ := fdiv_neg_of x b hb0
    rw [e1, e2] at hret
    exact hret
  · obtain ⟨x, rfl⟩ : ∃ x : Nat, a = (x : Int) := ⟨a.toNat, by omega⟩
    refine idvA_con B F X N T XM hk ⟨hpre, by omega, hb0, hb1⟩ (by omega) (by omega) ?_
    rw [Int.fdiv_eq_ediv_of_nonneg _ (by omega), Int.fmod_eq_emod_of_nonneg _ (by omega)] at hret
    exact hret
theorem idvC_con {w : World} {loose : List PySem.Str} {mean : ExcName → Option Value} {mg mb : PySem.Str → Option Value} {rest : List (Addr × Obj)} {a b : Int} {tx tb : Tok} {ps qs : Array Value} :
   Con PySem.Challenge.rw_re0161_03.row.prog w (Mine.pre.heap_1 w.params) PySem.Challenge.rw_re0161_03.row.prog loose mean mg mb 111 980 230 ((204, tabObj ps) :: (211, tabObj qs) :: rest)
     (DvPre 204 211 135 150 ps qs rest ∧ a.natAbs < 2 ^ 80 ∧ b < 0 ∧ b.natAbs < 2 ^ 80) [.int a tx, .int b tb] []
     (fun r nw => DvPost 204 211 135 150 rest (a.fdiv b) (a.fmod b) r nw) := by
  intro dp un gd cn cs ad ccd cl outer A₀ base h₀ L m s Q E B F X N T XM hk ⟨hpre, hx1, hb0, hb1⟩ hd hu hret
  refine wpAny_call ?_
  k_dflt (refine' code_def ?k1 ?k2 ?k3 ?k4 ?k5 ?kA ?kF ?kK ?k6 ?k7 ?k8 ?k9 ?kB ?_ ?c2 ?c3 ?c4 ?c5; (case kA => exact rfl); (case kF => exact rfl); (case kK => first | exact rfl | assumption); (case k1 => k_asm); (case k2 => k_asm); (case k3 => k_asm); (case k4 => k_asm); (case k5 => k_asm); (case k6 => k_is); (case k7 => k_is); (case k8 => ktr_room); (case k9 => first | exact BindsTo.of_eq rfl | exact binds_K (by k_in) rfl (by k_is) rfl rfl rfl); (case c5 => decide); (case kB => exact locs rfl); (case c2 => exact rfl); (case c3 => exact rfl); (case c4 => exact rfl); k_whole; intro g' L' h' FG' F' N' B' X' T'; (try dsimp only); (try k_lift B'); (try k_fold))
  obtain ⟨mE, hmE, FE⟩ := fr_gen F'
  clear F'
  have XM' := Flt.MathXP.keeps _ _ _ XM FG'.keep
  have e0E : mE (Str.ofString "a") = some (.int a tx) := by rw [hmE]; rfl
  have e1E : mE (Str.ofString "b") = some (.int b tb) := by rw [hmE]; rfl
  rw [know e0E, know e1E] at FE
  clear hmE e0E e1E
  k_steps
  all_goals try (exfalso; omega)
  refine ⟨?_⟩
  obtain ⟨c, hc⟩ : ∃ c : Nat, -b = (c : Int) := ⟨(-b).toNat, by omega⟩
  have hb : b = -(c : Int) := by omega
  have e := fdiv_minus a b
  rw [hc] at e ⊢
  refine idvP_con (by k_asm) (by k_asm) (by k_asm) (by k_asm) (by k_asm) (by k_asm) rfl ⟨hpre, by omega, by omega, by omega⟩ (by show dp + 1 + 109 < _; omega) (by show un + 3 + 970 < _; omega) ?_
  intro r2 nw2 h2 tk2 F2 N2 hp2
  rw [e.1, e.2] at hp2
  obtain ⟨ps', qs', add, d, t1, t2, e1, e2, hT1, hT2, hl1, hl2⟩ := hp2
  subst e1 e2
  k_steps
  rename_i D9 _ _ _ l9 _ kN9 _ _
  have l10 := ktn_ltOf l9.2.2.2
  obtain ⟨o9, ho9, kN8⟩ := news_head kN9
  have kN7 := news_sub (news := (D9, o9) :: (204, tabObj ps') :: (211, tabObj qs') :: (add ++ rest)) kN8 fun p hp => by
    simp only [List.mem_cons, List.mem_append] at hp ⊢
    grind
  subst ho9
  rw [Int.neg_neg] at kN7
  exact hret _ _ _ _ (by assumption) kN7 ⟨ps', qs', add, _, _, _, rfl, rfl, hT1, hT2, ⟨l9.2.1, l9.2.2.1, fun q hq => l10 q (List.mem_append_left _ hq), fun q hq => l10 q (List.mem_append_right _ hq)⟩, hl2⟩
theorem idv_con {w : World} {loose : List PySem.Str} {mean : ExcName → Option Value} {mg mb : PySem.Str → Option Value} {rest : List (Addr × Obj)} {a b : Int} {tx tb : Tok} {ps qs : Array Value} :
   Con PySem.Challenge.rw_re0161_03.row.prog w (Mine.pre.heap_1 w.params) PySem.Challenge.rw_re0161_03.row.prog loose mean mg mb 111 980 230 ((204, tabObj ps) :: (211, tabObj qs) :: rest)
     (DvPre 204 211 135 150 ps qs rest ∧ a.natAbs < 2 ^ 80 ∧ b ≠ 0 ∧ b.natAbs < 2 ^ 80) [.int a tx, .int b tb] []
     (fun r nw => DvPost 204 211 135 150 rest (a.fdiv b) (a.fmod b) r nw) := by
  intro dp un gd cn cs ad ccd cl outer A₀ base h₀ L m s Q E B F X N T XM hk ⟨hpre, hx1, hb0, hb1⟩ hd hu hret
  rcases Int.lt_or_le b 0 with hb | hb
  · exact idvC_con B F X N T XM hk ⟨hpre, hx1, hb, hb1⟩ hd hu hret
  · obtain ⟨c, rfl⟩ : ∃ c : Nat, b = (c : Int) := ⟨b.toNat, by omega⟩
    exact idvP_con B F X N T XM hk ⟨hpre, hx1, by omega, by omega⟩ (by omega) (by omega) hret
end
section
theorem lw_hi : ∀ p : Nat, p < 32 → ¬ (p < 10) → Str.ofString "0x" ++ Txt.item (Str.ofString "1248") ((p : Int).fmod 4) ++ Txt.mul (Str.ofString "0") ((p : Int).fdiv 4) = W p := by decide +kernel
theorem lw_size : ∀ p : Nat, p < 32 → (Str.ofString "0x" ++ Txt.item (Str.ofString "1248") ((p : Int).fmod 4)).length + (Txt.mul (Str.ofString "0") ((p : Int).fdiv 4)).length ≤ sizeLine := by decide +kernel
theorem lw_lo : ∀ p : Nat, p < 10 → [Str.ofString "OPTIMIZED", Str.ofString "NEWLOCALS", Str.ofString "VARARGS", Str.ofString "VARKEYWORDS", Str.ofString "NESTED", Str.ofString "GENERATOR", Str.ofString "NOFREE", Str.ofString "COROUTINE", Str.ofString "ITERABLE_COROUTINE", Str.ofString "ASYNC_GENERATOR"].getD ((p : Int)).toNat Str.empty = W p := by decide +kernel
local macro_rules | `(tactic| walk_at "binaryOp Add str str") => `(tactic| (refine Hold.out ?_))
theorem lword_con {w : World} {loose : List PySem.Str} {mean : ExcName → Option Value} {mg mb : PySem.Str → Option Value} {news : List (Addr × Obj)} {p : Nat} {tp : Tok} :
   Con PySem.Challenge.rw_re0161_03.row.prog w (Mine.pre.heap_1 w.params) PySem.Challenge.rw_re0161_03.row.prog loose mean mg mb 2 20 245 news (p < 32) [.int (p : Int) tp] []
     (fun r nw => (∃ t, r = .str (W p) t) ∧ news = nw) := by
  intro dp un gd cn cs a ccd cl outer A₀ base h₀ L m s Q E B F X N T XM hk hp hd hu hret
  refine wpAny_call ?_
  k_dflt (refine' code_def ?k1 ?k2 ?k3 ?k4 ?k5 ?kA ?kF ?kK ?k6 ?k7 ?k8 ?k9 ?kB ?_ ?c2 ?c3 ?c4 ?c5; (case kA => exact rfl); (case kF => exact rfl); (case kK => first | exact rfl | assumption); (case k1 => k_asm); (case k2 => k_asm); (case k3 => k_asm); (case k4 => k_asm); (case k5 => k_asm); (case k6 => k_is); (case k7 => k_is); (case k8 => ktr_room); (case k9 => first | exact BindsTo.of_eq rfl | exact binds_K (by k_in) rfl (by k_is) rfl rfl rfl); (case c5 => decide); (case kB => exact locs rfl); (case c2 => exact rfl); (case c3 => exact rfl); (case c4 => exact rfl); k_whole; intro g' L' h' FG' F' N' B' X' T'; (try dsimp only); (try k_lift B'); (try k_fold))
  obtain ⟨mE, hmE, FE⟩ := fr_gen F'
  clear F'
  have XM' := Flt.MathXP.keeps _ _ _ XM FG'.keep
  have e0E : mE (Str.ofString "place") = some (.int (p : Int) tp) := by rw [hmE]; rfl
  rw [know e0E] at FE
  clear hmE e0E
  k_steps
  · rw [lw_lo p (by omega)]
    exact hret _ _ _ _ (by assumption) (news_sub (by assumption) fun p hp => List.mem_cons_of_mem _ hp) ⟨⟨_, rfl⟩, rfl⟩
  · refine ⟨?_⟩
    refine PyProof.Rows.add_str ?_ (by first | exact lw_size _ (by assumption) | size_fits)
    intro _ _
    k_steps
    refine ⟨?_⟩
    refine PyProof.Rows.add_str ?_ (by first | exact lw_size _ (by assumption) | size_fits)
    intro _ _
    k_steps
    rw [lw_hi p hp (by omega)]
    exact hret _ _ _ _ (by assumption) (news_sub (by assumption) fun p hp => List.mem_cons_of_mem _ hp) ⟨⟨_, rfl⟩, rfl⟩
end
section
local macro_rules | `(tactic| walk_at "mine 0") => Lean.Macro.throwUnsupported
local macro_rules | `(tactic| walk_at "SrcLP") => `(tactic| (refine Hold.out ?_))
theorem keys_con {w : World} {loose : List PySem.Str} {mean : ExcName → Option Value} {mg mb : PySem.Str → Option Value} {news : List (Addr × Obj)} {t d hl : Addr} {tkk : Tok} {vs : List Value} {nl : Nat} {ps : List (Str × Str)} :
   Con PySem.Challenge.rw_re0161_03.row.prog w (Mine.pre.heap_1 w.params) PySem.Challenge.rw_re0161_03.row.prog loose mean mg mb 3 30 136 news (TabN w.params 184 news t d tkk hl vs nl ∧ Rows news vs ps) [.ref t] []
     (fun r nw => ∃ D ys, r = .ref D ∧ ((D, LCg.lst ys) :: news) = nw ∧ StrsAre ys (ps.map (·.1)) ∧ ∀ p ∈ news, p.1 ≠ D) := by
  intro dp un gd cn cs a ccd cl outer A₀ base h₀ L m s Q E B F X N T XM hk ⟨⟨hp1, hp2, hp3, hp4⟩, hr⟩ hd hu hret
  refine wpAny_call ?_
  k_dflt (refine' code_def ?k1 ?k2 ?k3 ?k4 ?k5 ?kA ?kF ?kK ?k6 ?k7 ?k8 ?k9 ?kB ?_ ?c2 ?c3 ?c4 ?c5; (case kA => exact rfl); (case kF => exact rfl); (case kK => first | exact rfl | assumption); (case k1 => k_asm); (case k2 => k_asm); (case k3 => k_asm); (case k4 => k_asm); (case k5 => k_asm); (case k6 => k_is); (case k7 => k_is); (case k8 => ktr_room); (case k9 => first | exact BindsTo.of_eq rfl | exact binds_K (by k_in) rfl (by k_is) rfl rfl rfl); (case c5 => decide); (case kB => exact locs rfl); (case c2 => exact rfl); (case c3 => exact rfl); (case c4 => exact rfl); k_whole; intro g' L' h' FG' F' N' B' X' T'; (try dsimp only); (try k_lift B'); (try k_fold))
  obtain ⟨mE, hmE, FE⟩ := fr_gen F'
  clear F'
  have XM' := Flt.MathXP.keeps _ _ _ XM FG'.keep
  have e0E : mE (Str.ofString "self") = some (.ref t) := by rw [hmE]; rfl
  rw [know e0E] at FE
  clear hmE e0E
  k_steps
  refine ⟨?_⟩
  refine LCp.SrcLP.ledger rfl (by k_asm) (by k_asm) hp3 (by rw [List.size_toArray, sizeLine_eq]; omega) ?_
  intro g3
  refine comp_invP (fun i ys nx => news = nx ∧ StrsAre ys ((ps.take i).map (·.1))) ⟨rfl, .nil⟩ ?_ ?_
  · rintro i ys nx v hin ⟨hnx, hys⟩ hv
    subst hnx
    rw [List.getElem?_toArray] at hv
    obtain ⟨a₁, k, y, tk₃, ty, rfl, hmem, hkx, hy, hps⟩ := hr.at hv
    refine ⟨a₁, _, .str k tk₃, .str y ty, _, rfl, hmem, rfl, rfl, ?_⟩
    intro I oI C oC D m₂ h tk E' hC hx hx2 F3 N3 off ne
    k_steps
    refine ⟨_, _, news, rfl, by assumption, by assumption, off, .inr ⟨_, hp3, rfl, _, rfl⟩, rfl, ?_⟩
    rw [List.take_add_one, hps, List.map_append]
    exact strsAre_snoc hys _ _
  · rintro ys nx ⟨hnx, hys⟩
    subst hnx
    rw [List.size_toArray, hr.len, List.take_length] at hys
    k_steps
    rename_i D9 _ _ _ _ o9 _ kN9 _ _
    exact hret _ _ _ _ (by assumption) kN9 ⟨_, _, rfl, rfl, hys, off1_mem o9⟩
end
section
local macro_rules | `(tactic| walk_at "call ref") => `(tactic| ((with_reducible show wpAny _ _ (call (Value.ref 83) [_, Value.str _ _] _) _ _ _); k_dflt (refine conv_con (by k_asm) (by k_asm) (by k_asm) (by k_asm) (by k_asm) (by k_asm) (by first | exact rfl | assumption) (by assumption) (by ktr_room) (by ktr_units) ?_); (intro r9 nw9 h9 tk9 F9 N9 hp9); (have e1 := hp9.1); (have e2 := hp9.2); (subst e1); (subst e2); (try k_sweep)))
theorem del_con {w : World} {loose : List PySem.Str} {mean : ExcName → Option Value} {mg mb : PySem.Str → Option Value} {rest : List (Addr × Obj)} {t d hl : Addr} {tkk : Tok} {vs : List Value} {nl : Nat} {ps : List (Str × Str)} {x : Str} {tk : Tok} :
   Con PySem.Challenge.rw_re0161_03.row.prog w (Mine.pre.heap_1 w.params) PySem.Challenge.rw_re0161_03.row.prog loose mean mg mb 3 32 102 ((hl, W.listOf vs.toArray nl) :: rest)
     ((t, instObj 184 d) ∈ rest ∧ (d, hdrDict w.params tkk hl) ∈ rest ∧ vs.length ≤ 999 ∧ Rows rest vs ps ∧ (∀ p ∈ rest, p.1 ≠ hl) ∧ Txl x) [.ref t, .str x tk] []
     (fun r nw => r = .none ∧ ∃ vs' nl', ((hl, W.listOf vs'.toArray nl') :: rest) = nw ∧ Rows rest vs' (ps.filter fun p => decide (Txt.lower p.1 ≠ Txt.lower x))) := by
  intro dp un gd cn cs a ccd cl outer A₀ base h₀ L m s Q E B F X N T XM hk ⟨hp1, hp2, hp4, hr, hoff, hx⟩ hd hu hret
  have hp1' := List.mem_cons_of_mem (hl, W.listOf vs.toArray nl) hp1
  have hp2' := List.mem_cons_of_mem (hl, W.listOf vs.toArray nl) hp2
  have hr' := hr.mono (fun p hp => List.mem_cons_of_mem (hl, W.listOf vs.toArray nl) hp)
  refine wpAny_call ?_
  k_dflt (refine' code_defC ?k1 ?k2 ?k3 ?k4 ?k5 ?kA ?kF ?kK ?k6 ?k7 ?k8 ?k9 ?kB ?kD ?_ ?c2 ?c3 ?c4; (case kA => exact rfl); (case kF => exact rfl); (case kK => first | exact rfl | assumption); (case k1 => k_asm); (case k2 => k_asm); (case k3 => k_asm); (case k4 => k_asm); (case k5 => k_asm); (case k6 => k_is); (case k7 => k_is); (case k8 => ktr_room); (case k9 => first | exact BindsTo.of_eq rfl | exact binds_K (by k_in) rfl (by k_is) rfl rfl rfl | fail "k_enter: no rule for these arguments"); (case kB => exact rfl); (case kD => decide +kernel); (case c2 => exact rfl); (case c3 => exact rfl); (case c4 => exact rfl); k_whole; intro g' L' h' tk' cells' FG' F' N' Y' B' X' T' l1; (try k_lt l1); k_cells Y'; (try simp only [List.cons_append, List.nil_append] at N'); (try dsimp only); (try k_lift B'); (try k_fold))
  obtain ⟨mE, hmE, FE⟩ := fr_gen F'
  clear F'
  have XM' := Flt.MathXP.keeps _ _ _ XM FG'.keep
  have e0E : mE (Str.ofString "self") = some (.ref t) := by rw [hmE]; rfl
  rw [know e0E] at FE
  clear hmE e0E
  have hlx := hx.lower
  rename Obj => oc
  rename _ = Data.cell _ => doc
  have hp1c := List.mem_cons_of_mem (L' + 1, oc) hp1'
  have hp2c := List.mem_cons_of_mem (L' + 1, oc) hp2'
  have doc2 : oc.data = .cell (some (.str x tk)) := doc.trans (by rfl)
  clear doc
  k_steps
  rename Obj => o2
  rename _ = Data.cell _ => do2
  have hp1d := List.mem_cons_of_mem (L' + 1, o2) hp1'
  have hp2d := List.mem_cons_of_mem (L' + 1, o2) hp2'
  have e1 := doc2
  clear doc2
  k_steps
  refine ⟨?_⟩
  refine LCt.CompSrcT.ledger rfl (by k_asm) (by k_asm) (List.mem_cons_of_mem _ (List.mem_cons_self ..)) (by rw [List.size_toArray, sizeLine_eq]; omega) ?_
  intro g3
  refine comp_invT (fun i ys nx => ((L' + 1, o2) :: (hl, W.listOf vs.toArray nl) :: rest) = nx ∧ Rows rest ys ((ps.take i).filter fun p => decide (Txt.lower p.1 ≠ Txt.lower x))) ⟨rfl, .nil⟩ ?_ ?_
  · rintro i ys nx v I oI C oC D m2 h tk E2 hj ⟨hnx, hys⟩ hv hC hx2 F3 N3 off3 ne
    subst hnx
    rw [List.getElem?_toArray] at hv
    obtain ⟨a₁, k, y, tk₃, ty, rfl, hmem, hkx, hy, hps⟩ := hr.at hv
    have hm3 := List.mem_cons_of_mem (I, oI) (List.mem_cons_of_mem (C, oC) (List.mem_cons_of_mem (D, LCg.lst ys) (List.mem_cons_of_mem (L' + 1, o2) (List.mem_cons_of_mem (hl, W.listOf vs.toArray nl) hmem))))
    k_steps
    · rename (_ != _) = true => hb
      have hb2 : Txt.lower k ≠ Txt.lower x := by simpa using hb
      refine ⟨_, _, _, rfl, by assumption, by assumption, off3, .inr ⟨_, List.mem_cons_of_mem _ (List.mem_cons_self ..), rfl, _, rfl⟩, rfl, ?_⟩
      rw [List.take_add_one, hps, List.filter_append]
      have e3 : List.filter (fun p => decide (Txt.lower p.1 ≠ Txt.lower x)) (some (k, y)).toList = [(k, y)] := by simp [hb2]
      rw [e3]
      exact hys.snoc hmem hkx hy
    · rename (_ != _) = false => hb
      have hb2 : Txt.lower k = Txt.lower x := by simpa using hb
      refine ⟨_, _, _, rfl, by assumption, by assumption, off3, .inr ⟨_, List.mem_cons_of_mem _ (List.mem_cons_self ..), rfl, _, rfl⟩, rfl, ?_⟩
      rw [List.take_add_one, hps, List.filter_append]
      have e3 : List.filter (fun p => decide (Txt.lower p.1 ≠ Txt.lower x)) (some (k, y)).toList = [] := by simp [hb2]
      rw [e3, List.append_nil]
      exact hys
  · rintro ys nx ⟨hnx, hys⟩
    subst hnx
    k_steps
    rename_i D9 _ _ _ _ o9
    have hp1e := List.mem_cons_of_mem (D9, LCg.lst ys) hp1d
    have hp2e := List.mem_cons_of_mem (D9, LCg.lst ys) hp2d
    k_steps
    rename Fr _ _ _ _ => F8
    rename News _ _ _ _ => N8
    have hyl : ys.length ≤ vs.length := by
      rw [hys.len, hr.len]
      exact Nat.le_trans (List.length_filter_le _ _) (List.length_take_le' ..)
    refine setSlice_P (new := ys) (its := vs) F8 N8 rfl rfl (List.mem_cons_self ..) o9.2.1 (by rw [sizeLine_eq]; omega) rfl (.tail (Ne.symm o9.2.1) (.tail (Nat.ne_of_gt (Nat.lt_succ_of_lt l1.1)) (.head hoff))) ?_
    intro h9 F9 N9
    k_steps
    refine hret _ _ _ _ (by assumption) (news_sub (by assumption) fun p hp => List.mem_cons_of_mem _ (List.mem_cons_of_mem _ hp)) ⟨rfl, ys, _, rfl, ?_⟩
    rw [List.size_toArray, hr.len, List.take_length] at hys
    exact hys
end
section
local macro_rules | `(tactic| walk_at "exec If") => `(tactic| (refine Hold.out ?_))
local macro_rules | `(tactic| walk_at "call ref") => `(tactic| ((with_reducible show wpAny _ _ (call (Value.ref 83) [_, Value.str _ _] _) _ _ _); k_dflt (refine conv_con (by k_asm) (by k_asm) (by k_asm) (by k_asm) (by k_asm) (by k_asm) (by first | exact rfl | assumption) (by assumption) (by ktr_room) (by ktr_units) ?_); (intro r9 nw9 h9 tk9 F9 N9 hp9); (have e1 := hp9.1); (have e2 := hp9.2); (subst e1); (subst e2); (try k_sweep)))
theorem add_con {w : World} {loose : List PySem.Str} {mean : ExcName → Option Value} {mg mb : PySem.Str → Option Value} {rest : List (Addr × Obj)} {t d hl : Addr} {tkk : Tok} {vs : List Value} {nl : Nat} {ps : List (Str × Str)} {x y : Str} {tk tky : Tok} :
   Con PySem.Challenge.rw_re0161_03.row.prog w (Mine.pre.heap_1 w.params) PySem.Challenge.rw_re0161_03.row.prog loose mean mg mb 3 32 181 ((hl, W.listOf vs.toArray nl) :: rest)
     ((t, instObj 184 d) ∈ rest ∧ (d, hdrDict w.params tkk hl) ∈ rest ∧ vs.length ≤ 999 ∧ Rows rest vs ps ∧ (∀ p ∈ rest, p.1 ≠ hl) ∧ Txl x ∧ Txl y) [.ref t, .str x tk, .str y tky] []
     (fun r nw => r = .none ∧ ∃ a' t', ((hl, W.listOf (vs ++ [Value.ref a']).toArray (nl + 1)) :: (a', tupObj [.str x tk, .str y t']) :: rest) = nw ∧ hl < a' ∧ ∀ p ∈ rest, p.1 < a') := by
  intro dp un gd cn cs a ccd cl outer A₀ base h₀ L m s Q E B F X N T XM hk ⟨hp1, hp2, hp4, hr, hoff, hx, hy⟩ hd hu hret
  have hp1' := List.mem_cons_of_mem (hl, W.listOf vs.toArray nl) hp1
  have hp2' := List.mem_cons_of_mem (hl, W.listOf vs.toArray nl) hp2
  have hr' := hr.mono (fun p hp => List.mem_cons_of_mem (hl, W.listOf vs.toArray nl) hp)
  refine wpAny_call ?_
  k_dflt (refine' kp_more ?k1 ?k2 ?k3 ?k4 ?k5 ?kA ?kF ?kK ?k6 ?k7 ?k8 ?kX ?kM ?kN ?kD ?kR ?kP ?kT ?kB ?_ ?c2 ?c3 ?c4 ?c5; (case kA => exact rfl); (case kF => exact rfl); (case kK => first | exact rfl | assumption); (case k1 => k_asm); (case k2 => k_asm); (case k3 => k_asm); (case k4 => k_asm); (case k5 => k_asm); (case k6 => k_is); (case k7 => k_is); (case k8 => ktr_room); (case kX => kp_lit); (case kM => exact rfl); (case kN => exact rfl); (case kD => kp_flats); (case kR => exact rfl); (case kP => exact rfl); (case kT => exact fun _ => rfl); (case kB => exact fun _ => locs rfl); (case c5 => decide); (case c2 => exact rfl); (case c3 => exact rfl); (case c4 => exact rfl); k_whole; intro D' o' g' L' h' tk' l1 lo' hs' fs' FG' F' N' B' X' T'; (try k_lt l1); (try dsimp only); (try k_lift B'); (try k_fold))
  obtain ⟨mE, hmE, FE⟩ := fr_gen F'
  clear F'
  have XM' := Flt.MathXP.keeps _ _ _ XM FG'.keep
  have e0E : mE (Str.ofString "self") = some (.ref t) := by rw [hmE]; rfl
  have e1E : mE (Str.ofString "_name") = some (.str x tk) := by rw [hmE]; rfl
  have e2E : mE (Str.ofString "_value") = some (.str y tky) := by rw [hmE]; rfl
  have e3E : mE (Str.ofString "_params") = some (.ref D') := by rw [hmE]; rfl
  rw [know e0E, know e1E, know e2E, know e3E] at FE
  clear hmE e0E e1E e2E e3E
  k_steps
  refine ⟨?_⟩
  rename_i lp h6 l7 h7 F7 N7
  refine wpAny_If ?_
  have hp1c : (t, instObj 184 d) ∈ (lp, W.listOf #[] 0) :: (D', o') :: (hl, W.listOf vs.toArray nl) :: rest := List.mem_cons_of_mem _ (List.mem_cons_of_mem _ hp1')
  have hp2c : (d, hdrDict w.params tkk hl) ∈ (lp, W.listOf #[] 0) :: (D', o') :: (hl, W.listOf vs.toArray nl) :: rest := List.mem_cons_of_mem _ (List.mem_cons_of_mem _ hp2')
  have hp1d : (t, instObj 184 d) ∈ (lp, W.listOf (#[].push (Value.str y tky)) (0 + 1)) :: (D', o') :: (hl, W.listOf vs.toArray nl) :: rest := List.mem_cons_of_mem _ (List.mem_cons_of_mem _ hp1')
  have hp2d : (d, hdrDict w.params tkk hl) ∈ (lp, W.listOf (#[].push (Value.str y tky)) (0 + 1)) :: (D', o') :: (hl, W.listOf vs.toArray nl) :: rest := List.mem_cons_of_mem _ (List.mem_cons_of_mem _ hp2')
  k_steps
  rename News _ _ _ _ => N8
  have N9 := news_sub (news := (lp, W.listOf (#[].push (Value.str y tky)) (0 + 1)) :: (hl, W.listOf vs.toArray nl) :: rest) N8 (by walk_at "mine sub")
  clear N8 hp1d hp2d hp1c hp2c hr'
  have hp1e : (t, instObj 184 d) ∈ (lp, W.listOf (#[].push (Value.str y tky)) (0 + 1)) :: (hl, W.listOf vs.toArray nl) :: rest := List.mem_cons_of_mem _ hp1'
  have hp2e : (d, hdrDict w.params tkk hl) ∈ (lp, W.listOf (#[].push (Value.str y tky)) (0 + 1)) :: (hl, W.listOf vs.toArray nl) :: rest := List.mem_cons_of_mem _ hp2'
  k_steps
  rename Fr _ _ _ _ => F9
  rename News _ _ _ _ => N10
  have lN : ∀ p ∈ (hl, W.listOf vs.toArray nl) :: rest, @LT.lt Nat instLTNat p.1 _ := fun p hp => Heap.lt_size (N10 p (List.mem_cons_of_mem _ hp)).1
  refine SC.join (texts := [y]) (list_at (vs := strValues [(y, tky)]) N10 (.head _)) rfl (joinOk_of_weight (by show y.length + 0 + 1 ≤ _; have := hy.2; omega) (by decide +kernel)) ?_
  intro kj tj
  have ej : Txt.join (Str.ofString "; ") [y] = y := by unfold Txt.join; rw [StrLaws.glued_eq_join]; rfl
  rw [ej]
  k_steps
  rename News _ _ _ _ => N11
  rename Fr _ _ _ _ => F11
  refine append_C F11 N11 (.tail (Nat.ne_of_gt (lN _ (.head _))) (.tail (Nat.ne_of_gt l7.2.1) (.head hoff))) (by omega) ?_
  intro h12 F12 N12
  k_steps
  refine hret _ _ _ _ (by assumption) (news_sub (by assumption) fun p hp => ?_) ⟨rfl, _, kj, rfl, lN _ (.head _), fun p hp => lN p (.tail _ hp)⟩
  rcases List.mem_cons.mp hp with rfl | hp
  · exact .tail _ (.tail _ (.head _))
  · rcases List.mem_cons.mp hp with rfl | hp
    · exact .head _
    · exact .tail _ (.tail _ (.tail _ hp))
end
section
local macro_rules | `(tactic| walk_at $k:str) => if k.getString ∈ ["eval IfExp", "exec While Compare cons nil"] then `(tactic| (refine Hold.out ?_)) else Lean.Macro.throwUnsupported
theorem gone_con {w : World} {loose : List PySem.Str} {mean : ExcName → Option Value} {mg mb : PySem.Str → Option Value} {news : List (Addr × Obj)} {n k : Nat} {st : Int} {tn ts tk : Tok} :
   Con PySem.Challenge.rw_re0161_03.row.prog w (Mine.pre.heap_1 w.params) PySem.Challenge.rw_re0161_03.row.prog loose mean mg mb 2 20 252 news (n < 11 ∧ -30 ≤ st ∧ st ≤ 30 ∧ k < 11 ∧ 1 ≤ k ∧ k ≤ n) [.int (n : Int) tn, .int st ts, .int (k : Int) tk] []
     (fun r nw => (∃ t, r = .int (goneI n st k) t) ∧ news = nw) := by
  intro dp un gd cn cs a ccd cl outer A₀ base h₀ L m s Q E B F X N T XM hk ⟨hn, hs1, hs2, hk1, hk2, hk3⟩ hd hu hret
  refine wpAny_call ?_
  k_dflt (refine' code_def ?k1 ?k2 ?k3 ?k4 ?k5 ?kA ?kF ?kK ?k6 ?k7 ?k8 ?k9 ?kB ?_ ?c2 ?c3 ?c4 ?c5; (case kA => exact rfl); (case kF => exact rfl); (case kK => first | exact rfl | assumption); (case k1 => k_asm); (case k2 => k_asm); (case k3 => k_asm); (case k4 => k_asm); (case k5 => k_asm); (case k6 => k_is); (case k7 => k_is); (case k8 => ktr_room); (case k9 => first | exact BindsTo.of_eq rfl | exact binds_K (by k_in) rfl (by k_is) rfl rfl rfl); (case c5 => decide); (case kB => exact locs rfl); (case c2 => exact rfl); (case c3 => exact rfl); (case c4 => exact rfl); k_whole; intro g' L' h' FG' F' N' B' X' T'; (try dsimp only); (try k_lift B'); (try k_fold))
  obtain ⟨mE, hmE, FE⟩ := fr_gen F'
  clear F'
  have XM' := Flt.MathXP.keeps _ _ _ XM FG'.keep
  have e0E : mE (Str.ofString "names") = some (.int (n : Int) tn) := by rw [hmE]; rfl
  have e1E : mE (Str.ofString "step") = some (.int st ts) := by rw [hmE]; rfl
  have e2E : mE (Str.ofString "turn") = some (.int (k : Int) tk) := by rw [hmE]; rfl
  rw [know e0E, know e1E, know e2E] at FE
  clear hmE e0E e1E e2E
  have hm := sizeM_pos hs1 hs2
  have hok := gone_ok n hn _ hm.2 k hk1 hm.1 hk3
  k_steps
  refine ⟨?_⟩
  refine wp_cut (fun v => ∃ t, v = .int (sizeM st : Int) t) ?_ ?_
  · refine IfExp_ ?_
    k_steps
    · rename 0 ≤ st => h0
      exact CutP.of ⟨_, congrArg (fun x => Value.int x _) (by rw [sizeM_cast, if_pos h0])⟩
    · rename ¬ 0 ≤ st => h0
      exact CutP.of ⟨_, congrArg (fun x => Value.int x _) (by rw [sizeM_cast, if_neg h0])⟩
  rintro _ tk5 ⟨t5, rfl⟩
  k_steps
  refine ⟨?_⟩
  rename Fr _ _ _ _ => F8
  rename News _ _ _ _ => N8
  refine While_inv (fun f m nx => ∃ sd t, m (Str.ofString "said") = some (.int ((sd : Nat) : Int) t) ∧ m (Str.ofString "names") = some (.int (n : Int) tn) ∧ m (Str.ofString "step") = some (.int st ts) ∧ m (Str.ofString "size") = some (.int (sizeM st : Int) t5) ∧ news = nx ∧
     goneOk f (sizeM st) n sd = true ∧ goneN f (sizeM st) n sd = goneN 400 (sizeM st) n (k * sizeM st)) (n₀ := 400) F8 N8 ⟨k * sizeM st, _, rfl, rfl, rfl, rfl, rfl, hok, rfl⟩ ?_
  rintro f m1 nx h1 tk1 F1 N1 ⟨sd, t, e1, e2, e3, e4, hnx, ok1, eg⟩
  subst hnx
  rw [know e1, know e2, know e3, know e4] at F1
  clear e1 e2 e3 e4
  have hsm := gone_small ok1 (by omega)
  k_steps
  · exfalso
    rename (n : Int) < (sd : Int) => hlt
    obtain ⟨f', _, h2, _, _⟩ := gone_turn ok1 (Int.ofNat_lt.mp hlt)
    omega
  · rename (n : Int) < (sd : Int) => hlt
    have hlt := Int.ofNat_lt.mp hlt
    obtain ⟨f', hf, h2, ok2, eg2⟩ := gone_turn ok1 hlt
    rename Fr _ _ _ _ => F9
    rw [gone_int h2 hlt] at F9
    refine WhileStep.intro (n' := f') F9 (by assumption) (by rw [hf]; exact Nat.lt_succ_self _) ⟨_, _, rfl, rfl, rfl, rfl, rfl, ok2, by rw [← eg2]; exact eg⟩
  · rename ¬ (n : Int) < (sd : Int) => hlt
    have hlt : ¬ n < sd := fun h => hlt (Int.ofNat_lt.mpr h)
    rw [gone_stop hlt] at eg
    refine ⟨?_⟩
    refine IfExp_ ?_
    k_steps
    · rename 0 ≤ st => h0
      refine hret _ _ _ _ (by assumption) (by assumption) ⟨⟨_, congrArg (fun x => Value.int x _) ?_⟩, rfl⟩
      unfold goneI
      rw [if_pos h0, ← eg]
    · rename ¬ 0 ≤ st => h0
      refine hret _ _ _ _ (by assumption) (by assumption) ⟨⟨_, congrArg (fun x => Value.int x _) ?_⟩, rfl⟩
      unfold goneI
      rw [if_neg h0, ← eg]
end
section
local macro_rules | `(tactic| walk_at "mine 0") => Lean.Macro.throwUnsupported
local macro_rules | `(tactic| walk_at "call builtin:str.swapcase") => `(tactic| (refine Hold.out ?_))
theorem take_con {w : World} {loose : List PySem.Str} {mean : ExcName → Option Value} {mg mb : PySem.Str → Option Value} {rest : List (Addr × Obj)} {t d hl : Addr} {tkk : Tok} {vs : List Value} {nl : Nat} {ps : List (Str × Str)} {x : Str} {tk : Tok} :
   Con PySem.Challenge.rw_re0161_03.row.prog w (Mine.pre.heap_1 w.params) PySem.Challenge.rw_re0161_03.row.prog loose mean mg mb 5 60 259 ((hl, W.listOf vs.toArray nl) :: rest)
     ((t, instObj 184 d) ∈ rest ∧ (d, hdrDict w.params tkk hl) ∈ rest ∧ vs.length ≤ 999 ∧ Rows rest vs ps ∧ (∀ p ∈ rest, p.1 ≠ hl) ∧ Txl x) [.ref t, .str x tk] []
     (fun r nw => (match hget ps x with | some v => ∃ t, r = .str v t | none => r = .none) ∧ ∃ vs' nl', ((hl, W.listOf vs'.toArray nl') :: rest) = nw ∧ Rows rest vs' (ps.filter fun p => decide (Txt.lower p.1 ≠ Txt.lower x))) := by
  intro dp un gd cn cs a ccd cl outer A₀ base h₀ L m s Q E B F X N T XM hk ⟨hp1, hp2, hp4, hr, hoff, hx⟩ hd hu hret
  have hp1' := List.mem_cons_of_mem (hl, W.listOf vs.toArray nl) hp1
  have hp2' := List.mem_cons_of_mem (hl, W.listOf vs.toArray nl) hp2
  have hr' := hr.mono (fun p hp => List.mem_cons_of_mem (hl, W.listOf vs.toArray nl) hp)
  have hsx := hx.swap
  refine wpAny_call ?_
  k_dflt (refine' code_def ?k1 ?k2 ?k3 ?k4 ?k5 ?kA ?kF ?kK ?k6 ?k7 ?k8 ?k9 ?kB ?_ ?c2 ?c3 ?c4 ?c5; (case kA => exact rfl); (case kF => exact rfl); (case kK => first | exact rfl | assumption); (case k1 => k_asm); (case k2 => k_asm); (case k3 => k_asm); (case k4 => k_asm); (case k5 => k_asm); (case k6 => k_is); (case k7 => k_is); (case k8 => ktr_room); (case k9 => first | exact BindsTo.of_eq rfl | exact binds_K (by k_in) rfl (by k_is) rfl rfl rfl); (case c5 => decide); (case kB => exact locs rfl); (case c2 => exact rfl); (case c3 => exact rfl); (case c4 => exact rfl); k_whole; intro g' L' h' FG' F' N' B' X' T'; (try dsimp only); (try k_lift B'); (try k_fold))
  obtain ⟨mE, hmE, FE⟩ := fr_gen F'
  clear F'
  have XM' := Flt.MathXP.keeps _ _ _ XM FG'.keep
  have e0E : mE (Str.ofString "table") = some (.ref t) := by rw [hmE]; rfl
  have e1E : mE (Str.ofString "name") = some (.str x tk) := by rw [hmE]; rfl
  rw [know e0E, know e1E] at FE
  clear hmE e0E e1E
  k_steps
  refine ⟨?_⟩
  refine swap_T hx ?_
  intro k1 t1
  k_steps
  refine ⟨?_⟩
  refine get_con (ps := ps) (by k_asm) (by k_asm) (by k_asm) (by k_asm) (by k_asm) (by k_asm) (by first | exact rfl | assumption) ⟨⟨hp1', hp2', List.mem_cons_self .., by omega⟩, hr', hsx⟩ (by ktr_room) (by ktr_units) ?_
  intro r9 nw9 h9 tk9 F9 N9 ⟨e9, hg9⟩
  subst e9
  rw [hget_swap hx] at hg9
  k_steps
  refine ⟨?_⟩
  refine swap_T hx ?_
  intro k2 t2
  k_steps
  k_dflt (refine' delItem_own ?F ?X ?I ?hQ ?hS ?hF ?_; (case F => k_asm); (case X => k_asm); (case I => k_inst); (case hS => k_is); (case hF => k_is); (case hQ => k_is); k_whole)
  refine del_con (ps := ps) (by k_asm) (by k_asm) (by k_asm) (by k_asm) (by k_asm) (by k_asm) (by first | exact rfl | assumption) ⟨hp1, hp2, hp4, hr, hoff, hsx⟩ (by ktr_room) (by ktr_units) ?_
  intro r8 nw8 h8 tk8 F8 N8 ⟨e8, vs', nl', e7, hr8⟩
  subst e8 e7
  rw [lower_swap hx] at hr8
  k_steps
  exact hret _ _ _ _ (by assumption) (by assumption) ⟨hg9, _, _, rfl, hr8⟩
end
section
local macro_rules | `(tactic| walk_at "call builtin:str.swapcase") => `(tactic| (refine Hold.out ?_))
theorem thrice_con {w : World} {loose : List PySem.Str} {mean : ExcName → Option Value} {mg mb : PySem.Str → Option Value} {rest : List (Addr × Obj)} {t d hl : Addr} {tkk : Tok} {nl : Nat} {x : Str} {tk : Tok} :
   Con PySem.Challenge.rw_re0161_03.row.prog w (Mine.pre.heap_1 w.params) PySem.Challenge.rw_re0161_03.row.prog loose mean mg mb 6 90 266 ((hl, W.listOf [].toArray nl) :: rest)
     ((t, instObj 184 d) ∈ rest ∧ (d, hdrDict w.params tkk hl) ∈ rest ∧ (∀ p ∈ rest, p.1 ≠ hl) ∧ Txl x) [.ref t, .str x tk] []
     (fun r nw => ∃ D k1 k2 t1 t2 ys1, r = .ref D ∧ ((D, tupObj [.ref k1, .str (Str.ofString "") t1, .str (Str.ofString "") t2, .ref k2]) :: (k2, LCg.lst []) :: (k1, LCg.lst ys1) :: rest) = nw ∧ StrsAre ys1 [x, x, Txt.swapcase x]) := by
  intro dp un gd cn cs a ccd cl outer A₀ base h₀ L m s Q E B F X N T XM hk ⟨hp1, hp2, hoff, hx⟩ hd hu hret
  have hsx := hx.swap
  have t0 : Txl (Str.ofString "") := show (∀ c ∈ (Str.ofString "").cps.toList, 32 ≤ c ∧ c < 127) ∧ (Str.ofString "").length ≤ 100000 by decide +kernel
  have tb : Txl (Str.ofString "b") := show (∀ c ∈ (Str.ofString "b").cps.toList, 32 ≤ c ∧ c < 127) ∧ (Str.ofString "b").length ≤ 100000 by decide +kernel
  have tc : Txl (Str.ofString "c") := show (∀ c ∈ (Str.ofString "c").cps.toList, 32 ≤ c ∧ c < 127) ∧ (Str.ofString "c").length ≤ 100000 by decide +kernel
  have td : Txl (Str.ofString "d") := show (∀ c ∈ (Str.ofString "d").cps.toList, 32 ≤ c ∧ c < 127) ∧ (Str.ofString "d").length ≤ 100000 by decide +kernel
  refine wpAny_call ?_
  k_dflt (refine' code_def ?k1 ?k2 ?k3 ?k4 ?k5 ?kA ?kF ?kK ?k6 ?k7 ?k8 ?k9 ?kB ?_ ?c2 ?c3 ?c4 ?c5; (case kA => exact rfl); (case kF => exact rfl); (case kK => first | exact rfl | assumption); (case k1 => k_asm); (case k2 => k_asm); (case k3 => k_asm); (case k4 => k_asm); (case k5 => k_asm); (case k6 => k_is); (case k7 => k_is); (case k8 => ktr_room); (case k9 => first | exact BindsTo.of_eq rfl | exact binds_K (by k_in) rfl (by k_is) rfl rfl rfl); (case c5 => decide); (case kB => exact locs rfl); (case c2 => exact rfl); (case c3 => exact rfl); (case c4 => exact rfl); k_whole; intro g' L' h' FG' F' N' B' X' T'; (try dsimp only); (try k_lift B'); (try k_fold))
  obtain ⟨mE, hmE, FE⟩ := fr_gen F'
  clear F'
  have XM' := Flt.MathXP.keeps _ _ _ XM FG'.keep
  have e0E : mE (Str.ofString "table") = some (.ref t) := by rw [hmE]; rfl
  have e1E : mE (Str.ofString "name") = some (.str x tk) := by rw [hmE]; rfl
  rw [know e0E, know e1E] at FE
  clear hmE e0E e1E
  have hp1' := List.mem_cons_of_mem (hl, W.listOf [].toArray nl) hp1
  have hp2' := List.mem_cons_of_mem (hl, W.listOf [].toArray nl) hp2
  k_steps
  refine ⟨?_⟩
  refine add_con (ps := []) (by k_asm) (by k_asm) (by k_asm) (by k_asm) (by k_asm) (by k_asm) (by first | exact rfl | assumption) ⟨hp1, hp2, by decide, .nil, hoff, hx, t0⟩ (by ktr_room) (by ktr_units) ?_
  intro r1 nw1 h1 tk1 F1 N1 ⟨e1, a1, u1, f1, l1, m1⟩
  subst e1 f1
  have q1 := List.mem_cons_of_mem (a1, tupObj [.str x tk, .str (Str.ofString "") u1]) hp1
  have q2 := List.mem_cons_of_mem (a1, tupObj [.str x tk, .str (Str.ofString "") u1]) hp2
  have qo : ∀ p ∈ (a1, tupObj [.str x tk, .str (Str.ofString "") u1]) :: rest, p.1 ≠ hl := fun p hp => by
    rcases List.mem_cons.mp hp with rfl | hp
    · exact Nat.ne_of_gt l1
    · exact hoff p hp
  have R1 : Rows ((a1, tupObj [.str x tk, .str (Str.ofString "") u1]) :: rest) [Value.ref a1] [(x, Str.ofString "")] := .cons (List.mem_cons_self ..) hx t0 .nil
  generalize hrest1 : (a1, tupObj [.str x tk, .str (Str.ofString "") u1]) :: rest = rest1 at *
  have hs1 : ∀ p ∈ rest, p ∈ rest1 := fun p hp => by rw [← hrest1]; exact .tail _ hp
  clear hrest1 hp1' hp2'
  have hp1' := List.mem_cons_of_mem (hl, W.listOf [Value.ref a1].toArray (nl + 1)) q1
  have hp2' := List.mem_cons_of_mem (hl, W.listOf [Value.ref a1].toArray (nl + 1)) q2
  have N1' : News g' L' h1 ((hl, W.listOf [Value.ref a1].toArray (nl + 1)) :: rest1) := N1
  clear N1
  k_steps
  refine ⟨?_⟩
  refine add_con (vs := [Value.ref a1]) (ps := [(x, Str.ofString "")]) (by k_asm) (by k_asm) (by k_asm) (by k_asm) (by k_asm) (by k_asm) (by first | exact rfl | assumption) ⟨q1, q2, by simp, R1, qo, hx, tb⟩ (by ktr_room) (by ktr_units) ?_
  intro r2 nw2 h2 tk2 F2 N2 ⟨e2, a2, u2, f2, l2, m2⟩
  subst e2 f2
  have q3 := List.mem_cons_of_mem (a2, tupObj [.str x tk, .str (Str.ofString "b") u2]) q1
  have q4 := List.mem_cons_of_mem (a2, tupObj [.str x tk, .str (Str.ofString "b") u2]) q2
  have qo2 : ∀ p ∈ (a2, tupObj [.str x tk, .str (Str.ofString "b") u2]) :: rest1, p.1 ≠ hl := fun p hp => by
    rcases List.mem_cons.mp hp with rfl | hp
    · exact Nat.ne_of_gt l2
    · exact qo p hp
  have R2 := (R1.mono fun p hp => List.mem_cons_of_mem (a2, tupObj [.str x tk, .str (Str.ofString "b") u2]) hp).snoc (List.mem_cons_self ..) hx tb
  generalize hrest2 : (a2, tupObj [.str x tk, .str (Str.ofString "b") u2]) :: rest1 = rest2 at *
  have hs2 : ∀ p ∈ rest, p ∈ rest2 := fun p hp => by rw [← hrest2]; exact .tail _ (hs1 p hp)
  clear hrest2 hp1' hp2' q1 q2 qo R1 hs1 N1'
  have hp1' := List.mem_cons_of_mem (hl, W.listOf [Value.ref a1, Value.ref a2].toArray (nl + 1 + 1)) q3
  have hp2' := List.mem_cons_of_mem (hl, W.listOf [Value.ref a1, Value.ref a2].toArray (nl + 1 + 1)) q4
  have N2' : News g' L' h2 ((hl, W.listOf [Value.ref a1, Value.ref a2].toArray (nl + 1 + 1)) :: rest2) := N2
  clear N2
  k_steps
  refine ⟨?_⟩
  refine swap_T hx ?_
  intro k1 t1
  k_steps
  refine ⟨?_⟩
  refine add_con (vs := [Value.ref a1, Value.ref a2]) (ps := [(x, Str.ofString ""), (x, Str.ofString "b")]) (by k_asm) (by k_asm) (by k_asm) (by k_asm) (by k_asm) (by k_asm) (by first | exact rfl | assumption) ⟨q3, q4, by simp, R2, qo2, hsx, tc⟩ (by ktr_room) (by ktr_units) ?_
  intro r3 nw3 h3 tk3 F3 N3 ⟨e3, a3, u3, f3, l3, m3⟩
  subst e3 f3
  have q1 := List.mem_cons_of_mem (a3, tupObj [.str (Txt.swapcase x) t1, .str (Str.ofString "c") u3]) q3
  have q2 := List.mem_cons_of_mem (a3, tupObj [.str (Txt.swapcase x) t1, .str (Str.ofString "c") u3]) q4
  have qo : ∀ p ∈ (a3, tupObj [.str (Txt.swapcase x) t1, .str (Str.ofString "c") u3]) :: rest2, p.1 ≠ hl := fun p hp => by
    rcases List.mem_cons.mp hp with rfl | hp
    · exact Nat.ne_of_gt l3
    · exact qo2 p hp
  have R3 := (R2.mono fun p hp => List.mem_cons_of_mem (a3, tupObj [.str (Txt.swapcase x) t1, .str (Str.ofString "c") u3]) hp).snoc (List.mem_cons_self ..) hsx tc
  generalize hrest3 : (a3, tupObj [.str (Txt.swapcase x) t1, .str (Str.ofString "c") u3]) :: rest2 = rest3 at *
  have hs3 : ∀ p ∈ rest, p ∈ rest3 := fun p hp => by rw [← hrest3]; exact .tail _ (hs2 p hp)
  clear hrest3 hp1' hp2' q3 q4 qo2 R2 hs2 N2'
  have hp1' := List.mem_cons_of_mem (hl, W.listOf [Value.ref a1, Value.ref a2, Value.ref a3].toArray (nl + 1 + 1 + 1)) q1
  have hp2' := List.mem_cons_of_mem (hl, W.listOf [Value.ref a1, Value.ref a2, Value.ref a3].toArray (nl + 1 + 1 + 1)) q2
  have N3' : News g' L' h3 ((hl, W.listOf [Value.ref a1, Value.ref a2, Value.ref a3].toArray (nl + 1 + 1 + 1)) :: rest3) := N3
  clear N3
  have R3' := R3.mono fun p hp => List.mem_cons_of_mem (hl, W.listOf [Value.ref a1, Value.ref a2, Value.ref a3].toArray (nl + 1 + 1 + 1)) hp
  k_steps
  refine ⟨?_⟩
  refine keys_con (vs := [Value.ref a1, Value.ref a2, Value.ref a3]) (nl := nl + 1 + 1 + 1) (ps := [(x, Str.ofString ""), (x, Str.ofString "b"), (Txt.swapcase x, Str.ofString "c")]) (by k_asm) (by k_asm) (by k_asm) (by k_asm) (by k_asm) (by k_asm) (by first | exact rfl | assumption) ⟨⟨hp1', hp2', List.mem_cons_self .., by simp⟩, R3'⟩ (by ktr_room) (by ktr_units) ?_
  intro r4 nw4 h4 tk4 F4 N4 ⟨D1, ys1, e4, f4, hys1, m4⟩
  subst e4 f4
  have hg : hget [(x, Str.ofString ""), (x, Str.ofString "b"), (Txt.swapcase x, Str.ofString "c")] x = some (Str.ofString "") := hget_head
  have lD := m4
  have N4' := news_sub (news := (hl, W.listOf [Value.ref a1, Value.ref a2, Value.ref a3].toArray (nl + 1 + 1 + 1)) :: (D1, LCg.lst ys1) :: rest3) N4 (by walk_at "mine sub")
  have o1 := fun p (hp : p ∈ rest3) => lD p (List.mem_cons_of_mem _ hp)
  have o2 : @Ne Nat hl D1 := lD (hl, W.listOf [Value.ref a1, Value.ref a2, Value.ref a3].toArray (nl + 1 + 1 + 1)) (List.mem_cons_self ..)
  have q3 := List.mem_cons_of_mem (D1, LCg.lst ys1) q1
  have q4 := List.mem_cons_of_mem (D1, LCg.lst ys1) q2
  have R4 := R3.mono fun p hp => List.mem_cons_of_mem (D1, LCg.lst ys1) hp
  have qo2 : ∀ p ∈ (D1, LCg.lst ys1) :: rest3, p.1 ≠ hl := fun p hp => by
    rcases List.mem_cons.mp hp with rfl | hp
    · exact Ne.symm o2
    · exact qo p hp
  have hsD : (D1, LCg.lst ys1) ∈ (D1, LCg.lst ys1) :: rest3 := List.mem_cons_self ..
  generalize hrest4 : (D1, LCg.lst ys1) :: rest3 = rest4 at *
  have hs4 : ∀ p ∈ rest, p ∈ rest4 := fun p hp => by rw [← hrest4]; exact .tail _ (hs3 p hp)
  clear hrest4 N4 N3' hp1' hp2' R3 R3' q1 q2 qo hs3 m4 lD o1
  have hp1' := List.mem_cons_of_mem (hl, W.listOf [Value.ref a1, Value.ref a2, Value.ref a3].toArray (nl + 1 + 1 + 1)) q3
  have hp2' := List.mem_cons_of_mem (hl, W.listOf [Value.ref a1, Value.ref a2, Value.ref a3].toArray (nl + 1 + 1 + 1)) q4
  have R4' := R4.mono fun p hp => List.mem_cons_of_mem (hl, W.listOf [Value.ref a1, Value.ref a2, Value.ref a3].toArray (nl + 1 + 1 + 1)) hp
  k_steps
  refine ⟨?_⟩
  refine get_con (vs := [Value.ref a1, Value.ref a2, Value.ref a3]) (nl := nl + 1 + 1 + 1) (ps := [(x, Str.ofString ""), (x, Str.ofString "b"), (Txt.swapcase x, Str.ofString "c")]) (by k_asm) (by k_asm) (by k_asm) (by k_asm) (by k_asm) (by k_asm) (by first | exact rfl | assumption) ⟨⟨hp1', hp2', List.mem_cons_self .., by simp⟩, R4', hx⟩ (by ktr_room) (by ktr_units) ?_
  intro r5 nw5 h5 tk5 F5 N5 ⟨f5, e5⟩
  subst f5
  rw [hg] at e5
  obtain ⟨u5, e5⟩ := e5
  subst e5
  k_steps
  refine ⟨?_⟩
  refine swap_T hx ?_
  intro k6 t6
  k_steps
  refine ⟨?_⟩
  refine setd_con (vs := [Value.ref a1, Value.ref a2, Value.ref a3]) (nl := nl + 1 + 1 + 1) (ps := [(x, Str.ofString ""), (x, Str.ofString "b"), (Txt.swapcase x, Str.ofString "c")]) (by k_asm) (by k_asm) (by k_asm) (by k_asm) (by k_asm) (by k_asm) (by first | exact rfl | assumption) ⟨q3, q4, by simp, R4, qo2, hsx, td⟩ (by ktr_room) (by ktr_units) ?_
  intro r6 nw6 h6 tk6 F6 N6 e6
  rw [hget_swap hx, hg] at e6
  obtain ⟨⟨u6, e6⟩, f6⟩ := e6
  subst e6 f6
  k_steps
  refine ⟨?_⟩
  refine swap_T hx ?_
  intro k7 t7
  k_steps
  k_dflt (refine' delItem_own ?F ?X ?I ?hQ ?hS ?hF ?_; (case F => k_asm); (case X => k_asm); (case I => k_inst); (case hS => k_is); (case hF => k_is); (case hQ => k_is); k_whole)
  refine del_con (vs := [Value.ref a1, Value.ref a2, Value.ref a3]) (nl := nl + 1 + 1 + 1) (ps := [(x, Str.ofString ""), (x, Str.ofString "b"), (Txt.swapcase x, Str.ofString "c")]) (by k_asm) (by k_asm) (by k_asm) (by k_asm) (by k_asm) (by k_asm) (by first | exact rfl | assumption) ⟨q3, q4, by simp, R4, qo2, hsx⟩ (by ktr_room) (by ktr_units) ?_
  intro r8 nw8 h8 tk8 F8 N8 ⟨e8, vs8, nl8, f8, R8⟩
  subst e8 f8
  have hps : ([(x, Str.ofString ""), (x, Str.ofString "b"), (Txt.swapcase x, Str.ofString "c")].filter fun p => decide (Txt.lower p.1 ≠ Txt.lower (Txt.swapcase x))) = [] := by simp [lower_swap hx]
  rw [hps] at R8
  cases R8
  clear hps
  have hp1' := List.mem_cons_of_mem (hl, W.listOf ([] : List Value).toArray nl8) q3
  have hp2' := List.mem_cons_of_mem (hl, W.listOf ([] : List Value).toArray nl8) q4
  k_steps
  refine ⟨?_⟩
  refine keys_con (vs := []) (nl := nl8) (ps := []) (by k_asm) (by k_asm) (by k_asm) (by k_asm) (by k_asm) (by k_asm) (by first | exact rfl | assumption) ⟨⟨hp1', hp2', List.mem_cons_self .., by decide⟩, .nil⟩ (by ktr_room) (by ktr_units) ?_
  intro r9 nw9 h9 tk9 F9 N9 ⟨D2, ys2, e9, f9, hys2, m9⟩
  subst e9 f9
  cases hys2
  k_steps
  refine hret _ _ _ _ (by assumption) (news_sub (by assumption) fun p hp => ?_) ⟨_, D1, D2, u5, u6, ys1, rfl, rfl, hys1⟩
  rcases List.mem_cons.mp hp with rfl | hp
  · exact .head _
  · rcases List.mem_cons.mp hp with rfl | hp
    · exact .tail _ (.head _)
    · rcases List.mem_cons.mp hp with rfl | hp
      · exact .tail _ (.tail _ (.tail _ hsD))
      · exact .tail _ (.tail _ (.tail _ (hs4 p hp)))
end
section
def lawScope : Scope := match (PySem.Challenge.rw_re0161_03.row.prog).main.body.getLast? with
  | some (.FunctionDef _ _ _ _ _ _ sc _ _ _) => sc
  | _ => default
def lawBody : List Stmt := match (PySem.Challenge.rw_re0161_03.row.prog).main.body.getLast? with
  | some (.FunctionDef _ _ b _ _ _ _ _ _ _) => b
  | _ => []
theorem lawBody_len : lawBody.length = 12 := by decide +kernel
def loopBody : List Stmt := match lawBody.drop 10 with
  | .For _ _ b _ _ :: _ => b
  | _ => []
theorem loopBody_len : loopBody.length = 9 := by decide +kernel
end
section
theorem law3_1 {w : World} {loose : List PySem.Str} {mean : ExcName → Option Value} {mg mb m : PySem.Str → Option Value} {g : Heap} {L fa : Nat} {cd : Value} {s : Shared} {Q : Flow → Shared → Prop} {E : Value → Shared → Prop} {oc1 : Obj} {ls : Nat} {vs : List Value} {ns : List Int}
    (X : (Mine.pre.heap_1 w.params).In g) (T : Top topProg loose mean mg mb g) (B : Below callerA g [] g) (F : Fr g L s.heap (fun y => if y = Str.ofString "script" then some (.ref ls) else m y))
    (N : News g L s.heap ((L + 1, oc1) :: [(211, tabObj #[]), (204, tabObj #[])])) (hls : g.IsList ls vs.toArray) (hi : IntsAre vs ns) (hlen : ns.length ≤ 63) (l0 : 211 < L ∧ 204 < L)
    (dc1 : oc1.data = .cell none)
    (hret : ∀ h' tk ln vn cap n1 n2 n3, Fr g L h' (fun y => if y = Str.ofString "drawn" then some (.ref ln) else if y = Str.ofString "script" then some (.ref ls) else m y) → News g L h' ((ln, W.listOf (List.toArray vn) cap) :: (L + 1, oc1) :: [(211, tabObj #[]), (204, tabObj #[])]) →
      IntsAre vn [n1, n2, n3] → @LT.lt Nat instLTNat (L + 1) ln → wpAny (model PySem.Challenge.rw_re0161_03.row.prog w) (callerA.deeper (envOfC (Str.ofString "law") lawScope L fa cd)) (execs (lawBody.drop 1) (envOfC (Str.ofString "law") lawScope L fa cd)) Q E { s with heap := h', toks := tk }) :
    wpAny (model PySem.Challenge.rw_re0161_03.row.prog w) (callerA.deeper (envOfC (Str.ofString "law") lawScope L fa cd)) (execs lawBody (envOfC (Str.ofString "law") lawScope L fa cd)) Q E s := by
  generalize hsc : lawScope = sc at *
  conv at hsc => lhs; whnf
  subst hsc
  refine cut1 (fun s' => ∃ ln vn cap h tk n1 n2 n3, s' = { s with heap := h, toks := tk } ∧ Fr g L h (fun y => if y = Str.ofString "drawn" then some (.ref ln) else if y = Str.ofString "script" then some (.ref ls) else m y) ∧ News g L h ((ln, W.listOf (List.toArray vn) cap) :: (L + 1, oc1) :: [(211, tabObj #[]), (204, tabObj #[])]) ∧
     IntsAre vn [n1, n2, n3] ∧ @LT.lt Nat instLTNat (L + 1) ln) ?_ ?_
  · rcases hi with _ | ⟨n1, t1, hi⟩
    · k_steps
      all_goals try trivial
      refine ⟨?_⟩
      rename_i D9 _ l9 _ F9 N9
      obtain ⟨ol, hol, N8⟩ := news_head N9
      have N7 := news_sub (news := (D9, ol) :: (L + 1, oc1) :: [(211, tabObj #[]), (204, tabObj #[])]) N8 (by walk_at "mine sub")
      subst hol
      exact ⟨D9, _, 0, _, _, 698, 32, 118, rfl, F9, N7, .cons _ _ (.cons _ _ (.cons _ _ .nil)), by omega⟩
    rcases hi with _ | ⟨n2, t2, hi⟩
    · k_steps
      all_goals try trivial
      refine ⟨?_⟩
      rename_i D9 _ l9 _ F9 N9
      obtain ⟨ol, hol, N8⟩ := news_head N9
      have N7 := news_sub (news := (D9, ol) :: (L + 1, oc1) :: [(211, tabObj #[]), (204, tabObj #[])]) N8 (by walk_at "mine sub")
      subst hol
      exact ⟨D9, _, 0, _, _, n1, 32, 118, rfl, F9, N7, .cons _ _ (.cons _ _ (.cons _ _ .nil)), by omega⟩
    rcases hi with _ | ⟨n3, t3, hi⟩
    · k_steps
      all_goals try trivial
      refine ⟨?_⟩
      rename_i D9 _ l9 _ F9 N9
      obtain ⟨ol, hol, N8⟩ := news_head N9
      have N7 := news_sub (news := (D9, ol) :: (L + 1, oc1) :: [(211, tabObj #[]), (204, tabObj #[])]) N8 (by walk_at "mine sub")
      subst hol
      exact ⟨D9, _, 0, _, _, n1, n2, 118, rfl, F9, N7, .cons _ _ (.cons _ _ (.cons _ _ .nil)), by omega⟩
    · have hsz := IntsAre_len hi
      simp only [List.length_cons] at hlen
      k_steps
      all_goals try trivial
      refine ⟨?_⟩
      rename_i D9 _ l9 _ F9 N9
      obtain ⟨ol, hol, N8⟩ := news_head N9
      have N7 := news_sub (news := (D9, ol) :: (L + 1, oc1) :: [(211, tabObj #[]), (204, tabObj #[])]) N8 (by walk_at "mine sub")
      subst hol
      exact ⟨D9, _, 0, _, _, n1, n2, n3, rfl, F9, N7, .cons _ _ (.cons _ _ (.cons _ _ .nil)), by omega⟩
  · rintro s' ⟨ln, vn, cap, h, tk, n1, n2, n3, rfl, F2, N2, hin, lln⟩
    exact hret _ _ _ _ _ _ _ _ F2 N2 hin lln
end
section
local macro_rules | `(tactic| walk_at "mine 0") => Lean.Macro.throwUnsupported
theorem law3_2 {w : World} {loose : List PySem.Str} {mean : ExcName → Option Value} {mg mb m : PySem.Str → Option Value} {g : Heap} {L fa : Nat} {cd : Value} {s : Shared} {Q : Flow → Shared → Prop} {E : Value → Shared → Prop} {oc1 : Obj} {ln cap : Nat} {vn : List Value} {n1 n2 n3 : Int}
    (X : (Mine.pre.heap_1 w.params).In g) (T : Top topProg loose mean mg mb g) (XM : Flt.MathXP PySem.Challenge.rw_re0161_03.row.prog mg g) (B : Below callerA g [] g) (F : Fr g L s.heap (fun y => if y = Str.ofString "drawn" then some (.ref ln) else m y))
    (N : News g L s.heap ((ln, W.listOf (List.toArray vn) cap) :: (L + 1, oc1) :: [(211, tabObj #[]), (204, tabObj #[])])) (hin : IntsAre vn [n1, n2, n3]) (l0 : 211 < L ∧ 204 < L) (dc1 : oc1.data = .cell none) (lln : @LT.lt Nat instLTNat (L + 1) ln)
    (hret : ∀ h' tk o1 st ts F0 tf, Fr g L h' (fun y => if y = Str.ofString "step" then some (.int st ts) else if y = Str.ofString "drawn" then some (.ref ln) else m y) →
      News g L h' ((ln, W.listOf (List.toArray vn) cap) :: (L + 1, o1) :: [(211, tabObj #[]), (204, tabObj #[])]) →
      o1.data = .cell (some (.int ((F0 : Nat) : Int) tf)) → F0 = flags0 n1 n3 → st = n2.fmod 61 - 30 → wpAny (model PySem.Challenge.rw_re0161_03.row.prog w) (callerA.deeper (envOfC (Str.ofString "law") lawScope L fa cd)) (execs (lawBody.drop 3) (envOfC (Str.ofString "law") lawScope L fa cd)) Q E { s with heap := h', toks := tk }) :
    wpAny (model PySem.Challenge.rw_re0161_03.row.prog w) (callerA.deeper (envOfC (Str.ofString "law") lawScope L fa cd)) (execs (lawBody.drop 1) (envOfC (Str.ofString "law") lawScope L fa cd)) Q E s := by
  generalize hsc : lawScope = sc at *
  conv at hsc => lhs; whnf
  subst hsc
  rcases hin with _ | ⟨n1, t1, hin⟩
  rcases hin with _ | ⟨n2, t2, hin⟩
  rcases hin with _ | ⟨n3, t3, hin⟩
  cases hin
  refine cut1 (fun s' => ∃ h tk o1 F0 tf, s' = { s with heap := h, toks := tk } ∧ Fr g L h (fun y => if y = Str.ofString "drawn" then some (.ref ln) else m y) ∧ News g L h ((ln, W.listOf (List.toArray [Value.int n1 t1, .int n2 t2, .int n3 t3]) cap) :: (L + 1, o1) :: [(211, tabObj #[]), (204, tabObj #[])]) ∧
     o1.data = .cell (some (.int ((F0 : Nat) : Int) tf)) ∧ F0 = flags0 n1 n3) ?_ ?_
  · k_steps
    refine ⟨?_⟩
    rename _ = Data.cell _ => dc
    rename Obj => o9
    rename News _ _ _ _ => N9
    rename Fr _ _ _ _ => F9
    have e9 := flags0_cast (n1 := n1) (n3 := n3) (Int.fmod_nonneg_of_pos _ (by decide))
    exact ⟨_, _, o9, flags0 n1 n3, _, rfl, F9, N9, dc.trans (congrArg (fun x => Data.cell (some (Value.int x _))) e9), rfl⟩
  · rintro s' ⟨h, tk, o1, F0, tf, rfl, F2, N2, d2, eF⟩
    refine cut1 (fun s' => ∃ h tk st ts, s' = { s with heap := h, toks := tk } ∧ Fr g L h (fun y => if y = Str.ofString "step" then some (.int st ts) else if y = Str.ofString "drawn" then some (.ref ln) else m y) ∧ News g L h ((ln, W.listOf (List.toArray [Value.int n1 t1, .int n2 t2, .int n3 t3]) cap) :: (L + 1, o1) :: [(211, tabObj #[]), (204, tabObj #[])]) ∧
     st = n2.fmod 61 - 30) ?_ ?_
    · k_steps
      refine ⟨?_⟩
      exact ⟨_, _, _, _, rfl, by assumption, by assumption, rfl⟩
    · rintro s' ⟨h, tk, st, ts, rfl, F3, N3, es⟩
      exact hret _ _ _ _ _ _ _ F3 N3 d2 eF es
end
section
theorem law3_3 {w : World} {loose : List PySem.Str} {mean : ExcName → Option Value} {mg mb m : PySem.Str → Option Value} {g : Heap} {L fa : Nat} {cd : Value} {s : Shared} {Q : Flow → Shared → Prop} {E : Value → Shared → Prop} {o1 : Obj} {F0 : Nat} {tf : Tok} {rest : List (Addr × Obj)}
    (X : (Mine.pre.heap_1 w.params).In g) (T : Top topProg loose mean mg mb g) (XM : Flt.MathXP PySem.Challenge.rw_re0161_03.row.prog mg g) (B : Below callerA g [] g) (F : Fr g L s.heap m)
    (N : News g L s.heap ((L + 1, o1) :: rest)) (d1 : o1.data = .cell (some (.int (F0 : Int) tf))) (hF : F0 < 2 ^ 32)
    (hret : ∀ h' tk lp vp, Fr g L h' (fun y => if y = Str.ofString "places" then some (.ref lp) else m y) → News g L h' ((lp, LCg.lst vp) :: (L + 1, o1) :: rest) →
      IntsAre vp ((bitsB F0 32).map Int.ofNat) → (∀ p ∈ (L + 1, o1) :: rest, p.1 ≠ lp) → wpAny (model PySem.Challenge.rw_re0161_03.row.prog w) (callerA.deeper (envOfC (Str.ofString "law") lawScope L fa cd)) (execs (lawBody.drop 4) (envOfC (Str.ofString "law") lawScope L fa cd)) Q E { s with heap := h', toks := tk }) :
    wpAny (model PySem.Challenge.rw_re0161_03.row.prog w) (callerA.deeper (envOfC (Str.ofString "law") lawScope L fa cd)) (execs (lawBody.drop 3) (envOfC (Str.ofString "law") lawScope L fa cd)) Q E s := by
  generalize hsc : lawScope = sc at *
  conv at hsc => lhs; whnf
  subst hsc
  refine cut1 (fun s' => ∃ h tk lp vp, s' = { s with heap := h, toks := tk } ∧ Fr g L h (fun y => if y = Str.ofString "places" then some (.ref lp) else m y) ∧ News g L h ((lp, LCg.lst vp) :: (L + 1, o1) :: rest) ∧
     IntsAre vp ((bitsB F0 32).map Int.ofNat) ∧ ∀ p ∈ (L + 1, o1) :: rest, p.1 ≠ lp) ?_ ?_
  · k_steps
    refine ⟨?_⟩
    refine LCt.CompSrcT.range (n := 32) rfl (by k_asm) (by k_asm) (by assumption) (by decide) (by decide) (by rw [sizeLine_eq]; decide) ?_
    intro g3
    refine comp_invT (fun i ys nx => ((L + 1, o1) :: rest) = nx ∧ IntsAre ys ((bitsB F0 i).map Int.ofNat)) ⟨rfl, .nil⟩ ?_ ?_
    · rintro k ys nx v I3 oI3 C3 oC3 D3 m3 h3 tk3 E3 hk ⟨hnx, hys⟩ ⟨t3, rfl⟩ hC hx F3 N3 off ne
      subst hnx
      k_steps
      · rename _ = (1 : Int) => hbit
        refine ⟨_, _, _, rfl, by assumption, by assumption, off, trivial, rfl, ?_⟩
        rw [bitsB_succ, (bit_any F0 k).mp hbit, if_pos rfl, Int.zero_add]
        exact ints_snoc hys k t3
      · rename _ ≠ (1 : Int) => hbit
        refine ⟨_, _, _, rfl, by assumption, by assumption, off, trivial, rfl, ?_⟩
        rw [bitsB_succ, if_neg (fun h => hbit ((bit_any F0 k).mpr h)), List.append_nil]
        exact hys
    · rintro ys nx ⟨hnx, hys⟩
      subst hnx
      k_steps
      refine ⟨?_⟩
      rename _ ∧ LCg.Off1 _ _ => o9
      exact ⟨_, _, _, ys, rfl, by assumption, by assumption, hys, off1_mem o9⟩
  · rintro s' ⟨h, tk, lp, vp, rfl, F2, N2, hvp, hne⟩
    exact hret _ _ _ _ F2 N2 hvp hne
end
section
local macro_rules | `(tactic| walk_at "call builtin:str.split") => `(tactic| (refine Hold.out ?_))
theorem law3_4 {w : World} {loose : List PySem.Str} {mean : ExcName → Option Value} {mg mb m : PySem.Str → Option Value} {g : Heap} {L fa : Nat} {cd : Value} {s : Shared} {Q : Flow → Shared → Prop} {E : Value → Shared → Prop} {o1 : Obj} {F0 : Nat} {tf : Tok} {rest : List (Addr × Obj)}
    (X : (Mine.pre.heap_1 w.params).In g) (T : Top topProg loose mean mg mb g) (XM : Flt.MathXP PySem.Challenge.rw_re0161_03.row.prog mg g) (B : Below callerA g [] g) (F : Fr g L s.heap m)
    (N : News g L s.heap ((L + 1, o1) :: rest)) (d1 : o1.data = .cell (some (.int (F0 : Int) tf))) (hF : F0 < 2 ^ 32) (hF0 : F0 ≠ 0)
    (hret : ∀ h' tk lw vw, Fr g L h' (fun y => if y = Str.ofString "words" then some (.ref lw) else m y) → News g L h' ((lw, W.listOf (List.toArray vw) 0) :: (L + 1, o1) :: rest) →
      StrsAre vw ((bitsB F0 32).map W) → (∀ p ∈ (L + 1, o1) :: rest, p.1 < lw) → wpAny (model PySem.Challenge.rw_re0161_03.row.prog w) (callerA.deeper (envOfC (Str.ofString "law") lawScope L fa cd)) (execs (lawBody.drop 5) (envOfC (Str.ofString "law") lawScope L fa cd)) Q E { s with heap := h', toks := tk }) :
    wpAny (model PySem.Challenge.rw_re0161_03.row.prog w) (callerA.deeper (envOfC (Str.ofString "law") lawScope L fa cd)) (execs (lawBody.drop 4) (envOfC (Str.ofString "law") lawScope L fa cd)) Q E s := by
  generalize hsc : lawScope = sc at *
  conv at hsc => lhs; whnf
  subst hsc
  refine cut1 (fun s' => ∃ h tk lw vw, s' = { s with heap := h, toks := tk } ∧ Fr g L h (fun y => if y = Str.ofString "words" then some (.ref lw) else m y) ∧ News g L h ((lw, W.listOf (List.toArray vw) 0) :: (L + 1, o1) :: rest) ∧
     StrsAre vw ((bitsB F0 32).map W) ∧ ∀ p ∈ (L + 1, o1) :: rest, p.1 < lw) ?_ ?_
  · k_steps
    refine ⟨?_⟩
    refine pf_con (e := (F0 : Int)) (by k_asm) (by k_asm) (by k_asm) (by k_asm) (by k_asm) (by k_asm) rfl ⟨Int.natCast_nonneg _, by omega⟩ (by ktr_room) (by ktr_units) ?_
    intro r1 nw1 h1 tk1 F1 N1 ⟨⟨t1, e1⟩, e2⟩
    subst e1 e2
    have epf : pf (F0 : Int).toNat = Txt.join (Str.ofString ", ") ((bitsB F0 32).map W) := by rw [Int.toNat_natCast]; unfold pf pfNames; rw [if_neg hF0]
    have hps : ∀ p ∈ bitsB F0 32, p < 32 := fun p hp => List.mem_range.mp (List.mem_filter.mp hp).1
    have hbl : (bitsB F0 32).length ≤ 32 := Nat.le_trans (List.length_filter_le _ _) (by rw [List.length_range]; exact Nat.le_refl _)
    have hbn : bitsB F0 32 ≠ [] := bits_ne hF hF0
    rw [epf]
    k_steps
    refine ⟨?_⟩
    refine KSpl.split1 (by k_asm) (by k_asm) (by decide) ?_ (by have := told_len hps hbl; rw [sizeLine_eq]; omega)
    intro D l h3 k3 el hsl F3 N3 l3
    rw [split_words hbn hps] at el
    rw [el] at hsl
    generalize hvs : strValues l = vs at *
    k_steps
    all_goals try trivial
    refine ⟨?_⟩
    exact ⟨_, _, D, vs, rfl, by assumption, by assumption, hsl, l3⟩
  · rintro s' ⟨h, tk, lw, vw, rfl, F2, N2, hvw, hne⟩
    exact hret _ _ _ _ F2 N2 hvw hne
end
section
local macro_rules | `(tactic| walk_at "mine 0") => Lean.Macro.throwUnsupported
local macro_rules | `(tactic| walk_at "compareOp NotEq ref ref") => `(tactic| (refine Hold.out ?_))
theorem law3_5 {w : World} {loose : List PySem.Str} {mean : ExcName → Option Value} {mg mb m : PySem.Str → Option Value} {g : Heap} {L fa : Nat} {cd : Value} {s : Shared} {Q : Flow → Shared → Prop} {E : Value → Shared → Prop} {F0 lp lw : Nat} {vp vw : List Value} {rest : List (Addr × Obj)}
    (X : (Mine.pre.heap_1 w.params).In g) (T : Top topProg loose mean mg mb g) (XM : Flt.MathXP PySem.Challenge.rw_re0161_03.row.prog mg g) (B : Below callerA g [] g) (F : Fr g L s.heap m)
    (N : News g L s.heap ((lw, W.listOf (List.toArray vw) 0) :: (lp, LCg.lst vp) :: rest)) (hvp : IntsAre vp ((bitsB F0 32).map Int.ofNat)) (hvw : StrsAre vw ((bitsB F0 32).map W))
    (hm1 : m (Str.ofString "words") = some (.ref lw)) (hm2 : m (Str.ofString "places") = some (.ref lp))
    (hret : ∀ h' tk, Fr g L h' m → News g L h' ((lw, W.listOf (List.toArray vw) 0) :: (lp, LCg.lst vp) :: rest) → wpAny (model PySem.Challenge.rw_re0161_03.row.prog w) (callerA.deeper (envOfC (Str.ofString "law") lawScope L fa cd)) (execs (lawBody.drop 6) (envOfC (Str.ofString "law") lawScope L fa cd)) Q E { s with heap := h', toks := tk }) :
    wpAny (model PySem.Challenge.rw_re0161_03.row.prog w) (callerA.deeper (envOfC (Str.ofString "law") lawScope L fa cd)) (execs (lawBody.drop 5) (envOfC (Str.ofString "law") lawScope L fa cd)) Q E s := by
  generalize hsc : lawScope = sc at *
  conv at hsc => lhs; whnf
  subst hsc
  have hps : ∀ p ∈ bitsB F0 32, p < 32 := fun p hp => List.mem_range.mp (List.mem_filter.mp hp).1
  have hbl : (bitsB F0 32).length ≤ 32 := Nat.le_trans (List.length_filter_le _ _) (by rw [List.length_range]; exact Nat.le_refl _)
  rw [know hm1, know hm2] at F
  refine cut1 (fun s' => ∃ h tk, s' = { s with heap := h, toks := tk } ∧ Fr g L h m ∧ News g L h ((lw, W.listOf (List.toArray vw) 0) :: (lp, LCg.lst vp) :: rest)) ?_ ?_
  · k_steps
    refine ⟨?_⟩
    have hpl : vp.length = (bitsB F0 32).length := by rw [IntsAre_len hvp, List.length_map]
    refine LCg.CompSrc.ledger rfl (by k_asm) (by k_asm) (List.mem_cons_of_mem _ (List.mem_cons_self ..)) (by rw [List.size_toArray, hpl, sizeLine_eq]; omega) ?_
    intro g3
    refine comp_inv (fun i ys nx => ((lw, W.listOf (List.toArray vw) 0) :: (lp, LCg.lst vp) :: rest) = nx ∧ StrsAre ys (((bitsB F0 32).take i).map W)) ⟨rfl, .nil⟩ ?_ ?_
    · rintro i ys nx v I oI C oC D' m₂ h tk E' hin ⟨hnx, hys⟩ hv hC hx F3 N3 off ne
      subst hnx
      have hin' : i < (bitsB F0 32).length := by rw [List.size_toArray, hpl] at hin; exact hin
      obtain ⟨tv, hv2⟩ := IntsAre_get hvp i (by simpa using hin')
      rw [List.getElem?_toArray, hv2] at hv
      cases hv
      simp only [List.getElem_map] at hx
      have hrow := hps _ (List.getElem_mem hin')
      have hnext : ((bitsB F0 32).take (i + 1)).map W = ((bitsB F0 32).take i).map W ++ [W (bitsB F0 32)[i]] := by rw [List.take_add_one, List.getElem?_eq_getElem hin', List.map_append]; rfl
      generalize (bitsB F0 32)[i] = row at *
      k_steps
      refine ⟨?_⟩
      refine lword_con (p := row) (by k_asm) (by k_asm) (by k_asm) (by k_asm) (by k_asm) (by k_asm) rfl hrow (by ktr_room) (by ktr_units) ?_
      intro r2 nw2 h2 tk2 F2 N2 hp2
      obtain ⟨⟨t2, e1⟩, e2⟩ := hp2
      subst e1 e2
      refine ⟨_, _, _, rfl, by assumption, by assumption, off, .inr ⟨_, List.mem_cons_of_mem _ (List.mem_cons_self ..), rfl, _, rfl⟩, rfl, ?_⟩
      rw [hnext]
      exact strsAre_snoc hys _ _
    · rintro ys nx ⟨hnx, hys⟩
      subst hnx
      rw [List.size_toArray, hpl, List.take_length] at hys
      k_steps
      refine ⟨?_⟩
      rename News _ _ _ _ => N8
      refine ne_strs (vs := vw) (ws := ys) (nb := ys.length) N8 (List.mem_cons_of_mem _ (List.mem_cons_self ..)) (List.mem_cons_self ..) hvw hys (fun y hy => by obtain ⟨p, hp, rfl⟩ := List.mem_map.mp hy; exact W_ok p (hps p hp)) (by ke_room) ?_
      k_steps
      all_goals try trivial
      refine ⟨?_⟩
      exact ⟨_, _, rfl, fr_back hm2 (fr_back (x := Str.ofString "words") (v := .ref lw) (m := fun y => if y = Str.ofString "places" then some (.ref lp) else m y) (by rw [if_neg (by decide)]; exact hm1) (by assumption)), news_sub (by assumption) fun p hp => List.mem_cons_of_mem _ hp⟩
  · rintro s' ⟨h, tk, rfl, F2, N2⟩
    exact hret _ _ F2 N2
end
section
local macro_rules | `(tactic| walk_at "exec For Tuple Name cons nil") => `(tactic| (refine Hold.out ?_))
theorem news_gen {h₀ h : Heap} {L : Addr} {news : List (Addr × Obj)} (N : News h₀ L h news) : ∃ n, n = news ∧ News h₀ L h n := ⟨_, rfl, N⟩
theorem law3_6 {w : World} {loose : List PySem.Str} {mean : ExcName → Option Value} {mg mb m : PySem.Str → Option Value} {g : Heap} {L fa : Nat} {cd : Value} {s : Shared} {Q : Flow → Shared → Prop} {E : Value → Shared → Prop} {rest : List (Addr × Obj)}
    (X : (Mine.pre.heap_1 w.params).In g) (T : Top topProg loose mean mg mb g) (XM : Flt.MathXP PySem.Challenge.rw_re0161_03.row.prog mg g) (B : Below callerA g [] g) (F : Fr g L s.heap m) (N : News g L s.heap rest)
    (hret : ∀ h' tk x d tkk hl ll, Fr g L h' (fun y => if y = Str.ofString "laid" then some (.ref ll) else if y = Str.ofString "table" then some (.ref x) else m y) →
     News g L h' ((ll, W.listOf #[] 0) :: (hl, W.listOf #[] 0) :: (x, instObj 184 d) :: (d, hdrDict w.params tkk hl) :: rest) → AllLt d rest → @LT.lt Nat instLTNat d x → @LT.lt Nat instLTNat x hl → @LT.lt Nat instLTNat hl ll →
     wpAny (model PySem.Challenge.rw_re0161_03.row.prog w) (callerA.deeper (envOfC (Str.ofString "law") lawScope L fa cd)) (execs (lawBody.drop 8) (envOfC (Str.ofString "law") lawScope L fa cd)) Q E { s with heap := h', toks := tk }) :
    wpAny (model PySem.Challenge.rw_re0161_03.row.prog w) (callerA.deeper (envOfC (Str.ofString "law") lawScope L fa cd)) (execs (lawBody.drop 6) (envOfC (Str.ofString "law") lawScope L fa cd)) Q E s := by
  generalize hsc : lawScope = sc at *
  conv at hsc => lhs; whnf
  subst hsc
  refine cut1 (fun s' => ∃ h tk x d tkk hl, s' = { s with heap := h, toks := tk } ∧ Fr g L h (fun y => if y = Str.ofString "table" then some (.ref x) else m y) ∧
     News g L h ((hl, W.listOf #[] 0) :: (x, instObj 184 d) :: (d, hdrDict w.params tkk hl) :: rest) ∧ AllLt d rest ∧ @LT.lt Nat instLTNat d x ∧ @LT.lt Nat instLTNat x hl) ?_ ?_
  · k_steps
    all_goals try trivial
    refine ⟨?_⟩
    rename_i l9 _ _ _ _ _ F9 N9
    obtain ⟨mE, hmE, FE⟩ := fr_gen F9
    obtain ⟨nE, hnE, NE⟩ := news_gen N9
    have hl9 := list_at N9 (List.mem_cons_self ..)
    have hlg := (N9 _ (List.mem_cons_self ..)).1
    have hlL := (N9 _ (List.mem_cons_self ..)).2.1
    refine For_turns (by assumption) ?_
    clear F9 N9
    have e1 : mE (Str.ofString "headers") = some (.ref l9) := by rw [hmE]; rfl
    rw [know e1] at FE
    k_steps
    refine list_T (vs := []) (fun _ m₁ nx => m₁ = mE ∧ nx = nE) rfl hl9 hlL (by rw [← know e1] at FE; exact FE) NE ⟨rfl, rfl⟩ ?_ ?_ ?_
    · rintro _ _ nx h _ ⟨_, e⟩ _ N₂
      rw [e, hnE] at N₂
      exact (N₂ _ (List.mem_cons_self ..)).1.trans hlg.symm
    · rintro i v _ _ _ _ _ _ hv
      simp at hv
    · rintro m₁ nx h tk₁ ⟨em, en⟩ F₁ N₁
      rw [em, know e1] at F₁
      rw [en, hnE] at N₁
      clear hnE hmE em en NE FE
      k_steps
      rename_i F9 N9
      refine ⟨_, _, _, _, _, l9, rfl, F9, N9, ?_, ?_, ?_⟩
      · exact allLt_of (by assumption)
      · assumption
      · rename _ ∧ _ => l1_9
        exact l1_9.1
  · rintro s' ⟨h, tk, x, d, tkk, hl, rfl, F2, N2, hb1, hb2, hb3⟩
    refine cut1 (fun s' => ∃ h tk ll, s' = { s with heap := h, toks := tk } ∧ Fr g L h (fun y => if y = Str.ofString "laid" then some (.ref ll) else if y = Str.ofString "table" then some (.ref x) else m y) ∧
     News g L h ((ll, W.listOf #[] 0) :: (hl, W.listOf #[] 0) :: (x, instObj 184 d) :: (d, hdrDict w.params tkk hl) :: rest) ∧ @LT.lt Nat instLTNat hl ll) ?_ ?_
    · k_steps
      all_goals try trivial
      rename _ ∧ _ => l1_9
      refine ⟨?_⟩
      exact ⟨_, _, _, rfl, by assumption, by assumption, l1_9.1⟩
    · rintro s' ⟨h4, tk4, ll, rfl, F4, N4, hb4⟩
      exact hret _ _ _ _ _ _ _ F4 N4 hb1 hb2 hb3 hb4
end
section
local macro_rules | `(tactic| walk_at "mine 0") => Lean.Macro.throwUnsupported
local macro_rules | `(tactic| walk_at $k:str) => if k.getString ∈ ["eval IfExp", "call builtin:list.append", "call builtin:str.swapcase"] then `(tactic| (refine Hold.out ?_)) else Lean.Macro.throwUnsupported
set_option maxHeartbeats 4000000 in
theorem law3_8 {w : World} {loose : List PySem.Str} {mean : ExcName → Option Value} {mg mb m : PySem.Str → Option Value} {g : Heap} {L fa : Nat} {cd : Value} {s : Shared} {Q : Flow → Shared → Prop} {E : Value → Shared → Prop} {lp lw ln hl ll x d cap cw cp : Nat} {vp vw : List Value} {tkk : Tok} {n1 n2 n3 : Int} {t1 t2 t3 : Tok} {P : List Nat} {rest : List (Addr × Obj)}
    (X : (Mine.pre.heap_1 w.params).In g) (T : Top topProg loose mean mg mb g) (XM : Flt.MathXP PySem.Challenge.rw_re0161_03.row.prog mg g) (B : Below callerA g [] g) (F : Fr g L s.heap m) (N : News g L s.heap ((ll, W.listOf #[] 0) :: (hl, W.listOf #[] 0) :: (x, instObj 184 d) :: (d, hdrDict w.params tkk hl) :: (lw, W.listOf (List.toArray vw) cw) :: (lp, W.listOf (List.toArray vp) cp) :: (ln, W.listOf (List.toArray [Value.int n1 t1, .int n2 t2, .int n3 t3]) cap) :: rest))
    (hE : PassesOwn (model PySem.Challenge.rw_re0161_03.row.prog w) (callerA.deeper (envOfC (Str.ofString "law") lawScope L fa cd)) (envOfC (Str.ofString "law") lawScope L fa cd) E) (hb1 : ∀ p ∈ (lw, W.listOf (List.toArray vw) cw) :: (lp, W.listOf (List.toArray vp) cp) :: (ln, W.listOf (List.toArray [Value.int n1 t1, .int n2 t2, .int n3 t3]) cap) :: rest, @LT.lt Nat instLTNat p.1 d) (hb2 : @LT.lt Nat instLTNat d x) (hb3 : @LT.lt Nat instLTNat x hl) (hb4 : @LT.lt Nat instLTNat hl ll) (hdis : ∀ q ∈ rest, lw ≠ q.1 ∧ ln ≠ q.1) (hP : Plc P) (hPl : P.length ≤ 10) (hvp : IntsAre vp (P.map Int.ofNat)) (hvw : StrsAre vw (P.map Mine.W))
    (hm1 : m (Str.ofString "words") = some (.ref lw)) (hm2 : m (Str.ofString "places") = some (.ref lp)) (hm3 : m (Str.ofString "drawn") = some (.ref ln)) (hm4 : m (Str.ofString "laid") = some (.ref ll)) (hm5 : m (Str.ofString "table") = some (.ref x))
    (hret : ∀ h' tk m' vl vst tl, Fr g L h' m' → (∀ y, y ≠ Str.ofString "k" → y ≠ Str.ofString "name" → m' y = m y) →
      News g L h' ((hl, W.listOf (List.toArray vst) P.length) :: (ll, W.listOf (List.toArray vl) P.length) :: (x, instObj 184 d) :: (d, hdrDict w.params tkk hl) :: (lp, W.listOf (List.toArray vp) cp) :: (tl ++ rest)) →
      StrsAre vl ((List.range P.length).map (nm n3 P)) → Rows tl vst (rowsOf n3 P (List.range P.length)) → (∀ p ∈ tl, p.1 ≠ hl ∧ ∀ q ∈ rest, p.1 ≠ q.1) → wpAny (model PySem.Challenge.rw_re0161_03.row.prog w) (callerA.deeper (envOfC (Str.ofString "law") lawScope L fa cd)) (execs (lawBody.drop 9) (envOfC (Str.ofString "law") lawScope L fa cd)) Q E { s with heap := h', toks := tk }) :
    wpAny (model PySem.Challenge.rw_re0161_03.row.prog w) (callerA.deeper (envOfC (Str.ofString "law") lawScope L fa cd)) (execs (lawBody.drop 8) (envOfC (Str.ofString "law") lawScope L fa cd)) Q E s := by
  generalize hsc : lawScope = sc at *
  conv at hsc => lhs; whnf
  subst hsc
  have hwl : vw.length = P.length := by rw [strsAre_len hvw, List.length_map]
  have hpl : vp.length = P.length := by rw [IntsAre_len hvp, List.length_map]
  refine cut1 (fun s' => ∃ h tk m' vl vst tl, s' = { s with heap := h, toks := tk } ∧ Fr g L h m' ∧ (∀ y, y ≠ Str.ofString "k" → y ≠ Str.ofString "name" → m' y = m y) ∧
      News g L h ((hl, W.listOf (List.toArray vst) P.length) :: (ll, W.listOf (List.toArray vl) P.length) :: (x, instObj 184 d) :: (d, hdrDict w.params tkk hl) :: (lp, W.listOf (List.toArray vp) cp) :: (tl ++ rest)) ∧
      StrsAre vl ((List.range P.length).map (nm n3 P)) ∧ Rows tl vst (rowsOf n3 P (List.range P.length)) ∧ ∀ p ∈ tl, p.1 ≠ hl ∧ ∀ q ∈ rest, p.1 ≠ q.1) ?_ ?_
  · rw [know hm1] at F
    k_steps
    refine ⟨?_⟩
    refine For_X (by assumption) (by rfl) (by rfl) ?_ (hE := hE)
    k_steps
    refine len_M (vs := vw) (nn := cw) (by k_asm) (by k_mem) (by rw [hwl]; exact Nat.lt_of_le_of_lt hPl (by decide)) ?_
    intro _ _
    rw [hwl]
    k_steps
    have hrg := range_small P.length (Nat.lt_succ_of_le hPl)
    refine range_X (fun i m₁ nx => ∃ vl vst tl, (∀ y, y ≠ Str.ofString "k" → y ≠ Str.ofString "name" → m₁ y = m y) ∧
      ((hl, W.listOf (List.toArray vst) i) :: (ll, W.listOf (List.toArray vl) i) :: (x, instObj 184 d) :: (d, hdrDict w.params tkk hl) :: (lw, W.listOf (List.toArray vw) cw) :: (lp, W.listOf (List.toArray vp) cp) :: (ln, W.listOf (List.toArray [Value.int n1 t1, .int n2 t2, .int n3 t3]) cap) :: (tl ++ rest)) = nx ∧
      StrsAre vl ((List.range i).map (nm n3 P)) ∧ Rows tl vst (rowsOf n3 P (List.range i)) ∧ (∀ p ∈ tl, @LT.lt Nat instLTNat ll p.1 ∧ @LT.lt Nat instLTNat hl p.1)) (n := P.length) rfl (by assumption) hrg.1 hrg.2 (by assumption) (news_sub (by assumption) (by walk_at "mine sub"))
      ⟨[], [], [], fun y _ _ => (congrFun (know hm1) y).symm, rfl, .nil, .nil, fun p hp => nomatch hp⟩ ?_ ?_
    · rintro i t m₁ nx h tk I it hi ⟨vl, vst, tl, hm', hnx, hvl, hr, htl⟩ hI hic F₁ N₁
      subst hnx
      have q1 := (hm' (Str.ofString "words") (by decide) (by decide)).trans hm1
      have q2 := (hm' (Str.ofString "places") (by decide) (by decide)).trans hm2
      have q3 := (hm' (Str.ofString "drawn") (by decide) (by decide)).trans hm3
      have q4 := (hm' (Str.ofString "laid") (by decide) (by decide)).trans hm4
      have q5 := (hm' (Str.ofString "table") (by decide) (by decide)).trans hm5
      have hch := Hold.mk (chain5 q1 q2 q3 q4 q5)
      rw [hch.out] at F₁
      clear q1 q2 q3 q4 q5
      rw [Int.zero_add] at F₁
      have hvl2 := strsAre_len hvl
      have hr2 := hr.len
      have hwx : Txl ((List.map Mine.W P).getD (i : Int).toNat Str.empty) := by rw [word_at hi]; exact W_txl _ (hP.at hi)
      k_steps
      refine ⟨?_⟩
      refine wp_cut (fun v => ∃ t, v = .str (nm n3 P i) t) ?_ ?_
      · refine IfExp_ ?_
        k_steps
        · rename _ = (1 : Int) => hb
          have hb : ((n3.fdiv 23).fdiv (2 ^ i)).fmod 2 = 1 := hb
          exact CutP.of ⟨_, congrArg (fun x => Value.str x _) (by rw [word_at hi]; unfold nm; rw [if_pos hb])⟩
        · rename _ ≠ (1 : Int) => hb
          have hb : ¬ ((n3.fdiv 23).fdiv (2 ^ i)).fmod 2 = 1 := hb
          exact CutP.of ⟨_, congrArg (fun x => Value.str x _) (by rw [word_at hi]; unfold nm; rw [if_neg hb])⟩
      rintro _ tk5 ⟨t5, rfl⟩
      clear hwx
      have hnx := nm_txl (n3 := n3) hP hi
      have hnum := num_txl hP hi
      k_steps
      refine ⟨?_⟩
      rename News _ _ _ _ => N2
      rename Fr _ _ _ _ => F2
      have offl : ∀ p ∈ (x, instObj 184 d) :: (d, hdrDict w.params tkk hl) :: (lw, W.listOf (List.toArray vw) cw) :: (lp, W.listOf (List.toArray vp) cp) :: (ln, W.listOf (List.toArray [Value.int n1 t1, .int n2 t2, .int n3 t3]) cap) :: (tl ++ rest), p.1 ≠ ll := fun p hp => by
        rcases List.mem_cons.mp hp with rfl | hp
        · exact Nat.ne_of_lt (Nat.lt_trans hb3 hb4)
        rcases List.mem_cons.mp hp with rfl | hp
        · exact Nat.ne_of_lt (Nat.lt_trans hb2 (Nat.lt_trans hb3 hb4))
        rcases mem_mid hp with hp | hp
        · exact Nat.ne_of_gt (htl p hp).1
        · exact Nat.ne_of_lt (Nat.lt_trans (hb1 p hp) (Nat.lt_trans hb2 (Nat.lt_trans hb3 hb4)))
      have hll : @Ne Nat ll I := hI (ll, W.listOf (List.toArray vl) i) (by simp)
      refine append_C F2 N2 (.tail (Ne.symm hll) (.tail ?_ (.head ?_))) (by rw [hvl2, List.length_map, List.length_range]; omega) ?_
      · exact Nat.ne_of_lt hb4
      · exact offl
      intro h3 F3 N3
      have hpi := hP.at hi
      k_steps
      rw [place_at hi]
      k_steps
      refine ⟨?_⟩
      have hlI : @Ne Nat hl I := hI (hl, W.listOf (List.toArray vst) i) (by simp)
      have hRt : ∀ j ∈ List.range i, j < P.length := fun j hj => Nat.lt_trans (List.mem_range.mp hj) hi
      have N4 := news_sub (news := (hl, W.listOf (List.toArray vst) i) :: (I, it) :: (ll, W.listOf (List.toArray (vl ++ [Value.str (nm n3 P i) t5])) (i + 1)) :: (x, instObj 184 d) :: (d, hdrDict w.params tkk hl) :: (lw, W.listOf (List.toArray vw) cw) :: (lp, W.listOf (List.toArray vp) cp) :: (ln, W.listOf (List.toArray [Value.int n1 t1, .int n2 t2, .int n3 t3]) cap) :: (tl ++ rest)) N3 (by walk_at "mine sub")
      clear N3
      have offh : ∀ p ∈ (I, it) :: (ll, W.listOf (List.toArray (vl ++ [Value.str (nm n3 P i) t5])) (i + 1)) :: (x, instObj 184 d) :: (d, hdrDict w.params tkk hl) :: (lw, W.listOf (List.toArray vw) cw) :: (lp, W.listOf (List.toArray vp) cp) :: (ln, W.listOf (List.toArray [Value.int n1 t1, .int n2 t2, .int n3 t3]) cap) :: (tl ++ rest), p.1 ≠ hl := by
        intro p hp
        rcases List.mem_cons.mp hp with rfl | hp
        · exact Ne.symm hlI
        rcases List.mem_cons.mp hp with rfl | hp
        · exact Nat.ne_of_gt hb4
        rcases List.mem_cons.mp hp with rfl | hp
        · exact Nat.ne_of_lt hb3
        rcases List.mem_cons.mp hp with rfl | hp
        · exact Nat.ne_of_lt (Nat.lt_trans hb2 hb3)
        rcases mem_mid hp with hp | hp
        · exact Nat.ne_of_gt (htl p hp).2
        · exact Nat.ne_of_lt (Nat.lt_trans (hb1 p hp) (Nat.lt_trans hb2 hb3))
      refine setd_con (vs := vst) (nl := i) (ps := rowsOf n3 P (List.range i)) (t := x) (d := d) (hl := hl) (tkk := tkk) (by k_asm) (by k_asm) (by k_asm) (by k_asm) (by k_asm) (by k_asm) rfl
        ⟨by walk_at "mine mem", by walk_at "mine mem", by rw [hr2]; unfold rowsOf; rw [List.length_map, List.length_range]; omega, hr.mono fun p hp => by walk_at "mine mem", offh, hnx, hnum⟩ (by ktr_room) (by ktr_units) ?_
      intro r5 nw5 h5 tk6 F5 N5 e5
      rw [get_none hP hRt hi (by simp)] at e5
      obtain ⟨e5, a', f5, hla, hlb⟩ := e5
      subst e5 f5
      k_steps
      rw [place_at hi]
      k_steps
      · rename (_ != _) = true => hne
        exact absurd hne (by simp)
      refine ⟨?_⟩
      refine swap_T hnx ?_
      intro k7 t7
      k_steps
      refine ⟨?_⟩
      rename News _ _ _ _ => N6
      have hRt2 : ∀ j ∈ List.range (i + 1), j < P.length := fun j hj => Nat.lt_of_lt_of_le (List.mem_range.mp hj) hi
      have R6 : Rows ((a', tupObj [.str (nm n3 P i) t5, .str (Str.ofString (toString ((P.getD i 0 : Nat) : Int))) (tk5 + 1)]) :: tl) (vst ++ [Value.ref a']) (rowsOf n3 P (List.range (i + 1))) := by
        rw [rows_succ]; exact (hr.mono fun p hp => List.mem_cons_of_mem _ hp).snoc (v := numS (P.getD i 0)) (List.mem_cons_self ..) hnx hnum
      refine setd_con (vs := vst ++ [Value.ref a']) (nl := i + 1) (ps := rowsOf n3 P (List.range (i + 1))) (t := x) (d := d) (hl := hl) (tkk := tkk) (by k_asm) (by k_asm) (by k_asm) (by k_asm) (by k_asm) (by k_asm) rfl
        ⟨by walk_at "mine mem", by walk_at "mine mem", by rw [List.length_append, hr2]; unfold rowsOf; rw [List.length_map, List.length_range]; simp; omega, R6.mono fun p hp => ?_, ?_, hnx.swap, txl_no⟩ (by ktr_room) (by ktr_units) ?_
      · rcases List.mem_cons.mp hp with rfl | hp
        · exact .head _
        · walk_at "mine mem"
      · intro p hp
        rcases List.mem_cons.mp hp with rfl | hp
        · exact Nat.ne_of_gt hla
        exact offh p hp
      intro r8 nw8 h8 tk8 F8 N8 e8
      rw [hget_swap hnx, get_some hP hRt2 hi (by simp)] at e8
      obtain ⟨⟨u8, e8⟩, f8⟩ := e8
      subst e8 f8
      k_steps
      rw [place_at hi]
      k_steps
      · rename (_ != _) = true => hne
        exact absurd hne (by unfold numS; simp)
      rename Fr _ _ _ _ => F9
      rename News _ _ _ _ => N9
      rw [← hch.out] at F9
      have N10 := news_sub (news := (I, it) :: (hl, W.listOf (List.toArray (vst ++ [Value.ref a'])) (i + 1)) :: (ll, W.listOf (List.toArray (vl ++ [Value.str (nm n3 P i) t5])) (i + 1)) :: (x, instObj 184 d) :: (d, hdrDict w.params tkk hl) :: (lw, W.listOf (List.toArray vw) cw) :: (lp, W.listOf (List.toArray vp) cp) :: (ln, W.listOf (List.toArray [Value.int n1 t1, .int n2 t2, .int n3 t3]) cap) ::
        (((a', tupObj [.str (nm n3 P i) t5, .str (Str.ofString (toString ((P.getD i 0 : Nat) : Int))) (tk5 + 1)]) :: tl) ++ rest)) N9 (by walk_at "mine sub")
      refine ⟨_, _, _, _, rfl, F9, N10, ?_, vl ++ [Value.str (nm n3 P i) t5], vst ++ [Value.ref a'], (a', tupObj [.str (nm n3 P i) t5, .str (Str.ofString (toString ((P.getD i 0 : Nat) : Int))) (tk5 + 1)]) :: tl, fun y y1 y2 => ?_, rfl, ?_, R6, ?_⟩
      · intro p hp
        rcases List.mem_cons.mp hp with rfl | hp
        · exact hlI
        rcases List.mem_cons.mp hp with rfl | hp
        · exact hll
        simp only [List.mem_cons, List.cons_append] at hp
        rcases hp with rfl | rfl | rfl | rfl | rfl | rfl | hp
        · exact hI _ (by walk_at "mine mem")
        · exact hI _ (by walk_at "mine mem")
        · exact hI _ (by walk_at "mine mem")
        · exact hI _ (by walk_at "mine mem")
        · exact hI _ (by walk_at "mine mem")
        · exact Nat.ne_of_gt (hlb (I, it) (List.mem_cons_self ..))
        · exact hI p (by walk_at "mine mem")
      · show (if y = Str.ofString "name" then _ else if y = Str.ofString "k" then _ else m₁ y) = m y
        rw [if_neg y2, if_neg y1]
        exact hm' y y1 y2
      · rw [List.range_succ, List.map_append]
        exact strsAre_snoc hvl _ _
      · intro p hp
        rcases List.mem_cons.mp hp with rfl | hp
        · exact ⟨hlb (ll, _) (List.mem_cons_of_mem _ (List.mem_cons_self ..)), hla⟩
        · exact htl p hp
    · rintro m₁ nx h tk ⟨vl, vst, tl, hm', hnx, hvl, hr, htl⟩ F₁ N₁
      subst hnx
      k_steps
      all_goals try trivial
      refine ⟨?_⟩
      refine ⟨_, _, m₁, vl, vst, (lw, W.listOf (List.toArray vw) cw) :: (ln, W.listOf (List.toArray [Value.int n1 t1, .int n2 t2, .int n3 t3]) cap) :: tl, rfl, F₁, hm', news_sub N₁ (by walk_at "mine sub"), hvl, hr.mono fun p hp => List.mem_cons_of_mem _ (List.mem_cons_of_mem _ hp), fun p hp => ?_⟩
      rcases List.mem_cons.mp hp with rfl | hp
      · exact ⟨Nat.ne_of_lt (Nat.lt_trans (hb1 _ (List.mem_cons_self ..)) (Nat.lt_trans hb2 hb3)), fun q hq => (hdis q hq).1⟩
      rcases List.mem_cons.mp hp with rfl | hp
      · exact ⟨Nat.ne_of_lt (Nat.lt_trans (hb1 _ (by walk_at "mine mem")) (Nat.lt_trans hb2 hb3)), fun q hq => (hdis q hq).2⟩
      exact ⟨Nat.ne_of_gt (htl p hp).2, fun q hq => Nat.ne_of_gt (Nat.lt_trans (Nat.lt_trans (hb1 q (List.mem_cons_of_mem _ (List.mem_cons_of_mem _ (List.mem_cons_of_mem _ hq)))) (Nat.lt_trans hb2 hb3)) (htl p hp).2)⟩
  · rintro s' ⟨h, tk, m', vl, vst, tl, rfl, F2, hm', N2, hvl, hr, hof⟩
    exact hret _ _ _ _ _ _ F2 hm' N2 hvl hr hof
end
section
local macro_rules | `(tactic| walk_at "call builtin:len") => `(tactic| (refine Hold.out ?_))
theorem law3_b1 {w : World} {loose : List PySem.Str} {mean : ExcName → Option Value} {mg mb m : PySem.Str → Option Value} {g : Heap} {L fa : Nat} {cd : Value} {s : Shared} {Q : Flow → Shared → Prop} {E : Value → Shared → Prop} {n t hl lp cp nl : Nat} {pl st : Int} {tp ts tt : Tok} {vst vp : List Value} {oF : Obj} {vF : Option Value} {ps qs : Array Value} {rest : List (Addr × Obj)}
    (X : (Mine.pre.heap_1 w.params).In g) (T : Top topProg loose mean mg mb g) (XM : Flt.MathXP PySem.Challenge.rw_re0161_03.row.prog mg g) (B : Below callerA g [] g) (F : Fr g L s.heap m) (N : News g L s.heap ((hl, W.listOf (List.toArray vst) nl) :: (L + 1, oF) :: (204, tabObj ps) :: (211, tabObj qs) :: rest)) (hlp : (lp, W.listOf (List.toArray vp) cp) ∈ rest) (hvp : vp.length = n) (hn : n ≤ 10) (ht : t < n) (hpl : pl.natAbs ≤ 100) (hst : st.natAbs ≤ 100)
    (hoff : ∀ p ∈ rest, p.1 ≠ hl ∧ p.1 ≠ L + 1 ∧ p.1 ≠ 204 ∧ p.1 ≠ 211) (ho : hl ≠ 204 ∧ hl ≠ 211 ∧ L + 1 ≠ 204 ∧ L + 1 ≠ 211) (hT1 : TbOk 135 4 (Str.ofString "_int2digits.<locals>.inner") ps rest) (hT2 : TbOk 150 4 (Str.ofString "_digits2int.<locals>.inner") qs rest) (hcF : oF.data = .cell vF)
    (hm1 : m (Str.ofString "place") = some (.int pl tp)) (hm2 : m (Str.ofString "step") = some (.int st ts)) (hm3 : m (Str.ofString "places") = some (.ref lp)) (hm4 : m (Str.ofString "turn") = some (.int (t : Int) tt))
    (hret : ∀ h' tk ps' qs' add t1 t2, Fr g L h' (fun y => if y = Str.ofString "there" then some (.int ((pl + st).fmod ((n - t : Nat) : Int)) t2) else if y = Str.ofString "laps" then some (.int ((pl + st).fdiv ((n - t : Nat) : Int)) t1) else m y) → News g L h' ((hl, W.listOf (List.toArray vst) nl) :: (L + 1, oF) :: (204, tabObj ps') :: (211, tabObj qs') :: (add ++ rest)) →
      TbOk 135 4 (Str.ofString "_int2digits.<locals>.inner") ps' (add ++ rest) → TbOk 150 4 (Str.ofString "_digits2int.<locals>.inner") qs' (add ++ rest) → (∀ p ∈ add, p.1 ≠ hl ∧ p.1 ≠ L + 1 ∧ p.1 ≠ 204 ∧ p.1 ≠ 211) → (∀ p ∈ add, ∀ q ∈ rest, q.1 < p.1) → wpAny (model PySem.Challenge.rw_re0161_03.row.prog w) (callerA.deeper (envOfC (Str.ofString "law") lawScope L fa cd)) (execs (loopBody.drop 2) (envOfC (Str.ofString "law") lawScope L fa cd)) Q E { s with heap := h', toks := tk }) :
    wpAny (model PySem.Challenge.rw_re0161_03.row.prog w) (callerA.deeper (envOfC (Str.ofString "law") lawScope L fa cd)) (execs (loopBody.drop 0) (envOfC (Str.ofString "law") lawScope L fa cd)) Q E s := by
  generalize hsc : lawScope = sc at *
  conv at hsc => lhs; whnf
  subst hsc
  have hch := Hold.mk (chain5 hm1 hm2 hm3 hm4 hm4)
  have hnt : ((n : Int) - (t : Int)) = ((n - t : Nat) : Int) := (Int.natCast_sub (Nat.le_of_lt ht)).symm
  have hnp : 0 < n - t := by omega
  have hmp : ∀ o, (lp, W.listOf (List.toArray vp) cp) ∈ o :: rest := fun o => List.mem_cons_of_mem _ hlp
  have hlp1 : (lp, W.listOf (List.toArray vp) cp) ∈ ((hl, W.listOf (List.toArray vst) nl) :: (L + 1, oF) :: (204, tabObj ps) :: (211, tabObj qs) :: rest) := by walk_at "mine mem"
  rw [hch.out] at F
  refine cut1 (fun s' => ∃ h tk ps' qs' add t1 t2, s' = { s with heap := h, toks := tk } ∧ Fr g L h (fun y => if y = Str.ofString "there" then some (.int ((pl + st).fmod ((n - t : Nat) : Int)) t2) else if y = Str.ofString "laps" then some (.int ((pl + st).fdiv ((n - t : Nat) : Int)) t1) else m y) ∧ News g L h ((hl, W.listOf (List.toArray vst) nl) :: (L + 1, oF) :: (204, tabObj ps') :: (211, tabObj qs') :: (add ++ rest)) ∧
      TbOk 135 4 (Str.ofString "_int2digits.<locals>.inner") ps' (add ++ rest) ∧ TbOk 150 4 (Str.ofString "_digits2int.<locals>.inner") qs' (add ++ rest) ∧ (∀ p ∈ add, p.1 ≠ hl ∧ p.1 ≠ L + 1 ∧ p.1 ≠ 204 ∧ p.1 ≠ 211) ∧ ∀ p ∈ add, ∀ q ∈ rest, q.1 < p.1) ?_ ?_
  · k_steps
    refine ⟨?_⟩
    refine len_M (vs := vp) (nn := cp) (by k_asm) hlp1 (by rw [hvp]; exact Nat.lt_of_le_of_lt hn (by decide)) ?_
    intro _ _
    rw [hvp]
    k_steps
    refine ⟨?_⟩
    rw [hnt]
    refine idv_con (ps := ps) (qs := qs) (rest := (hl, W.listOf (List.toArray vst) nl) :: (L + 1, oF) :: rest) (by k_asm) (by k_asm) (by k_asm)
      (news_sub N (by walk_at "mine sub")) (by k_asm) (by k_asm) rfl ⟨⟨?_, hT1.drop fun p hp => .inl (by walk_at "mine mem"), hT2.drop fun p hp => .inl (by walk_at "mine mem")⟩, Nat.lt_of_le_of_lt (show (pl + st).natAbs ≤ 200 by omega) (by decide), by omega, by omega⟩ (by ktr_room) (by ktr_units) ?_
    · intro p hp
      rcases List.mem_cons.mp hp with rfl | hp
      · exact ⟨ho.1, ho.2.1⟩
      rcases List.mem_cons.mp hp with rfl | hp
      · exact ⟨ho.2.2.1, ho.2.2.2⟩
      exact ⟨(hoff p hp).2.2.1, (hoff p hp).2.2.2⟩
    intro r1 nw1 h1 tk1 F1 N1 ⟨ps', qs', add, d9, t1, t2, e1, e2, hT3, hT4, hd9, hadd⟩
    subst e1 e2
    rw [← hch.out] at F1
    k_steps
    all_goals try trivial
    rename News _ _ _ _ => N9
    rename Fr _ _ _ _ => F9
    refine ⟨?_⟩
    have dr : ∀ p ∈ add ++ (hl, W.listOf (List.toArray vst) nl) :: (L + 1, oF) :: rest, p ∈ add ++ rest ∨ ∀ vs, p.2.data ≠ .fields vs := fun p hp => by
      rcases List.mem_append.mp hp with hp | hp
      · exact .inl (List.mem_append_left _ hp)
      rcases List.mem_cons.mp hp with rfl | hp
      · exact .inr list_nfld
      rcases List.mem_cons.mp hp with rfl | hp
      · exact .inr (cell_nfld hcF)
      exact .inl (List.mem_append_right _ hp)
    refine ⟨_, _, ps', qs', add, t1, t2, rfl, F9, news_sub N9 (by walk_at "mine sub"), hT3.drop dr, hT4.drop dr, fun p hp => ?_, fun p hp q hq => (hadd p hp).2.2 q (List.mem_cons_of_mem _ (List.mem_cons_of_mem _ hq))⟩
    obtain ⟨g1, g2, g3⟩ := hadd p hp
    exact ⟨Nat.ne_of_gt (g3 (hl, W.listOf (List.toArray vst) nl) (List.mem_cons_self ..)), Nat.ne_of_gt (g3 (L + 1, oF) (List.mem_cons_of_mem _ (List.mem_cons_self ..))), Nat.ne_of_gt g1, Nat.ne_of_gt g2⟩
  · rintro s' ⟨h, tk, ps', qs', add, t1, t2, rfl, F2, N2, hT3, hT4, ha, hb⟩
    rw [hch.out] at F2
    have hlp2 : (lp, W.listOf (List.toArray vp) cp) ∈ ((hl, W.listOf (List.toArray vst) nl) :: (L + 1, oF) :: (204, tabObj ps') :: (211, tabObj qs') :: (add ++ rest)) := by walk_at "mine mem"
    refine cut1 (fun s' => ∃ h tk, s' = { s with heap := h, toks := tk } ∧ Fr g L h (fun y => if y = Str.ofString "there" then some (.int ((pl + st).fmod ((n - t : Nat) : Int)) t2) else if y = Str.ofString "laps" then some (.int ((pl + st).fdiv ((n - t : Nat) : Int)) t1) else m y) ∧ News g L h ((hl, W.listOf (List.toArray vst) nl) :: (L + 1, oF) :: (204, tabObj ps') :: (211, tabObj qs') :: (add ++ rest))) ?_ ?_
    · k_steps
      refine ⟨?_⟩
      refine len_M (vs := vp) (nn := cp) (by k_asm) hlp2 (by rw [hvp]; exact Nat.lt_of_le_of_lt hn (by decide)) ?_
      intro _ _
      rw [hvp]
      k_steps
      all_goals first
        | (rename _ ≠ pl + st => hx; exact absurd (by rw [hnt, Int.mul_comm]; exact Int.mul_fdiv_add_fmod _ _) hx)
        | trivial
        | (rename Fr _ _ _ _ => F9; rw [← hch.out] at F9; exact ⟨⟨_, _, rfl, F9, by assumption⟩⟩)
    · rintro s' ⟨h, tk, rfl, F3, N3⟩
      exact hret _ _ _ _ _ _ _ F3 N3 hT3 hT4 ha hb
end
section
local macro_rules | `(tactic| walk_at "mine 0") => Lean.Macro.throwUnsupported
local macro_rules | `(tactic| walk_at "call builtin:len") => `(tactic| (refine Hold.out ?_))
set_option maxHeartbeats 4000000 in
theorem law3_b2 {w : World} {loose : List PySem.Str} {mean : ExcName → Option Value} {mg mb m : PySem.Str → Option Value} {g : Heap} {L fa : Nat} {cd : Value} {s : Shared} {Q : Flow → Shared → Prop} {E : Value → Shared → Prop} {t hl ll lp x d cl cp nl th gn : Nat} {st n3 : Int} {ts tt th1 : Tok} {tkk : Tok} {vst vl vp : List Value} {P R : List Nat} {oF : Obj} {vF : Option Value} {ps qs : Array Value} {rest : List (Addr × Obj)}
    (X : (Mine.pre.heap_1 w.params).In g) (T : Top topProg loose mean mg mb g) (XM : Flt.MathXP PySem.Challenge.rw_re0161_03.row.prog mg g) (B : Below callerA g [] g) (F : Fr g L s.heap m) (N : News g L s.heap ((hl, W.listOf (List.toArray vst) nl) :: (L + 1, oF) :: (204, tabObj ps) :: (211, tabObj qs) :: rest)) (hx : (x, instObj 184 d) ∈ rest) (hd : (d, hdrDict w.params tkk hl) ∈ rest) (hll : (ll, W.listOf (List.toArray vl) cl) ∈ rest) (hlp : (lp, W.listOf (List.toArray vp) cp) ∈ rest)
    (hP : Plc P) (hPl : P.length ≤ 10) (hR : ∀ j ∈ R, j < P.length) (hRl : R.length = P.length - t) (ht : t < P.length) (hvp : IntsAre vp (P.map Int.ofNat)) (hvl : StrsAre vl ((List.range P.length).map (nm n3 P))) (hr : Rows rest vst (rowsOf n3 P R))
    (hs1 : -30 ≤ st) (hs2 : st ≤ 30) (hcF : oF.data = .cell vF) (hoff : ∀ p ∈ rest, p.1 ≠ hl) (ho : hl ≠ L + 1 ∧ hl ≠ 204 ∧ hl ≠ 211) (hg : goneI P.length st (t + 1) = (gn : Int)) (hth : R[th]? = some gn)
    (hm1 : m (Str.ofString "table") = some (.ref x)) (hm2 : m (Str.ofString "there") = some (.int (th : Int) th1)) (hm3 : m (Str.ofString "places") = some (.ref lp)) (hm4 : m (Str.ofString "turn") = some (.int (t : Int) tt)) (hm5 : m (Str.ofString "step") = some (.int st ts)) (hm6 : m (Str.ofString "laid") = some (.ref ll))
    (hret : ∀ h' tk vst' nl' tg tq, Fr g L h' (fun y => if y = Str.ofString "gone" then some (.int (gn : Int) tg) else if y = Str.ofString "told" then some (.str (nm n3 P gn) tq) else m y) → News g L h' ((hl, W.listOf (List.toArray vst') nl') :: (L + 1, oF) :: (204, tabObj ps) :: (211, tabObj qs) :: rest) → Rows rest vst' (rowsOf n3 P (R.filter fun j => decide (j ≠ gn))) → wpAny (model PySem.Challenge.rw_re0161_03.row.prog w) (callerA.deeper (envOfC (Str.ofString "law") lawScope L fa cd)) (execs (loopBody.drop 5) (envOfC (Str.ofString "law") lawScope L fa cd)) Q E { s with heap := h', toks := tk }) :
    wpAny (model PySem.Challenge.rw_re0161_03.row.prog w) (callerA.deeper (envOfC (Str.ofString "law") lawScope L fa cd)) (execs (loopBody.drop 2) (envOfC (Str.ofString "law") lawScope L fa cd)) Q E s := by
  generalize hsc : lawScope = sc at *
  conv at hsc => lhs; whnf
  subst hsc
  have hch := Hold.mk (chain5 hm1 hm2 hm3 hm4 hm5)
  have hgR : gn ∈ R := List.mem_of_getElem? hth
  have hgP : gn < P.length := hR gn hgR
  have hthl : th < R.length := (List.getElem?_eq_some_iff.mp hth).1
  have hpl : vp.length = P.length := by rw [IntsAre_len hvp, List.length_map]
  have hx1 : (x, instObj 184 d) ∈ ((hl, W.listOf (List.toArray vst) nl) :: (L + 1, oF) :: (204, tabObj ps) :: (211, tabObj qs) :: rest) := by walk_at "mine mem"
  have hd1 : (d, hdrDict w.params tkk hl) ∈ ((hl, W.listOf (List.toArray vst) nl) :: (L + 1, oF) :: (204, tabObj ps) :: (211, tabObj qs) :: rest) := by walk_at "mine mem"
  have hrl := hr.len
  have hrl2 : vst.length ≤ 10 := by rw [hrl]; unfold rowsOf; rw [List.length_map]; omega
  refine cut1 (fun s' => ∃ h tk tq, s' = { s with heap := h, toks := tk } ∧ Fr g L h (fun y => if y = Str.ofString "told" then some (.str (nm n3 P gn) tq) else m y) ∧ News g L h ((hl, W.listOf (List.toArray vst) nl) :: (L + 1, oF) :: (204, tabObj ps) :: (211, tabObj qs) :: rest)) ?_ ?_
  · rw [hch.out] at F
    k_steps
    refine ⟨?_⟩
    refine keys_con (vs := vst) (nl := nl) (ps := rowsOf n3 P R) (t := x) (d := d) (hl := hl) (tkk := tkk) (by k_asm) (by k_asm) (by k_asm) (by k_asm) (by k_asm) (by k_asm) rfl ⟨⟨hx1, hd1, List.mem_cons_self .., by omega⟩, hr.mono fun p hp => by walk_at "mine mem"⟩ (by ktr_room) (by ktr_units) ?_
    intro r1 nw1 h1 tk1 F1 N1 ⟨D, ys, e1, e2, hys, hD⟩
    subst e1 e2
    have hmap : (rowsOf n3 P R).map (fun x => x.1) = R.map (nm n3 P) := by unfold rowsOf; rw [List.map_map]; rfl
    rw [hmap] at hys
    have hyl : ys.length = R.length := by rw [strsAre_len hys, List.length_map]
    have N1' : News g L h1 ((D, W.listOf (List.toArray ys) ys.length) :: ((hl, W.listOf (List.toArray vst) nl) :: (L + 1, oF) :: (204, tabObj ps) :: (211, tabObj qs) :: rest)) := N1
    clear N1
    k_steps
    rename News _ _ _ _ => N9
    rename Fr _ _ _ _ => F9
    rw [nm_at hth] at F9
    refine ⟨?_⟩
    have F9 := fr_if hch.out F9
    exact ⟨_, _, _, rfl, F9, news_sub N9 fun p hp => List.mem_cons_of_mem _ hp⟩
  · rintro s' ⟨h, tk, tq, rfl, F2, N2⟩
    have hlp2 : (lp, W.listOf (List.toArray vp) cp) ∈ ((hl, W.listOf (List.toArray vst) nl) :: (L + 1, oF) :: (204, tabObj ps) :: (211, tabObj qs) :: rest) := by walk_at "mine mem"
    refine cut1 (fun s' => ∃ h tk tg, s' = { s with heap := h, toks := tk } ∧ Fr g L h (fun y => if y = Str.ofString "gone" then some (.int (gn : Int) tg) else if y = Str.ofString "told" then some (.str (nm n3 P gn) tq) else m y) ∧ News g L h ((hl, W.listOf (List.toArray vst) nl) :: (L + 1, oF) :: (204, tabObj ps) :: (211, tabObj qs) :: rest)) ?_ ?_
    · rw [hch.out] at F2
      k_steps
      refine ⟨?_⟩
      refine len_M (vs := vp) (nn := cp) (by k_asm) hlp2 (by rw [hpl]; exact Nat.lt_of_le_of_lt hPl (by decide)) ?_
      intro _ _
      rw [hpl]
      k_steps
      refine ⟨?_⟩
      refine gone_con (n := P.length) (k := t + 1) (st := st) (by k_asm) (by k_asm) (by k_asm) (by k_asm) (by k_asm) (by k_asm) rfl ⟨by omega, hs1, hs2, by omega, by omega, by omega⟩ (by ktr_room) (by ktr_units) ?_
      intro r1 nw1 h1 tk1 F1 N1 ⟨⟨tg, e1⟩, e2⟩
      subst e1 e2
      rw [hg]
      k_steps
      all_goals try trivial
      rename Fr _ _ _ _ => F9
      have F9 := fr_if2 hch.out F9
      refine ⟨?_⟩
      exact ⟨_, _, _, rfl, F9, by assumption⟩
    · rintro s' ⟨h, tk, tg, rfl, F3, N3⟩
      have hch2 := Hold.mk (chain5 hm1 hm6 hm3 hm4 hm5)
      have hrg : (List.range P.length)[gn]? = some gn := List.getElem?_range hgP
      have hvll : vl.length = P.length := by rw [strsAre_len hvl, List.length_map, List.length_range]
      have hll2 : (ll, W.listOf (List.toArray vl) cl) ∈ ((hl, W.listOf (List.toArray vst) nl) :: (L + 1, oF) :: (204, tabObj ps) :: (211, tabObj qs) :: rest) := by walk_at "mine mem"
      refine cut1 (fun s' => ∃ h tk vst' nl', s' = { s with heap := h, toks := tk } ∧ Fr g L h (fun y => if y = Str.ofString "gone" then some (.int (gn : Int) tg) else if y = Str.ofString "told" then some (.str (nm n3 P gn) tq) else m y) ∧ News g L h ((hl, W.listOf (List.toArray vst') nl') :: (L + 1, oF) :: (204, tabObj ps) :: (211, tabObj qs) :: rest) ∧ Rows rest vst' (rowsOf n3 P (R.filter fun j => decide (j ≠ gn)))) ?_ ?_
      · rw [hch2.out] at F3
        have hisl := list_at N3 hll2
        k_steps
        all_goals try (exfalso; (rename (_ != _) = true => hne); rw [nm_at hrg] at hne; exact absurd hne (by simp))
        refine ⟨?_⟩
        refine take_con (vs := vst) (nl := nl) (ps := rowsOf n3 P R) (t := x) (d := d) (hl := hl) (tkk := tkk) (by k_asm) (by k_asm) (by k_asm) (by k_asm) (by k_asm) (by k_asm) rfl
          ⟨by walk_at "mine mem", by walk_at "mine mem", by omega, hr.mono fun p hp => by walk_at "mine mem", ?_, nm_txl hP hgP⟩ (by ktr_room) (by ktr_units) ?_
        · intro p hp
          rcases List.mem_cons.mp hp with rfl | hp
          · exact Ne.symm ho.1
          rcases List.mem_cons.mp hp with rfl | hp
          · exact Ne.symm ho.2.1
          rcases List.mem_cons.mp hp with rfl | hp
          · exact Ne.symm ho.2.2
          exact hoff p hp
        intro r5 nw5 h5 tk5 F5 N5 ⟨e5, vst', nl', e6, hr5⟩
        rw [get_some hP hR hgP hgR] at e5
        obtain ⟨u5, e5⟩ := e5
        subst e5 e6
        rw [rows_del hP hR hgP] at hr5
        have hr6 : Rows rest vst' (rowsOf n3 P (R.filter fun j => decide (j ≠ gn))) := hr5.drop fun p hp => by
          rcases List.mem_cons.mp hp with rfl | hp
          · exact .inr (cell_ntup hcF)
          rcases List.mem_cons.mp hp with rfl | hp
          · exact .inr tab_ntup
          rcases List.mem_cons.mp hp with rfl | hp
          · exact .inr tab_ntup
          exact .inl hp
        have hlp5 : (lp, W.listOf (List.toArray vp) cp) ∈ ((hl, W.listOf (List.toArray vst') nl') :: (L + 1, oF) :: (204, tabObj ps) :: (211, tabObj qs) :: rest) := by walk_at "mine mem"
        have hislp := list_at N5 hlp5
        have hgb := hP.at hgP
        k_steps
        rw [place_at hgP]
        k_steps
        all_goals try (exfalso; (rename (_ != _) = true => hne); exact absurd hne (by unfold numS; simp))
        all_goals try trivial
        rename Fr _ _ _ _ => F9
        have F9 := fr_if2 hch2.out F9
        refine ⟨?_⟩
        exact ⟨_, _, vst', nl', rfl, F9, by assumption, hr6⟩
      · rintro s' ⟨h, tk, vst', nl', rfl, F4, N4, hr4⟩
        exact hret _ _ _ _ _ _ F4 N4 hr4
end
section
local macro_rules | `(tactic| walk_at $k:str) => if k.getString ∈ ["call builtin:str.upper", "call builtin:str.join"] then `(tactic| (refine Hold.out ?_)) else Lean.Macro.throwUnsupported
set_option maxHeartbeats 4000000 in
theorem law3_b3 {w : World} {loose : List PySem.Str} {mean : ExcName → Option Value} {mg mb m : PySem.Str → Option Value} {g : Heap} {L fa : Nat} {cd : Value} {s : Shared} {Q : Flow → Shared → Prop} {E : Value → Shared → Prop} {hl lp x d cp nl th gn fl : Nat} {n3 : Int} {th1 tg tf : Tok} {tkk : Tok} {vst vp : List Value} {P R : List Nat} {oF : Obj} {ps qs : Array Value} {rest : List (Addr × Obj)}
    (X : (Mine.pre.heap_1 w.params).In g) (T : Top topProg loose mean mg mb g) (XM : Flt.MathXP PySem.Challenge.rw_re0161_03.row.prog mg g) (B : Below callerA g [] g) (F : Fr g L s.heap m) (N : News g L s.heap ((hl, W.listOf (List.toArray vst) nl) :: (L + 1, oF) :: (204, tabObj ps) :: (211, tabObj qs) :: rest)) (hx : (x, instObj 184 d) ∈ rest) (hd : (d, hdrDict w.params tkk hl) ∈ rest) (hlp : (lp, W.listOf (List.toArray vp) cp) ∈ rest)
    (hP : Plc P) (hPl : P.length ≤ 10) (hR : ∀ j ∈ R, j < P.length) (hRl : R.length ≤ 10) (hvp : IntsAre vp (P.map Int.ofNat)) (hgR : gn ∈ R) (hr : Rows rest vst (rowsOf n3 P (R.filter fun j => decide (j ≠ gn))))
    (hdF : oF.data = .cell (some (.int (fl : Int) tf))) (hfl : fl < 2 ^ 32) (hbF : bitsB fl 32 = R.map (P.getD · 0)) (hoff : ∀ p ∈ rest, p.1 ≠ L + 1) (ho : hl ≠ L + 1 ∧ L + 1 ≠ 204 ∧ L + 1 ≠ 211)
    (hm1 : m (Str.ofString "table") = some (.ref x)) (hm2 : m (Str.ofString "there") = some (.int (th : Int) th1)) (hm3 : m (Str.ofString "places") = some (.ref lp)) (hm4 : m (Str.ofString "gone") = some (.int (gn : Int) tg))
    (hret : ∀ h' tk oF' tf' tl tp, Fr g L h' (fun y => if y = Str.ofString "place" then some (.int (th : Int) tp) else if y = Str.ofString "left" then some (.str (Txt.upper (pf (fl - 2 ^ P.getD gn 0))) tl) else m y) → News g L h' ((hl, W.listOf (List.toArray vst) nl) :: (L + 1, oF') :: (204, tabObj ps) :: (211, tabObj qs) :: rest) → oF'.data = .cell (some (.int ((fl - 2 ^ P.getD gn 0 : Nat) : Int) tf')) → wpAny (model PySem.Challenge.rw_re0161_03.row.prog w) (callerA.deeper (envOfC (Str.ofString "law") lawScope L fa cd)) (execs (loopBody.drop 9) (envOfC (Str.ofString "law") lawScope L fa cd)) Q E { s with heap := h', toks := tk }) :
    wpAny (model PySem.Challenge.rw_re0161_03.row.prog w) (callerA.deeper (envOfC (Str.ofString "law") lawScope L fa cd)) (execs (loopBody.drop 5) (envOfC (Str.ofString "law") lawScope L fa cd)) Q E s := by
  generalize hsc : lawScope = sc at *
  conv at hsc => lhs; whnf
  subst hsc
  have hch := Hold.mk (chain5 hm1 hm2 hm3 hm4 hm4)
  have hgP : gn < P.length := hR gn hgR
  have hgb := hP.at hgP
  have hpl : vp.length = P.length := by rw [IntsAre_len hvp, List.length_map]
  obtain ⟨hle, hbF'⟩ := flags_step hP hR hgR hbF
  have hsub := sub_cast hle
  generalize hfl2 : fl - 2 ^ P.getD gn 0 = fl' at *
  have hfl' : fl' < 2 ^ 32 := by rw [← hfl2]; exact Nat.lt_of_le_of_lt (Nat.sub_le _ _) hfl
  generalize hR2 : (R.filter fun j => decide (j ≠ gn)) = R' at *
  have hR' : ∀ j ∈ R', j < P.length := fun j hj => hR j (List.mem_filter.mp (hR2 ▸ hj)).1
  have hRl' : R'.length ≤ 10 := by rw [← hR2]; exact Nat.le_trans (List.length_filter_le _ _) hRl
  refine cut1 (fun s' => ∃ h tk oF' tf', s' = { s with heap := h, toks := tk } ∧ Fr g L h m ∧ News g L h ((hl, W.listOf (List.toArray vst) nl) :: (L + 1, oF') :: (204, tabObj ps) :: (211, tabObj qs) :: rest) ∧ oF'.data = .cell (some (.int (fl' : Int) tf'))) ?_ ?_
  · rw [hch.out] at F
    have hislp := list_at N (show (lp, W.listOf (List.toArray vp) cp) ∈ ((hl, W.listOf (List.toArray vst) nl) :: (L + 1, oF) :: (204, tabObj ps) :: (211, tabObj qs) :: rest) by walk_at "mine mem")
    have hb1 : 0 ≤ (P.map Int.ofNat).getD (gn : Int).toNat 0 := by rw [place_at hgP]; exact Int.natCast_nonneg _
    have hb2 : (P.map Int.ofNat).getD (gn : Int).toNat 0 < 32 := by rw [place_at hgP]; omega
    k_steps
    all_goals try trivial
    rename _ = Data.cell _ => dc
    rename Obj => o9
    rename News _ _ _ _ => N9
    rename Fr _ _ _ _ => F9
    rw [place_at hgP, hsub] at dc
    have F9' := fr_eq hch.out F9
    refine ⟨?_⟩
    exact ⟨_, _, o9, _, rfl, F9', N9, dc⟩
  · rintro s' ⟨h, tk, o2, tf2, rfl, F2, N2, d2⟩
    refine cut1 (fun s' => ∃ h tk tl, s' = { s with heap := h, toks := tk } ∧ Fr g L h (fun y => if y = Str.ofString "left" then some (.str (Txt.upper (pf fl')) tl) else m y) ∧ News g L h ((hl, W.listOf (List.toArray vst) nl) :: (L + 1, o2) :: (204, tabObj ps) :: (211, tabObj qs) :: rest)) ?_ ?_
    · rw [hch.out] at F2
      have hx2 : (x, instObj 184 d) ∈ ((hl, W.listOf (List.toArray vst) nl) :: (L + 1, o2) :: (204, tabObj ps) :: (211, tabObj qs) :: rest) := by walk_at "mine mem"
      have hd2 : (d, hdrDict w.params tkk hl) ∈ ((hl, W.listOf (List.toArray vst) nl) :: (L + 1, o2) :: (204, tabObj ps) :: (211, tabObj qs) :: rest) := by walk_at "mine mem"
      have hrl := hr.len
      k_steps
      · rename 0 < (fl' : Int) => hpos
        refine ⟨?_⟩
        refine keys_con (vs := vst) (nl := nl) (ps := rowsOf n3 P R') (t := x) (d := d) (hl := hl) (tkk := tkk) (by k_asm) (by k_asm) (by k_asm) (by k_asm) (by k_asm) (by k_asm) rfl ⟨⟨hx2, hd2, List.mem_cons_self .., by rw [hrl]; unfold rowsOf; rw [List.length_map]; omega⟩, hr.mono fun p hp => by walk_at "mine mem"⟩ (by ktr_room) (by ktr_units) ?_
        intro r1 nw1 h1 tk1 F1 N1 ⟨D, ys, e1, e2, hys, hD⟩
        subst e1 e2
        have hmap : (rowsOf n3 P R').map (fun x => x.1) = R'.map (nm n3 P) := by unfold rowsOf; rw [List.map_map]; rfl
        rw [hmap] at hys
        have N1' : News g L h1 ((D, W.listOf (List.toArray ys) ys.length) :: ((hl, W.listOf (List.toArray vst) nl) :: (L + 1, o2) :: (204, tabObj ps) :: (211, tabObj qs) :: rest)) := N1
        clear N1
        k_steps
        refine ⟨?_⟩
        refine join_listW (list_at N1' (List.mem_cons_self ..)) hys (by decide) (nms_weight hP hR' hRl') ?_
        intro t' k'
        k_steps
        refine ⟨?_⟩
        refine upper_T (nms_join hP hR' hRl') ?_
        intro k5 t5
        rw [show Txt.join (Str.ofString ", ") (R'.map (nm n3 P)) = Txt.join SEP (R'.map (nm n3 P)) from rfl, left_eq hP hR' (by omega) hbF']
        k_steps
        all_goals try trivial
        rename News _ _ _ _ => N9
        rename Fr _ _ _ _ => F9
        have F9 := fr_if hch.out F9
        refine ⟨?_⟩
        exact ⟨_, _, _, rfl, F9, news_sub N9 fun p hp => List.mem_cons_of_mem _ hp⟩
      · rename ¬ 0 < (fl' : Int) => hpos
        have hz : fl' = 0 := by omega
        rename Fr _ _ _ _ => F9
        have F9 := fr_if hch.out F9
        rw [← up0] at F9
        refine ⟨?_⟩
        rw [hz]
        exact ⟨_, _, _, rfl, F9, by assumption⟩
    · rintro s' ⟨h, tk, tl, rfl, F3, N3⟩
      refine cut1 (fun s' => ∃ h tk, s' = { s with heap := h, toks := tk } ∧ Fr g L h (fun y => if y = Str.ofString "left" then some (.str (Txt.upper (pf fl')) tl) else m y) ∧ News g L h ((hl, W.listOf (List.toArray vst) nl) :: (L + 1, o2) :: (204, tabObj ps) :: (211, tabObj qs) :: rest)) ?_ ?_
      · k_steps
        refine ⟨?_⟩
        refine pf_con (e := (fl' : Int)) (by k_asm) (by k_asm) (by k_asm) (by k_asm) (by k_asm) (by k_asm) rfl ⟨Int.natCast_nonneg _, by omega⟩ (by ktr_room) (by ktr_units) ?_
        intro r1 nw1 h1 tk1 F1 N1 ⟨⟨t1, e1⟩, e2⟩
        subst e1 e2
        rw [Int.toNat_natCast]
        k_steps
        refine ⟨?_⟩
        refine upper_T (pf_txl hfl') ?_
        intro k5 t5
        k_steps
        all_goals try (exfalso; (rename (_ != _) = true => hne); exact absurd hne (by simp))
        all_goals try trivial
        refine ⟨?_⟩
        exact ⟨_, _, rfl, by assumption, by assumption⟩
      · rintro s' ⟨h, tk, rfl, F4, N4⟩
        refine cut1 (fun s' => ∃ h tk tp, s' = { s with heap := h, toks := tk } ∧ Fr g L h (fun y => if y = Str.ofString "place" then some (.int (th : Int) tp) else if y = Str.ofString "left" then some (.str (Txt.upper (pf fl')) tl) else m y) ∧ News g L h ((hl, W.listOf (List.toArray vst) nl) :: (L + 1, o2) :: (204, tabObj ps) :: (211, tabObj qs) :: rest)) ?_ ?_
        · rw [hch.out] at F4
          k_steps
          all_goals try trivial
          rename Fr _ _ _ _ => F9
          refine ⟨?_⟩
          exact ⟨_, _, _, rfl, fr_if2 hch.out F9, by assumption⟩
        · rintro s' ⟨h, tk, tp, rfl, F5, N5⟩
          exact hret _ _ _ _ _ _ F5 N5 d2
end
section
local macro_rules | `(tactic| walk_at "mine 0") => Lean.Macro.throwUnsupported
local macro_rules | `(tactic| walk_at "call builtin:len") => `(tactic| (refine Hold.out ?_))
set_option maxHeartbeats 4000000 in
theorem law3_9 {w : World} {loose : List PySem.Str} {mean : ExcName → Option Value} {mg mb m : PySem.Str → Option Value} {g : Heap} {L fa : Nat} {cd : Value} {s : Shared} {Q : Flow → Shared → Prop} {E : Value → Shared → Prop} {hl ll lp x d cl cp F0 : Nat} {st n3 : Int} {ts tf : Tok} {tkk : Tok} {vst vl vp : List Value} {P : List Nat} {o1 : Obj} {rest : List (Addr × Obj)}
    (X : (Mine.pre.heap_1 w.params).In g) (T : Top topProg loose mean mg mb g) (XM : Flt.MathXP PySem.Challenge.rw_re0161_03.row.prog mg g) (B : Below callerA g [] g) (F : Fr g L s.heap m) (N : News g L s.heap ((hl, W.listOf (List.toArray vst) P.length) :: (L + 1, o1) :: (204, tabObj #[]) :: (211, tabObj #[]) :: rest)) (hx : (x, instObj 184 d) ∈ rest) (hd : (d, hdrDict w.params tkk hl) ∈ rest) (hll : (ll, W.listOf (List.toArray vl) cl) ∈ rest) (hlp : (lp, W.listOf (List.toArray vp) cp) ∈ rest)
    (hE : PassesOwn (model PySem.Challenge.rw_re0161_03.row.prog w) (callerA.deeper (envOfC (Str.ofString "law") lawScope L fa cd)) (envOfC (Str.ofString "law") lawScope L fa cd) E) (hP : Plc P) (hPl : P.length ≤ 10) (hvp : IntsAre vp (P.map Int.ofNat)) (hvl : StrsAre vl ((List.range P.length).map (nm n3 P))) (hr : Rows rest vst (rowsOf n3 P (List.range P.length)))
    (hst : ∃ k : Nat, k < 61 ∧ st = (k : Int) - 30) (hdF : o1.data = .cell (some (.int (F0 : Int) tf))) (hF : F0 < 2 ^ 32) (hbF : bitsB F0 32 = P) (hoff : ∀ p ∈ rest, p.1 ≠ hl ∧ p.1 ≠ L + 1 ∧ p.1 ≠ 204 ∧ p.1 ≠ 211) (ho : hl ≠ L + 1 ∧ hl ≠ 204 ∧ hl ≠ 211 ∧ L + 1 ≠ 204 ∧ L + 1 ≠ 211)
    (hm1 : m (Str.ofString "table") = some (.ref x)) (hm2 : m (Str.ofString "laid") = some (.ref ll)) (hm3 : m (Str.ofString "places") = some (.ref lp)) (hm4 : m (Str.ofString "step") = some (.int st ts))
    (hret : ∀ h' tk m' oF ps qs nl add, Fr g L h' m' → m' (Str.ofString "table") = some (.ref x) → m' (Str.ofString "laid") = some (.ref ll) → News g L h' ((hl, W.listOf (List.toArray []) nl) :: (L + 1, oF) :: (204, tabObj ps) :: (211, tabObj qs) :: (add ++ rest)) → (∀ p ∈ add, p.1 ≠ hl ∧ p.1 ≠ L + 1 ∧ p.1 ≠ 204 ∧ p.1 ≠ 211) → wpAny (model PySem.Challenge.rw_re0161_03.row.prog w) (callerA.deeper (envOfC (Str.ofString "law") lawScope L fa cd)) (execs (lawBody.drop 11) (envOfC (Str.ofString "law") lawScope L fa cd)) Q E { s with heap := h', toks := tk }) :
    wpAny (model PySem.Challenge.rw_re0161_03.row.prog w) (callerA.deeper (envOfC (Str.ofString "law") lawScope L fa cd)) (execs (lawBody.drop 9) (envOfC (Str.ofString "law") lawScope L fa cd)) Q E s := by
  have hsim : simOk P.length st P.length 0 0 (List.range P.length) = true := by
    obtain ⟨k, hk, rfl⟩ := hst
    exact sim_ok P.length (Nat.lt_succ_of_le hPl) k hk
  have hs1 : -30 ≤ st := by obtain ⟨k, hk, rfl⟩ := hst; omega
  have hs2 : st ≤ 30 := by obtain ⟨k, hk, rfl⟩ := hst; omega
  have hpl : vp.length = P.length := by rw [IntsAre_len hvp, List.length_map]
  have hbR : bitsB F0 32 = (List.range P.length).map (P.getD · 0) := by rw [range_places, hbF]
  generalize hsc : lawScope = sc at *
  conv at hsc => lhs; whnf
  subst hsc
  refine cut1 (fun s' => ∃ h tk tp, s' = { s with heap := h, toks := tk } ∧ Fr g L h (fun y => if y = Str.ofString "place" then some (.int ((0 : Nat) : Int) tp) else m y) ∧ News g L h ((hl, W.listOf (List.toArray vst) P.length) :: (L + 1, o1) :: (204, tabObj #[]) :: (211, tabObj #[]) :: rest)) ?_ ?_
  · k_steps
    all_goals try trivial
    refine ⟨?_⟩
    exact ⟨_, _, _, rfl, by assumption, by assumption⟩
  rintro s' ⟨h, tk, tp, rfl, F2, N2⟩
  refine cut1 (fun s' => ∃ h tk m' oF ps qs nl add, s' = { s with heap := h, toks := tk } ∧ Fr g L h m' ∧ m' (Str.ofString "table") = some (.ref x) ∧ m' (Str.ofString "laid") = some (.ref ll) ∧ News g L h ((hl, W.listOf (List.toArray []) nl) :: (L + 1, oF) :: (204, tabObj ps) :: (211, tabObj qs) :: (add ++ rest)) ∧ ∀ p ∈ add, p.1 ≠ hl ∧ p.1 ≠ L + 1 ∧ p.1 ≠ 204 ∧ p.1 ≠ 211) ?_ ?_
  · have hch := Hold.mk (know hm3)
    rw [hch.out] at F2
    have hlp1 : (lp, W.listOf (List.toArray vp) cp) ∈ ((hl, W.listOf (List.toArray vst) P.length) :: (L + 1, o1) :: (204, tabObj #[]) :: (211, tabObj #[]) :: rest) := by walk_at "mine mem"
    k_steps
    refine ⟨?_⟩
    refine For_X (by assumption) (by rfl) (by rfl) ?_ (hE := hE)
    k_steps
    refine ⟨?_⟩
    refine len_M (vs := vp) (nn := cp) (by k_asm) hlp1 (by rw [hpl]; exact Nat.lt_of_le_of_lt hPl (by decide)) ?_
    intro _ _
    rw [hpl]
    k_steps
    have hrg := range_small P.length (Nat.lt_succ_of_le hPl)
    rename Fr _ _ _ _ => F3
    have F3 := fr_if hch.out F3
    refine range_Y (fun i m₁ nx => ∃ vst nl oF tf ps qs add pl tp R fl, m₁ (Str.ofString "place") = some (.int ((pl : Nat) : Int) tp) ∧ m₁ (Str.ofString "table") = some (.ref x) ∧ m₁ (Str.ofString "laid") = some (.ref ll) ∧ m₁ (Str.ofString "places") = some (.ref lp) ∧ m₁ (Str.ofString "step") = some (.int st ts) ∧
      ((hl, W.listOf (List.toArray vst) nl) :: (L + 1, oF) :: (204, tabObj ps) :: (211, tabObj qs) :: (add ++ rest)) = nx ∧ oF.data = .cell (some (.int ((fl : Nat) : Int) tf)) ∧ TbOk 135 4 (Str.ofString "_int2digits.<locals>.inner") ps (add ++ rest) ∧ TbOk 150 4 (Str.ofString "_digits2int.<locals>.inner") qs (add ++ rest) ∧ Rows (add ++ rest) vst (rowsOf n3 P R) ∧ (∀ p ∈ add, p.1 ≠ hl ∧ p.1 ≠ L + 1 ∧ p.1 ≠ 204 ∧ p.1 ≠ 211) ∧
      (∀ j ∈ R, j < P.length) ∧ bitsB fl 32 = R.map (P.getD · 0) ∧ fl < 2 ^ 32 ∧ simOk P.length st (P.length - i) i pl R = true ∧ pl ≤ 10) (n := P.length) rfl (by assumption) hrg.1 hrg.2 F3 (by assumption)
      ⟨vst, P.length, o1, tf, #[], #[], [], 0, tp, List.range P.length, F0, at_eq rfl, at_if (by decide) hm1, at_if (by decide) hm2, at_if (by decide) hm3, at_if (by decide) hm4, rfl, hdF, .inl rfl, .inl rfl, hr, (fun p hp => nomatch hp), fun j hj => List.mem_range.mp hj, hbR, hF, hsim, Nat.zero_le _⟩ ?_ ?_
    · rintro i t m₁ nx h tk I it hi ⟨vst, nl, oF, tf, ps, qs, add, pl, tp, R, fl, e1, e2, e3, e4, e5, hnx, hcF, hT1, hT2, hr, hadd, hR, hb, hfl, hsm, hpl10⟩ hI hic hid F₁ N₁
      subst hnx
      rw [Int.zero_add] at F₁
      obtain ⟨f, hf⟩ : ∃ f, P.length - i = f + 1 := ⟨P.length - i - 1, by omega⟩
      rw [hf] at hsm
      obtain ⟨gn, hg, hth, hRl, hsm2⟩ := sim_turn hsm
      have hth' := there_lt (st := st) (p := pl) hi
      have hgR : gn ∈ R := List.mem_of_getElem? hth
      obtain ⟨i1, i2, hid⟩ := hid
      have hIhl : @Ne Nat hl I := hI (hl, W.listOf (List.toArray vst) nl) (List.mem_cons_self ..)
      have hIc : @Ne Nat (L + 1) I := hI (L + 1, oF) (List.mem_cons_of_mem _ (List.mem_cons_self ..))
      have hIi : @Ne Nat 204 I := hI (204, tabObj ps) (List.mem_cons_of_mem _ (List.mem_cons_of_mem _ (List.mem_cons_self ..)))
      have hId : @Ne Nat 211 I := hI (211, tabObj qs) (List.mem_cons_of_mem _ (List.mem_cons_of_mem _ (List.mem_cons_of_mem _ (List.mem_cons_self ..))))
      have hoffB : ∀ p ∈ (I, it) :: (add ++ rest), p.1 ≠ hl ∧ p.1 ≠ L + 1 ∧ p.1 ≠ 204 ∧ p.1 ≠ 211 := fun p hp => by
        rcases List.mem_cons.mp hp with rfl | hp
        · exact ⟨Ne.symm hIhl, Ne.symm hIc, Ne.symm hIi, Ne.symm hId⟩
        · exact (List.mem_append.mp hp).elim (hadd p) (hoff p)
      have sub0 : ∀ p ∈ rest, p ∈ (I, it) :: (add ++ rest) := fun p hp => List.mem_cons_of_mem _ (List.mem_append_right _ hp)
      have N₂ := news_sub (news := ((hl, W.listOf (List.toArray vst) nl) :: (L + 1, oF) :: (204, tabObj ps) :: (211, tabObj qs) :: ((I, it) :: (add ++ rest)))) N₁ (by walk_at "mine sub")
      clear N₁
      refine law3_b1 (n := P.length) (t := i) (pl := (pl : Int)) (st := st) (lp := lp) (cp := cp) (vp := vp) X T XM B F₁ N₂ (sub0 _ hlp) hpl hPl hi (by omega) (by omega) hoffB ⟨ho.2.1, ho.2.2.1, ho.2.2.2.1, ho.2.2.2.2⟩ (hT1.drop fun p hp => .inl (List.mem_cons_of_mem _ hp)) (hT2.drop fun p hp => .inl (List.mem_cons_of_mem _ hp)) hcF
        (at_if (by decide) e1) (at_if (by decide) e5) (at_if (by decide) e4) (at_eq rfl) ?_
      intro h3 tk3 ps3 qs3 add3 t31 t32 F3 N3 hT3 hT4 ha3 hb3
      have sub3 : ∀ p ∈ (I, it) :: (add ++ rest), p ∈ add3 ++ ((I, it) :: (add ++ rest)) := fun p hp => List.mem_append_right _ hp
      have hoff3 : ∀ p ∈ add3 ++ ((I, it) :: (add ++ rest)), p.1 ≠ hl ∧ p.1 ≠ L + 1 ∧ p.1 ≠ 204 ∧ p.1 ≠ 211 := fun p hp => (List.mem_append.mp hp).elim (ha3 p) (hoffB p)
      rw [there_cast hi] at F3
      refine law3_b2 (t := i) (th := thereOf P.length st i pl) (gn := gn) (st := st) (n3 := n3) (x := x) (d := d) (ll := ll) (lp := lp) (cl := cl) (cp := cp) (vl := vl) (vp := vp) (P := P) (R := R) X T XM B F3 N3 (sub3 _ (sub0 _ hx)) (sub3 _ (sub0 _ hd)) (sub3 _ (sub0 _ hll)) (sub3 _ (sub0 _ hlp)) hP hPl hR hRl hi hvp hvl (hr.mono fun p hp => sub3 p (List.mem_cons_of_mem _ hp))
        hs1 hs2 hcF (fun p hp => (hoff3 p hp).1) ⟨ho.1, ho.2.1, ho.2.2.1⟩ hg hth e2 rfl e4 rfl
        e5 e3 ?_
      intro h4 tk4 vst4 nl4 tg4 tq4 F4 N4 hr4
      refine law3_b3 (th := thereOf P.length st i pl) (gn := gn) (fl := fl) (n3 := n3) (x := x) (d := d) (lp := lp) (cp := cp) (vp := vp) (P := P) (R := R) X T XM B F4 N4 (sub3 _ (sub0 _ hx)) (sub3 _ (sub0 _ hd)) (sub3 _ (sub0 _ hlp)) hP hPl hR (by omega) hvp hgR hr4 hcF hfl hb (fun p hp => (hoff3 p hp).2.1) ⟨ho.1, ho.2.2.2.1, ho.2.2.2.2⟩
        e2 rfl e4 rfl ?_
      intro h5 tk5 oF5 tf5 tl5 tp5 F5 N5 hc5
      have hfs := flags_step hP hR hgR hb
      refine wpAny_execs_nil ?_
      have hit : ∀ p ∈ add3 ++ ((I, it) :: (add ++ rest)), p ∈ (add3 ++ add) ++ rest ∨ (∀ vs, p.2.data ≠ .fields vs) ∨ ∃ a b : Int, p.2.data = .fields #[rawInt a, rawInt b, rawInt 1] := fun p hp => by
        rcases List.mem_append.mp hp with hp | hp
        · exact .inl (List.mem_append_left _ (List.mem_append_left _ hp))
        rcases List.mem_cons.mp hp with rfl | hp
        · exact .inr (.inr ⟨i1, i2, hid⟩)
        rcases List.mem_append.mp hp with hp | hp
        · exact .inl (List.mem_append_left _ (List.mem_append_right _ hp))
        · exact .inl (List.mem_append_right _ hp)
      refine ⟨_, _, _, ((hl, W.listOf (List.toArray vst4) nl4) :: (L + 1, oF5) :: (204, tabObj ps3) :: (211, tabObj qs3) :: ((add3 ++ add) ++ rest)), rfl, F5, news_sub N5 (by walk_at "mine sub"), ?_, vst4, nl4, oF5, tf5, ps3, qs3, add3 ++ add, thereOf P.length st i pl, tp5, R.filter (fun j => decide (j ≠ gn)), fl - 2 ^ P.getD gn 0,
        at_eq rfl, ?_, ?_, ?_, ?_, rfl, hc5, hT3.drop2 hit, hT4.drop2 hit, ?_, ?_, fun j hj => hR j (List.mem_filter.mp hj).1, hfs.2, Nat.lt_of_le_of_lt (Nat.sub_le _ _) hfl, ?_, by omega⟩
      · intro p hp
        rcases List.mem_cons.mp hp with rfl | hp
        · exact hIhl
        rcases List.mem_cons.mp hp with rfl | hp
        · exact hIc
        rcases List.mem_cons.mp hp with rfl | hp
        · exact hIi
        rcases List.mem_cons.mp hp with rfl | hp
        · exact hId
        rcases List.mem_append.mp hp with hp | hp
        · rcases List.mem_append.mp hp with hp | hp
          · exact Nat.ne_of_gt (hb3 p hp (I, it) (List.mem_cons_self ..))
          · exact hI p (List.mem_cons_of_mem _ (List.mem_cons_of_mem _ (List.mem_cons_of_mem _ (List.mem_cons_of_mem _ (List.mem_append_left _ hp)))))
        · exact hI p (List.mem_cons_of_mem _ (List.mem_cons_of_mem _ (List.mem_cons_of_mem _ (List.mem_cons_of_mem _ (List.mem_append_right _ hp)))))
      · exact e2
      · exact e3
      · exact e4
      · exact e5
      · refine hr4.drop fun p hp => ?_
        rcases List.mem_append.mp hp with hp | hp
        · exact .inl (List.mem_append_left _ (List.mem_append_left _ hp))
        rcases List.mem_cons.mp hp with rfl | hp
        · exact .inr fun ws e => absurd ((congrArg Obj.cls e).symm.trans hic) (by simp)
        rcases List.mem_append.mp hp with hp | hp
        · exact .inl (List.mem_append_left _ (List.mem_append_right _ hp))
        · exact .inl (List.mem_append_right _ hp)
      · intro p hp
        exact (List.mem_append.mp hp).elim (ha3 p) (hadd p)
      · rw [show P.length - (i + 1) = f by omega]; exact hsm2
    · rintro m₁ nx h tk ⟨vst, nl, oF, tf, ps, qs, add, pl, tp, R, fl, e1, e2, e3, e4, e5, hnx, hcF, hT1, hT2, hr, hadd, hR, hb, hfl, hsm, hpl10⟩ F₁ N₁
      subst hnx
      rw [Nat.sub_self] at hsm
      have hRe := sim_end hsm
      subst hRe
      have hv0 : vst = [] := List.length_eq_zero_iff.mp hr.len
      subst hv0
      k_steps
      all_goals try trivial
      refine ⟨?_⟩
      exact ⟨_, _, m₁, oF, ps, qs, nl, add, rfl, F₁, e2, e3, N₁, hadd⟩
  · rintro s' ⟨h, tk, m', oF, ps, qs, nl, add, rfl, F3, e2, e3, N3, hadd⟩
    exact hret _ _ _ _ _ _ _ _ F3 e2 e3 N3 hadd
end
section
local macro_rules | `(tactic| walk_at $k:str) => if k.getString ∈ ["compareOp Eq ref ref", "call builtin:str.swapcase"] then `(tactic| (refine Hold.out ?_)) else Lean.Macro.throwUnsupported
set_option maxHeartbeats 4000000 in
theorem law3_11 {w : World} {loose : List PySem.Str} {mean : ExcName → Option Value} {mg mb m : PySem.Str → Option Value} {g : Heap} {L fa : Nat} {cd : Value} {s : Shared} {Q : Flow → Shared → Prop} {E : Value → Shared → Prop} {hl ll x d cl nl : Nat} {n3 : Int} {tkk : Tok} {vl : List Value} {P : List Nat} {oF : Obj} {ps qs : Array Value} {rest : List (Addr × Obj)}
    (X : (Mine.pre.heap_1 w.params).In g) (T : Top topProg loose mean mg mb g) (XM : Flt.MathXP PySem.Challenge.rw_re0161_03.row.prog mg g) (B : Below callerA g [] g) (F : Fr g L s.heap m) (N : News g L s.heap ((hl, W.listOf (List.toArray []) nl) :: (L + 1, oF) :: (204, tabObj ps) :: (211, tabObj qs) :: rest)) (hx : (x, instObj 184 d) ∈ rest) (hd : (d, hdrDict w.params tkk hl) ∈ rest) (hll : (ll, W.listOf (List.toArray vl) cl) ∈ rest)
    (hP : Plc P) (hP0 : 0 < P.length) (hvl : StrsAre vl ((List.range P.length).map (nm n3 P))) (hoff : ∀ p ∈ rest, p.1 ≠ hl) (ho : hl ≠ L + 1 ∧ hl ≠ 204 ∧ hl ≠ 211)
    (hm1 : m (Str.ofString "table") = some (.ref x)) (hm2 : m (Str.ofString "laid") = some (.ref ll))
    (hret : ∀ h' tk m' nw, Fr g L h' m' → News g L h' ((204, tabObj ps) :: (211, tabObj qs) :: nw) → Q (.ret (.bool true)) { s with heap := h', toks := tk }) :
    wpAny (model PySem.Challenge.rw_re0161_03.row.prog w) (callerA.deeper (envOfC (Str.ofString "law") lawScope L fa cd)) (execs (lawBody.drop 11) (envOfC (Str.ofString "law") lawScope L fa cd)) Q E s := by
  generalize hsc : lawScope = sc at *
  conv at hsc => lhs; whnf
  subst hsc
  have hch := Hold.mk (chain5 hm1 hm2 hm2 hm2 hm2)
  have hx1 : (x, instObj 184 d) ∈ ((hl, W.listOf (List.toArray []) nl) :: (L + 1, oF) :: (204, tabObj ps) :: (211, tabObj qs) :: rest) := by walk_at "mine mem"
  have hd1 : (d, hdrDict w.params tkk hl) ∈ ((hl, W.listOf (List.toArray []) nl) :: (L + 1, oF) :: (204, tabObj ps) :: (211, tabObj qs) :: rest) := by walk_at "mine mem"
  have hn0 := nm_txl (n3 := n3) hP hP0
  rw [hch.out] at F
  k_steps
  refine ⟨?_⟩
  refine keys_con (vs := []) (nl := nl) (ps := []) (t := x) (d := d) (hl := hl) (tkk := tkk) (by k_asm) (by k_asm) (by k_asm) (by k_asm) (by k_asm) (by k_asm) rfl ⟨⟨hx1, hd1, List.mem_cons_self .., by decide⟩, .nil⟩ (by ktr_room) (by ktr_units) ?_
  intro r1 nw1 h1 tk1 F1 N1 ⟨D, ys, e1, e2, hys, hD⟩
  subst e1 e2
  cases hys
  have N1' : News g L h1 ((D, W.listOf (List.toArray []) 0) :: (hl, W.listOf (List.toArray []) nl) :: (L + 1, oF) :: (204, tabObj ps) :: (211, tabObj qs) :: rest) := N1
  clear N1
  k_steps
  refine ⟨?_⟩
  rename News _ _ _ _ => N2
  rename Fr _ _ _ _ => F2
  refine eq_dataH (da := .list []) (db := .list []) (reads_list_at (N2 (D, W.listOf (List.toArray []) 0) (List.mem_cons_of_mem _ (List.mem_cons_self ..))).1 rfl rfl .nil) (reads_list_at (N2 _ (List.mem_cons_self ..)).1 rfl rfl .nil) (by decide) (by decide) (by ke_room) ?_
  rw [show PyData.eqv (.list []) (.list []) = true by simp [PyData.eqv, PyData.eqvAll]]
  have N3 := news_sub (news := (hl, W.listOf (List.toArray []) nl) :: (L + 1, oF) :: (204, tabObj ps) :: (211, tabObj qs) :: rest) N2 fun p hp => List.mem_cons_of_mem _ (List.mem_cons_of_mem _ hp)
  clear N2
  have hll3 : (ll, W.listOf (List.toArray vl) cl) ∈ ((hl, W.listOf (List.toArray []) nl) :: (L + 1, oF) :: (204, tabObj ps) :: (211, tabObj qs) :: rest) := by walk_at "mine mem"
  have hisl := list_at N3 hll3
  have hvll : vl.length = P.length := by rw [strsAre_len hvl, List.length_map, List.length_range]
  k_steps
  have h0 : ((List.range P.length).map (nm n3 P)).getD (Int.toNat 0) Str.empty = nm n3 P 0 := nm_at (th := 0) (gn := 0) (List.getElem?_range hP0)
  refine ⟨?_⟩
  rw [h0]
  refine thrice_con (nl := nl) (t := x) (d := d) (hl := hl) (tkk := tkk) (x := nm n3 P 0) (by k_asm) (by k_asm) (by k_asm) (by k_asm) (by k_asm) (by k_asm) rfl ⟨by walk_at "mine mem", by walk_at "mine mem", ?_, hn0⟩ (by ktr_room) (by ktr_units) ?_
  · intro p hp
    rcases List.mem_cons.mp hp with rfl | hp
    · exact Ne.symm ho.1
    rcases List.mem_cons.mp hp with rfl | hp
    · exact Ne.symm ho.2.1
    rcases List.mem_cons.mp hp with rfl | hp
    · exact Ne.symm ho.2.2
    exact hoff p hp
  intro r5 nw5 h5 tk5 F5 N5 ⟨Dt, k1, k2, t1, t2, ys1, e5, f5, hys1⟩
  subst e5 f5
  have hll5 : (ll, W.listOf (List.toArray vl) cl) ∈ (Dt, tupObj [.ref k1, .str (Str.ofString "") t1, .str (Str.ofString "") t2, .ref k2]) :: (k2, LCg.lst []) :: (k1, LCg.lst ys1) :: (L + 1, oF) :: (204, tabObj ps) :: (211, tabObj qs) :: rest := by walk_at "mine mem"
  have hisl5 := list_at N5 hll5
  clear hisl
  k_steps
  refine ⟨?_⟩
  rw [h0]
  refine swap_T hn0 ?_
  intro k7 t7
  k_steps
  refine ⟨?_⟩
  rename News _ _ _ _ => N9
  refine eq_thrice (x := nm n3 P 0) (y := Txt.swapcase (nm n3 P 0)) (thrice_reads N9 (.tail _ (.tail _ (.tail _ (.head _)))) (n2 := 0) (.tail _ (.tail _ (.tail _ (.tail _ (.head _))))) (n1 := ys1.length) (.tail _ (.tail _ (.tail _ (.tail _ (.tail _ (.head _)))))) hys1) (thrice_reads N9 (List.mem_cons_self ..) (List.mem_cons_of_mem _ (List.mem_cons_self ..)) (List.mem_cons_of_mem _ (List.mem_cons_of_mem _ (List.mem_cons_self ..))) (.cons _ _ (.cons _ _ (.cons _ _ .nil)))) hn0 hn0.swap (by ke_room) ?_
  k_steps
  exact hret _ _ _ [] (by assumption) (news_sub N9 (by walk_at "mine sub"))
end
section
theorem law3_all {w : World} {loose : List PySem.Str} {mean : ExcName → Option Value} {mg mb m : PySem.Str → Option Value} {g : Heap} {L fa : Nat} {cd : Value} {s : Shared} {Q : Flow → Shared → Prop} {E : Value → Shared → Prop} {oc1 : Obj} {ls : Nat} {vs : List Value} {ns : List Int}
    (X : (Mine.pre.heap_1 w.params).In g) (T : Top topProg loose mean mg mb g) (XM : Flt.MathXP PySem.Challenge.rw_re0161_03.row.prog mg g) (B : Below callerA g [] g) (F : Fr g L s.heap (fun y => if y = Str.ofString "script" then some (.ref ls) else m y))
    (N : News g L s.heap ((L + 1, oc1) :: [(211, tabObj #[]), (204, tabObj #[])])) (hls : g.IsList ls vs.toArray) (hi : IntsAre vs ns) (hlen : ns.length ≤ 63) (l0 : 211 < L ∧ 204 < L) (dc1 : oc1.data = .cell none)
    (hE : PassesOwn (model PySem.Challenge.rw_re0161_03.row.prog w) (callerA.deeper (envOfC (Str.ofString "law") lawScope L fa cd)) (envOfC (Str.ofString "law") lawScope L fa cd) E)
    (hret : ∀ h tk m' ps qs nw, Fr g L h m' → News g L h ((204, tabObj ps) :: (211, tabObj qs) :: nw) → Q (.ret (.bool true)) { s with heap := h, toks := tk }) :
    wpAny (model PySem.Challenge.rw_re0161_03.row.prog w) (callerA.deeper (envOfC (Str.ofString "law") lawScope L fa cd)) (execs (lawBody.drop 0) (envOfC (Str.ofString "law") lawScope L fa cd)) Q E s := by
  refine law3_1 X T B F N hls hi hlen l0 dc1 ?_
  intro h1 tk1 ln vn cap n1 n2 n3 F1 N1 hin lln
  refine law3_2 X T XM B F1 N1 hin l0 dc1 lln ?_
  intro h2 tk2 o1 st ts F0 tf F2 N2 d1 eF est
  have hF := flags0_lt n1 n3
  rw [← eF] at hF
  have hfew := bits_few n1 n3
  rw [← eF] at hfew
  have hst : ∃ k : Nat, k < 61 ∧ st = (k : Int) - 30 := by
    have a := Int.fmod_lt_of_pos n2 (show (0 : Int) < 61 by decide)
    have b := Int.fmod_nonneg_of_pos n2 (show (0 : Int) < 61 by decide)
    exact ⟨(n2.fmod 61).toNat, by omega, by omega⟩
  clear eF est
  have lln' : @LT.lt Nat instLTNat (L + 1) ln := lln
  have N2' : News g L h2 ((L + 1, o1) :: [(ln, W.listOf (List.toArray vn) cap), (211, tabObj #[]), (204, tabObj #[])]) := news_sub N2 (by walk_at "mine sub")
  clear N2
  refine law3_3 X T XM B F2 N2' d1 hF.2 ?_
  intro h3 tk3 lp vp F3 N3 hvp hlp
  have N3' : News g L h3 ((lp, W.listOf (List.toArray vp) vp.length) :: (L + 1, o1) :: [(ln, W.listOf (List.toArray vn) cap), (211, tabObj #[]), (204, tabObj #[])]) := N3
  clear N3
  have N3b := news_sub (news := (L + 1, o1) :: [(lp, W.listOf (List.toArray vp) vp.length), (ln, W.listOf (List.toArray vn) cap), (211, tabObj #[]), (204, tabObj #[])]) N3' (by walk_at "mine sub")
  clear N3'
  refine law3_4 X T XM B F3 N3b d1 hF.2 (Nat.ne_of_gt hF.1) ?_
  intro h4 tk4 lw vw F4 N4 hvw hlw
  have N4' := news_sub (news := (lw, W.listOf (List.toArray vw) 0) :: (lp, W.listOf (List.toArray vp) vp.length) :: [(L + 1, o1), (ln, W.listOf (List.toArray vn) cap), (211, tabObj #[]), (204, tabObj #[])]) N4 (by walk_at "mine sub")
  clear N4
  refine law3_5 (F0 := F0) (lp := lp) (lw := lw) (vp := vp) (vw := vw) X T XM B F4 N4' hvp hvw rfl rfl ?_
  intro h5 tk5 F5 N5
  have N5' : News g L h5 ((lw, W.listOf (List.toArray vw) 0) :: (lp, W.listOf (List.toArray vp) vp.length) :: [(L + 1, o1), (ln, W.listOf (List.toArray vn) cap), (211, tabObj #[]), (204, tabObj #[])]) := N5
  clear N5
  refine law3_6 X T XM B F5 N5' ?_
  intro h6 tk6 x d tkk hl ll F6 N6 hb1 hb2 hb3 hb4
  have hb1' := ktn_ltOf hb1
  rcases hin with _ | ⟨n1, t1, hin⟩
  rcases hin with _ | ⟨n2, t2, hin⟩
  rcases hin with _ | ⟨n3, t3, hin⟩
  cases hin
  have hP := plc_bits F0
  have hPn := bits_ne hF.2 (Nat.ne_of_gt hF.1)
  obtain ⟨P, hPe⟩ : ∃ P, P = bitsB F0 32 := ⟨_, rfl⟩
  rw [← hPe] at hP hPn hvp hvw hfew
  have hP0 : 0 < P.length := List.length_pos_iff.mpr hPn
  have c1 : @Ne Nat lw (L + 1) := Nat.ne_of_gt (hlw (L + 1, o1) (List.mem_cons_self ..))
  have c2 : @Ne Nat lw 211 := Nat.ne_of_gt (hlw (211, tabObj #[]) (by walk_at "mine mem"))
  have c3 : @Ne Nat lw 204 := Nat.ne_of_gt (hlw (204, tabObj #[]) (by walk_at "mine mem"))
  have c4 : @Ne Nat ln (L + 1) := Nat.ne_of_gt lln
  have c5 : @Ne Nat ln 211 := Nat.ne_of_gt (Nat.lt_trans l0.1 (Nat.lt_trans (Nat.lt_succ_self L) lln))
  have c6 : @Ne Nat ln 204 := Nat.ne_of_gt (Nat.lt_trans l0.2 (Nat.lt_trans (Nat.lt_succ_self L) lln))
  have N6' := news_sub (news := (ll, W.listOf #[] 0) :: (hl, W.listOf #[] 0) :: (x, instObj 184 d) :: (d, hdrDict w.params tkk hl) :: (lw, W.listOf (List.toArray vw) 0) :: (lp, W.listOf (List.toArray vp) vp.length) :: (ln, W.listOf (List.toArray [Value.int n1 t1, .int n2 t2, .int n3 t3]) cap) :: [(L + 1, o1), (211, tabObj #[]), (204, tabObj #[])]) N6 (by walk_at "mine sub")
  clear N6
  have lt6 : ∀ p ∈ (lw, W.listOf (List.toArray vw) 0) :: (lp, W.listOf (List.toArray vp) vp.length) :: (ln, W.listOf (List.toArray [Value.int n1 t1, .int n2 t2, .int n3 t3]) cap) :: [(L + 1, o1), (211, tabObj #[]), (204, tabObj #[])], @LT.lt Nat instLTNat p.1 d := fun p hp => hb1' p ((show ∀ p ∈ (lw, W.listOf (List.toArray vw) 0) :: (lp, W.listOf (List.toArray vp) vp.length) :: (ln, W.listOf (List.toArray [Value.int n1 t1, .int n2 t2, .int n3 t3]) cap) :: [(L + 1, o1), (211, tabObj #[]), (204, tabObj #[])], p ∈ (lw, W.listOf (List.toArray vw) 0) :: (lp, W.listOf (List.toArray vp) vp.length) :: [(L + 1, o1), (ln, W.listOf (List.toArray [Value.int n1 t1, .int n2 t2, .int n3 t3]) cap), (211, tabObj #[]), (204, tabObj #[])] by walk_at "mine sub") p hp)
  refine law3_8 (n3 := n3) (P := P) X T XM B F6 N6' hE lt6 hb2 hb3 hb4 ?_ hP hfew hvp hvw rfl rfl rfl rfl rfl ?_
  · intro q hq
    simp only [List.mem_cons, List.not_mem_nil, or_false] at hq
    rcases hq with rfl | rfl | rfl
    · exact ⟨c1, c4⟩
    · exact ⟨c2, c5⟩
    · exact ⟨c3, c6⟩
  intro h7 tk7 m7 vl vst tl F7 hm7 N7 hvl hr htl
  have lc : @LT.lt Nat instLTNat (L + 1) d := lt6 (L + 1, o1) (by walk_at "mine mem")
  have ld : @LT.lt Nat instLTNat 211 d := lt6 (211, tabObj #[]) (by walk_at "mine mem")
  have li : @LT.lt Nat instLTNat 204 d := lt6 (204, tabObj #[]) (by walk_at "mine mem")
  have llp : @LT.lt Nat instLTNat lp d := lt6 (lp, W.listOf (List.toArray vp) vp.length) (by walk_at "mine mem")
  have p1 : @Ne Nat lp (L + 1) := Ne.symm (hlp (L + 1, o1) (List.mem_cons_self ..))
  have p2 : @Ne Nat lp 211 := Ne.symm (hlp (211, tabObj #[]) (by walk_at "mine mem"))
  have p3 : @Ne Nat lp 204 := Ne.symm (hlp (204, tabObj #[]) (by walk_at "mine mem"))
  have hd3 := Nat.lt_trans hb2 hb3
  have hd4 := Nat.lt_trans hd3 hb4
  have N7' := news_sub (news := (hl, W.listOf (List.toArray vst) P.length) :: (L + 1, o1) :: (204, tabObj #[]) :: (211, tabObj #[]) :: (ll, W.listOf (List.toArray vl) P.length) :: (x, instObj 184 d) :: (d, hdrDict w.params tkk hl) :: (lp, W.listOf (List.toArray vp) vp.length) :: tl) N7 (by walk_at "mine sub")
  clear N7
  have off9 : ∀ p ∈ (ll, W.listOf (List.toArray vl) P.length) :: (x, instObj 184 d) :: (d, hdrDict w.params tkk hl) :: (lp, W.listOf (List.toArray vp) vp.length) :: tl, p.1 ≠ hl ∧ p.1 ≠ L + 1 ∧ p.1 ≠ 204 ∧ p.1 ≠ 211 := fun p hp => by
    rcases List.mem_cons.mp hp with rfl | hp
    · exact ⟨Nat.ne_of_gt hb4, Nat.ne_of_gt (Nat.lt_trans lc hd4), Nat.ne_of_gt (Nat.lt_trans li hd4), Nat.ne_of_gt (Nat.lt_trans ld hd4)⟩
    rcases List.mem_cons.mp hp with rfl | hp
    · exact ⟨Nat.ne_of_lt hb3, Nat.ne_of_gt (Nat.lt_trans lc hb2), Nat.ne_of_gt (Nat.lt_trans li hb2), Nat.ne_of_gt (Nat.lt_trans ld hb2)⟩
    rcases List.mem_cons.mp hp with rfl | hp
    · exact ⟨Nat.ne_of_lt hd3, Nat.ne_of_gt lc, Nat.ne_of_gt li, Nat.ne_of_gt ld⟩
    rcases List.mem_cons.mp hp with rfl | hp
    · exact ⟨Nat.ne_of_lt (Nat.lt_trans llp hd3), p1, p3, p2⟩
    obtain ⟨a1, a2⟩ := htl p hp
    exact ⟨a1, a2 (L + 1, o1) (List.mem_cons_self ..), a2 (204, tabObj #[]) (by walk_at "mine mem"), a2 (211, tabObj #[]) (by walk_at "mine mem")⟩
  have ho9 : hl ≠ L + 1 ∧ hl ≠ 204 ∧ hl ≠ 211 ∧ L + 1 ≠ 204 ∧ L + 1 ≠ 211 := ⟨Nat.ne_of_gt (Nat.lt_trans lc hd3), Nat.ne_of_gt (Nat.lt_trans li hd3), Nat.ne_of_gt (Nat.lt_trans ld hd3), Nat.ne_of_gt (Nat.lt_succ_of_lt l0.2), Nat.ne_of_gt (Nat.lt_succ_of_lt l0.1)⟩
  refine law3_9 (n3 := n3) (P := P) (x := x) (d := d) (ll := ll) (lp := lp) (st := st) (vl := vl) (vp := vp) X T XM B F7 N7' (by walk_at "mine mem") (by walk_at "mine mem") (by walk_at "mine mem") (by walk_at "mine mem") hE hP hfew hvp hvl (hr.mono fun p hp => by walk_at "mine mem") hst d1 hF.2 hPe.symm off9 ho9
    ((hm7 _ (by decide) (by decide)).trans rfl) ((hm7 _ (by decide) (by decide)).trans rfl) ((hm7 _ (by decide) (by decide)).trans rfl) ((hm7 _ (by decide) (by decide)).trans rfl) ?_
  intro h9 tk9 m9 oF ps qs nl add F9 e2 e3 N9 hadd
  have sub9 : ∀ p ∈ (ll, W.listOf (List.toArray vl) P.length) :: (x, instObj 184 d) :: (d, hdrDict w.params tkk hl) :: (lp, W.listOf (List.toArray vp) vp.length) :: tl, p ∈ add ++ (ll, W.listOf (List.toArray vl) P.length) :: (x, instObj 184 d) :: (d, hdrDict w.params tkk hl) :: (lp, W.listOf (List.toArray vp) vp.length) :: tl := fun p hp => List.mem_append_right _ hp
  refine law3_11 (n3 := n3) (P := P) (x := x) (d := d) (ll := ll) (vl := vl) X T XM B F9 N9 (sub9 _ (by walk_at "mine mem")) (sub9 _ (by walk_at "mine mem")) (sub9 _ (by walk_at "mine mem")) hP hP0 hvl (fun p hp => ((List.mem_append.mp hp).elim (hadd p) (off9 p)).1) ⟨ho9.1, ho9.2.1, ho9.2.2.1⟩ e2 e3 ?_
  intro h10 tk10 m10 nw F10 N10
  exact hret _ _ _ _ _ _ F10 N10
end
section
theorem know_list {g : Heap} {ls : Nat} {vs : Array Value} {mE : PySem.Str → Option Value} (_h : g.IsList ls vs) (e : mE (Str.ofString "script") = some (.ref ls)) : mE (Str.ofString "script") = some (.ref ls) := e
theorem math_eq {p q : Program} {mg : PySem.Str → Option Value} {h : Heap} (X : Flt.MathXP p mg h) (e1 : Flt.mathMods p = Flt.mathMods q) (e2 : Flt.mathDrawn p = Flt.mathDrawn q) (e3 : Flt.patsOf p = Flt.patsOf q) : Flt.MathXP q mg h :=
  ⟨e1 ▸ X.mods, e2 ▸ X.drawn, e3 ▸ X.pats⟩
theorem frag_eq {K1 K2 : Frag} {h : Heap} (X : K1.In h) (e : K1 = K2) : K2.In h := e ▸ X
def holds.tw8564859838321607590 : Nat := 0
def holds.tw12941468149822085856 : Nat := 0
def holds.tw4077311611012620791 : Nat := 0
def holds.tw12035709682882374078 : Nat := 0
def holds.tw2969165065227267656 : Nat := 0
def holds.tw14040500308302212198 : Nat := 0
def holds.tw15789530105314615488 : Nat := 0
def holds.tw14713388646796477685 : Nat := 0
def holds.tw5816798887183066694 : Nat := 0
def holds.tw11275434479269021171 : Nat := 0
def holds.tw4957349377997413466 : Nat := 0
def holds.tw14380267591285566351 : Nat := 0
def holds.tw14853027644439354502 : Nat := 0
def holds.tw685634667276709000 : Nat := 0
def holds.tw12468101337765408714 : Nat := 0
def holds.tw17142004355817479444 : Nat := 0
def holds.tw5926597645957970899 : Nat := 0
def holds.tw17858152450515298520 : Nat := 0
def holds.tw1833173380454153921 : Nat := 0
def holds.tw2395109189467087578 : Nat := 0
def holds.tw4065146272016792997 : Nat := 0
def holds.tw8143335708233088440 : Nat := 0
def holds.tw13758948915013449397 : Nat := 0
def holds.tw11968577826497805164 : Nat := 0
def holds.tw9245723823536211039 : Nat := 0
def holds.tw11822188140940861840 : Nat := 0
def holds.tw4021013208564600997 : Nat := 0
def holds.tw12698916279152862973 : Nat := 0
def holds.tw9327718836232418737 : Nat := 0
def holds.tw10292701021901942622 : Nat := 0
def holds.tw187104208977503339 : Nat := 0
def holds.tw5252246860307943348 : Nat := 0
def holds.tw13651502964188933756 : Nat := 0
def holds.tw14856189802965030758 : Nat := 0
def holds.tw11379536335273661636 : Nat := 0
def holds.tw8551410553514715252 : Nat := 0
def holds.tw303617358959260456 : Nat := 0
def holds.tw14456359579513077766 : Nat := 0
def holds.tw13860560629476652642 : Nat := 0
def holds.tw6896159741398044905 : Nat := 0
def holds.tw4374827463496512255 : Nat := 0
def holds.tw3381435865837020940 : Nat := 0
def holds.tw4197124852483764760 : Nat := 0
def holds.tw5323918697378788693 : Nat := 0
def holds.tw9408521175777228426 : Nat := 0
def holds.tw150268843892594924 : Nat := 0
def holds.tw15733542881966949079 : Nat := 0
def holds.tw4905061745869718969 : Nat := 0
def holds.tw13306226422529918579 : Nat := 0
def holds.tw9279739060811778729 : Nat := 0
def holds.tw3232270311777372273 : Nat := 0
def holds.tw18145382148040430673 : Nat := 0
def holds.tw8105830805119860317 : Nat := 0
def holds.tw13370180491053348 : Nat := 0
def holds.tw3626213265524300766 : Nat := 0
def holds.tw2207817973478938216 : Nat := 0
def holds.tw3101148707280403237 : Nat := 0
def holds.tw8049511868366338171 : Nat := 0
def holds.tw6460966521098074893 : Nat := 0
def holds.tw2003794701753356343 : Nat := 0
def holds.tw2277698456845511444 : Nat := 0
def holds.tw17500814259130102135 : Nat := 0
def holds.tw5295917329084666069 : Nat := 0
def holds.tw4954732016240277505 : Nat := 0
def holds.tw6099975724469302500 : Nat := 0
def holds.tw15864543535133235901 : Nat := 0
def holds.tw1508545211966159021 : Nat := 0
def holds.tw14012497318314112844 : Nat := 0
def holds.tw14387954076880322906 : Nat := 0
def holds.tw10973056549479156102 : Nat := 0
def holds.tw1974762919298152056 : Nat := 0
def holds.tw1095465085569150570 : Nat := 0
def holds.tw15349486494167490861 : Nat := 0
def holds.tw10587580826675096554 : Nat := 0
def holds.tw9140063382869304120 : Nat := 0
def holds.tw1986877004247180340 : Nat := 0
def holds.tw15785218014132313688 : Nat := 0
def holds.tw9518972631687950247 : Nat := 0
def holds.tw63030109126827207 : Nat := 0
def holds.tw3444523814780208807 : Nat := 0
def holds.tw6169855366041667953 : Nat := 0
def holds.tw4252685499439207924 : Nat := 0
def holds.tw5471403574791894133 : Nat := 0
def holds.tw5669522364923126785 : Nat := 0
def holds.tw14057074652324994105 : Nat := 0
def holds.tw16103052997337653925 : Nat := 0
def holds.tw6606875086121380550 : Nat := 0
def holds.tw10595842591828190984 : Nat := 0
def holds.tw298297018594106725 : Nat := 0
def holds.tw14571696787620697854 : Nat := 0
def holds.tw6816380694822836728 : Nat := 0
def holds.tw14533596452844920548 : Nat := 0
def holds.tw18173914834931495973 : Nat := 0
def holds.tw11223116819087169764 : Nat := 0
def holds.tw16898140867199733807 : Nat := 0
def holds.tw14265980490254392165 : Nat := 0
def holds.tw8664812251140827045 : Nat := 0
def holds.tw6216033271563703469 : Nat := 0
def holds.tw4137054072099604216 : Nat := 0
def holds.tw8163853742193369449 : Nat := 0
def holds.tw17888473431584550794 : Nat := 0
def holds.tw7058599786907716777 : Nat := 0
def holds.tw8086972369959518483 : Nat := 0
def holds.tw2160012875989923789 : Nat := 0
def holds.tw4636335402390110268 : Nat := 0
def holds.tw10240100896771907615 : Nat := 0
def holds.tw12629177860411813126 : Nat := 0
def holds.tw3083665863380995925 : Nat := 0
def holds.tw8070350036930755802 : Nat := 0
def holds.tw7942442253511216057 : Nat := 0
def holds.tw2929439407932294337 : Nat := 0
def holds.tw154871700347349385 : Nat := 0
def holds.tw4422276619278600727 : Nat := 0
def holds.tw4921510776622977656 : Nat := 0
def holds.tw2562329033357795767 : Nat := 0
def holds.tw6735552807121987811 : Nat := 0
def holds.tw13699695993870321475 : Nat := 0
def holds.tw15814798929938293467 : Nat := 0
def holds.tw11569915684508697678 : Nat := 0
def holds.tw9260842090827677427 : Nat := 0
def holds.tw10705619171732726748 : Nat := 0
def holds.tw5225467491883748592 : Nat := 0
def holds.tw2084331650109322480 : Nat := 0
def holds.tw13373784697917265674 : Nat := 0
def holds.tw14085268106739128817 : Nat := 0
def holds.tw8868040359437915812 : Nat := 0
def holds.tw5932082505621288647 : Nat := 0
def holds.tw2752272122444995253 : Nat := 0
def holds.tw9072656965561520583 : Nat := 0
def holds.tw5350216910946226995 : Nat := 0
def holds.tw10705761992013847755 : Nat := 0
def holds.tw2781561513384061212 : Nat := 0
def holds.tw3093010850272755244 : Nat := 0
def holds.tw16478504620199068264 : Nat := 0
def holds.tw11319453509113102234 : Nat := 0
def holds.tw14062913937729191461 : Nat := 0
def holds.tw10531532615022067580 : Nat := 0
def holds.tw13367305885274521072 : Nat := 0
def holds.tw17294395744611713098 : Nat := 0
def holds.tw10859938921441162988 : Nat := 0
def holds.tw9321796208036801940 : Nat := 0
def holds.tw1438057683635843531 : Nat := 0
def holds.tw9370115536473471133 : Nat := 0
def holds.tw14329496541525505588 : Nat := 0
def holds.tw6330134614895140133 : Nat := 0
def holds.tw5791938023122869331 : Nat := 0
def holds.tw949623864930693503 : Nat := 0
def holds.tw15750308709622187472 : Nat := 0
def holds.tw9866653766423218390 : Nat := 0
def holds.tw11750193621415288269 : Nat := 0
def holds.tw15654153127513851752 : Nat := 0
def holds.tw4717937361131159733 : Nat := 0
def holds.tw13108245259352980691 : Nat := 0
def holds.tw17549760099613038055 : Nat := 0
def holds.tw3811385743445658432 : Nat := 0
def holds.tw13384883100587833847 : Nat := 0
def holds.tw17254660705983429885 : Nat := 0
def holds.tw17631178891982236634 : Nat := 0
def holds.tw13563289320671947111 : Nat := 0
def holds.tw10269081998898121243 : Nat := 0
def holds.tw4532548537324856634 : Nat := 0
def holds.tw14786066558164337950 : Nat := 0
def holds.tw3092724735428445279 : Nat := 0
def holds.tw15573729904360925794 : Nat := 0
def holds.tw9157471666820141079 : Nat := 0
def holds.tw8789113547377566482 : Nat := 0
def holds.tw8827755016177155863 : Nat := 0
def holds.tw8277820557490507997 : Nat := 0
def holds.tw16887932952891968693 : Nat := 0
def holds.tw16451975095625300501 : Nat := 0
def holds.tw15985840036639034899 : Nat := 0
def holds.tw7366336091430424897 : Nat := 0
def holds.tw3864012138097595758 : Nat := 0
def holds.tw1357463484097335404 : Nat := 0
def holds.tw7873036012977236159 : Nat := 0
def holds.tw10828986214106111531 : Nat := 0
def holds.tw1466284255255076664 : Nat := 0
def holds.tw5959074840488112208 : Nat := 0
def holds.tw13334661261001831826 : Nat := 0
def holds.tw17597196502641442581 : Nat := 0
def holds.tw4475622257904601326 : Nat := 0
def holds.tw5857794014393010482 : Nat := 0
def holds.tw5531990279233569197 : Nat := 0
def holds.tw16568243084613897719 : Nat := 0
def holds.tw14642846902033847964 : Nat := 0
def holds.tw17087466662150396210 : Nat := 0
def holds.tw16315053957116525436 : Nat := 0
def holds.tw3339025504875072537 : Nat := 0
def holds.tw15663057623668237757 : Nat := 0
def holds.tw8571184235532366510 : Nat := 0
def holds.tw16939745714101447976 : Nat := 0
def holds.tw5099458221760260784 : Nat := 0
def holds.tw6654929391614583909 : Nat := 0
def holds.tw16749169483461330953 : Nat := 0
def holds.tw960582308587345451 : Nat := 0
def holds.tw5878047611234877577 : Nat := 0
def holds.tw8575535491628544125 : Nat := 0
def holds.tw16532224993992427823 : Nat := 0
def holds.tw9458989268892848673 : Nat := 0
def holds.tw14314133134477209284 : Nat := 0
def holds.tw16179787414501680475 : Nat := 0
def holds.tw16281141667863336784 : Nat := 0
def holds.tw12870647732520690006 : Nat := 0
def holds.tw7516632072315021061 : Nat := 0
def holds.tw4381346726385406224 : Nat := 0
def holds.tw2167384251425162797 : Nat := 0
def holds.tw11723004889028688699 : Nat := 0
def holds.tw4796666493748621973 : Nat := 0
def holds.tw2963349702327202441 : Nat := 0
def holds.tw15356600547250028879 : Nat := 0
def holds.tw11775407622660791982 : Nat := 0
def holds.tw1882270145967814011 : Nat := 0
def holds.tw9569093901706499007 : Nat := 0
def holds.tw9250495785965993271 : Nat := 0
def holds.tw12808162357026388105 : Nat := 0
def holds.tw10698829266838348154 : Nat := 0
def holds.tw12158838097934144204 : Nat := 0
def holds.tw10280545108713110612 : Nat := 0
def holds.tw11311999394344832113 : Nat := 0
def holds.tw14149781006570564392 : Nat := 0
def holds.tw13942211991455542721 : Nat := 0
def holds.tw4952593789767209597 : Nat := 0
def holds.tw9647410926604887880 : Nat := 0
def holds.tw12542415522573167287 : Nat := 0
def holds.tw4624323801304008105 : Nat := 0
def holds.tw9638990691586225099 : Nat := 0
def holds.tw12540800736699631050 : Nat := 0
def holds.tw11566098377363298415 : Nat := 0
def holds.tw10637851664137882224 : Nat := 0
def holds.tw8868445881999480663 : Nat := 0
def holds.tw11108990310810952830 : Nat := 0
def holds.tw9284948610034456067 : Nat := 0
def holds.tw10726778698580467152 : Nat := 0
def holds.tw9188266559522036927 : Nat := 0
def holds.tw2451063411067222376 : Nat := 0
def holds.tw11341941285841758863 : Nat := 0
def holds.tw5619803957841784048 : Nat := 0
def holds.tw15402825562841796884 : Nat := 0
def holds.tw4753448620645791293 : Nat := 0
def holds.tw254569045350018230 : Nat := 0
def holds.tw14786868411472786527 : Nat := 0
def holds.tw5078402968320093544 : Nat := 0
def holds.tw10677865647760817919 : Nat := 0
def holds.tw99148262030102190 : Nat := 0
def holds.tw4659233104850659043 : Nat := 0
def holds.tw10894570999934473159 : Nat := 0
def holds.tw11502601298335438083 : Nat := 0
def holds.tw12004703523718567385 : Nat := 0
def holds.tw142377125942736700 : Nat := 0
def holds.tw9160814584890018001 : Nat := 0
def holds.tw8451429660923938374 : Nat := 0
def holds.tw3589964763223657672 : Nat := 0
def holds.tw5915465848944024539 : Nat := 0
def holds.tw1316056555746827224 : Nat := 0
def holds.tw8006095370074002437 : Nat := 0
def holds.tw4046193847619289583 : Nat := 0
def holds.tw11612728935029869629 : Nat := 0
def holds.tw12762722769849151566 : Nat := 0
def holds.tw4408763645494598628 : Nat := 0
def holds.tw4043779546988386903 : Nat := 0
def holds.tw8393340031374782525 : Nat := 0
def holds.tw1382383790286775375 : Nat := 0
def holds.tw10824115321126796680 : Nat := 0
def holds.tw15383290158734973844 : Nat := 0
def holds.tw9855210162650666830 : Nat := 0
def holds.tw17856180979147524769 : Nat := 0
def holds.tw10520202591518659360 : Nat := 0
def holds.tw8323465864499181419 : Nat := 0
def holds.tw13564983018704479910 : Nat := 0
def holds.tw14374762386000251392 : Nat := 0
def holds.tw3280128972450656526 : Nat := 0
def holds.tw6545324650690627985 : Nat := 0
def holds.tw3937267528351423324 : Nat := 0
def holds.tw5857869478962280401 : Nat := 0
def holds.tw655971840912409622 : Nat := 0
def holds.tw9869501847327858460 : Nat := 0
def holds.tw14198269503538366806 : Nat := 0
def holds.tw8768432154118970496 : Nat := 0
def holds.tw14101148630387067604 : Nat := 0
def holds.tw8870338830035865080 : Nat := 0
def holds.tw8045646192849157748 : Nat := 0
def holds.tw17611067142513779687 : Nat := 0
def holds.tw14411328915609312922 : Nat := 0
def holds.tw576298715544257586 : Nat := 0
def holds.tw15228004617427520810 : Nat := 0
def holds.tw15305512045591798990 : Nat := 0
def holds.tw7350330377624401328 : Nat := 0
def holds.tw7923702915469573346 : Nat := 0
def holds.tw9441326970708011783 : Nat := 0
def holds.tw12467034654032377186 : Nat := 0
def holds.tw14083834280242248106 : Nat := 0
def holds.tw13356387430892511905 : Nat := 0
def holds.tw5031978486770369989 : Nat := 0
def holds.tw151567797773009622 : Nat := 0
def holds.tw1672651397029140864 : Nat := 0
def holds.tw17533166617710000329 : Nat := 0
def holds.tw8943767207682116370 : Nat := 0
def holds.tw2156681307112010326 : Nat := 0
def holds.tw12337024466821633839 : Nat := 0
def holds.tw5112738896828158680 : Nat := 0
def holds.tw12553914923479104506 : Nat := 0
def holds.tw10876536743886354276 : Nat := 0
def holds.tw7399101569421298396 : Nat := 0
def holds.tw17591727778206626035 : Nat := 0
def holds.tw3081346186701454755 : Nat := 0
def holds.tw707885073954110949 : Nat := 0
def holds.tw12632932662738783937 : Nat := 0
def holds.tw8253004272172430988 : Nat := 0
def holds.tw2972900019843275892 : Nat := 0
def holds.tw15464432741802594518 : Nat := 0
def holds.tw244668840739839672 : Nat := 0
def holds.tw7551591917499560916 : Nat := 0
def holds.tw13002855754428957212 : Nat := 0
def holds.tw10494946348260405530 : Nat := 0
def holds.tw13341946137322399123 : Nat := 0
def holds.tw12056596633878991817 : Nat := 0
def holds.tw1389151227800987198 : Nat := 0
def holds.tw2041457743892144894 : Nat := 0
def holds.tw10684964147190113176 : Nat := 0
def holds.tw12788872388335264594 : Nat := 0
def holds.tw4583756282420477746 : Nat := 0
def holds.tw15493915963290111440 : Nat := 0
def holds.tw12633084752571091873 : Nat := 0
def holds.tw2667925813562934949 : Nat := 0
def holds.tw5082999880386992228 : Nat := 0
def holds.tw16697607604324151607 : Nat := 0
def holds.tw9160933379109621080 : Nat := 0
def holds.tw11111472982789046935 : Nat := 0
def holds.tw17476224472650253806 : Nat := 0
def holds.tw12733908048491186811 : Nat := 0
def holds.tw9143120035062812437 : Nat := 0
def holds.tw4480811336153992742 : Nat := 0
def holds.tw3579776383272448420 : Nat := 0
def holds.tw15296638952792297585 : Nat := 0
def holds.tw16740147826971877517 : Nat := 0
def holds.tw8115153917610635543 : Nat := 0
def holds.tw17551835440721493442 : Nat := 0
def holds.tw1032644102275906610 : Nat := 0
def holds.tw6396523623945614605 : Nat := 0
def holds.tw13602253286356535353 : Nat := 0
def holds.tw341249449185904685 : Nat := 0
def holds.tw8102643725754146565 : Nat := 0
def holds.tw10576265454180977796 : Nat := 0
def holds.tw16239030619513480838 : Nat := 0
def holds.tw8035951141280138642 : Nat := 0
def holds.tw3378624336152846145 : Nat := 0
def holds.tw10817008591213730988 : Nat := 0
def holds.tw14438757958421221462 : Nat := 0
def holds.tw7129523546110730894 : Nat := 0
def holds.tw17642598502550569490 : Nat := 0
def holds.tw1092734292537931370 : Nat := 0
def holds.tw17450472940649059298 : Nat := 0
def holds.tw14404905868111484630 : Nat := 0
def holds.tw13676757877788619591 : Nat := 0
def holds.tw14777700561071354170 : Nat := 0
def holds.tw12160635655254385198 : Nat := 0
def holds.tw1446027475299390936 : Nat := 0
def holds.tw15659084048362614264 : Nat := 0
def holds.tw17180457848445815676 : Nat := 0
def holds.tw9816476011544392670 : Nat := 0
def holds.tw4949047195023096438 : Nat := 0
def holds.tw4876135695594978501 : Nat := 0
def holds.tw3279077582325829838 : Nat := 0
def holds.tw10238092577321643331 : Nat := 0
def holds.tw9232459349045140238 : Nat := 0
def holds.tw14691085348537605332 : Nat := 0
def holds.tw7145057240379410032 : Nat := 0
def holds.tw13416111870119765123 : Nat := 0
def holds.tw16497969686579978388 : Nat := 0
def holds.tw1876284267304334591 : Nat := 0
def holds.tw7122917452565745793 : Nat := 0
def holds.tw8260078842695283502 : Nat := 0
def holds.tw3969078344035082030 : Nat := 0
def holds.tw14747351113905286367 : Nat := 0
def holds.tw6166532556598395850 : Nat := 0
def holds.tw1213666046027356511 : Nat := 0
def holds.tw12461706298059298081 : Nat := 0
def holds.tw7885888744534978006 : Nat := 0
def holds.tw15043986215568586124 : Nat := 0
def holds.tw945861476033566700 : Nat := 0
def holds.tw17822619038779606285 : Nat := 0
def holds.tw10853043219271619230 : Nat := 0
def holds.tw2335221107431800076 : Nat := 0
def holds.tw8903297777125119442 : Nat := 0
def holds.tw10645105620128953169 : Nat := 0
def holds.tw12971255547343527473 : Nat := 0
def holds.tw9367411864662104596 : Nat := 0
def holds.tw11210861575573996130 : Nat := 0
def holds.tw17096001632197288867 : Nat := 0
def holds.tw7258431392514884226 : Nat := 0
def holds.tw5282283922864298156 : Nat := 0
set_option Elab.async true in
set_option maxHeartbeats 8000000 in
theorem holds : PySem.Challenge.rw_re0161_03.Holds := by
  w_on; o_law; k_head; (case hw => w_witness2)
  k_go0; (all_goals try k_fold)
  dsimp only at *
  rename World => w
  rename List Int => ns
  rename TabsAt _ _ => hT9
  rename Flt.MathXP _ _ _ => XM0
  have XM := math_eq (q := PySem.Challenge.rw_re0161_03.row.prog) (ghost_math hT9 XM0 (by rfl)) (by kernel_rfl) (by kernel_rfl) (by kernel_rfl)
  rename Heap.IsList (ghostOf _ _) _ _ => hls
  rename IntsAre _ _ => hI
  rename Below _ _ _ _ => B
  rename Frag.In _ _ => X0
  have X := frag_eq (K2 := Mine.pre.heap_1 w.params) X0 (by kernel_rfl)
  rename Top topProg _ _ _ _ _ => T
  rename Fr _ _ _ _ => F
  rename News _ _ _ _ => N
  rename ¬ _ => hlen
  rename _ ∧ _ => l9
  obtain ⟨mE, hmE, FE⟩ := fr_gen F
  have hms := know_list (mE := mE) hls (by rw [hmE]; rfl)
  rw [know hms] at FE
  refine law3_all (ns := ns) X T XM B FE N hls hI ?_ l9 ?_ ?_ ?_
  · omega
  · exact Eq.trans (by assumption) (by rfl)
  · passes_own
  · intro h tk m' ps qs nw Fz Nz
    refine ⟨?_, GrownAt.of Nz (List.mem_cons_of_mem _ (List.mem_cons_self ..)), GrownAt.of Nz (List.mem_cons_self ..), True.intro⟩
    clear N F FE
    k_steps
end
end Mine
theorem PySem.Challenge.cw_re0161_03_holds : PySem.Challenge.rw_re0161_03.Holds := by
  exact Mine.holds
