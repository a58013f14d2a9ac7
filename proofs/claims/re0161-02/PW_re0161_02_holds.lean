import PyProof.Rows.All
import Wide.All
import OpenK.AllK
import Wide.FinOn
import PySem.Challenge.RW_re0161_02
set_option Elab.async false
set_option maxRecDepth 100000
set_option linter.all false
set_option compiler.extract_closed false
namespace Mine
section
open PySem PySem.W PyProof.Rows
local macro_rules | `(tactic| o_head $_:term) => `(tactic| assumption)
theorem pre (_h : (OpenLaw.row PySem.Challenge.rw_re0161_02).Holds) : True := by
  have : (OpenLaw.row PySem.Challenge.rw_re0161_02).Holds := by k_head
  trivial
end
end Mine
namespace Mine
theorem sub_c {α : Type} {a : α} {A B : List α} (h : a ∈ B) (t : ∀ p ∈ A, p ∈ B) : ∀ p ∈ a :: A, p ∈ B := fun p hp => (List.mem_cons.mp hp).elim (fun e => e ▸ h) (t p)
theorem sub_a {α : Type} {A C B : List α} (h : ∀ p ∈ A, p ∈ B) (t : ∀ p ∈ C, p ∈ B) : ∀ p ∈ A ++ C, p ∈ B := fun p hp => (List.mem_append.mp hp).elim (h p) (t p)
theorem sub_n {α : Type} {B : List α} : ∀ p ∈ ([] : List α), p ∈ B := fun _ hp => nomatch hp
theorem sub_r {α : Type} {A : List α} : ∀ p ∈ A, p ∈ A := fun _ hp => hp
theorem sub_t {α : Type} {b : α} {A B : List α} (h : ∀ p ∈ A, p ∈ B) : ∀ p ∈ A, p ∈ b :: B := fun p hp => List.mem_cons_of_mem _ (h p hp)
theorem sub_l {α : Type} {A B C : List α} (h : ∀ p ∈ A, p ∈ B) : ∀ p ∈ A, p ∈ B ++ C := fun p hp => List.mem_append_left _ (h p hp)
theorem sub_s {α : Type} {A B C : List α} (h : ∀ p ∈ A, p ∈ C) : ∀ p ∈ A, p ∈ B ++ C := fun p hp => List.mem_append_right _ (h p hp)
end Mine
namespace Mine
open PySem PySem.W PySem.Spec PySem.Calls PyProof.Rows

section
variable {prog : Program} {w : World} {A : Around} {s : Shared} {env : Env} {h₀ : Heap} {E : Value → Shared → Prop} {Q : Flow → Shared → Prop}

/-- from «whatever it hands on» to a goal about it -/
theorem cps2 {α β : Type} {X : (α → β → Prop) → Prop} {P : α → β → Prop} (h : X P) : ∀ a b, (∀ G, X G → G a b) → P a b := fun _ _ k => k P h
/-- what the loop does with the ways in which its body ends -/
def EndF (Q : Flow → Shared → Prop) (T : Shared → Prop) (f : Flow) (s : Shared) : Prop :=
  match f with
  | .ret v => Q (.ret v) s
  | .brk => Q .next s
  | .cont => T s
  | .next => T s
/-- a for with an else arm: what its iterator walks, and what holds between the turns -/
def LoopX (prog : Program) (w : World) (A : Around) (h₀ : Heap) (env : Env) (x : Str) (body orelse : List Stmt) (Q : Flow → Shared → Prop) (E : Value → Shared → Prop) (it : Value) (s : Shared) : Prop :=
  ∀ G : Prop, (∀ (I : Addr) (fp wr : List Addr) (n : Nat) (P : Nat → Value → Prop) (St : Nat → Heap → Prop) (m : Str → Option Value) (news : List (Addr × Obj)) (J : Nat → (Str → Option Value) → List (Addr × Obj) → Prop),
    it = .ref I → Walks prog w A I fp wr n P St → env.locals ∉ fp → (∀ b ∈ wr, h₀.get? b = none) → (∀ p ∈ news, p.1 ∉ wr) → St 0 s.heap → Fr h₀ env.locals s.heap m → News h₀ env.locals s.heap news → J 0 m news →
    (∀ (Qb : Flow → Shared → Prop) i v m₁ news₁ h tk own, (∀ h' tk' m' nx', Fr h₀ env.locals h' m' → News h₀ env.locals h' (own ++ nx') → (∀ p ∈ nx', p.1 ∉ wr) → J (i + 1) m' nx' → Qb .next { s with heap := h', toks := tk' }) → (∀ s', Q .next s' → Qb .brk s') →
      i < n → P i v → J i m₁ news₁ → (∀ p ∈ news₁, p.1 ∉ wr) → (∀ p ∈ own, p.1 ∈ fp) → (∀ p ∈ own, h.get? p.1 = some p.2) → (∀ b ∈ fp, h₀.get? b = none → ∀ o, h.get? b = some o → (b, o) ∈ own) → St (i + 1) h →
      Fr h₀ env.locals h (fun y => if y = x then some v else m₁ y) → News h₀ env.locals h (own ++ news₁) → wpAny (model prog w) A (execs body env) Qb E { s with heap := h, toks := tk }) →
    (∀ h' tk m' news', Fr h₀ env.locals h' m' → News h₀ env.locals h' news' → (∀ p ∈ news', p.1 ∉ wr) → J n m' news' → wpAny (model prog w) A (execs orelse env) Q E { s with heap := h', toks := tk }) → G) → G

/-- what holds between the turns -/
def LoopI (h₀ : Heap) (L : Addr) (wr : List Addr) (n : Nat) (St : Nat → Heap → Prop) (J : Nat → (Str → Option Value) → List (Addr × Obj) → Prop) (s : Shared) (k : Nat) (s' : Shared) : Prop :=
  ∀ G : Nat → Shared → Prop, (∀ h' tk m' news' i, St i h' → Fr h₀ L h' m' → News h₀ L h' news' → (∀ p ∈ news', p.1 ∉ wr) → J i m' news' → i ≤ n → G (n + 1 - i) { s with heap := h', toks := tk }) → G k s'
theorem For_X {x : Str} {px pos : Pos} {iter : Expr} {body orelse : List Stmt} {m₀ : Str → Option Value} (_F : Fr h₀ env.locals s.heap m₀) (hx : env.kindOf x = some .local)
    (hp : (env.scope.kind == .class || (env.scope.kind == .module && env.locals != env.globals)) = false)
    (h : wpAny (model prog w) A (eval iter env) (fun xv s₁ => wpAny (model prog w) A (pyIter xv) (fun it s₂ => LoopX prog w A h₀ env x body orelse Q E it s₂) E s₁) E s)
    (hs : ∀ x, foldedSetIterable iter env x = pure x := by intro _; rfl)
    (hE : PassesOwn (model prog w) A env E := by passes_own) :
    wpAny (model prog w) A (exec (.For (.Name x px) iter body orelse pos) env) Q E s := by
  refine wpAny_For (wpAny_mono h (fun xv s₁ h₁ => wpAny_mono h₁ (fun it s₂ h₂ => h₂ _ ?_) fun _ _ e => e) fun _ _ e => e) hs
  intro I fp wr n P St m news J hit W hLf hwr hnw hst F N h0 step hQ
  subst hit
  have hLw : env.locals ∉ wr := fun h => hLf (W.sub _ h)
  have old : ∀ b o, h₀.get? b = some o → b ∉ wr := fun b o e hb => by rw [hwr b hb] at e; cases e
  refine codeAny_forLoop (LoopI h₀ env.locals wr n St J s₂) ?_ (n + 1)
    (fun G k => k s₂.heap s₂.toks m news 0 hst F N hnw h0 (Nat.zero_le _))
  refine cps2 ?_
  intro h' tk m' news' i hst' F' N' hnw' hJ hi
  have nextF : ∀ h₁ : Heap, (∀ b o, b ∉ wr → h'.get? b = some o → h₁.get? b = some o) → Fr h₀ env.locals h₁ m' := fun h₁ hk₁ =>
    ⟨F'.ns.at' fun o e => hk₁ _ o hLw e, fun b o e => hk₁ b o (old b o e) (F'.keep b o e), F'.above⟩
  have nextN : ∀ h₁ : Heap, (∀ b o, b ∉ wr → h'.get? b = some o → h₁.get? b = some o) → News h₀ env.locals h₁ news' := fun h₁ hk₁ p hp => ⟨hk₁ _ _ (hnw' p hp) (N' p hp).1, (N' p hp).2⟩
  by_cases hlt : i < n
  · refine W.item i _ _ _ hlt hst' fun v h₁ tk₁ hP hst₁ hk₁ => ?_
    refine wpAny_assign_Name (wpAny_storeName_local hx (nextF h₁ hk₁).ns (fun h₂ hn₂ hs₂ => ?_) hp)
    have F₂ := (nextF h₁ hk₁).set hn₂ hs₂
    have Nown : News h₀ env.locals h₂ (ownOf h₀ fp h₂) := news_ownOf hLf
    have up : ∀ b ∈ fp, ∀ o, h₁.get? b = some o → h₂.get? b = some o := fun b hb o e => (hs₂.2 b fun q => hLf (q ▸ hb)).trans e
    have hst₂ : St (i + 1) h₂ := W.frame _ _ _ hst₁ up
    refine wpAny_mono (wpAny_passesOwn hE (step (EndF Q fun s₃ => ∃ k, k < n + 1 - i ∧ LoopI h₀ env.locals wr n St J s₂ k s₃) i v m' news' h₂ _ (ownOf h₀ fp h₂) ?_ (fun _ q => q) hlt hP hJ hnw' ownOf_sub (fun p hp => (Nown p hp).1) (fun b hb hn o e => mem_ownOf hb hn e) hst₂ F₂ (Nown.append ((nextN h₁ hk₁).set hs₂)))) (fun f s₃ h₃ => ?_) fun _ _ e => e
    · intro h₃' tk₃ m₂ news₂ F₃ N₃ ha₃ hJ₃
      refine ⟨n + 1 - (i + 1), by omega, fun G k => k h₃' tk₃ m₂ news₂ (i + 1) (W.frame _ _ _ hst₁ fun b hb o e => ?_) F₃ N₃.right ha₃ hJ₃ hlt⟩
      have e₂ := up b hb o e
      cases hn : h₀.get? b with
      | some o₀ =>
        have : o₀ = o := by have := F₂.keep b o₀ hn; rw [e₂] at this; exact (Option.some.inj this).symm
        exact this ▸ F₃.keep b o₀ hn
      | none => exact (N₃ _ (List.mem_append_left _ (mem_ownOf hb hn e₂))).1
    · cases f <;> exact h₃
  · obtain rfl : i = n := Nat.le_antisymm hi (Nat.not_lt.mp hlt)
    refine W.done _ _ _ hst' fun h₁ tk₁ hk₁ => ?_
    exact wpAny_passesOwn hE (hQ h₁ tk₁ m' news' (nextF h₁ hk₁) (nextN h₁ hk₁) hnw' hJ)

theorem range_H {r : Addr} {b₀ : Int} {t₀ u₀ v₀ : Tok} {n : Nat} {m₀ : Str → Option Value} {news : List (Addr × Obj)} {x : Str} {body orelse : List Stmt} (J : Nat → (Str → Option Value) → List (Addr × Obj) → Prop)
    (hh : A.handled = none) (hr : IsRange s.heap r 0 b₀ 1 t₀ u₀ v₀) (hsmall : Builtin.Range.small 0 b₀ 1 = true) (hn : Builtin.Range.rangeSize 0 b₀ 1 = (n : Int)) (F : Fr h₀ env.locals s.heap m₀) (N : News h₀ env.locals s.heap news) (h0 : J 0 m₀ news)
    (turn : ∀ (Qb : Flow → Shared → Prop) i t m₁ h tk I it, (∀ h' tk' m' nx', Fr h₀ env.locals h' m' → News h₀ env.locals h' ((I, it) :: nx') → (∀ p ∈ nx', p.1 ≠ I) → J (i + 1) m' nx' → Qb .next { s with heap := h', toks := tk' }) → (∀ s', Q .next s' → Qb .brk s') →
      i < n → it.cls = .type "range_iterator" → ∀ nx, J i m₁ nx → (∀ p ∈ nx, p.1 ≠ I) → Fr h₀ env.locals h (fun y => if y = x then some (.int (i : Int) t) else m₁ y) → News h₀ env.locals h ((I, it) :: nx) → wpAny (model prog w) A (execs body env) Qb E { s with heap := h, toks := tk })
    (done : ∀ m₁ h tk nx, J n m₁ nx → Fr h₀ env.locals h m₁ → News h₀ env.locals h nx → wpAny (model prog w) A (execs orelse env) Q E { s with heap := h, toks := tk }) :
    wpAny (model prog w) A (pyIter (.ref r)) (fun it s₂ => LoopX prog w A h₀ env x body orelse Q E it s₂) E s := by
  refine wpAny_pyIter_range hr hsmall ?_
  have W : Walks prog w A s.heap.objs.size [s.heap.objs.size] [s.heap.objs.size] n (fun i v => i < n ∧ ∃ t, v = .int (0 + i * 1) t)
      (fun i h => IsRangeIter h s.heap.objs.size (0 + (i : Nat) * 1) ((n : Int) - (i : Nat)) 1) := (Walks.range hh _ 0 1 n).bound
  have hnew := next_is_new F
  have lN : ∀ p ∈ news, p.1 ≠ s.heap.objs.size := fun p hp => Nat.ne_of_lt (Heap.lt_size (N p hp).1)
  refine fun G k => k _ _ _ n _ _ m₀ news J rfl W (fun hm => absurd F.ns.lt ((List.mem_singleton.mp hm) ▸ Nat.lt_irrefl _)) (fun b hb => by rw [List.mem_singleton.mp hb]; exact hnew) (fun p hp hI => lN p hp (List.mem_singleton.mp hI))
    (by show IsRangeIter _ _ _ _ _; rw [hn]; simpa using Heap.get?_push_size _ rfl) (F.push _) (fun p hp => ⟨Heap.get?_push_of_some _ (N p hp).1, (N p hp).2⟩) h0 ?_ fun h' tk m' news' F' N' _ hJ => done m' h' tk news' hJ F' N'
  intro Qb i v m₁ news₁ h tk own hQb hbr hin hP hJ hoff hown hget hall hst F₁ N₁
  obtain ⟨t, rfl⟩ := hP.2
  rw [Int.mul_one, Int.zero_add] at F₁
  obtain ⟨ito, hst', hic⟩ : ∃ ito, h.get? s.heap.objs.size = some ito ∧ ito.cls = .type "range_iterator" := ⟨_, hst, rfl⟩
  have hmem := hall s.heap.objs.size (List.mem_singleton.mpr rfl) hnew _ hst'
  refine turn Qb i t m₁ h tk s.heap.objs.size ito (fun h' tk' m' nx' F' N' o' j' => hQb h' tk' m' nx' F' (fun p hp => ?_) (fun p hp hI => o' p hp (List.mem_singleton.mp hI)) j') hbr hin hic news₁ hJ (fun p hp e => hoff p hp (List.mem_singleton.mpr e)) F₁ (fun p hp => ?_)
  · rcases List.mem_append.mp hp with hp | hp
    · have h1 : p.1 = s.heap.objs.size := List.mem_singleton.mp (hown p hp)
      have h2 : h.get? p.1 = some p.2 := hget p hp
      rw [h1, hst'] at h2
      have h3 : p = (s.heap.objs.size, ito) := Prod.ext h1 (Option.some.inj h2).symm
      rw [h3]; exact N' _ (List.mem_cons_self ..)
    · exact N' _ (List.mem_cons_of_mem _ hp)
  · exact (List.mem_cons.mp hp).elim (fun e => e ▸ N₁ _ (List.mem_append_left _ hmem)) fun hp => N₁ _ (List.mem_append_right _ hp)
theorem list_H {l : Addr} {vs : List Value} {m₀ : Str → Option Value} {news : List (Addr × Obj)} {x : Str} {body orelse : List Stmt} (J : Nat → (Str → Option Value) → List (Addr × Obj) → Prop)
    (hh : A.handled = none) (hl : s.heap.IsList l vs.toArray) (hlL : l ≠ env.locals) (F : Fr h₀ env.locals s.heap m₀) (N : News h₀ env.locals s.heap news) (h0 : J 0 m₀ news)
    (hls : ∀ i m h nx, J i m nx → News h₀ env.locals h nx → h.get? l = s.heap.get? l)
    (turn : ∀ (Qb : Flow → Shared → Prop) i v m₁ h tk I it, (∀ h' tk' m' nx', Fr h₀ env.locals h' m' → News h₀ env.locals h' ((I, it) :: nx') → (∀ p ∈ nx', p.1 ≠ I) → J (i + 1) m' nx' → Qb .next { s with heap := h', toks := tk' }) → (∀ s', Q .next s' → Qb .brk s') →
      vs[i]? = some v → it.cls = .type "list_iterator" → ∀ nx, J i m₁ nx → (∀ p ∈ nx, p.1 ≠ I) → Fr h₀ env.locals h (fun y => if y = x then some v else m₁ y) → News h₀ env.locals h ((I, it) :: nx) → wpAny (model prog w) A (execs body env) Qb E { s with heap := h, toks := tk })
    (done : ∀ m₁ h tk nx, J vs.length m₁ nx → Fr h₀ env.locals h m₁ → News h₀ env.locals h nx → wpAny (model prog w) A (execs orelse env) Q E { s with heap := h, toks := tk }) :
    wpAny (model prog w) A (pyIter (.ref l)) (fun it s₂ => LoopX prog w A h₀ env x body orelse Q E it s₂) E s := by
  have hlt : l < s.heap.objs.size := by obtain ⟨ol, hol, _⟩ := hl; exact Heap.lt_size hol
  refine wpAny_pyIter_list hl ?_
  have W := Walks.list (prog := prog) (w := w) hh s.heap.objs.size l (Nat.ne_of_lt hlt) vs.toArray
  rw [List.size_toArray] at W
  have hnew := next_is_new F
  have lN : ∀ p ∈ news, p.1 ≠ s.heap.objs.size := fun p hp => Nat.ne_of_lt (Heap.lt_size (N p hp).1)
  refine fun G k => k _ _ _ vs.length _ _ m₀ news J rfl W (fun hm => (List.mem_cons.mp hm).elim (fun e => absurd F.ns.lt (e ▸ Nat.lt_irrefl _)) fun hm => hlL (List.mem_singleton.mp hm).symm)
    (fun b hb => by rw [List.mem_singleton.mp hb]; exact hnew) (fun p hp hI => lN p hp (List.mem_singleton.mp hI)) ⟨⟨_, Heap.get?_push_size _ rfl, rfl, rfl⟩, hl.push _⟩ (F.push _) (fun p hp => ⟨Heap.get?_push_of_some _ (N p hp).1, (N p hp).2⟩) h0 ?_
    fun h' tk m' news' F' N' _ hJ => done m' h' tk news' hJ F' N'
  intro Qb i v m₁ news₁ h tk own hQb hbr hin hP hJ hoff hown hget hall hst F₁ N₁
  obtain ⟨oit, hit, hic, _⟩ := hst.1
  have hmem := hall s.heap.objs.size (List.mem_cons_self ..) hnew _ hit
  have z1 := hls i m₁ h news₁ hJ fun p hp => N₁ p (List.mem_append_right _ hp)
  refine turn Qb i v m₁ h tk s.heap.objs.size oit (fun h' tk' m' nx' F' N' o' j' => hQb h' tk' m' nx' F' (fun p hp => ?_) (fun p hp hI => o' p hp (List.mem_singleton.mp hI)) j') hbr (by simpa using hP) hic news₁ hJ (fun p hp e => hoff p hp (List.mem_singleton.mpr e)) F₁ (fun p hp => ?_)
  · rcases List.mem_append.mp hp with hp | hp
    · have h2 : h.get? p.1 = some p.2 := hget p hp
      rcases List.mem_cons.mp (hown p hp) with h1 | h1
      · rw [h1, hit] at h2
        have h3 : p = (s.heap.objs.size, oit) := Prod.ext h1 (Option.some.inj h2).symm
        rw [h3]; exact N' _ (List.mem_cons_self ..)
      · have h1 := List.mem_singleton.mp h1
        refine ⟨?_, (N₁ p (List.mem_append_left _ hp)).2⟩
        rw [h1] at h2 ⊢
        exact (hls (i + 1) m' h' nx' j' fun p hp => N' p (List.mem_cons_of_mem _ hp)).trans (z1.symm.trans h2)
    · exact N' _ (List.mem_cons_of_mem _ hp)
  · exact (List.mem_cons.mp hp).elim (fun e => e ▸ N₁ _ (List.mem_append_left _ hmem)) fun hp => N₁ _ (List.mem_append_right _ hp)
end
end Mine
namespace Mine
open PySem PySem.W PySem.Spec PySem.Calls PyProof.Rows
theorem know {m : Str → Option Value} {x : Str} {v : Value} (hm : m x = some v) : m = fun y => if y = x then some v else m y := by
  funext y
  by_cases h : y = x
  · rw [if_pos h, h, hm]
  · rw [if_neg h]
end Mine
namespace Mine
open PySem PySem.W PySem.Spec PySem.Calls PyProof.Rows
structure CutP {α : Type} (V : α → Prop) (s : Shared) (v : α) (s' : Shared) : Prop where
  val : V v
  st : ∃ tk, s' = { s with toks := tk }
theorem CutP.of {α : Type} {V : α → Prop} {s : Shared} {v : α} {tk : Nat} (h : V v) : CutP V s v { s with toks := tk } := ⟨h, tk, rfl⟩
theorem wp_cut {α : Type} {M : Model} {A : Around} {t : Sem α} {Q : α → Shared → Prop} {E : Value → Shared → Prop} {s : Shared} (V : α → Prop) (h1 : wpAny M A t (CutP V s) E s) (h2 : ∀ v tk, V v → Q v { s with toks := tk }) : wpAny M A t Q E s :=
  wpAny_mono h1 (fun v _ ⟨hv, tk, e⟩ => e ▸ h2 v tk hv) fun _ _ e => e

section
variable {prog : Program} {w : World} {A : Around} {E : Value → Shared → Prop} {s : Shared} {h₀ : Heap} {L D : Addr} {m : Str → Option Value} {news news' : List (Addr × Obj)}
theorem append_M {vs : List Value} {x : Value} {Q : Value → Shared → Prop} (F : Fr h₀ L s.heap m) (N : News h₀ L s.heap news) (U : Upd D (listOf vs.toArray vs.length) (listOf (vs ++ [x]).toArray (vs ++ [x]).length) news news') (hsz : vs.length ≤ 100000)
    (h : ∀ h', Fr h₀ L h' m → News h₀ L h' news' → Q .none { s with heap := h' }) : wpAny (model prog w) A (call (.builtin "list.append") [.ref D, x]) Q E s := by
  have e : listOf (vs ++ [x]).toArray (vs ++ [x]).length = listOf (vs.toArray.push x) (vs.length + 1) := by simp
  rw [e] at U
  exact append_K F N U h (by rw [List.size_toArray, sizeLine_eq]; omega)
end
end Mine
namespace Mine
open PySem PySem.W PySem.Spec PySem.Calls PyProof.Rows
/-- what a def does, for every caller: from a ledger, an answer and a ledger behind it -/
abbrev Con (prog : Program) (w : World) (K : Frag) (p : Program) (loose : List Str) (mean : ExcName → Option Value) (mg mb : Str → Option Value) (dd uu : Nat) (f : Addr) (news : List (Addr × Obj)) (pre : Prop) (vs : List Value) (kw : List (Str × Value)) (post : Value → List (Addr × Obj) → Prop) : Prop :=
  ∀ {dp un : Nat} {gd : Option (List Code)} {cn : Str} {cs : Scope} {a : Addr} {ccd : Value} {cl : List (Str × Addr)} {outer : List Env} {A₀ : Around} {base h₀ : Heap} {L : Addr} {m : Str → Option Value} {s : Shared} {Q E : Value → Shared → Prop},
    Below A₀ base outer h₀ → Fr h₀ L s.heap m → K.In h₀ → News h₀ L s.heap news → Top topProg loose mean mg mb h₀ → Flt.MathXP p mg h₀ → cs.kind = .function → pre → dp + dd < recursionLimit → un + uu < cLine →
    (∀ r nw h' tk', Fr h₀ L h' m → News h₀ L h' nw → post r nw → Q r { s with heap := h', toks := tk' }) →
    wpAny (model prog w) (ktrTop dp un gd cn cs L a ccd cl outer) (call (.ref f) vs kw) Q E s
theorem news_sub {h₀ h : Heap} {L : Addr} {news news' : List (Addr × Obj)} (N : News h₀ L h news') (hs : ∀ p ∈ news, p ∈ news') : News h₀ L h news := fun p hp => N p (hs p hp)
end Mine
namespace Mine
open PySem PySem.W PySem.Spec PySem.Calls PyProof.Rows
theorem fr_gen {h₀ h : Heap} {L : Addr} {m : Str → Option Value} (F : Fr h₀ L h m) : ∃ m₁, m₁ = m ∧ Fr h₀ L h m₁ := ⟨m, rfl, F⟩
end Mine
namespace Mine
open PySem PySem.W PySem.Spec PySem.Calls PyProof.Rows
section
variable {prog : Program} {w : World} {A : Around} {s : Shared} {env : Env} {h₀ : Heap} {E : Value → Shared → Prop} {Q : Flow → Shared → Prop}
theorem letgo_any {elts : List Expr} {x1 : Nat} {pos : Pos} {I l : Addr} {v : Value} {i : Nat} {s : Shared} {E : Value → Shared → Prop} {Q : Unit → Shared → Prop} (hit : s.heap.IsListIter I l i) (hQ : Q () s) :
    wpAny (model prog w) A (letOwnedTupleGo (.Tuple elts x1 pos) (.ref I) v) Q E s := by
  cases v
  case ref T => exact wpAny_letOwnedTupleGo_listiter hit hQ
  all_goals exact wpAny_pure hQ
/-- a for over an empty list, with a tuple as its target -/
theorem list_T0 {l : Addr} {m₀ : Str → Option Value} {news : List (Addr × Obj)} {elts : List Expr} {x1 : Nat} {tpos : Pos} {body : List Stmt}
    (hh : A.handled = none) (hl : s.heap.IsList l #[]) (hlL : l ≠ env.locals) (F : Fr h₀ env.locals s.heap m₀) (N : News h₀ env.locals s.heap news)
    (done : ∀ h tk, Fr h₀ env.locals h m₀ → News h₀ env.locals h news → Q .next { s with heap := h, toks := tk }) :
    wpAny (model prog w) A (pyIter (.ref l)) (fun it s₂ => TurnsAt prog w A h₀ env (.Tuple elts x1 tpos) body Q E it s₂) E s := by
  have hlt : l < s.heap.objs.size := by obtain ⟨ol, hol, _⟩ := hl; exact Heap.lt_size hol
  refine wpAny_pyIter_list hl ?_
  have W := Walks.list (prog := prog) (w := w) hh s.heap.objs.size l (Nat.ne_of_lt hlt) #[]
  have KT := KTurns.ofWalks (target := .Tuple elts x1 tpos) W (fun i v s Q E st hQ => letgo_any st.1 hQ)
  have hnew := next_is_new F
  refine ⟨_, _, _, 0, _, _, _, m₀, news, fun _ m nx => m = m₀ ∧ nx = news, rfl, KT, (fun hm => (List.mem_cons.mp hm).elim (fun e => absurd F.ns.lt (e ▸ Nat.lt_irrefl _)) fun hm => hlL (List.mem_singleton.mp hm).symm),
    (fun b hb => by rw [List.mem_singleton.mp hb]; exact hnew), (fun p hp hI => absurd (Heap.lt_size (N p hp).1) ((List.mem_singleton.mp hI) ▸ Nat.lt_irrefl _)), ⟨⟨_, Heap.get?_push_size _ rfl, rfl, rfl⟩, hl.push _⟩, F.push _, (fun p hp => ⟨Heap.get?_push_of_some _ (N p hp).1, (N p hp).2⟩), ⟨rfl, rfl⟩,
    fun i _ _ _ _ _ _ hi => absurd hi (Nat.not_lt_zero i), fun h' tk m' news' F' N' _ hJ => ?_⟩
  obtain ⟨rfl, rfl⟩ := hJ
  exact done h' tk F' N'
end
end Mine
namespace Mine
open PySem PySem.W PySem.Spec PySem.Calls PyProof.Rows
theorem ne_allLt {d b : Nat} {rest : List (Addr × Obj)} (h : AllLt d rest) (hb : d ≤ b) : ∀ p ∈ rest, p.1 ≠ b :=
  fun p hp => Nat.ne_of_lt (Nat.lt_of_lt_of_le (ktn_ltOf h p hp) hb)
end Mine
set_option linter.unusedSimpArgs false
namespace Mine
open PySem PySem.W PySem.Spec PySem.Calls PyProof.Rows

/-- the word of a place -/
def W (k : Nat) : Str :=
  if k = 0 then Str.ofString "OPTIMIZED" else if k = 1 then Str.ofString "NEWLOCALS" else if k = 2 then Str.ofString "VARARGS" else if k = 3 then Str.ofString "VARKEYWORDS"
  else if k = 4 then Str.ofString "NESTED" else if k = 5 then Str.ofString "GENERATOR" else if k = 6 then Str.ofString "NOFREE" else if k = 7 then Str.ofString "COROUTINE"
  else if k = 8 then Str.ofString "ITERABLE_COROUTINE" else if k = 9 then Str.ofString "ASYNC_GENERATOR" else baseText "0x" 16 ((2 ^ k : Nat) : Int)
def bitsB (n i : Nat) : List Nat := (List.range i).filter (n.testBit ·)
def pfNames (n : Nat) : List Str := if n = 0 then [Str.ofString "0x0"] else (bitsB n 32).map W
def pf (n : Nat) : Str := Txt.join (Str.ofString ", ") (pfNames n)

theorem bitsB_succ (n i : Nat) : bitsB n (i + 1) = bitsB n i ++ (if n.testBit i then [i] else []) := by
  unfold bitsB
  rw [List.range_succ, List.filter_append]
  congr 1
  by_cases h : n.testBit i <;> simp [h]
theorem bitsB_len (n i : Nat) : (bitsB n i).length ≤ i := by
  unfold bitsB
  exact Nat.le_trans (List.length_filter_le _ _) (by simp)
theorem bitsB_of_lt {n i : Nat} (h : n / 2 ^ i = 0) (j : Nat) : bitsB n (i + j) = bitsB n i := by
  induction j with
  | zero => rfl
  | succ j ih =>
    rw [← Nat.add_assoc, bitsB_succ, ih]
    have hlt : n < 2 ^ i := by
      rcases Nat.lt_or_ge n (2 ^ i) with q | q
      · exact q
      · have := Nat.div_pos q (Nat.two_pow_pos i); omega
    have : n.testBit (i + j) = false := Nat.testBit_lt_two_pow (Nat.lt_of_lt_of_le hlt (Nat.pow_le_pow_right (by decide) (Nat.le_add_right i j)))
    simp [this]

theorem shr_bit (n i : Nat) : (n / 2 ^ i * 2 ^ i) &&& 2 ^ i = if n.testBit i then 2 ^ i else 0 := by
  rw [← Nat.shiftRight_eq_div_pow, ← Nat.shiftLeft_eq]
  apply Nat.eq_of_testBit_eq
  intro j
  by_cases hb : n.testBit i
  · rw [if_pos hb]
    by_cases hj : i = j
    · subst hj; simp [Nat.testBit_shiftLeft, Nat.testBit_two_pow, hb]
    · simp [Nat.testBit_two_pow, hj]
  · rw [if_neg hb]
    by_cases hj : i = j
    · subst hj; simp [Nat.testBit_shiftLeft, Nat.testBit_two_pow]; simpa using hb
    · simp [Nat.testBit_two_pow, hj]
theorem shr_next {n i : Nat} (h : n.testBit i = true) : n / 2 ^ i * 2 ^ i = n / 2 ^ (i + 1) * 2 ^ (i + 1) + 2 ^ i := by
  have h1 : n / 2 ^ i % 2 = 1 := by
    have := h
    rw [Nat.testBit_eq_decide_div_mod_eq] at this
    simpa using this
  have h2 : n / 2 ^ (i + 1) = n / 2 ^ i / 2 := by rw [Nat.pow_succ, Nat.div_div_eq_div_mul]
  rw [h2, Nat.pow_succ]
  generalize n / 2 ^ i = q at *
  generalize 2 ^ i = p
  have : q = q / 2 * 2 + 1 := by omega
  rw [show q / 2 * (p * 2) = q / 2 * 2 * p by rw [Nat.mul_comm p 2, Nat.mul_assoc]]
  conv => lhs; rw [this, Nat.add_mul, Nat.one_mul]
theorem shr_next0 {n i : Nat} (h : n.testBit i = false) : n / 2 ^ i * 2 ^ i = n / 2 ^ (i + 1) * 2 ^ (i + 1) := by
  have h1 : n / 2 ^ i % 2 = 0 := by
    have := h
    rw [Nat.testBit_eq_decide_div_mod_eq] at this
    have := of_decide_eq_false this
    omega
  have h2 : n / 2 ^ (i + 1) = n / 2 ^ i / 2 := by rw [Nat.pow_succ, Nat.div_div_eq_div_mul]
  rw [h2, Nat.pow_succ]
  generalize n / 2 ^ i = q at *
  generalize 2 ^ i = p
  have : q = q / 2 * 2 := by omega
  rw [show q / 2 * (p * 2) = q / 2 * 2 * p by rw [Nat.mul_comm p 2, Nat.mul_assoc], ← this]
theorem two_pow_i (i : Nat) : (1 : Int) * 2 ^ (i : Int).toNat = ((2 ^ i : Nat) : Int) := by
  rw [Int.one_mul, Int.toNat_natCast]; simp
theorem pf_and (n i : Nat) : Builtin.bitAnd ((n / 2 ^ i * 2 ^ i : Nat) : Int) (1 * 2 ^ (i : Int).toNat) = if n.testBit i then ((2 ^ i : Nat) : Int) else 0 := by
  rw [two_pow_i, bitAnd_pp (Int.natCast_nonneg _) (Int.natCast_nonneg _)]
  simp only [Int.toNat_natCast]
  rw [shr_bit]
  split <;> rfl
theorem pf_xor {n i : Nat} (h : n.testBit i = true) : Builtin.bitXor ((n / 2 ^ i * 2 ^ i : Nat) : Int) (1 * 2 ^ (i : Int).toNat) = ((n / 2 ^ (i + 1) * 2 ^ (i + 1) : Nat) : Int) := by
  rw [bitXor_and, pf_and, if_pos h, two_pow_i, shr_next h]
  push_cast
  omega

theorem W_lo (k : Nat) (h : k < 32) : (W k).length ≤ 18 := by
  revert k; decide +kernel
theorem strsAre_snoc {vs : List Value} {ys : List Str} (h : StrsAre vs ys) (y : Str) (t : Tok) : StrsAre (vs ++ [.str y t]) (ys ++ [y]) := by
  induction h with
  | nil => exact .cons y t .nil
  | cons z u _ ih => exact .cons z u ih
theorem strsAre_len {vs : List Value} {ys : List Str} (h : StrsAre vs ys) : vs.length = ys.length := by
  induction h with
  | nil => rfl
  | cons z u _ ih => rw [List.length_cons, List.length_cons, ih]
theorem sum_le {ys : List Str} {b : Nat} (h : ∀ y ∈ ys, y.length ≤ b) : (ys.map (·.length)).sum ≤ ys.length * b := by
  induction ys with
  | nil => simp
  | cons y r ih =>
    rw [List.map_cons, List.sum_cons, List.length_cons, Nat.succ_mul]
    have := h y (List.mem_cons_self ..)
    have := ih fun z hz => h z (List.mem_cons_of_mem _ hz)
    omega
theorem bits_lt {n i k : Nat} (h : k ∈ bitsB n i) : k < i := by
  have := (List.mem_filter.mp h).1
  simpa using this
theorem words_weight (n i : Nat) (hi : i ≤ 32) : (((bitsB n i).map W).map (·.length)).sum ≤ 32 * 18 := by
  refine Nat.le_trans (sum_le (b := 18) fun y hy => ?_) ?_
  · obtain ⟨k, hk, rfl⟩ := List.mem_map.mp hy
    exact W_lo k (Nat.lt_of_lt_of_le (bits_lt hk) hi)
  · rw [List.length_map]
    have := bitsB_len n i
    omega
theorem hex_fits {i : Nat} (hi : i < 32) : (baseText "0x" 16 (1 * 2 ^ (i : Int).toNat)).length ≤ sizeLine := by
  rw [two_pow_i]
  revert i; decide +kernel
end Mine
namespace Mine
open PySem PySem.W PySem.Spec PySem.Calls PyProof.Rows
theorem W_at {i k : Nat} {c : Int} (hc : c = ((2 ^ k : Nat) : Int)) (h : (1 : Int) * 2 ^ (i : Int).toNat = c) : W k = W i := by
  rw [two_pow_i, hc] at h
  have h2 : 2 ^ i = 2 ^ k := Int.ofNat.inj h
  have h3 : i = k := by
    rcases Nat.lt_trichotomy i k with q | q | q
    · have := Nat.pow_lt_pow_right (a := 2) (by decide) q; omega
    · exact q
    · have := Nat.pow_lt_pow_right (a := 2) (by decide) q; omega
  rw [h3]
theorem W_hi {i : Nat} (h : 10 ≤ i) : baseText "0x" 16 (1 * 2 ^ (i : Int).toNat) = W i := by
  have ne : ∀ k, k < 10 → i ≠ k := fun k hk => Nat.ne_of_gt (Nat.lt_of_lt_of_le hk h)
  unfold W
  simp only [ne 0 (by decide), ne 1 (by decide), ne 2 (by decide), ne 3 (by decide), ne 4 (by decide), ne 5 (by decide), ne 6 (by decide), ne 7 (by decide), ne 8 (by decide), ne 9 (by decide), if_false]
  rw [two_pow_i]
theorem low10 : ∀ i : Nat, i < 10 → (1 : Int) * 2 ^ (i : Int).toNat = 1 ∨ (1 : Int) * 2 ^ (i : Int).toNat = 2 ∨ (1 : Int) * 2 ^ (i : Int).toNat = 4 ∨ (1 : Int) * 2 ^ (i : Int).toNat = 8 ∨ (1 : Int) * 2 ^ (i : Int).toNat = 16 ∨ (1 : Int) * 2 ^ (i : Int).toNat = 32 ∨ (1 : Int) * 2 ^ (i : Int).toNat = 64 ∨ (1 : Int) * 2 ^ (i : Int).toNat = 128 ∨ (1 : Int) * 2 ^ (i : Int).toNat = 256 ∨ (1 : Int) * 2 ^ (i : Int).toNat = 512 := by decide
theorem W_hi' {i : Nat} (h0 : ¬ (1 : Int) * 2 ^ (i : Int).toNat = 1) (h1 : ¬ (1 : Int) * 2 ^ (i : Int).toNat = 2) (h2 : ¬ (1 : Int) * 2 ^ (i : Int).toNat = 4) (h3 : ¬ (1 : Int) * 2 ^ (i : Int).toNat = 8)
    (h4 : ¬ (1 : Int) * 2 ^ (i : Int).toNat = 16) (h5 : ¬ (1 : Int) * 2 ^ (i : Int).toNat = 32) (h6 : ¬ (1 : Int) * 2 ^ (i : Int).toNat = 64) (h7 : ¬ (1 : Int) * 2 ^ (i : Int).toNat = 128)
    (h8 : ¬ (1 : Int) * 2 ^ (i : Int).toNat = 256) (h9 : ¬ (1 : Int) * 2 ^ (i : Int).toNat = 512) : baseText "0x" 16 (1 * 2 ^ (i : Int).toNat) = W i := by
  refine W_hi (Nat.le_of_not_lt fun h => ?_)
  rcases low10 i h with q | q | q | q | q | q | q | q | q | q
  · exact h0 q
  · exact h1 q
  · exact h2 q
  · exact h3 q
  · exact h4 q
  · exact h5 q
  · exact h6 q
  · exact h7 q
  · exact h8 q
  · exact h9 q
theorem shr_zero {n i : Nat} (h : n / 2 ^ i * 2 ^ i = 0) : n / 2 ^ i = 0 := by
  rcases Nat.mul_eq_zero.mp h with q | q
  · exact q
  · exact absurd q (Nat.ne_of_gt (Nat.two_pow_pos i))
theorem not_zero_next {n i : Nat} (hz : n = 0 ∨ n / 2 ^ i ≠ 0) (h : n.testBit i = false) : n = 0 ∨ n / 2 ^ (i + 1) ≠ 0 := by
  rcases hz with h0 | h0
  · exact .inl h0
  · refine .inr fun q => h0 (shr_zero ?_)
    rw [shr_next0 h, q, Nat.zero_mul]
theorem bits_all {n i : Nat} (hi : i ≤ 32) (h : n / 2 ^ i = 0) : bitsB n i = bitsB n 32 := by
  have := bitsB_of_lt h (32 - i)
  rw [Nat.add_sub_cancel' hi] at this
  exact this.symm
theorem pf_of_bits {n i : Nat} (hi : i ≤ 32) (h : n / 2 ^ i = 0) (hn : n ≠ 0) : (bitsB n i).map W = pfNames n := by
  unfold pfNames
  rw [if_neg hn, bits_all hi h]
end Mine
namespace Mine
open PySem PySem.W PySem.Spec PySem.Calls PyProof.Rows
theorem W_0 {i : Nat} (h : (1 : Int) * 2 ^ (i : Int).toNat = 1) : Str.ofString "OPTIMIZED" = W i := (show W 0 = Str.ofString "OPTIMIZED" from rfl) ▸ W_at (k := 0) (by decide) h
theorem W_1 {i : Nat} (h : (1 : Int) * 2 ^ (i : Int).toNat = 2) : Str.ofString "NEWLOCALS" = W i := (show W 1 = Str.ofString "NEWLOCALS" from rfl) ▸ W_at (k := 1) (by decide) h
theorem W_2 {i : Nat} (h : (1 : Int) * 2 ^ (i : Int).toNat = 4) : Str.ofString "VARARGS" = W i := (show W 2 = Str.ofString "VARARGS" from rfl) ▸ W_at (k := 2) (by decide) h
theorem W_3 {i : Nat} (h : (1 : Int) * 2 ^ (i : Int).toNat = 8) : Str.ofString "VARKEYWORDS" = W i := (show W 3 = Str.ofString "VARKEYWORDS" from rfl) ▸ W_at (k := 3) (by decide) h
theorem W_4 {i : Nat} (h : (1 : Int) * 2 ^ (i : Int).toNat = 16) : Str.ofString "NESTED" = W i := (show W 4 = Str.ofString "NESTED" from rfl) ▸ W_at (k := 4) (by decide) h
theorem W_5 {i : Nat} (h : (1 : Int) * 2 ^ (i : Int).toNat = 32) : Str.ofString "GENERATOR" = W i := (show W 5 = Str.ofString "GENERATOR" from rfl) ▸ W_at (k := 5) (by decide) h
theorem W_6 {i : Nat} (h : (1 : Int) * 2 ^ (i : Int).toNat = 64) : Str.ofString "NOFREE" = W i := (show W 6 = Str.ofString "NOFREE" from rfl) ▸ W_at (k := 6) (by decide) h
theorem W_7 {i : Nat} (h : (1 : Int) * 2 ^ (i : Int).toNat = 128) : Str.ofString "COROUTINE" = W i := (show W 7 = Str.ofString "COROUTINE" from rfl) ▸ W_at (k := 7) (by decide) h
theorem W_8 {i : Nat} (h : (1 : Int) * 2 ^ (i : Int).toNat = 256) : Str.ofString "ITERABLE_COROUTINE" = W i := (show W 8 = Str.ofString "ITERABLE_COROUTINE" from rfl) ▸ W_at (k := 8) (by decide) h
theorem W_9 {i : Nat} (h : (1 : Int) * 2 ^ (i : Int).toNat = 512) : Str.ofString "ASYNC_GENERATOR" = W i := (show W 9 = Str.ofString "ASYNC_GENERATOR" from rfl) ▸ W_at (k := 9) (by decide) h
end Mine
namespace Mine
open PySem PySem.W PySem.Spec PySem.Calls PyProof.Rows
theorem pfNames_weight (n : Nat) : ((pfNames n).map (·.length)).sum + (pfNames n).length ≤ 1048576 := by
  unfold pfNames
  split
  · decide
  · have := words_weight n 32 (Nat.le_refl _)
    have := bitsB_len n 32
    rw [List.length_map]
    omega
end Mine
namespace Mine
open PySem PySem.W PySem.Spec PySem.Calls PyProof.Rows PySem.Builtin.Re
theorem slot_search : Slot "re.Pattern" "search" "re.Pattern.search" :=
  .of (owner := "re.Pattern") (n := "search") (by rw [typeLookup_type, builtinLookup_eq_fast]; kernel_rfl) (by decide +kernel) (by decide +kernel) (by decide +kernel)
    (by first | exact .inl (by decide +kernel) | exact .inr (by decide +kernel)) (by rw [isSubtype_type]; kernel_rfl)
theorem entry_search : entryFor table "re.Pattern.search" = some Builtin.«re.Pattern.search» := entryFor_of_fast (by kernel_rfl)
theorem named1 (x : Str) (t : Tok) : reNamed "re.Pattern.search" "search" ["string", "pos", "endpos"] 1 [.str x t] [] = pure [some (.str x t), none, none] := by rfl

section
variable {prog : Program} {w : World} {A : Around} {E : Value → Shared → Prop} {s : Shared}
theorem rules_only {α : Type} (f : α → PUnit → Sem (ForInStep PUnit)) (hf : ∀ a s (Q : ForInStep PUnit → Shared → Prop), Q (.yield ⟨⟩) s → wpAny (model prog w) A (f a ⟨⟩) Q E s) :
    ∀ (l : List α) {Q : PUnit → Shared → Prop}, Q ⟨⟩ s → wpAny (model prog w) A (forIn l (⟨⟩ : PUnit) f) Q E s
  | [], Q, h => wpAny_pure h
  | a :: l, Q, h => by
    rw [List.forIn_cons]
    refine wpAny_bind (hf a s _ ?_)
    exact rules_only f hf l h
theorem drive_done {m : Sre.M} (h : (m.runFor reTurnSteps).outcome.isSome = true) {n : Nat} {Q : Sre.M → Shared → Prop} (hq : Q (m.runFor reTurnSteps) s) : wpAny (model prog w) A (reDrive (n + 1) m) Q E s := by
  unfold reDrive
  simp only [h, if_true]
  exact wpAny_pure hq
theorem run_said {m : Sre.M} (h1 : m.answer = some false) (h2 : m.frames = []) (h3 : m.outcome = none) : (m.runFor reTurnSteps).outcome = some .failed := by
  have hs : m.step.outcome = some .failed := by
    unfold Sre.M.step
    rw [h3, h1, h2]
    rfl
  show (Sre.M.runFor 4 m).outcome = _
  have stay : ∀ n (k : Sre.M), k.outcome.isSome = true → Sre.M.runFor n k = k := by
    intro n k hk
    cases n with
    | zero => rfl
    | succ n => unfold Sre.M.runFor; rw [if_pos hk]
  rw [Sre.M.runFor, h3, if_neg (by simp), stay _ _ (by rw [hs]; rfl), hs]
theorem runToEnd_failed {m : Sre.M} (h1 : m.answer = some false) (h2 : m.frames = []) (h3 : m.outcome = none) {Q : Option Sre.M → Shared → Prop} (hq : Q none s) : wpAny (model prog w) A (reRunToEnd m) Q E s := by
  have hr := run_said h1 h2 h3
  unfold reRunToEnd
  rw [show (2 : Nat) ^ 64 = (2 ^ 64 - 1) + 1 from rfl]
  refine wpAny_bind (drive_done (by rw [hr]; rfl) ?_)
  refine wpAny_bind (rules_only _ (fun a s Q h => ?_) _ ?_)
  · split
    · exact wpAny_bind (wpAny_rule (wpAny_pure h))
    · exact wpAny_bind (wpAny_pure (wpAny_pure h))
  · rw [hr]
    exact wpAny_pure hq
end
def frM (code text : Array Nat) (groups lim : Nat) : Sre.M :=
  { code, text, lim, start := 0, pc := (Sre.header code).2, pos := 0, handed := 0, marks := Array.replicate (2 * groups) none, mustAdvance := false,
    seen := if (Sre.header code).2 == 0 then {} else ({} : Sre.Seen).add 14 }
theorem forSearch_eq (code text : Array Nat) (groups lim : Nat) : Sre.forSearch code text groups 0 lim false =
    (let m := frM code text groups lim
     let least := (Sre.header code).1
     let hinted := (Sre.header code).2 != 0 && code.getD 2 0 &&& 5 != 0
     if 0 > lim || lim - 0 < least then m.say false
     else { m with lastStart := if least > 1 && !hinted then max 0 (lim - (least - 1)) else lim }.attemptFrom 0 true) := rfl
def Said (m : Sre.M) : Prop := m.answer = some false ∧ m.frames = [] ∧ m.outcome = none
theorem admitted_none {m : Sre.M} (good : ∀ j seen, j < m.lim → ∃ seen', Sre.inSet m.code (m.text.getD j 0) m.code.size 5 true seen = .ok (false, seen')) :
    ∀ fuel s seen, ∃ seen', Sre.M.admitted m fuel s seen = .ok (none, seen')
  | 0, s, seen => ⟨_, rfl⟩
  | fuel + 1, s, seen => by
    unfold Sre.M.admitted
    by_cases h : s ≥ m.lim
    · exact ⟨_, by rw [if_pos h]⟩
    · rw [if_neg h]
      obtain ⟨seen', e⟩ := good s seen (by omega)
      rw [e]
      exact admitted_none good fuel (s + 1) seen'
theorem search_said {code text : Array Nat} {groups : Nat} (hf : ∀ m : Sre.M, m.code = code → m.hasFirstSet = true)
    (good : ∀ j seen, j < text.size → ∃ seen', Sre.inSet code (text.getD j 0) code.size 5 true seen = .ok (false, seen')) : Said (Sre.forSearch code text groups 0 text.size false) := by
  rw [forSearch_eq]
  dsimp only
  split
  · exact ⟨rfl, rfl, rfl⟩
  · unfold Sre.M.attemptFrom
    rw [hf _ rfl]
    simp only [Bool.not_true, Bool.false_eq_true, if_false]
    obtain ⟨seen', e⟩ := admitted_none (m := { frM code text groups text.size with lastStart := if ((Sre.header code).1 > 1 && !((Sre.header code).2 != 0 && code.getD 2 0 &&& 5 != 0)) = true then max 0 (text.size - ((Sre.header code).1 - 1)) else text.size }) good (text.size + 1 - 0) 0 (frM code text groups text.size).seen
    have e' := e
    simp only [frM] at e' ⊢
    rw [e']
    exact ⟨rfl, rfl, rfl⟩

def Plain (x : Str) : Prop := ∀ c ∈ x.cps.toList, 32 ≤ c ∧ c < 127
abbrev nameCode : Array Nat := #[14, 10, 4, 1, 1, 22, 0, 31, 16, 127, 0, 13, 7, 22, 0, 31, 16, 127, 0, 1]
abbrev valCode : Array Nat := #[14, 14, 4, 1, 1, 9, 4294966783, 0, 0, 2147483648, 0, 0, 0, 0, 0, 13, 11, 9, 4294966783, 0, 0, 2147483648, 0, 0, 0, 0, 0, 1]
theorem plain_at {x : Str} (h : Plain x) {j : Nat} (hj : j < x.cps.size) : 32 ≤ x.cps.getD j 0 ∧ x.cps.getD j 0 < 127 := by
  have e : x.cps.getD j 0 = x.cps[j] := by simp [Array.getD, hj]
  rw [e]
  exact h _ (by simp)
theorem name_good (c : Nat) (h : 32 ≤ c ∧ c < 127) (seen : Sre.Seen) : ∃ seen', Sre.inSet nameCode c nameCode.size 5 true seen = .ok (false, seen') := by
  have h1 : ¬ (c ≤ 31) := by omega
  have h2 : ¬ (c = 127) := by omega
  refine ⟨((seen.add 22).add 16).add 0, ?_⟩
  simp [Sre.inSet, Sre.ops, h1, h2]
theorem val_bit : ∀ c, c < 127 → 32 ≤ c → (valCode.getD (5 + (1 + c / 32)) 0).testBit (c % 32) = false := by decide +kernel
theorem val_good (c : Nat) (h : 32 ≤ c ∧ c < 127) (seen : Sre.Seen) : ∃ seen', Sre.inSet valCode c valCode.size 5 true seen = .ok (false, seen') := by
  refine ⟨(seen.add 9).add 0, ?_⟩
  have hb := val_bit c h.2 h.1
  generalize hv : (valCode : Array Nat) = vc at hb ⊢
  have e0 : vc.getD (5 + 0) 0 = 9 := by rw [← hv]; rfl
  have e9 : vc.getD (5 + 9 + 0) 0 = 0 := by rw [← hv]; rfl
  have es : vc.size = 26 + 1 + 1 := by rw [← hv]; rfl
  have o9 : Sre.ops[9]? = some .CHARSET := rfl
  have o0 : Sre.ops[0]? = some .FAILURE := rfl
  rw [es]
  unfold Sre.inSet
  simp only [e0, o9, hb, Bool.and_false, Bool.false_eq_true, if_false]
  unfold Sre.inSet
  simp only [e9, o0, Bool.not_true]

section
variable {prog : Program} {w : World} {A : Around} {E : Value → Shared → Prop} {s : Shared}
theorem search_none {P : Addr} {r : Flt.PatRec} {x : Str} {t : Tok} {Q : Value → Shared → Prop} (hP : Flt.IsPattern s.heap P r) (hk : r.kind = 0) {code : Array Nat} (hc : r.code = code.toList) (hs : x.cps.size < 2 ^ 62)
    (hsaid : Said (Sre.forSearch code x.cps r.groups 0 x.cps.size false)) (h : Q .none s) :
    wpAny (model prog w) A (call (.builtin "re.Pattern.search") [.ref P, .str x t]) Q E s := by
  obtain ⟨fs, T, ws, n, h1, h2, h3, h4, h5, h6⟩ := hP
  refine wpAny_call_entry (T := "re.Pattern") slot_search ⟨_, h1, rfl⟩ entry_search ?_ (by rfl)
  unfold Builtin.«re.Pattern.search»
  have ht : wpAny (model prog w) A.in1 (reTarget "re.Pattern.search" "search" ⟨[.ref P, .str x t], []⟩) (fun r' s' => r' = ⟨.ref P, .str x t, code, x.cps, 0, r.groups, 0, x.cps.size⟩ ∧ s' = s) E s := by
    unfold reTarget
    dsimp only
    rw [named1]
    refine wpAny_bind (wpAny_pure ?_)
    dsimp only
    refine wpAny_bind (wpAny_pure ?_)
    refine wpAny_bind (wpAny_pure ?_)
    refine wpAny_bind (wpAny_fieldsOf h1 rfl ?_)
    refine wpAny_bind (wpAny_pure ?_)
    rw [h4, hk, h3, h2]
    rw [if_neg (by simp), if_neg (by simp)]
    unfold reNoCollectionInside
    rw [if_neg (by simp)]
    refine wpAny_bind (wpAny_pure ?_)
    unfold reRawItems
    refine wpAny_bind (wpAny_bind (wpAny_seqItems h5 rfl (wpAny_pure ?_)))
    refine wpAny_pure ⟨?_, rfl⟩
    have hcode : Array.map (fun x => x.toNat) (Array.map reRawOf ws) = code := by
      rw [hc] at h6
      exact Array.ext' h6
    have hlim : min ((2 : Int) ^ 63 - 1).toNat x.cps.size = x.cps.size := by
      have : x.cps.size ≤ ((2 : Int) ^ 63 - 1).toNat := by
        have : ((2 : Int) ^ 63 - 1).toNat = 2 ^ 63 - 1 := by decide
        omega
      omega
    simp only [Option.getD_some, hcode, hlim, Int.toNat_zero, Nat.zero_min]
  refine wpAny_bind (wpAny_mono ht (fun r' s' hr => ?_) fun _ _ e => e)
  obtain ⟨rfl, rfl⟩ := hr
  unfold reAnswer
  refine wpAny_bind (runToEnd_failed hsaid.1 hsaid.2.1 hsaid.2.2 ?_)
  exact wpAny_pure ⟨_, rfl, h⟩

theorem search_name {P : Addr} {r : Flt.PatRec} {x : Str} {t : Tok} {Q : Value → Shared → Prop} (hP : Flt.IsPattern s.heap P r) (hk : r.kind = 0) (hc : r.code = nameCode.toList) (hp : Plain x) (hs : x.length < 2 ^ 62) (h : Q .none s) :
    wpAny (model prog w) A (call (.builtin "re.Pattern.search") [.ref P, .str x t]) Q E s :=
  search_none hP hk hc hs (search_said (fun m hm => by unfold Sre.M.hasFirstSet; rw [hm]; rfl) fun j seen hj => name_good _ (plain_at hp hj) seen) h
theorem search_val {P : Addr} {r : Flt.PatRec} {x : Str} {t : Tok} {Q : Value → Shared → Prop} (hP : Flt.IsPattern s.heap P r) (hk : r.kind = 0) (hc : r.code = valCode.toList) (hp : Plain x) (hs : x.length < 2 ^ 62) (h : Q .none s) :
    wpAny (model prog w) A (call (.builtin "re.Pattern.search") [.ref P, .str x t]) Q E s :=
  search_none hP hk hc hs (search_said (fun m hm => by unfold Sre.M.hasFirstSet; rw [hm]; rfl) fun j seen hj => val_good _ (plain_at hp hj) seen) h
end
end Mine
namespace Mine
open PySem PySem.W PySem.Spec PySem.Calls PyProof.Rows PySem.Builtin.Re
theorem plainAttrs_pat : PlainAttrs "re.Pattern" :=
  ⟨⟨"object.__getattribute__", by rw [typeLookup_type, builtinLookup_eq_fast]; kernel_rfl, by decide +kernel⟩, by rw [typeLookup_type, builtinLookup_eq_fast]; kernel_rfl⟩
theorem type_search : typeOf (.builtin "re.Pattern.search") = pure (.type "method_descriptor") := by show builtinType _ = _; rw [builtinType_eq_fast]; kernel_rfl
section
variable {prog : Program} {w : World} {A : Around} {E : Value → Shared → Prop} {s : Shared}
theorem getMethod_search {P : Addr} {r : Flt.PatRec} {pl : Sem Bool} {Q : Value × List Value → Shared → Prop} (hP : Flt.IsPattern s.heap P r) (h : Q (.builtin "re.Pattern.search", [.ref P]) s) :
    wpAny (model prog w) A (getMethod (.ref P) (Str.ofString "search") pl) Q E s := by
  obtain ⟨fs, T, ws, n, h1, _⟩ := hP
  exact getMethod_builtin (T := "re.Pattern") ⟨_, h1, rfl⟩ plainAttrs_pat slot_search type_search (fun a e => by cases e; exact ⟨_, h1, rfl⟩) h
end
/-- a pattern of the top's, by its name -/
theorem pat_at {p : Program} {mg : Str → Option Value} {h : Heap} {x : Str} {a : Addr} {r : Flt.PatRec} (X : Flt.MathXP p mg h) (hm : mg x = some (.ref a)) (hx : (Flt.patsOf p).find? (·.name == x) = some r) : Flt.IsPattern h a r := by
  have hn : r.name = x := beq_iff_eq.mp (List.find?_some (p := fun e : Flt.PatRec => e.name == x) hx)
  obtain ⟨b, h1, h2⟩ := X.pats r (List.mem_of_find?_eq_some hx)
  rw [hn, hm] at h1
  cases h1
  exact h2
end Mine
namespace Mine
open PySem PySem.W PySem.Spec PySem.Calls PyProof.Rows PySem.Builtin.Re
section
variable {prog : Program} {w : World} {A : Around} {E : Value → Shared → Prop} {s : Shared} {h₀ : Heap} {L P : Addr} {m : Str → Option Value} {r : Flt.PatRec} {x : Str} {t : Tok}
theorem getMethod_searchH {pl : Sem Bool} {Q : Value × List Value → Shared → Prop} (hP : Flt.IsPattern h₀ P r) (F : Fr h₀ L s.heap m) (h : Q (.builtin "re.Pattern.search", [.ref P]) s) :
    wpAny (model prog w) A (getMethod (.ref P) (Str.ofString "search") pl) Q E s := getMethod_search (hP.keeps F.keep) h
/-- a text that the headers take -/
def Txl (x : Str) : Prop := Plain x ∧ x.length ≤ 100000
theorem search_nameH {n : Str} {Q : Value → Shared → Prop} (hP : Flt.IsPattern h₀ P ⟨n, nameCode.toList, 0, 0⟩) (F : Fr h₀ L s.heap m) (hp : Txl x) (h : Q .none s) :
    wpAny (model prog w) A (call (.builtin "re.Pattern.search") [.ref P, .str x t]) Q E s := search_name (hP.keeps F.keep) rfl rfl hp.1 (by have := hp.2; omega) h
theorem search_valH {n : Str} {Q : Value → Shared → Prop} (hP : Flt.IsPattern h₀ P ⟨n, valCode.toList, 0, 0⟩) (F : Fr h₀ L s.heap m) (hp : Txl x) (h : Q .none s) :
    wpAny (model prog w) A (call (.builtin "re.Pattern.search") [.ref P, .str x t]) Q E s := search_val (hP.keeps F.keep) rfl rfl hp.1 (by have := hp.2; omega) h
end
end Mine
namespace Mine
open PySem PySem.W PySem.Spec PySem.Calls PyProof.Rows

theorem lo1_plain : ∀ c, c < 127 → 32 ≤ c → 32 ≤ lo1 c ∧ lo1 c < 127 := by decide +kernel
theorem plain_ascii {x : Str} (h : Plain x) : ∀ c ∈ x.cps.toList, c < 128 := fun c hc => by have := h c hc; omega
theorem lower_eq {x : Str} (h : Plain x) : Txt.lower x = ⟨x.cps.map lo1⟩ := lower_ascii (plain_ascii h)
theorem Txl.lower {x : Str} (h : Txl x) : Txl (Txt.lower x) := by
  rw [lower_eq h.1]
  refine ⟨fun c hc => ?_, ?_⟩
  · have hc' : c ∈ (x.cps.map lo1).toList := hc
    rw [Array.toList_map] at hc'
    obtain ⟨d, hd, rfl⟩ := List.mem_map.mp hc'
    exact lo1_plain d (h.1 d hd).2 (h.1 d hd).1
  · show (x.cps.map lo1).size ≤ _
    rw [Array.size_map]
    exact h.2
section
variable {prog : Program} {w : World} {A : Around} {E : Value → Shared → Prop} {s : Shared} {x : Str} {t : Tok}
theorem lower_T {Q : Value → Shared → Prop} (hx : Txl x) (h : ∀ k t', Q (.str (Txt.lower x) t') { s with toks := k }) : wpAny (model prog w) A (call (.builtin "str.lower") [.str x t]) Q E s :=
  SCL.lower (by have := hx.2; omega) fun _ => h _ _
end

abbrev hdrDict (P : Params) (tk : Tok) (hl : Addr) : Obj := dictOf [⟨PyData.keyHash P (Str.ofString "_headers"), .str (Str.ofString "_headers") tk, .ref hl⟩] 1
abbrev tupObj (vs : List Value) : Obj := { cls := .type "tuple", data := .seq vs.toArray }
/-- a headers object and its list -/
structure Tab (P : Params) (C : Addr) (news : List (Addr × Obj)) (t d : Addr) (tk : Tok) (hl : Addr) (vs : List Value) : Prop where
  inst : (t, instObj C d) ∈ news
  dict : (d, hdrDict P tk hl) ∈ news
  list : (hl, W.listOf vs.toArray vs.length) ∈ news
  few : vs.length ≤ 1000
/-- the pairs of a headers list, each a tuple of two texts -/
inductive Rows (news : List (Addr × Obj)) : List Value → List (Str × Str) → Prop
  | nil : Rows news [] []
  | cons {a : Addr} {k v : Str} {tk tv : Tok} {vs : List Value} {ps : List (Str × Str)} : (a, tupObj [.str k tk, .str v tv]) ∈ news → Txl k → Txl v → Rows news vs ps → Rows news (.ref a :: vs) ((k, v) :: ps)
theorem Rows.mono {news news' : List (Addr × Obj)} (hs : ∀ p ∈ news, p ∈ news') {vs : List Value} {ps : List (Str × Str)} (h : Rows news vs ps) : Rows news' vs ps := by
  induction h with
  | nil => exact .nil
  | cons h1 h2 h3 _ ih => exact .cons (hs _ h1) h2 h3 ih
theorem Rows.len {news : List (Addr × Obj)} {vs : List Value} {ps : List (Str × Str)} (h : Rows news vs ps) : vs.length = ps.length := by
  induction h with
  | nil => rfl
  | cons _ _ _ _ ih => rw [List.length_cons, List.length_cons, ih]
theorem Rows.at {news : List (Addr × Obj)} {vs : List Value} {ps : List (Str × Str)} (h : Rows news vs ps) : ∀ {i : Nat} {v : Value}, vs[i]? = some v →
    ∃ a k y tk ty, v = .ref a ∧ (a, tupObj [.str k tk, .str y ty]) ∈ news ∧ Txl k ∧ Txl y ∧ ps[i]? = some (k, y) := by
  induction h with
  | nil => intro i v e; simp at e
  | cons h1 h2 h3 _ ih =>
    intro i v e
    cases i with
    | zero => simp at e; exact ⟨_, _, _, _, _, e.symm, h1, h2, h3, by simp⟩
    | succ i => simp only [List.getElem?_cons_succ] at e ⊢; exact ih e
theorem Rows.snoc {news : List (Addr × Obj)} {vs : List Value} {ps : List (Str × Str)} (h : Rows news vs ps) {a : Addr} {k v : Str} {tk tv : Tok} (hm : (a, tupObj [.str k tk, .str v tv]) ∈ news) (hk : Txl k) (hv : Txl v) : Rows news (vs ++ [.ref a]) (ps ++ [(k, v)]) := by
  induction h with
  | nil => exact .cons hm hk hv .nil
  | cons h1 h2 h3 _ ih => exact .cons h1 h2 h3 ih

theorem list_at {h₀ h : Heap} {L l : Addr} {vs : List Value} {n : Nat} {news : List (Addr × Obj)} (N : News h₀ L h news) (hm : (l, W.listOf vs.toArray n) ∈ news) : h.IsList l vs.toArray := ⟨_, (N _ hm).1, rfl, n, rfl⟩
end Mine
namespace Mine
open PySem PySem.W PySem.Spec PySem.Calls PyProof.Rows

/-- k digits of x to the base 2 ^ n, the lowest first -/
def digs (n : Nat) : Nat → Nat → List Int
  | _, 0 => []
  | x, k + 1 => ((x % 2 ^ n : Nat) : Int) :: digs n (x / 2 ^ n) k
theorem digs_len (n : Nat) : ∀ x k, (digs n x k).length = k
  | _, 0 => rfl
  | x, k + 1 => by rw [digs, List.length_cons, digs_len]
theorem digs_add (n : Nat) : ∀ k x l, digs n x (k + l) = digs n (x % 2 ^ (n * k)) k ++ digs n (x / 2 ^ (n * k)) l
  | 0, x, l => by simp [digs]
  | k + 1, x, l => by
    rw [Nat.add_right_comm, digs, digs, List.cons_append, digs_add n k (x / 2 ^ n) l]
    have e : 2 ^ (n * (k + 1)) = 2 ^ n * 2 ^ (n * k) := by rw [Nat.mul_succ, Nat.add_comm, Nat.pow_add]
    rw [e]
    congr 1
    · congr 1
      rw [Nat.mod_mul_right_mod]
    · congr 1
      · congr 1
        rw [Nat.mod_mul_right_div_self]
      · rw [Nat.div_div_eq_div_mul]
/-- the digits laid at place l -/
def laid (ds : List Int) (l : Nat) (es : List Int) : List Int := ds.take l ++ es ++ ds.drop (l + es.length)
theorem laid_len {ds es : List Int} {l : Nat} (h : l + es.length ≤ ds.length) : (laid ds l es).length = ds.length := by
  unfold laid
  simp only [List.length_append, List.length_take, List.length_drop]
  omega
theorem laid_laid {ds es fs : List Int} {l : Nat} (h : l + es.length + fs.length ≤ ds.length) : laid (laid ds l es) (l + es.length) fs = laid ds l (es ++ fs) := by
  unfold laid
  have h1 : (ds.take l ++ es).length = l + es.length := by simp; omega
  rw [List.take_left' h1, List.append_assoc (ds.take l ++ es)]
  rw [show l + es.length + fs.length = (ds.take l ++ es).length + fs.length by rw [h1], List.drop_append, h1]
  simp only [List.append_assoc]
  congr 3
  rw [List.drop_eq_nil_of_le (by rw [h1]; omega), List.nil_append]
  rw [show (l + es.length + fs.length - (l + es.length)) = fs.length by omega, List.drop_drop]
  rw [List.length_append]
  congr 1
  omega
theorem laid_one {ds : List Int} {l : Nat} (h : l < ds.length) (x : Int) : ds.set l x = laid ds l [x] := by
  unfold laid
  rw [List.set_eq_take_append_cons_drop, if_pos h]
  simp
theorem xor_low (x s : Nat) : x ^^^ (x / 2 ^ s * 2 ^ s) = x % 2 ^ s := by
  rw [← Nat.shiftRight_eq_div_pow, ← Nat.shiftLeft_eq]
  apply Nat.eq_of_testBit_eq
  intro j
  rw [Nat.testBit_xor, Nat.testBit_mod_two_pow, Nat.testBit_shiftLeft, Nat.testBit_shiftRight]
  by_cases h : j < s
  · simp [h, Nat.not_le.mpr h]
  · have hs : s ≤ j := Nat.le_of_not_lt h
    simp [h, hs, Nat.add_sub_cancel' hs]

/-- what the inner def of _int2digits does: it lays the digits of x at the places from l up -/
def InnerSpec (prog : Program) (w : World) (K : Frag) (p : Program) (loose : List Str) (mean : ExcName → Option Value) (mg mb : Str → Option Value) (fix : List (Addr × Obj)) (f al : Addr) (nn n : Nat) (k : Nat) : Prop :=
  ∀ {dp un : Nat} {gd : Option (List Code)} {cn : Str} {cs : Scope} {a : Addr} {ccd : Value} {cl : List (Str × Addr)} {outer : List Env} {A₀ : Around} {base h₀ : Heap} {L : Addr} {m : Str → Option Value} {s : Shared} {Q E : Value → Shared → Prop}
    {rest : List (Addr × Obj)} {x l r : Nat} {tx tl tr : Tok} {vs : List Value} {ds : List Int},
    Below A₀ base outer h₀ → Fr h₀ L s.heap m → K.In h₀ → News h₀ L s.heap ((al, W.listOf vs.toArray nn) :: rest) → Top topProg loose mean mg mb h₀ → Flt.MathXP p mg h₀ → cs.kind = .function →
    r = l + (k + 1) → (∀ q ∈ fix, q ∈ rest) → (∀ q ∈ rest, q.1 ≠ al) → IntsAre vs ds → r ≤ ds.length → ds.length ≤ 1000 → x < 2 ^ (n * (k + 1)) → dp + (k + 1) < recursionLimit → un + 8 * (k + 1) < cLine →
    (∀ vs' h' tk', Fr h₀ L h' m → News h₀ L h' ((al, W.listOf vs'.toArray nn) :: rest) → IntsAre vs' (laid ds l (digs n x (k + 1))) → Q .none { s with heap := h', toks := tk' }) →
    wpAny (model prog w) (ktrTop dp un gd cn cs L a ccd cl outer) (call (.ref f) [.int (x : Int) tx, .int (l : Int) tl, .int (r : Int) tr]) Q E s
theorem inner_ind {prog : Program} {w : World} {K : Frag} {p : Program} {loose : List Str} {mean : ExcName → Option Value} {mg mb : Str → Option Value} {fix : List (Addr × Obj)} {f al : Addr} {nn n : Nat}
    (step : ∀ k, (∀ j, j < k → InnerSpec prog w K p loose mean mg mb fix f al nn n j) → InnerSpec prog w K p loose mean mg mb fix f al nn n k) : ∀ k, InnerSpec prog w K p loose mean mg mb fix f al nn n k := by
  intro k
  induction k using Nat.strongRecOn with
  | _ k ih =>
    apply step
    intro j hj
    exact ih j hj
/-- the code table of a def that makes one def: empty, or with the code made at its first time -/
def TbOk (line col : Int) (qual : Str) (ps : Array Value) (news : List (Addr × Obj)) : Prop :=
  ps = #[] ∨ ∃ c' oc vs t, ps = #[rawInt line, rawInt col, .ref c'] ∧ (c', oc) ∈ news ∧ oc.data = .fields vs ∧ vs[1]? = some (.str qual t)
theorem TbOk.mono {line col : Int} {qual : Str} {ps : Array Value} {news news' : List (Addr × Obj)} (h : TbOk line col qual ps news) (hs : ∀ p ∈ news, p ∈ news') : TbOk line col qual ps news' := by
  rcases h with h | ⟨c', oc, vs, t, h1, h2, h3⟩
  · exact .inl h
  · exact .inr ⟨c', oc, vs, t, h1, hs _ h2, h3⟩
section
variable {M : Model} {A : Around} {E : Value → Shared → Prop} {s : Shared} {h₀ : Heap} {L a c P : Addr} {m mg mb : Str → Option Value} {cn : Str} {cs : Scope} {ccd : Value} {cl : List (Str × Addr)} {news : List (Addr × Obj)} {g : Obj → List (Addr × Obj)}
  {p : Program} {loose : List Str} {mean : ExcName → Option Value} {name qual : Str} {params : Arguments} {body : List Stmt} {scope : Scope} {ps : Array Value} {pos : Pos} {firstLine : Nat} {clos : List (Str × Addr)}
structure Hold (P : Prop) : Prop where
  out : P
theorem nestAny_K {line col : Int} {rest0 : List (Addr × Obj)} {Q : Value → Shared → Prop} (F : Fr h₀ L s.heap m) (N : News h₀ L s.heap news) (T : Top topProg loose mean mg mb h₀) (C : CodeHd h₀ c P) (hcd : ccd = .ref c) (U : UpdF P (tabObj ps) news g) (hTb : TbOk line col qual ps rest0) (_hsub : ∀ p ∈ rest0, p ∈ news) (hline : line = pos.line) (hcol : col = pos.col)
    (hcl : closureFor scope (envX cn cs L a ccd cl) = pure clos)
    (h : Hold (∀ f c' oc vs t ctv doc h' tk add ps', Fr h₀ L h' m →
      News h₀ L h' ((f, fnMade name qual params body scope clos doc ((mg "__name__").getD .none) c' ctv) :: (add ++ g (tabObj ps'))) → ps' = #[rawInt line, rawInt col, .ref c'] → (c', oc) ∈ add ++ rest0 →
      oc.data = .fields vs → vs[1]? = some (.str qual t) → (∀ q ∈ news, q.1 < f) → (∀ q ∈ add, q.1 < f ∧ ∀ r ∈ news, r.1 < q.1) → Q (.ref f) { s with heap := h', toks := tk })) :
    wpAny M A (makeFunction name qual params (.stmts body) scope (envX cn cs L a ccd cl) [] [] [] pos firstLine) Q E s := by
  subst hline hcol
  rcases hTb with rfl | ⟨c', oc, vs, t, rfl, h2, h3, h4⟩
  · refine nest_K F N T C hcd U trivial rfl hcl fun f c' oc vs t ctv doc h' tk F' N' d1 d2 l1 l2 => ?_
    have l3 : ∀ q ∈ news, q.1 < f := fun q hq => Nat.lt_trans (l1 q hq) l2
    refine h.out f c' oc vs t ctv doc h' tk [(c', oc)] _ F' N' (by simp) (List.mem_cons_self ..) d1 d2 l3 fun q hq => ?_
    rw [List.mem_singleton.mp hq]
    exact ⟨l2, l1⟩
  · obtain ⟨pre, post, hn, hg, _, _⟩ := U.split
    have hgn : g (tabObj #[rawInt pos.line, rawInt pos.col, .ref c']) = news := by rw [hn, hg]
    have hm : (P, tabObj #[rawInt pos.line, rawInt pos.col, .ref c']) ∈ news := by rw [hn]; exact List.mem_append_right _ (.head _)
    refine nestHit_K (c' := c') F N T C hcd hm (by simp [TriplesOk, rawInt]) (by simp [codeAmong, rawInt]) hcl fun f ctv doc h' tk F' N' l1 => ?_
    exact h.out f c' oc vs t ctv doc h' tk [] _ F' (by rw [List.nil_append, hgn]; exact N') rfl h2 h3 h4 l1 (fun q hq => nomatch hq)
end
theorem news_head {h₀ h : Heap} {L a : Addr} {o : Obj} {r : List (Addr × Obj)} (N : News h₀ L h ((a, o) :: r)) : ∃ o', o' = o ∧ News h₀ L h ((a, o') :: r) := ⟨o, rfl, N⟩
end Mine
namespace Mine
open PySem PySem.W PySem.Spec PySem.Calls PyProof.Rows
theorem inner_call {prog : Program} {w : World} {K : Frag} {p : Program} {loose : List Str} {mean : ExcName → Option Value} {mg mb : Str → Option Value} {fix : List (Addr × Obj)} {f al : Addr} {nn n : Nat} {k : Nat}
    {dp un : Nat} {gd : Option (List Code)} {cn : Str} {cs : Scope} {a : Addr} {ccd : Value} {cl : List (Str × Addr)} {outer : List Env} {A₀ : Around} {base h₀ : Heap} {L : Addr} {m : Str → Option Value} {s : Shared} {Q E : Value → Shared → Prop}
    {rest : List (Addr × Obj)} {x l r : Nat} {X Lv Rv : Int} {tx tl tr : Tok} {vs : List Value} {ds : List Int} (S : InnerSpec prog w K p loose mean mg mb fix f al nn n k) (ex : X = (x : Int)) (el : Lv = (l : Int)) (er : Rv = (r : Int))
    (B : Below A₀ base outer h₀) (F : Fr h₀ L s.heap m) (XK : K.In h₀) (N : News h₀ L s.heap ((al, W.listOf vs.toArray nn) :: rest)) (T : Top topProg loose mean mg mb h₀) (XM : Flt.MathXP p mg h₀) (hk : cs.kind = .function)
    (hr : r = l + (k + 1)) (hfix : ∀ q ∈ fix, q ∈ rest) (hoff : ∀ q ∈ rest, q.1 ≠ al) (hi : IntsAre vs ds) (hrl : r ≤ ds.length) (hd1 : ds.length ≤ 1000) (hx : x < 2 ^ (n * (k + 1))) (hd : dp + (k + 1) < recursionLimit) (hu : un + 8 * (k + 1) < cLine)
    (ret : ∀ vs' h' tk', Fr h₀ L h' m → News h₀ L h' ((al, W.listOf vs'.toArray nn) :: rest) → IntsAre vs' (laid ds l (digs n x (k + 1))) → Q .none { s with heap := h', toks := tk' }) :
    wpAny (model prog w) (ktrTop dp un gd cn cs L a ccd cl outer) (call (.ref f) [.int X tx, .int Lv tl, .int Rv tr]) Q E s := by
  subst ex el er
  exact S B F XK N T XM hk hr hfix hoff hi hrl hd1 hx hd hu ret
theorem flat1 (k : Nat) (v : Value) : (List.replicate k [v]).flatten = List.replicate k v := by
  induction k with
  | zero => rfl
  | succ k ih => rw [List.replicate_succ, List.flatten_cons, ih, List.replicate_succ]; rfl
theorem ints_rep (k : Nat) (t : Tok) : IntsAre (List.replicate k (.int 0 t)) (List.replicate k 0) := by
  induction k with
  | zero => exact .nil
  | succ k ih => exact .cons 0 t ih
section
variable {prog : Program} {w : World} {A : Around} {E : Value → Shared → Prop} {s : Shared} {h₀ : Heap} {L : Addr}
theorem len_M {l : Addr} {vs : List Value} {nn : Nat} {news : List (Addr × Obj)} {Q : Value → Shared → Prop} (N : News h₀ L s.heap news) (hm : (l, W.listOf vs.toArray nn) ∈ news) (hs : vs.length < 2 ^ 62)
    (h : ∀ t k, Q (.int (vs.length : Int) t) { s with toks := k }) : wpAny (model prog w) A (call (.builtin "len") [.ref l]) Q E s := by
  refine len_list (items := vs.toArray) ⟨_, (N _ hm).1, rfl, _, rfl⟩ (by rw [List.size_toArray]; omega) ?_
  rw [List.size_toArray]
  exact h _ _
end
end Mine
namespace Mine
open PySem PySem.W PySem.Spec PySem.Calls PyProof.Rows
theorem bits_lt_pow (x : Nat) : x < 2 ^ Builtin.Int.intBits (x : Int) := by
  unfold Builtin.Int.intBits
  by_cases h : x = 0
  · subst h; simp
  · rw [if_neg (by simpa using h), Int.natAbs_natCast]
    exact Nat.lt_log2_self
theorem bits_zero_iff (x : Nat) : Builtin.Int.intBits (x : Int) = 0 ↔ x = 0 := by
  unfold Builtin.Int.intBits
  by_cases h : x = 0
  · subst h; simp
  · rw [if_neg (by simpa using h)]; simp [h]
theorem bits_le {x b : Nat} (h : x < 2 ^ b) : Builtin.Int.intBits (x : Int) ≤ b := by
  unfold Builtin.Int.intBits
  by_cases h0 : x = 0
  · subst h0; simp
  · rw [if_neg (by simpa using h0), Int.natAbs_natCast]
    exact (Nat.log2_lt h0).mpr h
/-- how many digits x has -/
def ndig (x n : Nat) : Nat := (Builtin.Int.intBits (x : Int) + n - 1) / n
theorem ndig_int (x n : Nat) (hn : 0 < n) : (((Builtin.Int.intBits (x : Int) : Nat) : Int) + (n : Int) - 1).fdiv (n : Int) = (ndig x n : Int) := by
  unfold ndig
  have e : ((Builtin.Int.intBits (x : Int) : Nat) : Int) + (n : Int) - 1 = ((Builtin.Int.intBits (x : Int) + n - 1 : Nat) : Int) := by omega
  rw [e, Int.fdiv_eq_ediv_of_nonneg _ (by omega)]
  rfl
theorem ndig_lt (x n : Nat) (hn : 0 < n) : x < 2 ^ (n * ndig x n) := by
  refine Nat.lt_of_lt_of_le (bits_lt_pow x) (Nat.pow_le_pow_right (by decide) ?_)
  unfold ndig
  generalize Builtin.Int.intBits (x : Int) = b
  have h1 := Nat.div_add_mod (b + n - 1) n
  have h2 := Nat.mod_lt (b + n - 1) hn
  omega
theorem ndig_pos {x n : Nat} (hn : 0 < n) (hx : x ≠ 0) : 0 < ndig x n := by
  unfold ndig
  have := (not_congr (bits_zero_iff x)).mpr hx
  exact Nat.div_pos (by omega) hn
theorem ndig_zero (n : Nat) (hn : 0 < n) : ndig 0 n = 0 := by
  unfold ndig
  rw [(bits_zero_iff 0).mpr rfl]
  exact Nat.div_eq_of_lt (by omega)
theorem ndig_le {x n b : Nat} (h : x < 2 ^ b) (hn : 0 < n) : ndig x n ≤ b := by
  unfold ndig
  have := bits_le h
  generalize Builtin.Int.intBits (x : Int) = c at *
  refine Nat.le_trans (Nat.div_le_div_right (c := n) (show c + n - 1 ≤ b + (n - 1) by omega)) ?_
  rcases Nat.eq_zero_or_pos b with h0 | h0
  · subst h0; rw [Nat.zero_add, Nat.div_eq_of_lt (by omega)]; exact Nat.zero_le _
  · have : b + (n - 1) < n * (b + 1) := by
      have : n * (b + 1) = n * b + n := Nat.mul_succ n b
      have : b ≤ n * b := Nat.le_mul_of_pos_left b hn
      omega
    exact Nat.lt_succ_iff.mp ((Nat.div_lt_iff_lt_mul hn).mpr (by rw [Nat.mul_comm]; exact this))
end Mine
namespace Mine
open PySem PySem.W PySem.Spec PySem.Calls PyProof.Rows
theorem i2d_led {h₀ h : Heap} {L f lA l' c3 c2 c1 P : Addr} {fo lo lo' oI oA oN pt : Obj} {add rest : List (Addr × Obj)} (N : News h₀ L h ((f, fo) :: (add ++ (lA, lo) :: (l', lo') :: (c3, oI) :: (c2, oA) :: (c1, oN) :: (P, pt) :: rest))) :
    ∃ oI' oA' oN', oI' = oI ∧ oA' = oA ∧ oN' = oN ∧ News h₀ L h ((c3, oI') :: (lA, lo) :: (P, pt) :: (f, fo) :: (c2, oA') :: (c1, oN') :: (add ++ rest)) :=
  ⟨oI, oA, oN, rfl, rfl, rfl, news_sub N fun p hp => by simp only [List.mem_cons, List.mem_append] at hp ⊢; grind⟩
end Mine
namespace Mine
open PySem PySem.W PySem.Spec PySem.Calls PyProof.Rows
theorem fnAt_of {h₀ h : Heap} {L f : Addr} {fo : Obj} {name qual : Str} {params : Arguments} {body : List Stmt} {scope : Scope} {clos : List (Str × Addr)} {doc pm ctv : Value} {c' : Addr} {news : List (Addr × Obj)} (hfo : fo = fnMade name qual params body scope clos doc pm c' ctv)
    (N : News h₀ L h news) (hm : (f, fo) ∈ news) : FnAt f h := by
  subst hfo
  exact FnAt.of N hm
theorem codeRec_of9 {h₀ h : Heap} {L c : Addr} {oc : Obj} {vs : Array Value} {qual : Str} {t : Tok} {news : List (Addr × Obj)} (N : News h₀ L h news) (hm : (c, oc) ∈ news) (hd : oc.data = .fields vs) (hv : vs[1]? = some (.str qual t)) : h.CodeRec (.ref c) qual :=
  codeRec_news N hm hd hv
end Mine
namespace Mine
open PySem PySem.W PySem.Spec PySem.Calls PyProof.Rows
theorem mid_eq {l r k : Nat} (hr : r = l + (k + 1)) : ((l : Int) + (r : Int)).fdiv (2 ^ Int.toNat 1) = ((l + (k + 1) / 2 : Nat) : Int) := by
  rw [show (2 : Int) ^ Int.toNat 1 = 2 by decide, Int.fdiv_eq_ediv_of_nonneg _ (by decide)]
  omega
theorem shift_eq (l j n : Nat) : (((l + j : Nat) : Int) - (l : Int)) * (n : Int) = ((n * j : Nat) : Int) := by
  rw [show ((l + j : Nat) : Int) - (l : Int) = (j : Int) by omega, Nat.mul_comm]
  exact (Int.natCast_mul j n).symm
theorem upper_eq (x s : Nat) : ((x : Int)).fdiv (2 ^ ((s : Nat) : Int).toNat) = ((x / 2 ^ s : Nat) : Int) := by
  rw [Int.toNat_natCast, Int.fdiv_eq_ediv_of_nonneg _ (by exact Int.le_of_lt (Int.pow_pos (by decide)))]
  simp
theorem back_eq (x s : Nat) : ((x / 2 ^ s : Nat) : Int) * 2 ^ ((s : Nat) : Int).toNat = ((x / 2 ^ s * 2 ^ s : Nat) : Int) := by
  rw [Int.toNat_natCast]; simp
theorem lower_low (x s : Nat) : Builtin.bitXor (x : Int) ((x / 2 ^ s * 2 ^ s : Nat) : Int) = ((x % 2 ^ s : Nat) : Int) := by
  have h := xor_low x s
  rw [bitXor_and, bitAnd_pp (Int.natCast_nonneg _) (Int.natCast_nonneg _)]
  simp only [Int.toNat_natCast]
  have hle : x / 2 ^ s * 2 ^ s ≤ x := Nat.div_mul_le_self x (2 ^ s)
  have ha : x &&& (x / 2 ^ s * 2 ^ s) = x / 2 ^ s * 2 ^ s := by
    rw [← Nat.shiftRight_eq_div_pow, ← Nat.shiftLeft_eq]
    apply Nat.eq_of_testBit_eq
    intro j
    rw [Nat.testBit_and, Nat.testBit_shiftLeft, Nat.testBit_shiftRight]
    by_cases q : s ≤ j
    · simp [q, Nat.add_sub_cancel' q]
    · simp [q]
  rw [ha]
  have hm : x % 2 ^ s = x - x / 2 ^ s * 2 ^ s := by
    have := Nat.div_add_mod x (2 ^ s)
    rw [Nat.mul_comm] at this
    omega
  rw [hm]
  omega
theorem shl_room {x s : Nat} (hx : x < 2 ^ 100000) (hs : s ≤ 100000) : ((Builtin.Int.intBits ((x / 2 ^ s : Nat) : Int) : Nat) : Int) + ((s : Nat) : Int) ≤ 2 ^ 27 := by
  have h1 : x / 2 ^ s < 2 ^ 100000 := Nat.lt_of_le_of_lt (Nat.div_le_self _ _) hx
  have h2 := bits_le h1
  omega
end Mine
namespace Mine
open PySem PySem.W PySem.Spec PySem.Calls PyProof.Rows
theorem laid_two {ds : List Int} {l j k n x : Nat} (hj : j ≤ k) (h : l + (k + 1) ≤ ds.length) : laid (laid ds l (digs n (x % 2 ^ (n * j)) j)) (l + j) (digs n (x / 2 ^ (n * j)) (k - j + 1)) = laid ds l (digs n x (k + 1)) := by
  have h1 := digs_len n (x % 2 ^ (n * j)) j
  have h2 := digs_len n (x / 2 ^ (n * j)) (k - j + 1)
  have e := laid_laid (ds := ds) (l := l) (es := digs n (x % 2 ^ (n * j)) j) (fs := digs n (x / 2 ^ (n * j)) (k - j + 1)) (by omega)
  rw [h1] at e
  rw [e, ← digs_add, show j + (k - j + 1) = k + 1 by omega]
theorem laid_all (k n x : Nat) : laid (List.replicate k 0) 0 (digs n x k) = digs n x k := by
  unfold laid
  rw [digs_len]
  simp
theorem div_room {x n j k : Nat} (hj : j ≤ k) (hx : x < 2 ^ (n * (k + 1))) : x / 2 ^ (n * j) < 2 ^ (n * (k - j + 1)) := by
  apply Nat.div_lt_of_lt_mul
  rw [← Nat.pow_add, ← Nat.mul_add, show j + (k - j + 1) = k + 1 by omega]
  exact hx
theorem halv {l r k j n dp un R C : Nat} (hr : r = l + (k + 1)) (hn : r ≤ n) (h0 : n ≤ 1000) (hj : (k + 1) / 2 = j) (hne : ¬ ((l : Int) + 1 = (r : Int))) (hd : dp + (k + 1) < R) (hu : un + 8 * (k + 1) < C) :
    (1 ≤ j ∧ j ≤ k ∧ j - 1 + 1 = j ∧ k + 1 ≤ 1000 ∧ j ≤ 1000 ∧ k - j + 1 ≤ 1000 ∧ l + (k + 1) ≤ n) ∧ (j - 1 < k ∧ l + j = l + (j - 1 + 1) ∧ l + j ≤ n ∧ dp + 1 + (j - 1 + 1) < R ∧ un + 3 + 8 * (j - 1 + 1) < C) ∧
    (k - j < k ∧ r = l + j + (k - j + 1) ∧ dp + 1 + (k - j + 1) < R ∧ un + 3 + 8 * (k - j + 1) < C) := by
  have hk : k ≠ 0 := by rintro rfl; exact hne (by rw [hr]; rfl)
  have hk1 : k + 1 ≤ n := Nat.le_trans (Nat.le_trans (Nat.le_add_left _ _) (Nat.le_of_eq hr.symm)) hn
  have h1 : 1 ≤ j := by rw [← hj]; exact Nat.div_pos (Nat.succ_le_succ (Nat.pos_of_ne_zero hk)) (by decide)
  have h2 : j ≤ k := by omega
  clear hj hne hk
  obtain ⟨i, rfl⟩ := Nat.exists_eq_add_of_le' h1
  obtain ⟨d, rfl⟩ := Nat.exists_eq_add_of_le h2
  subst hr
  rw [Nat.add_sub_cancel_left, Nat.add_sub_cancel]
  have e1 : i + 1 ≤ i + 1 + d := Nat.le_add_right _ _
  have e2 : d + 1 ≤ i + 1 + d := by rw [Nat.add_comm (i + 1) d]; exact Nat.add_le_add_left (Nat.succ_le_succ (Nat.zero_le i)) d
  have e3 : i + 1 + d ≤ 1000 := Nat.le_trans (Nat.le_succ _) (Nat.le_trans hk1 h0)
  have s1 : ∀ q, q ≤ i + 1 + d → dp + 1 + q < R := fun q hq => Nat.lt_of_le_of_lt (by rw [Nat.add_assoc, Nat.add_comm 1 q]; exact Nat.add_le_add_left (Nat.succ_le_succ hq) dp) hd
  have s2 : ∀ q, q ≤ i + 1 + d → un + 3 + 8 * q < C := fun q hq => Nat.lt_of_le_of_lt (by rw [Nat.add_assoc, Nat.mul_succ, Nat.add_comm 3]; exact Nat.add_le_add_left (Nat.add_le_add (Nat.mul_le_mul_left 8 hq) (by decide)) un) hu
  exact ⟨⟨h1, h2, rfl, Nat.le_trans hk1 h0, Nat.le_trans e1 e3, Nat.le_trans e2 e3, hn⟩, ⟨Nat.lt_of_lt_of_le (Nat.lt_succ_self i) e1, rfl, Nat.le_trans (Nat.add_le_add_left (Nat.le_trans e1 (Nat.le_succ _)) l) hn, s1 _ e1, s2 _ e1⟩,
    Nat.lt_of_lt_of_le (Nat.lt_succ_self d) e2, by rw [Nat.add_assoc l, ← Nat.add_assoc (i + 1) d 1], s1 _ e2, s2 _ e2⟩
theorem top_dp {dp k R : Nat} (h : k ≤ 80) (hd : dp + 100 < R) : dp + 1 + k < R := Nat.lt_of_le_of_lt (by rw [Nat.add_assoc]; exact Nat.add_le_add_left (Nat.le_trans (Nat.add_le_add_left h 1) (by decide)) dp) hd
theorem top_un {un k C : Nat} (h : k ≤ 80) (hu : un + 900 < C) : un + 3 + 8 * k < C := Nat.lt_of_le_of_lt (by rw [Nat.add_assoc]; exact Nat.add_le_add_left (Nat.le_trans (Nat.add_le_add_left (Nat.mul_le_mul_left 8 h) 3) (by decide)) un) hu
theorem nk_le {n k : Nat} (hn : n < 100) (hk : k ≤ 1000) : n * k ≤ 100000 := Nat.mul_le_mul (Nat.le_of_lt hn) hk
theorem room_of {x n k : Nat} (hx : x < 2 ^ (n * (k + 1))) (hk : n * (k + 1) ≤ 100000) : x < 2 ^ 100000 := Nat.lt_of_lt_of_le hx (Nat.pow_le_pow_right (by decide) hk)
end Mine
namespace Mine
open PySem PySem.W PySem.Spec PySem.Calls PyProof.Rows
theorem IntsAre_len : ∀ {vs : List Value} {ns : List Int}, IntsAre vs ns → vs.length = ns.length
  | _, _, .nil => rfl
  | _, _, .cons _ _ h => by rw [List.length_cons, List.length_cons, IntsAre_len h]
theorem IntsAre_get : ∀ {vs : List Value} {ns : List Int}, IntsAre vs ns → ∀ i (h : i < ns.length), ∃ t, vs[i]? = some (.int ns[i] t)
  | _, _, .nil, i, h => absurd h (Nat.not_lt_zero i)
  | _, _, .cons _ t _, 0, _ => ⟨t, rfl⟩
  | _, _, .cons _ _ hh, i + 1, h => IntsAre_get hh i (Nat.lt_of_succ_lt_succ h)
/-- the number of these digits to the base 2 ^ n, the lowest first -/
def undig (n : Nat) : List Nat → Nat
  | [] => 0
  | e :: es => e + 2 ^ n * undig n es
theorem undig_append (n : Nat) : ∀ xs ys, undig n (xs ++ ys) = undig n xs + 2 ^ (n * xs.length) * undig n ys
  | [], ys => by simp [undig]
  | x :: xs, ys => by
    rw [List.cons_append, undig, undig, undig_append n xs ys, List.length_cons, Nat.mul_succ, Nat.add_comm (n * _) n, Nat.pow_add, Nat.mul_add, Nat.mul_assoc, Nat.add_assoc]
theorem undig_lt (n : Nat) : ∀ es : List Nat, (∀ e ∈ es, e < 2 ^ n) → undig n es < 2 ^ (n * es.length)
  | [], _ => by simp [undig]
  | e :: es, h => by
    have h1 := h e (List.mem_cons_self ..)
    have h2 := undig_lt n es fun a ha => h a (List.mem_cons_of_mem _ ha)
    rw [undig, List.length_cons, Nat.mul_succ, Nat.add_comm (n * _) n, Nat.pow_add]
    have h3 : 2 ^ n * (undig n es + 1) ≤ 2 ^ n * 2 ^ (n * es.length) := Nat.mul_le_mul_left _ h2
    rw [Nat.mul_succ] at h3
    omega
/-- the digits from place l on, k + 1 of them -/
def seg (es : List Nat) (l k : Nat) : List Nat := (es.drop l).take k
theorem seg_len {es : List Nat} {l k : Nat} (h : l + k ≤ es.length) : (seg es l k).length = k := by
  unfold seg
  simp only [List.length_take, List.length_drop]
  omega
theorem seg_add (es : List Nat) (l j k : Nat) : seg es l (j + k) = seg es l j ++ seg es (l + j) k := by
  unfold seg
  rw [List.take_add, List.drop_drop]
theorem seg_lt {n : Nat} {es : List Nat} (h : ∀ e ∈ es, e < 2 ^ n) (l k : Nat) : ∀ e ∈ seg es l k, e < 2 ^ n :=
  fun e he => h e (List.mem_of_mem_drop (List.mem_of_mem_take he))
theorem seg_all (es : List Nat) : seg es 0 es.length = es := by simp [seg]
theorem seg_one {es : List Nat} {l n : Nat} (h : l < es.length) : undig n (seg es l 1) = es[l] := by
  unfold seg
  rw [List.drop_eq_getElem_cons h, List.take_succ_cons, List.take_zero]
  simp only [undig, Nat.mul_zero, Nat.add_zero]
theorem seg_room {n : Nat} {es : List Nat} (h : ∀ e ∈ es, e < 2 ^ n) (l k : Nat) (hl : l + k ≤ es.length) : undig n (seg es l k) < 2 ^ (n * k) := by
  have := undig_lt n _ (seg_lt h l k)
  rwa [seg_len hl] at this
theorem seg_two {n : Nat} {es : List Nat} {l j k : Nat} (hj : j ≤ k) (h : l + (k + 1) ≤ es.length) : ((undig n (seg es (l + j) (k - j + 1)) : Nat) : Int) * 2 ^ ((n * j : Nat) : Int).toNat + ((undig n (seg es l j) : Nat) : Int) = ((undig n (seg es l (k + 1)) : Nat) : Int) := by
  have e : undig n (seg es l (k + 1)) = undig n (seg es l j) + 2 ^ (n * j) * undig n (seg es (l + j) (k - j + 1)) := by
    have h1 := seg_add es l j (k - j + 1)
    rw [show j + (k - j + 1) = k + 1 by omega] at h1
    rw [h1, undig_append, seg_len (by omega)]
  rw [e, Int.toNat_natCast]
  push_cast
  rw [Int.mul_comm, Int.add_comm]
theorem lift_room {x s : Nat} (hx : x < 2 ^ 100000) (hs : s ≤ 100000) : ((Builtin.Int.intBits (x : Int) : Nat) : Int) + ((s : Nat) : Int) ≤ 2 ^ 27 := by
  have h2 := bits_le hx
  omega
/-- what the inner def of _digits2int does: it tells the number of the digits from l to r -/
def SumSpec (prog : Program) (w : World) (K : Frag) (p : Program) (loose : List Str) (mean : ExcName → Option Value) (mg mb : Str → Option Value) (fix : List (Addr × Obj)) (f : Addr) (n : Nat) (es : List Nat) (k : Nat) : Prop :=
  ∀ {dp un : Nat} {gd : Option (List Code)} {cn : Str} {cs : Scope} {a : Addr} {ccd : Value} {cl : List (Str × Addr)} {outer : List Env} {A₀ : Around} {base h₀ : Heap} {L : Addr} {m : Str → Option Value} {s : Shared} {Q E : Value → Shared → Prop}
    {rest : List (Addr × Obj)} {l r : Nat} {tl tr : Tok},
    Below A₀ base outer h₀ → Fr h₀ L s.heap m → K.In h₀ → News h₀ L s.heap rest → Top topProg loose mean mg mb h₀ → Flt.MathXP p mg h₀ → cs.kind = .function →
    r = l + (k + 1) → (∀ q ∈ fix, q ∈ rest) → r ≤ es.length → dp + (k + 1) < recursionLimit → un + 8 * (k + 1) < cLine →
    (∀ t' h' tk', Fr h₀ L h' m → News h₀ L h' rest → Q (.int ((undig n (seg es l (k + 1)) : Nat) : Int) t') { s with heap := h', toks := tk' }) →
    wpAny (model prog w) (ktrTop dp un gd cn cs L a ccd cl outer) (call (.ref f) [.int (l : Int) tl, .int (r : Int) tr]) Q E s
theorem sum_ind {prog : Program} {w : World} {K : Frag} {p : Program} {loose : List Str} {mean : ExcName → Option Value} {mg mb : Str → Option Value} {fix : List (Addr × Obj)} {f : Addr} {n : Nat} {es : List Nat}
    (step : ∀ k, (∀ j, j < k → SumSpec prog w K p loose mean mg mb fix f n es j) → SumSpec prog w K p loose mean mg mb fix f n es k) : ∀ k, SumSpec prog w K p loose mean mg mb fix f n es k := by
  intro k
  induction k using Nat.strongRecOn with
  | _ k ih =>
    apply step
    intro j hj
    exact ih j hj
theorem sum_call {prog : Program} {w : World} {K : Frag} {p : Program} {loose : List Str} {mean : ExcName → Option Value} {mg mb : Str → Option Value} {fix : List (Addr × Obj)} {f : Addr} {n k : Nat} {es : List Nat}
    {dp un : Nat} {gd : Option (List Code)} {cn : Str} {cs : Scope} {a : Addr} {ccd : Value} {cl : List (Str × Addr)} {outer : List Env} {A₀ : Around} {base h₀ : Heap} {L : Addr} {m : Str → Option Value} {s : Shared} {Q E : Value → Shared → Prop}
    {rest : List (Addr × Obj)} {l r : Nat} {Lv Rv : Int} {tl tr : Tok} (S : SumSpec prog w K p loose mean mg mb fix f n es k) (el : Lv = (l : Int)) (er : Rv = (r : Int))
    (B : Below A₀ base outer h₀) (F : Fr h₀ L s.heap m) (XK : K.In h₀) (N : News h₀ L s.heap rest) (T : Top topProg loose mean mg mb h₀) (XM : Flt.MathXP p mg h₀) (hk : cs.kind = .function)
    (hr : r = l + (k + 1)) (hfix : ∀ q ∈ fix, q ∈ rest) (hrl : r ≤ es.length) (hd : dp + (k + 1) < recursionLimit) (hu : un + 8 * (k + 1) < cLine)
    (ret : ∀ t' h' tk', Fr h₀ L h' m → News h₀ L h' rest → Q (.int ((undig n (seg es l (k + 1)) : Nat) : Int) t') { s with heap := h', toks := tk' }) :
    wpAny (model prog w) (ktrTop dp un gd cn cs L a ccd cl outer) (call (.ref f) [.int Lv tl, .int Rv tr]) Q E s := by
  subst el er
  exact S B F XK N T XM hk hr hfix hrl hd hu ret
theorem d2i_led {h₀ h : Heap} {L f lq c3 c2 c1 P : Addr} {fo lo o3 o2 o1 pt : Obj} {add rest : List (Addr × Obj)} (N : News h₀ L h ((f, fo) :: (add ++ (c3, o3) :: (c2, o2) :: (c1, o1) :: (lq, lo) :: (P, pt) :: rest))) :
    ∃ o3' o2' o1', o3' = o3 ∧ o2' = o2 ∧ o1' = o1 ∧ News h₀ L h ((c3, o3') :: (lq, lo) :: (P, pt) :: (f, fo) :: (c2, o2') :: (c1, o1') :: (add ++ rest)) :=
  ⟨o3, o2, o1, rfl, rfl, rfl, news_sub N fun p hp => by simp only [List.mem_cons, List.mem_append] at hp ⊢; grind⟩
end Mine
namespace Mine
open PySem PySem.W PySem.Spec PySem.Calls PyProof.Rows
section
variable {prog : Program} {w : World} {A : Around} {s : Shared} {env : Env} {h₀ : Heap} {E : Value → Shared → Prop} {Q : Flow → Shared → Prop}
theorem rev_H {I l : Addr} {vs : List Value} {nn : Nat} {m₀ : Str → Option Value} {news : List (Addr × Obj)} {x : Str} {body orelse : List Stmt} (J : Nat → (Str → Option Value) → List (Addr × Obj) → Prop)
    (hh : A.handled = none) (F : Fr h₀ env.locals s.heap m₀) (N : News h₀ env.locals s.heap ((I, revObj l ((vs.length : Int) - 1)) :: news)) (hoff : ∀ p ∈ news, p.1 ≠ I) (hm : (l, listOf vs.toArray nn) ∈ news) (h0 : J 0 m₀ news)
    (hls : ∀ i m nx, J i m nx → (l, listOf vs.toArray nn) ∈ nx)
    (turn : ∀ (Qb : Flow → Shared → Prop) i v m₁ h tk it, (∀ h' tk' m' nx', Fr h₀ env.locals h' m' → News h₀ env.locals h' ((I, it) :: nx') → (∀ p ∈ nx', p.1 ≠ I) → J (i + 1) m' nx' → Qb .next { s with heap := h', toks := tk' }) →
      i < vs.length → vs[vs.length - 1 - i]? = some v → it.cls = .type "list_reverseiterator" → ∀ nx, J i m₁ nx → (∀ p ∈ nx, p.1 ≠ I) → Fr h₀ env.locals h (fun y => if y = x then some v else m₁ y) → News h₀ env.locals h ((I, it) :: nx) → wpAny (model prog w) A (execs body env) Qb E { s with heap := h, toks := tk })
    (done : ∀ m₁ h tk nx, J vs.length m₁ nx → Fr h₀ env.locals h m₁ → News h₀ env.locals h nx → wpAny (model prog w) A (execs orelse env) Q E { s with heap := h, toks := tk }) :
    wpAny (model prog w) A (pyIter (.ref I)) (fun it s₂ => LoopX prog w A h₀ env x body orelse Q E it s₂) E s := by
  have hIx := N _ (List.mem_cons_self ..)
  have hax := N _ (List.mem_cons_of_mem _ hm)
  have hl : s.heap.IsList l vs.toArray := ⟨_, hax.1, rfl, _, rfl⟩
  have hit : s.heap.IsRevIter I l ((vs.length : Int) - 1) := ⟨_, hIx.1, rfl, rfl⟩
  refine wpAny_pyIter_revIter hit ?_
  have W := Walks.listRev (prog := prog) (w := w) hh I l (hoff _ hm) vs.toArray
  rw [List.size_toArray] at W
  refine fun G k => k I _ _ vs.length _ _ m₀ news J rfl W (fun hmm => (List.mem_cons.mp hmm).elim (fun e => hIx.2.1 e.symm) fun hmm => hax.2.1 (List.mem_singleton.mp hmm).symm) (fun b hb => by rw [List.mem_singleton.mp hb]; exact hIx.2.2) (fun p hp hI => hoff p hp (List.mem_singleton.mp hI))
    ⟨Nat.zero_le _, by simpa using hit, hl⟩ F (fun p hp => N p (List.mem_cons_of_mem _ hp)) h0 ?_ fun h' tk m' news' F' N' _ hJ => done m' h' tk news' hJ F' N'
  intro Qb i v m₁ news₁ h tk own hQb _ hin hP hJ hofs hown hget hall hst F₁ N₁
  obtain ⟨it, hit', hic, _⟩ := hst.2.1
  have hmemI := hall I (List.mem_cons_self ..) hIx.2.2 _ hit'
  have zl := (N₁ _ (List.mem_append_right _ (hls i _ _ hJ))).1
  refine turn Qb i v m₁ h tk it (fun h' tk' m' nx' F' N' o' j' => hQb h' tk' m' nx' F' (fun p hp => ?_) (fun p hp hI => o' p hp (List.mem_singleton.mp hI)) j') hin (by simpa using hP) hic news₁ hJ (fun p hp e => hofs p hp (List.mem_singleton.mpr e)) F₁ (fun p hp => ?_)
  · rcases List.mem_append.mp hp with hp | hp
    · have h2 : h.get? p.1 = some p.2 := hget p hp
      rcases List.mem_cons.mp (hown p hp) with h1 | h1
      · rw [h1, hit'] at h2
        have h3 : p = (I, it) := Prod.ext h1 (Option.some.inj h2).symm
        rw [h3]; exact N' _ (List.mem_cons_self ..)
      · have h1' : p.1 = l := List.mem_singleton.mp h1
        rw [h1', zl] at h2
        have h3 : p = (l, listOf vs.toArray nn) := Prod.ext h1' (Option.some.inj h2).symm
        rw [h3]; exact N' _ (List.mem_cons_of_mem _ (hls _ _ _ j'))
    · exact N' _ (List.mem_cons_of_mem _ hp)
  · exact (List.mem_cons.mp hp).elim (fun e => e ▸ N₁ _ (List.mem_append_left _ hmemI)) fun hp => N₁ _ (List.mem_append_right _ hp)
end
end Mine
namespace Mine
open PySem PySem.W PySem.Spec PySem.Calls PyProof.Rows
theorem div_next {X B d b : Nat} (hb : 0 < b) : (X * B + d) / b = (X / b) * B + ((X % b) * B + d) / b ∧ (X * B + d) % b = ((X % b) * B + d) % b := by
  have e : X * B + d = ((X % b) * B + d) + b * ((X / b) * B) := by
    have h := Nat.div_add_mod X b
    calc X * B + d = (b * (X / b) + X % b) * B + d := by rw [h]
      _ = _ := by rw [Nat.add_mul, Nat.mul_assoc]; omega
  rw [e]
  exact ⟨by rw [Nat.add_mul_div_left _ _ hb, Nat.add_comm], by rw [Nat.add_mul_mod_self_left]⟩
theorem div_digit {X B d b : Nat} (hb : 0 < b) (hd : d < B) : (X % b) * B + d < b * B := by
  have h1 : X % b + 1 ≤ b := Nat.mod_lt _ hb
  have h2 := Nat.mul_le_mul_right B h1
  rw [Nat.add_mul] at h2
  omega
theorem digs_get {n : Nat} : ∀ {k x i : Nat} (h : i < (digs n x k).length), (digs n x k)[i] = ((x / 2 ^ (n * i) % 2 ^ n : Nat) : Int)
  | k + 1, x, 0, _ => by simp [digs]
  | k + 1, x, i + 1, h => by
    simp only [digs, List.getElem_cons_succ]
    rw [digs_get (k := k) (x := x / 2 ^ n) (i := i), Nat.div_div_eq_div_mul, ← Nat.pow_add, Nat.mul_succ, Nat.add_comm n]
theorem top_next {x n K i : Nat} (hi : i < K) : x / 2 ^ (n * (K - (i + 1))) = x / 2 ^ (n * (K - i)) * 2 ^ n + x / 2 ^ (n * (K - 1 - i)) % 2 ^ n := by
  rw [show K - (i + 1) = K - 1 - i by omega, show K - i = (K - 1 - i) + 1 by omega, Nat.mul_succ, Nat.pow_add, ← Nat.div_div_eq_div_mul]
  have := Nat.div_add_mod (x / 2 ^ (n * (K - 1 - i))) (2 ^ n)
  rw [Nat.mul_comm] at this
  exact this.symm
/-- what the loop of _divmod_pos has told: the digits so far, the highest first, and the rest -/
structure Told (n x b K i : Nat) (es : List Nat) (r : Nat) : Prop where
  len : es.length = i
  val : undig n es.reverse = x / 2 ^ (n * (K - i)) / b
  rest : r = x / 2 ^ (n * (K - i)) % b
  small : ∀ e ∈ es, e < 2 ^ n
theorem Told.zero {n x b K : Nat} (h : x < 2 ^ (n * K)) (_hb : 0 < b) : Told n x b K 0 [] 0 := by
  refine ⟨rfl, ?_, ?_, fun e he => nomatch he⟩
  · rw [Nat.sub_zero, Nat.div_eq_of_lt h, Nat.zero_div]; rfl
  · rw [Nat.sub_zero, Nat.div_eq_of_lt h, Nat.zero_mod]
theorem Told.next {n x b K i r : Nat} {es : List Nat} (h : Told n x b K i es r) (hi : i < K) (hb : 0 < b) :
    Told n x b K (i + 1) (es ++ [(r * 2 ^ n + x / 2 ^ (n * (K - 1 - i)) % 2 ^ n) / b]) ((r * 2 ^ n + x / 2 ^ (n * (K - 1 - i)) % 2 ^ n) % b) := by
  have hd : x / 2 ^ (n * (K - 1 - i)) % 2 ^ n < 2 ^ n := Nat.mod_lt _ (Nat.two_pow_pos _)
  obtain ⟨e1, e2⟩ := div_next (X := x / 2 ^ (n * (K - i))) (B := 2 ^ n) (d := x / 2 ^ (n * (K - 1 - i)) % 2 ^ n) hb
  refine ⟨by simp [h.len], ?_, ?_, ?_⟩
  · rw [List.reverse_append, List.reverse_singleton, List.singleton_append, undig, h.val, top_next hi, e1, h.rest, Nat.mul_comm (2 ^ n), Nat.add_comm]
  · rw [top_next hi, e2, h.rest]
  · intro e he
    rcases List.mem_append.mp he with he | he
    · exact h.small e he
    · rw [List.mem_singleton.mp he]
      have := div_digit (X := x / 2 ^ (n * (K - i))) hb hd
      rw [← h.rest] at this
      exact Nat.div_lt_of_lt_mul this
theorem Told.room {n x b K i r : Nat} {es : List Nat} (h : Told n x b K i es r) (hb : 0 < b) : r < b := by
  rw [h.rest]; exact Nat.mod_lt _ hb
theorem Told.all {n x b K r : Nat} {es : List Nat} (h : Told n x b K K es r) : undig n es.reverse = x / b ∧ r = x % b := by
  have h1 := h.val
  have h2 := h.rest
  rw [Nat.sub_self, Nat.mul_zero, Nat.pow_zero, Nat.div_one] at h1 h2
  exact ⟨h1, h2⟩
theorem ints_snoc {vs : List Value} {es : List Nat} (h : IntsAre vs (es.map Int.ofNat)) (e : Nat) (t : Tok) : IntsAre (vs ++ [.int (e : Int) t]) ((es ++ [e]).map Int.ofNat) := by
  rw [List.map_append]
  exact h.append (.cons _ t .nil)
theorem bits_pos {b : Nat} (hb : 0 < b) : 0 < Builtin.Int.intBits (b : Int) := Nat.pos_of_ne_zero fun h => by have := (bits_zero_iff b).mp h; omega
end Mine
namespace Mine
open PySem PySem.W PySem.Spec PySem.Calls PyProof.Rows
theorem TbOk.off {l c l2 c2 : Int} {q q2 : Str} {ps qs : Array Value} {news news' news2 : List (Addr × Obj)} (h : TbOk l c q ps news) (h2 : TbOk l2 c2 q2 qs news2)
    (hs : ∀ p ∈ news, p ∈ news' ∨ p.2 = tabObj qs ∨ ∃ vs n, p.2 = W.listOf vs n) : TbOk l c q ps news' := by
  rcases h with h | ⟨c', oc, vs, t, h1, hm, hd, hv⟩
  · exact .inl h
  · refine .inr ⟨c', oc, vs, t, h1, ?_, hd, hv⟩
    rcases hs _ hm with h | h | ⟨ws, n, h⟩
    · exact h
    · exfalso
      have h : oc = tabObj qs := h
      rw [h] at hd
      have hd : Data.fields qs = .fields vs := hd
      cases hd
      rcases h2 with h2 | ⟨_, _, _, _, h2, _⟩
      · rw [h2] at hv; cases hv
      · rw [h2] at hv; cases hv
    · exfalso
      have h : oc = W.listOf ws n := h
      rw [h] at hd
      cases hd
end Mine
namespace Mine
open PySem PySem.W PySem.Spec PySem.Calls PyProof.Rows
/-- the two code tables of _int2digits and _digits2int, as a call finds them -/
def DvPre (Pi Pd : Addr) (li ld : Int) (ps qs : Array Value) (rest : List (Addr × Obj)) : Prop :=
  (∀ p ∈ rest, p.1 ≠ Pi ∧ p.1 ≠ Pd) ∧ TbOk li 4 (Str.ofString "_int2digits.<locals>.inner") ps rest ∧ TbOk ld 4 (Str.ofString "_digits2int.<locals>.inner") qs rest
/-- what a division leaves -/
def DvPost (Pi Pd : Addr) (li ld : Int) (rest : List (Addr × Obj)) (q m : Int) (r : Value) (nw : List (Addr × Obj)) : Prop :=
  ∃ ps' qs' add d t1 t2, r = .ref d ∧ ((d, { cls := .type "tuple", data := .seq #[.int q t1, .int m t2] }) :: (Pi, tabObj ps') :: (Pd, tabObj qs') :: (add ++ rest)) = nw ∧ 
       TbOk li 4 (Str.ofString "_int2digits.<locals>.inner") ps' (add ++ rest) ∧ TbOk ld 4 (Str.ofString "_digits2int.<locals>.inner") qs' (add ++ rest) ∧
       (Pi < d ∧ Pd < d ∧ (∀ q ∈ add, q.1 < d) ∧ ∀ q ∈ rest, q.1 < d) ∧ ∀ p ∈ add, Pi < p.1 ∧ Pd < p.1 ∧ ∀ q ∈ rest, q.1 < p.1
theorem fdiv_neg_of (x b : Nat) (hb : 0 < b) : (-(x : Int) - 1).fdiv (b : Int) = -((x / b : Nat) : Int) - 1 ∧ (-(x : Int) - 1).fmod (b : Int) = (b : Int) - ((x % b : Nat) : Int) - 1 := by
  rw [Int.fdiv_eq_ediv_of_nonneg _ (by omega), Int.fmod_eq_emod_of_nonneg _ (by omega)]
  have h1 := Nat.div_add_mod x b
  have h2 := Nat.mod_lt x hb
  generalize x / b = q at *
  generalize x % b = r at *
  have e : (-(x : Int) - 1) = ((b : Int) - (r : Int) - 1) + (b : Int) * (-(q : Int) - 1) := by
    have : (x : Int) = (b : Int) * (q : Int) + (r : Int) := by rw [← h1]; simp
    rw [this, Int.mul_sub, Int.mul_neg]
    omega
  rw [e]
  have h3 : (0 : Int) ≤ (b : Int) - (r : Int) - 1 := by omega
  have h4 : (b : Int) - (r : Int) - 1 < (b : Int) := by omega
  refine ⟨?_, ?_⟩
  · rw [Int.add_mul_ediv_left _ _ (by omega), Int.ediv_eq_zero_of_lt h3 h4, Int.zero_add]
  · rw [Int.add_mul_emod_self_left, Int.emod_eq_of_lt h3 h4]
theorem fdiv_minus (a b : Int) : (-a).fdiv (-b) = a.fdiv b ∧ (-a).fmod (-b) = -(a.fmod b) := by
  have h1 : (-a).fdiv (-b) = a.fdiv b := Int.neg_fdiv_neg a b
  refine ⟨h1, ?_⟩
  have h2 := Int.fmod_def a b
  have h3 := Int.fmod_def (-a) (-b)
  rw [h1] at h3
  rw [h3, h2, Int.neg_mul]
  omega
end Mine
namespace Mine
open PySem PySem.W PySem.Spec PySem.Calls PyProof.Rows
section
variable {prog : Program} {w : World} {A : Around} {s : Shared} {h₀ : Heap} {L : Addr} {m : Str → Option Value} {env : Env}
theorem comp_inv {elt : Expr} {x : Str} {scope : Scope} {cl : List (Str × Addr)} {S : List (Addr × Obj) → Prop} {P : Nat → Value → Prop} {Fin : List Value → List (Addr × Obj) → Prop} {n : Nat} {news : List (Addr × Obj)} (J : Nat → List Value → List (Addr × Obj) → Prop) (h0 : J 0 [] news)
    (turn : ∀ i ys nx v I oI C oC D m₂ h tk (E' : Value → Shared → Prop), i < n → J i ys nx → P i v → LCg.NsObj oC m₂ → m₂ x = some v → Fr h₀ L h m → News h₀ L h ((I, oI) :: (C, oC) :: (D, LCg.lst ys) :: nx) → LCg.Off3 I C D nx → ((@Ne Nat I C) ∧ (@Ne Nat I D) ∧ (@Ne Nat C D)) →
      wpAny (model prog w) A (eval elt (compEnvC scope cl C env)) (LCg.CompEnd h₀ L m { s with heap := h, toks := tk } I oI C oC D (LCg.lst ys) S (fun y nx' => J (i + 1) (ys ++ [y]) nx')) E' { s with heap := h, toks := tk })
    (done : ∀ ys nx, J n ys nx → Fin ys nx) : LCg.CompRest prog w A h₀ L m env elt x scope cl s S P Fin n 0 [] news := by
  have key : ∀ (j i : Nat) ys nx, i + j = n → J i ys nx → LCg.CompRest prog w A h₀ L m env elt x scope cl s S P Fin j i ys nx := by
    intro j
    induction j with
    | zero =>
      intro i ys nx hi hJ
      have e : i = n := by omega
      subst e
      exact LCg.CompRest.zero (done ys nx hJ)
    | succ j ih =>
      intro i ys nx hi hJ
      refine LCg.CompRest.succ ?_
      intro v I oI C oC D m₂ h tk E' hv hC hx F N off ne
      refine wpAny_mono (turn i ys nx v I oI C oC D m₂ h tk E' (by omega) hJ hv hC hx F N off ne) (fun y s₂ hq => ?_) fun _ _ e => e
      obtain ⟨h', tk', nw, e, F', N', off', hS, hJ'⟩ := hq
      exact ⟨h', tk', nw, e, F', N', off', hS, ih (i + 1) _ _ (by omega) hJ'⟩
  exact key n 0 [] news (by omega) h0
theorem comp_invT {ct elt : Expr} {x : Str} {scope : Scope} {cl : List (Str × Addr)} {S : List (Addr × Obj) → Prop} {P : Nat → Value → Prop} {Fin : List Value → List (Addr × Obj) → Prop} {n : Nat} {news : List (Addr × Obj)} (J : Nat → List Value → List (Addr × Obj) → Prop) (h0 : J 0 [] news)
    (turn : ∀ i ys nx v I oI C oC D m₂ h tk (E' : Value → Shared → Prop), i < n → J i ys nx → P i v → LCg.NsObj oC m₂ → m₂ x = some v → Fr h₀ L h m → News h₀ L h ((I, oI) :: (C, oC) :: (D, LCg.lst ys) :: nx) → LCg.Off3 I C D nx → ((@Ne Nat I C) ∧ (@Ne Nat I D) ∧ (@Ne Nat C D)) →
      wpAny (model prog w) A (isTrue ct (compEnvC scope cl C env) (eval ct (compEnvC scope cl C env))) (fun b s' => if b = true then wpAny (model prog w) A (eval elt (compEnvC scope cl C env)) (LCg.CompEnd h₀ L m { s with heap := h, toks := tk } I oI C oC D (LCg.lst ys) S (fun y nx' => J (i + 1) (ys ++ [y]) nx')) E' s'
        else LCg.CompEnd h₀ L m { s with heap := h, toks := tk } I oI C oC D (LCg.lst ys) S (fun _ nx' => J (i + 1) ys nx') Value.none s') E' { s with heap := h, toks := tk })
    (done : ∀ ys nx, J n ys nx → Fin ys nx) : LCt.CompRestT prog w A h₀ L m env ct elt x scope cl s S P Fin n 0 [] news := by
  have key : ∀ (j i : Nat) ys nx, i + j = n → J i ys nx → LCt.CompRestT prog w A h₀ L m env ct elt x scope cl s S P Fin j i ys nx := by
    intro j
    induction j with
    | zero =>
      intro i ys nx hi hJ
      have e : i = n := by omega
      subst e
      exact LCt.CompRestT.zero (done ys nx hJ)
    | succ j ih =>
      intro i ys nx hi hJ
      refine LCt.CompRestT.succ ?_
      intro v I oI C oC D m₂ h tk E' hv hC hx F N off ne
      refine wpAny_mono (turn i ys nx v I oI C oC D m₂ h tk E' (by omega) hJ hv hC hx F N off ne) (fun b s₂ hq => ?_) fun _ _ e => e
      cases b with
      | true =>
        simp only [if_true] at hq ⊢
        refine wpAny_mono hq (fun y s₃ hr => ?_) fun _ _ e => e
        obtain ⟨h', tk', nw, e, F', N', off', hS, hJ'⟩ := hr
        exact ⟨h', tk', nw, e, F', N', off', hS, ih (i + 1) _ _ (by omega) hJ'⟩
      | false =>
        simp only [Bool.false_eq_true, if_false] at hq ⊢
        obtain ⟨h', tk', nw, e, F', N', off', hS, hJ'⟩ := hq
        exact ⟨h', tk', nw, e, F', N', off', hS, ih (i + 1) _ _ (by omega) hJ'⟩
  exact key n 0 [] news (by omega) h0
end
end Mine
namespace Mine
open PySem PySem.W PySem.Spec PySem.Calls PyProof.Rows
end Mine
namespace Mine
open PySem PySem.W PySem.Spec PySem.Calls PyProof.Rows
end Mine
namespace Mine
open PySem PySem.W PySem.Spec PySem.Calls PyProof.Rows
section
variable {prog : Program} {w : World} {A : Around} {E : Value → Shared → Prop} {s : Shared}
end
end Mine
namespace Mine
open PySem PySem.W PySem.Spec PySem.Calls PyProof.Rows
end Mine
namespace Mine
open PySem PySem.W PySem.Spec PySem.Calls PyProof.Rows
section
variable {prog : Program} {w : World} {A : Around} {s : Shared} {h₀ : Heap} {L : Addr} {m : Str → Option Value} {env : Env}
end
theorem off1_mem {D : Addr} {l : List (Addr × Obj)} (x : LCg.Off1 D l) : ∀ p ∈ l, p.1 ≠ D := by
  induction l with
  | nil => intro p h; cases h
  | cons q r ih =>
    intro p h
    rcases List.mem_cons.mp h with rfl | h
    · exact x.1
    · exact ih x.2 p h
end Mine
namespace Mine
open PySem PySem.W PySem.Spec PySem.Calls PyProof.Rows
section
variable {prog : Program} {w : World} {A : Around} {E : Value → Shared → Prop} {s : Shared} {h₀ : Heap} {L D : Addr} {m : Str → Option Value} {news news' : List (Addr × Obj)}
theorem append_C {vs : List Value} {c : Nat} {x : Value} {Q : Value → Shared → Prop} (F : Fr h₀ L s.heap m) (N : News h₀ L s.heap news) (U : Upd D (listOf vs.toArray c) (listOf (vs ++ [x]).toArray (c + 1)) news news') (hsz : vs.length ≤ 100000)
    (h : ∀ h', Fr h₀ L h' m → News h₀ L h' news' → Q .none { s with heap := h' }) : wpAny (model prog w) A (call (.builtin "list.append") [.ref D, x]) Q E s := by
  have e : listOf (vs ++ [x]).toArray (c + 1) = listOf (vs.toArray.push x) (c + 1) := by simp
  rw [e] at U
  exact append_K F N U h (by rw [List.size_toArray, sizeLine_eq]; omega)
end
end Mine
namespace Mine
open PySem PySem.W PySem.Spec PySem.Calls PyProof.Rows
structure Good (st : List Nat × List (Str × Str)) (k : Nat) : Prop where
  small : ∀ r ∈ st.1, r < 32
  len : st.1.length ≤ k
  zero : 0 ∈ st.1
  same : st.2.length = st.1.length
end Mine
namespace Mine
open PySem PySem.W PySem.Spec PySem.Calls PyProof.Rows
end Mine
namespace Mine
open PySem PySem.W PySem.Spec PySem.Calls PyProof.Rows
end Mine
namespace Mine
open PySem PySem.W PySem.Spec PySem.Calls PyProof.Rows
end Mine
namespace Mine
end Mine
namespace Mine
open PySem
/-- a set of rows that is closed under «places that just one has» -/
structure Sub (rows : List Nat) : Prop where
  zero : 0 ∈ rows
  closed : ∀ x ∈ rows, ∀ y ∈ rows, x ^^^ y ∈ rows
  nodup : rows.Nodup
  small : ∀ r ∈ rows, r < 32
end Mine

namespace Mine
open PySem
end Mine
namespace Mine
open PySem
end Mine

namespace Mine
open PySem
end Mine
namespace Mine
open PySem PySem.W PySem.Spec PySem.Calls PyProof.Rows
theorem cut1 {M : Model} {A : Around} {env : Env} {st : Stmt} {rest : List Stmt} {Q : Flow → Shared → Prop} {E : Value → Shared → Prop} {s : Shared} (Mid : Shared → Prop)
    (h1 : wpAny M A (exec st env) (fun f s' => f = .next ∧ Hold (Mid s')) E s) (h2 : ∀ s', Mid s' → wpAny M A (execs rest env) Q E s') : wpAny M A (execs (st :: rest) env) Q E s := by
  refine wpAny_execs_cons (wpAny_mono h1 (fun f s' h => ?_) fun _ _ e => e)
  obtain ⟨rfl, h⟩ := h
  exact h2 s' h.out
end Mine
namespace Mine
open PySem PySem.W PySem.Spec PySem.Calls PyProof.Rows
end Mine
namespace Mine
open PySem PySem.W PySem.Spec PySem.Calls PyProof.Rows
theorem ghost_math {h₁ : Heap} {tabs : List (Addr × Addr)} {p : Program} {mg : Str → Option Value} (hT : TabsAt tabs h₁) (X : Flt.MathXP p mg h₁) (hm : Flt.mathMods p = []) : Flt.MathXP p mg (ghostOf h₁ tabs) := by
  refine ⟨fun x hx => (by rw [hm] at hx; cases hx), X.drawn, fun r hr => ?_⟩
  obtain ⟨a, e, fs, T, ws, n, h1, h2, h3, h4, h5, h6⟩ := X.pats r hr
  exact ⟨a, e, fs, T, ws, n, ghost_get hT h1 (fun q => by have := congrArg Obj.cls q; cases this), h2, h3, h4, ghost_get hT h5 (fun q => by have := congrArg Obj.cls q; cases this), h6⟩
end Mine
namespace Mine
open PySem PySem.W PySem.Spec PySem.Calls PyProof.Rows
end Mine
namespace Mine
open PySem PySem.W PySem.Spec PySem.Calls PyProof.Rows
end Mine
namespace Mine
open PySem PySem.W PySem.Spec PySem.Calls PyProof.Rows
section
variable {prog : Program} {w : World} {A : Around} {s : Shared} {E : Value → Shared → Prop} {Q : Value → Shared → Prop}
end
end Mine
namespace Mine
open PySem PySem.W PySem.Spec PySem.Calls PyProof.Rows
theorem ne1 (I : Nat) : I ≠ I + 1 := Nat.ne_of_lt (Nat.lt_succ_self I)
theorem ne2 (I : Nat) : I ≠ I + 1 + 1 := Nat.ne_of_lt (Nat.lt_succ_of_lt (Nat.lt_succ_self I))
theorem le2 (I : Nat) : I ≤ I + 1 + 1 := Nat.le_succ_of_le (Nat.le_succ I)
theorem lt1 {p I : Nat} (h : p < I) : p < I + 1 ∧ p < I + 1 + 1 ∧ p < I + 1 + 1 + 1 := ⟨Nat.lt_succ_of_lt h, Nat.lt_succ_of_lt (Nat.lt_succ_of_lt h), Nat.lt_succ_of_lt (Nat.lt_succ_of_lt (Nat.lt_succ_of_lt h))⟩
section
variable {prog : Program} {w : World} {A : Around} {s : Shared} {env : Env} {h₀ : Heap} {m : Str → Option Value}
end
end Mine
namespace Mine
open PySem PySem.W PySem.Spec PySem.Calls PyProof.Rows
end Mine
namespace Mine
open PySem PySem.W PySem.Spec PySem.Calls PyProof.Rows
section
variable {prog : Program} {w : World} {A : Around} {E : Value → Shared → Prop} {s : Shared} {h₀ : Heap} {L : Addr} {m : Str → Option Value} {env : Env}
end
end Mine
namespace Mine
open PySem PySem.W PySem.Spec PySem.Calls PyProof.Rows PySem.Builtin.Str
def SEP : Str := Str.ofString ", "
/-- the parting stands at place i -/
def mAt (l : List Nat) (i : Nat) : Bool := decide ((l.drop i).take 2 = [44, 32])
theorem mAt_none {l : List Nat} {i : Nat} (h : l[i]? ≠ some 44) : mAt l i = false := by
  unfold mAt
  refine decide_eq_false fun e => h ?_
  have : (l.drop i)[0]? = some 44 := by
    cases q : l.drop i with
    | nil => rw [q] at e; cases e
    | cons a r => rw [q] at e; cases r <;> simp_all
  rwa [List.getElem?_drop, Nat.add_zero] at this
theorem mAt_next {l : List Nat} {i : Nat} (h : mAt l i = true) : l[i + 1]? = some 32 ∧ i + 2 ≤ l.length := by
  have e := of_decide_eq_true h
  have h1 : (l.drop i).length ≥ 2 := by
    have := congrArg List.length e
    simp only [List.length_take, List.length_cons, List.length_nil] at this
    omega
  rw [List.length_drop] at h1
  refine ⟨?_, by omega⟩
  have : ((l.drop i).take 2)[1]? = some 32 := by rw [e]; rfl
  rw [List.getElem?_take, if_pos (by decide), List.getElem?_drop] at this
  exact this
theorem occ_run (x : Str) : ∀ (n a : Nat) (st : Array Nat × Nat), (st.2 ≤ a ∨ (st.2 = a + 1 ∧ mAt x.cps.toList a = false)) → st.1.size ≤ a → a + n ≤ x.length + 1 →
    (forIn (List.range' a n) st (StrLaws.occBody x SEP x.length (x.length + 1))).run.fst.toList = st.1.toList ++ (List.range' a n).filter (mAt x.cps.toList)
  | 0, a, st, _, _, _ => by simp
  | n + 1, a, st, h1, h2, h3 => by
    have hsub : subAt x SEP a = mAt x.cps.toList a := by
      rw [StrLaws.subAt_eq]
      unfold mAt
      show ((List.take 2 (List.drop a x.cps.toList)) == [44, 32]) = _
      cases h : decide (List.take 2 (List.drop a x.cps.toList) = [44, 32]) with
      | true => rw [of_decide_eq_true h]; rfl
      | false => exact beq_eq_false_iff_ne.mpr (of_decide_eq_false h)
    rw [List.range'_succ, List.forIn_cons]
    unfold StrLaws.occBody
    cases hm : mAt x.cps.toList a with
    | true =>
      have hx : x.cps.toList.length = x.length := by simp [Str.length]
      obtain ⟨n1, n2⟩ := mAt_next hm
      have hf : st.2 ≤ a := h1.resolve_right fun q => by rw [hm] at q; cases q.2
      rw [if_pos ⟨⟨⟨by omega, hf⟩, by show a + 2 ≤ x.length; omega⟩, by rw [hsub]; exact hm⟩]
      have hn : mAt x.cps.toList (a + 1) = false := mAt_none (by rw [n1]; decide)
      have ih := occ_run x n (a + 1) (st.1.push a, a + SEP.length) (.inr ⟨rfl, hn⟩) (by simp; omega) (by omega)
      refine Eq.trans ih ?_
      rw [List.filter_cons_of_pos hm]
      simp
    | false =>
      rw [if_neg (fun q => by rw [hsub, hm] at q; cases q.2)]
      have hle : st.2 ≤ a + 1 := h1.elim (fun h => Nat.le_succ_of_le h) fun h => Nat.le_of_eq h.1
      have ih := occ_run x n (a + 1) (st.1, st.2) (.inl hle) (by show st.1.size ≤ a + 1; omega) (by omega)
      refine Eq.trans ih ?_
      rw [List.filter_cons_of_neg (by rw [hm]; decide)]
theorem occ_all (x : Str) : occurrences x SEP 0 x.length (x.length + 1) = (List.range (x.length + 1)).filter (mAt x.cps.toList) := by
  rw [StrLaws.occ_eq, Nat.sub_zero, occ_run x (x.length + 1) 0 (#[], 0) (.inl (Nat.le_refl _)) (Nat.le_refl _) (by omega), List.range_eq_range']
  rfl
/-- the places of the parting -/
def cutsOf (l : List Nat) : List Nat := (List.range (l.length + 1)).filter (mAt l)
theorem cuts_free {l : List Nat} (h : 44 ∉ l) : cutsOf l = [] := by
  unfold cutsOf
  rw [List.filter_eq_nil_iff]
  intro i _
  rw [mAt_none fun e => h (List.mem_of_getElem? e)]
  decide
theorem cuts_cons {w r : List Nat} (h : 44 ∉ w) : cutsOf (w ++ 44 :: 32 :: r) = w.length :: (cutsOf r).map (· + (w.length + 2)) := by
  unfold cutsOf
  have e : (w ++ 44 :: 32 :: r).length + 1 = w.length + (1 + (1 + (r.length + 1))) := by simp; omega
  rw [e, List.range_add, List.range_add, List.range_add]
  simp only [List.filter_append, List.map_append, List.map_map]
  have a1 : (List.range w.length).filter (mAt (w ++ 44 :: 32 :: r)) = [] := by
    rw [List.filter_eq_nil_iff]
    intro i hi
    rw [mAt_none fun e => h ?_]; · decide
    rw [List.getElem?_append_left (List.mem_range.mp hi)] at e
    exact List.mem_of_getElem? e
  have a2 : (List.map (w.length + ·) (List.range 1)).filter (mAt (w ++ 44 :: 32 :: r)) = [w.length] := by
    have : mAt (w ++ 44 :: 32 :: r) w.length = true := decide_eq_true (by simp)
    simp [List.range_succ, this]
  have a3 : (List.map ((w.length + ·) ∘ (1 + ·)) (List.range 1)).filter (mAt (w ++ 44 :: 32 :: r)) = [] := by
    have : mAt (w ++ 44 :: 32 :: r) (w.length + 1) = false := mAt_none (by rw [List.getElem?_append_right (by omega)]; simp)
    simp [List.range_succ, this]
  have a4 : (List.map ((w.length + ·) ∘ (1 + ·) ∘ (1 + ·)) (List.range (r.length + 1))).filter (mAt (w ++ 44 :: 32 :: r)) = ((List.range (r.length + 1)).filter (mAt r)).map (· + (w.length + 2)) := by
    rw [List.filter_map]
    have e1 : ((w.length + ·) ∘ (1 + ·) ∘ (1 + ·) : Nat → Nat) = (· + (w.length + 2)) := by funext i; simp only [Function.comp]; omega
    rw [e1]
    congr 1
    refine List.filter_congr fun i _ => ?_
    show mAt (w ++ 44 :: 32 :: r) (i + (w.length + 2)) = mAt r i
    unfold mAt
    rw [show i + (w.length + 2) = w.length + (2 + i) by omega, ← List.drop_drop, List.drop_left, ← List.drop_drop]
    rfl
  rw [a1, a2, a3, a4]
  rfl
/-- the parts between -/
def partsL (l : List Nat) (cuts : List Nat) : List (List Nat) := ((0 :: cuts.map (· + 2)).zip (cuts ++ [l.length])).map fun p => (l.drop p.1).take (p.2 - p.1)
theorem parts_cons (w r : List Nat) (cs : List Nat) : partsL (w ++ 44 :: 32 :: r) (w.length :: cs.map (· + (w.length + 2))) = w :: partsL r cs := by
  unfold partsL
  rw [List.map_cons, List.cons_append, List.zip_cons_cons, List.map_cons]
  congr 1
  · simp
  · have e1 : (w.length + 2) :: List.map (· + 2) (List.map (· + (w.length + 2)) cs) = (0 :: cs.map (· + 2)).map (· + (w.length + 2)) := by
      simp only [List.map_cons, List.map_map, Nat.zero_add]
      congr 1
      refine List.map_congr_left fun a _ => ?_
      simp only [Function.comp]; omega
    have e2 : List.map (· + (w.length + 2)) cs ++ [(w ++ 44 :: 32 :: r).length] = (cs ++ [r.length]).map (· + (w.length + 2)) := by
      rw [List.map_append]
      congr 1
      simp; omega
    rw [e1, e2, List.zip_map, List.map_map]
    refine List.map_congr_left fun p _ => ?_
    simp only [Function.comp, Prod.map]
    have e3 : (w ++ 44 :: 32 :: r).drop (p.1 + (w.length + 2)) = r.drop p.1 := by
      rw [show p.1 + (w.length + 2) = w.length + (2 + p.1) by omega, ← List.drop_drop, List.drop_left, ← List.drop_drop]
      rfl
    rw [e3]
    congr 1
    omega
def joinL : List (List Nat) → List Nat
  | [] => []
  | [w] => w
  | w :: ws => w ++ 44 :: 32 :: joinL ws
theorem split_joinL : ∀ ws : List (List Nat), ws ≠ [] → (∀ w ∈ ws, 44 ∉ w) → partsL (joinL ws) (cutsOf (joinL ws)) = ws
  | [w], _, h => by
    show partsL w (cutsOf w) = _
    rw [cuts_free (h w (List.mem_cons_self ..))]
    simp [partsL]
  | w :: v :: ws, _, h => by
    show partsL (w ++ 44 :: 32 :: joinL (v :: ws)) (cutsOf (w ++ 44 :: 32 :: joinL (v :: ws))) = _
    rw [cuts_cons (h w (List.mem_cons_self ..)), parts_cons, split_joinL (v :: ws) (by simp) fun u hu => h u (List.mem_cons_of_mem _ hu)]
theorem join_toList : ∀ ws : List Str, (Txt.join SEP ws).cps.toList = joinL (ws.map (·.cps.toList))
  | [] => by unfold Txt.join; rw [StrLaws.glued_eq_join]; rfl
  | [w] => by unfold Txt.join; rw [StrLaws.glued_eq_join]; rfl
  | w :: v :: ws => by
    have ih := join_toList (v :: ws)
    unfold Txt.join at ih ⊢
    rw [StrLaws.glued_eq_join] at ih ⊢
    show (w ++ SEP ++ Str.join SEP (v :: ws)).cps.toList = w.cps.toList ++ 44 :: 32 :: joinL ((v :: ws).map (·.cps.toList))
    rw [← ih]
    show (w.cps ++ SEP.cps ++ (Str.join SEP (v :: ws)).cps).toList = _
    rw [Array.toList_append, Array.toList_append]
    show _ ++ [44, 32] ++ _ = _
    simp
theorem parts_toList (x : Str) (cuts : List Nat) : (partsBetween x cuts 2).map (·.cps.toList) = partsL x.cps.toList cuts := by
  unfold partsBetween partsL
  simp only [List.map_map]
  rw [show x.length = x.cps.toList.length by simp [Str.length]]
  refine List.map_congr_left fun p _ => ?_
  obtain ⟨i, j⟩ := p
  exact StrLaws.strSub_toList x i j
theorem split_parts (x : Str) : Txt.split x SEP = partsBetween x (occurrences x SEP 0 x.length (x.length + 1)) 2 := by
  have hone : partsBetween x [] 2 = [x] := by
    have := parts_toList x []
    unfold partsBetween
    simp [strSub, Str.length]
  unfold Txt.split
  have hk : decide (Builtin.Str.strKind x < Builtin.Str.strKind SEP) = false := decide_eq_false (by
    have h1 : Builtin.Str.strKind SEP = 1 := by decide +kernel
    rw [h1]
    unfold Builtin.Str.strKind
    split; · omega
    split <;> omega)
  rw [hk, Bool.or_false]
  by_cases h : x.length < SEP.length
  · rw [if_pos (decide_eq_true h)]
    have h2 : x.length < 2 := h
    have : occurrences x SEP 0 x.length (x.length + 1) = [] := by
      rw [occ_all, List.filter_eq_nil_iff]
      intro i _
      cases hm : mAt x.cps.toList i with
      | false => decide
      | true =>
        have := (mAt_next hm).2
        have hx : x.cps.toList.length = x.length := by simp [Str.length]
        omega
    rw [this, hone]
  · rw [if_neg (by rw [decide_eq_true_eq]; exact h)]
    cases ho : occurrences x SEP 0 x.length (x.length + 1) with
    | nil => rw [List.isEmpty_nil]; exact (if_pos rfl).trans hone.symm
    | cons a r => rw [List.isEmpty_cons]; exact if_neg (by decide)
/-- what is joined is parted again -/
theorem split_join {ws : List Str} (h0 : ws ≠ []) (h : ∀ w ∈ ws, 44 ∉ w.cps.toList) : Txt.split (Txt.join SEP ws) SEP = ws := by
  have hx : (Txt.join SEP ws).cps.toList.length = (Txt.join SEP ws).length := by simp [Str.length]
  have e : (Txt.split (Txt.join SEP ws) SEP).map (·.cps.toList) = ws.map (·.cps.toList) := by
    rw [split_parts, parts_toList, occ_all, ← hx, join_toList]
    exact split_joinL _ (by simpa using h0) fun w hw => by
      obtain ⟨v, hv, rfl⟩ := List.mem_map.mp hw
      exact h v hv
  have inj : ∀ a b : Str, a.cps.toList = b.cps.toList → a = b := fun a b h => Str.ext' (Array.toList_inj.mp h)
  exact List.map_inj_right inj |>.mp e
theorem W_free : ∀ k : Nat, k < 32 → 44 ∉ (W k).cps.toList := by decide +kernel
theorem split_words {ps : List Nat} (h0 : ps ≠ []) (h : ∀ p ∈ ps, p < 32) : Txt.split (Txt.join (Str.ofString ", ") (ps.map W)) (Str.ofString ", ") = ps.map W :=
  split_join (by simpa using h0) fun w hw => by
    obtain ⟨p, hp, rfl⟩ := List.mem_map.mp hw
    exact W_free p (h p hp)
end Mine
namespace Mine
open PySem PySem.W PySem.Spec PySem.Calls PyProof.Rows PySem.MeetsSeq PySem.SeqAt
section
variable {prog : Program} {w : World} {A : Around} {E : Value → Shared → Prop} {s : Shared}
end
theorem told_len {ps : List Nat} (hp : ∀ p ∈ ps, p < 32) (hl : ps.length ≤ 32) : (Txt.join (Str.ofString ", ") (ps.map W)).length ≤ 1000 := by
  have h := StrLaws.join_length_le (Str.ofString ", ") (ps.map W)
  have e : Txt.join (Str.ofString ", ") (ps.map W) = Str.join (Str.ofString ", ") (ps.map W) := StrLaws.glued_eq_join _ _
  rw [e]
  have h2 : ((ps.map W).map (·.length)).sum ≤ (ps.map W).length * 18 := sum_le fun y hy => by
    obtain ⟨p, hp', rfl⟩ := List.mem_map.mp hy
    exact W_lo p (hp p hp')
  have h3 : (Str.ofString ", ").length = 2 := by decide +kernel
  rw [h3, List.length_map] at h
  rw [List.length_map] at h2
  omega
end Mine
namespace Mine
open PySem PySem.W PySem.Spec PySem.Calls PyProof.Rows
theorem up1_plain : ∀ c, c < 127 → 32 ≤ c → 32 ≤ up1 c ∧ up1 c < 127 := by decide +kernel
theorem lo1_up1 : ∀ c, c < 127 → lo1 (up1 c) = lo1 c := by decide +kernel
theorem upper_eqT {x : Str} (h : Plain x) : Txt.upper x = ⟨x.cps.map up1⟩ := upper_ascii (plain_ascii h)
theorem Txl.upper {x : Str} (h : Txl x) : Txl (Txt.upper x) := by
  rw [upper_eqT h.1]
  refine ⟨fun c hc => ?_, ?_⟩
  · have hc' : c ∈ (x.cps.map up1).toList := hc
    rw [Array.toList_map] at hc'
    obtain ⟨d, hd, rfl⟩ := List.mem_map.mp hc'
    exact up1_plain d (h.1 d hd).2 (h.1 d hd).1
  · show (x.cps.map up1).size ≤ _
    rw [Array.size_map]
    exact h.2
theorem lower_upper {x : Str} (h : Txl x) : Txt.lower (Txt.upper x) = Txt.lower x := by
  rw [lower_eq h.upper.1, upper_eqT h.1, lower_eq h.1]
  show Str.mk _ = Str.mk _
  congr 1
  rw [Array.map_map]
  exact Array.map_congr_left fun c hc => lo1_up1 c (h.1 c (Array.mem_toList_iff.mpr hc)).2
section
variable {prog : Program} {w : World} {A : Around} {E : Value → Shared → Prop} {s : Shared} {x : Str} {t : Tok}
theorem upper_T {Q : Value → Shared → Prop} (hx : Txl x) (h : ∀ k t', Q (.str (Txt.upper x) t') { s with toks := k }) : wpAny (model prog w) A (call (.builtin "str.upper") [.str x t]) Q E s :=
  SCL.upper (by have := hx.2; omega) fun _ => h _ _
end
end Mine
namespace Mine
open PySem PySem.W PySem.Spec PySem.Calls PyProof.Rows
end Mine
namespace Mine
open PySem PySem.W PySem.Spec PySem.Calls PyProof.Rows
section
variable {prog : Program} {w : World} {A : Around} {E : Value → Shared → Prop} {s : Shared} {h₀ : Heap} {L : Addr} {m : Str → Option Value}
/-- l[:] = b, of two lists -/
theorem setSlice_all {l sl b n nb : Nat} {items new : Array Value} {Q : Unit → Shared → Prop} (ho : s.heap.get? l = some (W.listOf items n)) (hb : s.heap.get? b = some (W.listOf new nb)) (hne : l ≠ b)
    (hs : s.heap.IsSliceOf sl .none .none .none) (hsz : items.size + new.size ≤ sizeLine) (hQ : ∀ f : Array Value → Array Value, f items = new → Q () { s with heap := s.heap.update l (Obj.mapSeq f) }) :
    wpAny (model prog w) A (setItem (.ref l) (.ref sl) (.ref b)) Q E s := by
  have hl : s.heap.IsList l items := PySem.IsL.isList (n := n) ho
  have hlb : s.heap.IsList b new := PySem.IsL.isList (n := nb) hb
  obtain ⟨os, hos, hcs, hds⟩ := id hs
  have hTs : s.TypeIs (.ref sl) "slice" := ⟨os, hos, hcs⟩
  unfold setItem
  try with_reducible refine wpAny_holding ?_
  first | refine wpAny_bind (wpAny_pure ?_) | skip
  refine wpAny_bind (wpAny_sequenceKey hl.typeIs (by decide) ?_)
  refine wpAny_bind (wpAny_callSpecial?_slot (name := Str.ofString "__setitem__") hl.typeIs slot_list_setitem
    (wpAny_call_entry slot_list_setitem hl.typeIs entry_list_setitem ?_ (args_list_setitem _ _ _)))
  show wpAny _ _ (Builtin.List.listSubscript? (.ref sl) >>= _) _ _ s
  refine wpAny_bind ?_
  unfold Builtin.List.listSubscript?
  refine wpAny_bind (wpAny_specialOf hTs slice_no_index ?_)
  simp only [Option.isNone_none, if_true]
  refine wpAny_pure ?_
  show wpAny _ _ (typeOf (.ref sl) >>= _) _ _ s
  refine wpAny_bind (wpAny_typeOf hTs ?_)
  rw [if_neg (by decide)]
  rw [listSliceParts_eq]
  refine wpAny_bind (wpAny_bind (wpAny_field hos hds (x := .none) rfl (wpAny_bind (wpAny_listPart IsPart.none ?_))))
  rw [if_neg (by decide)]
  refine wpAny_bind (wpAny_field hos hds (x := .none) rfl (wpAny_bind (wpAny_listPart IsPart.none ?_)))
  refine wpAny_bind (wpAny_field hos hds (x := .none) rfl (wpAny_bind (wpAny_listPart IsPart.none (wpAny_pure ?_))))
  have hsame : ¬ (Builtin.List.listSameRef (.ref l) (.ref b) = true) := by
    show ¬ ((l == b) = true)
    simpa using hne
  rw [if_neg hsame]
  refine wpAny_bind ?_
  unfold Builtin.List.listAllItems
  refine wpAny_bind (wpAny_typeOf hlb.typeIs ?_)
  rw [if_pos (by decide)]
  refine wpAny_bind ?_
  unfold Builtin.List.listItems
  first | refine wpAny_bind (wpAny_seqItems hb rfl (wpAny_pure (wpAny_pure ?_))) | refine wpAny_bind (wpAny_seqItems hb rfl (wpAny_pure ?_)) | refine wpAny_seqItems hb rfl (wpAny_pure ?_) | refine wpAny_bind (wpAny_bind (wpAny_seqItems hb rfl (wpAny_pure ?_))) | trace_state
  try refine wpAny_pure ?_
  refine wpAny_bind (wpAny_bind (wpAny_seqItems ho rfl (wpAny_pure ?_)))
  refine wpAny_bind (wpAny_of_eq (sliceIndices_raw none none none items.size (by decide)) ?_)
  rw [show sliceBounds none none none items.size = (0, (items.size : Int), 1) from rfl]
  dsimp only
  rw [if_pos (by decide)]
  refine wpAny_bind (wpAny_rule ?_)
  rw [if_neg (by simp [Builtin.List.listTooLong]; omega)]
  refine wpAny_bind ?_
  unfold Builtin.List.listUpdate
  refine wpAny_updateSeq ho rfl ?_ (by omega) (by simp; omega)
  refine wpAny_bind (wpAny_letGo ?_)
  have e : (fun xs : Array Value => xs.extract 0 (0 : Int).toNat ++ new ++ xs.extract (max (0 : Int) (items.size : Int)).toNat) items = new := by
    simp
  exact wpAny_pure ⟨.none, rfl, wpAny_pure (hQ _ e)⟩
/-- the same in a ledger -/
theorem setSlice_M {D sl b n nb : Nat} {its new : Array Value} {news news' : List (Addr × Obj)} {Q : Unit → Shared → Prop} (F : Fr h₀ L s.heap m) (N : News h₀ L s.heap news) (hb : (b, W.listOf new nb) ∈ news) (hne : @Ne Nat D b)
    (hs : s.heap.IsSliceOf sl .none .none .none) (hsz : its.size + new.size ≤ sizeLine) (U : Upd D (W.listOf its n) (W.listOf new (if new.size == its.size then n else n + 1)) news news')
    (h : ∀ h', Fr h₀ L h' m → News h₀ L h' news' → Q () { s with heap := h' }) : wpAny (model prog w) A (setItem (.ref D) (.ref sl) (.ref b)) Q E s := by
  obtain ⟨pre, post, rfl, rfl, a, c⟩ := U.split
  have z := N (D, W.listOf its n) (List.mem_append.mpr (.inr (.head _)))
  refine setSlice_all z.1 (N _ hb).1 hne hs hsz fun f hf => ?_
  exact h _ (F.change (Heap.SameBut.update ..) z.2.1 z.2.2) (ki_turn f N a c hf rfl)
/-- the same behind the slice's own object -/
theorem setSlice_P {h : Heap} {D sl b n nb n' : Nat} {its new : List Value} {news news' : List (Addr × Obj)} {Q : Unit → Shared → Prop} (F : Fr h₀ L h m) (N : News h₀ L h news) (e1 : sl = h.objs.size)
    (e2 : s.heap = h.push { cls := .type "slice", data := .fields #[.none, .none, .none] }) (hb : (b, W.listOf new.toArray nb) ∈ news) (hne : @Ne Nat D b)
    (hsz : its.length + new.length ≤ sizeLine) (en : (if new.toArray.size == its.toArray.size then n else n + 1) = n') (U : Upd D (W.listOf its.toArray n) (W.listOf new.toArray n') news news')
    (hQ : ∀ h', Fr h₀ L h' m → News h₀ L h' news' → Q () { s with heap := h' }) : wpAny (model prog w) A (setItem (.ref D) (.ref sl) (.ref b)) Q E s := by
  subst e1 en
  refine setSlice_M (m := m) ?_ (fun p hp => ?_) hb hne (by rw [e2]; exact Heap.IsSliceOf.new ..) (by rw [List.size_toArray, List.size_toArray]; exact hsz) U hQ
  · rw [e2]; exact F.keeps fun b o e => Heap.get?_push_of_some _ e
  · rw [e2]; exact ⟨Heap.get?_push_of_some _ (N p hp).1, (N p hp).2⟩
end
end Mine
namespace Mine
open PySem PySem.W PySem.Spec PySem.Calls PyProof.Rows
/-- a headers object and its list, of any count of size changes -/
structure TabN (P : Params) (C : Addr) (news : List (Addr × Obj)) (t d : Addr) (tk : Tok) (hl : Addr) (vs : List Value) (n : Nat) : Prop where
  inst : (t, instObj C d) ∈ news
  dict : (d, hdrDict P tk hl) ∈ news
  list : (hl, W.listOf vs.toArray n) ∈ news
  few : vs.length ≤ 1000
end Mine
namespace Mine
open PySem PySem.W PySem.Spec PySem.Calls PyProof.Rows
end Mine
namespace Mine
open PySem PySem.W PySem.Spec PySem.Calls PyProof.Rows
section
variable {prog : Program} {w : World} {A : Around} {E : Value → Shared → Prop} {s : Shared} {x : Str} {t : Tok}
end
theorem delItem_own {M : Model} {A : Around} {E : Value → Shared → Prop} {s : Shared} {K : Frag} {x C L f : Addr} {h₀ : Heap} {m : Str → Option Value} {ox : Obj} {od : Option Obj} {i : Value} {Q : Unit → Shared → Prop} (F : Fr h₀ L s.heap m) (X₀ : K.In h₀)
    (I : InstAt s.heap x ox C od) (hq : noSeq K C = true) (hs : findIn K (.ref C) "__delitem__" = some (some (.ref f))) (hf : isFn K (.ref f) = true) (h : wpAny M A (call (.ref f) [.ref x, i]) (fun _ s' => Q () s') E s) :
    wpAny M A (delItem (.ref x) i) Q E s := by
  have X := X₀.keeps F.keep
  unfold delItem sequenceKey
  refine wpAny_holding (wpAny_bind (wpAny_bind (I.type.here ?_)))
  refine wpAny_bind ((anyM_none X hq).here ?_)
  rw [if_pos (show (!false) = true from rfl)]
  exact wpAny_pure (wpAny_bind (special_fn X I hs (beq_iff_eq.mp hf) (wpAny_mono h (fun _ _ z => wpAny_pure z) fun _ _ z => z)))
end Mine
namespace Mine
open PySem PySem.W PySem.Spec PySem.Calls PyProof.Rows
theorem bit_any (x k : Nat) : (((x : Int).fdiv (2 ^ (0 + (k : Int)).toNat)).fmod 2 = 1) ↔ x.testBit k = true := by
  rw [Int.zero_add, upper_eq, Int.fmod_eq_emod_of_nonneg _ (by decide), Nat.testBit_eq_decide_div_mod_eq, decide_eq_true_iff]
  exact Int.ofNat_inj (m := x / 2 ^ k % 2) (n := 1)
end Mine
namespace Mine
open PySem PySem.W PySem.Spec PySem.Calls PyProof.Rows
theorem strs_eqv : ∀ ys : List Str, PyData.eqvAll (ys.map PyData.str) (ys.map PyData.str) = true
  | [] => by simp [PyData.eqvAll]
  | y :: ys => by simp [PyData.eqvAll, PyData.eqv, strs_eqv ys]
theorem strs_can : ∀ ys : List Str, (∀ y ∈ ys, PyData.strOk y = true) → PyData.canLayAll0 (ys.map PyData.str) = true
  | [], _ => rfl
  | y :: ys, h => by simp [PyData.canLayAll0, PyData.canLay0, h y (List.mem_cons_self ..), strs_can ys fun z hz => h z (List.mem_cons_of_mem _ hz)]
theorem strs_depth : ∀ ys : List Str, PyData.depthAll (ys.map PyData.str) = 0
  | [] => by simp [PyData.depthAll]
  | y :: ys => by simp [PyData.depthAll, PyData.depth, strs_depth ys]
theorem strs_shaped {ys : List Str} (h : ∀ y ∈ ys, PyData.strOk y = true) : SeqAt.shaped (.list (ys.map PyData.str)) = true := by
  have h1 := strs_can ys h
  have h2 := strs_depth ys
  simp only [SeqAt.shaped, PyData.canLay0, PyData.depth, h1, h2, Bool.true_and]
  decide
theorem W_ok : ∀ p, p < 32 → PyData.strOk (Mine.W p) = true := by decide +kernel
section
variable {prog : Program} {w : World} {A : Around} {s : Shared} {E : Value → Shared → Prop} {Q : Value → Shared → Prop}
theorem ne_strs {h₀ : Heap} {L a b na nb : Nat} {news : List (Addr × Obj)} {vs ws : List Value} {ys : List Str} (N : News h₀ L s.heap news) (ha : (a, W.listOf vs.toArray na) ∈ news) (hb : (b, W.listOf ws.toArray nb) ∈ news)
    (h1 : StrsAre vs ys) (h2 : StrsAre ws ys) (ok : ∀ y ∈ ys, PyData.strOk y = true) (hu : A.units + 64 < cLine) (h : Q (.bool false) s) : wpAny (model prog w) A (compareOp .NotEq (.ref a) (.ref b)) Q E s := by
  refine ne_dataH (da := .list (ys.map PyData.str)) (db := .list (ys.map PyData.str)) (reads_list_at (N _ ha).1 rfl rfl (StrsAre.reads _ h1)) (reads_list_at (N _ hb).1 rfl rfl (StrsAre.reads _ h2)) (strs_shaped ok) (strs_shaped ok) hu ?_
  rw [PyData.eqv, strs_eqv]
  exact h
end
end Mine
namespace Mine
open PySem PySem.W PySem.Spec PySem.Calls PyProof.Rows
theorem range_small : ∀ n : Nat, n < 11 → Builtin.Range.small 0 (n : Int) 1 = true ∧ Builtin.Range.rangeSize 0 (n : Int) 1 = (n : Int) := by decide +kernel
/-- places: below 32, each once -/
structure Plc (P : List Nat) : Prop where
  lt : ∀ p ∈ P, p < 32
  nd : P.Nodup
theorem lowW_nodup : ((List.range 32).map fun p => Txt.lower (Mine.W p)).Nodup := by decide +kernel
theorem lowW_inj {p q : Nat} (hp : p < 32) (hq : q < 32) (h : Txt.lower (Mine.W p) = Txt.lower (Mine.W q)) : p = q := by
  have hl : ((List.range 32).map fun p => Txt.lower (Mine.W p)).length = 32 := by rw [List.length_map, List.length_range]
  have h2 := (List.getElem_inj (h₀ := by rw [hl]; exact hp) (h₁ := by rw [hl]; exact hq) lowW_nodup).mp (by simpa using h)
  exact h2
theorem lo1_lo1 : ∀ c, c < 127 → lo1 (lo1 c) = lo1 c := by decide +kernel
theorem W_txl : ∀ p, p < 32 → Txl (Mine.W p) := by
  show ∀ p, p < 32 → (∀ c ∈ (Mine.W p).cps.toList, 32 ≤ c ∧ c < 127) ∧ (Mine.W p).length ≤ 100000
  decide +kernel
theorem lower_lower {x : Str} (h : Txl x) : Txt.lower (Txt.lower x) = Txt.lower x := by
  rw [lower_eq h.lower.1, lower_eq h.1]
  show Str.mk _ = Str.mk _
  congr 1
  rw [Array.map_map]
  exact Array.map_congr_left fun c hc => lo1_lo1 c (h.1 c (Array.mem_toList_iff.mpr hc)).2
section
variable {n3 : Int} {P : List Nat} (hP : Plc P)
include hP
end
end Mine
namespace Mine
open PySem PySem.W PySem.Spec PySem.Calls PyProof.Rows
theorem fr_if {h₀ h : Heap} {L : Addr} {m c : Str → Option Value} {x : Str} {v : Option Value} (e : m = c) (F : Fr h₀ L h (fun y => if y = x then v else c y)) : Fr h₀ L h (fun y => if y = x then v else m y) := by
  subst e; exact F
theorem Rows.drop {news news' : List (Addr × Obj)} (hs : ∀ p ∈ news, p ∈ news' ∨ ∀ ws, p.2 ≠ tupObj ws) {vs : List Value} {ps : List (Str × Str)} (h : Rows news vs ps) : Rows news' vs ps := by
  induction h with
  | nil => exact .nil
  | cons h1 h2 h3 _ ih =>
    rcases hs _ h1 with h | h
    · exact .cons h h2 h3 ih
    · exact absurd rfl (h _)
theorem at_if {m : Str → Option Value} {x y : Str} {v w : Option Value} (h : y ≠ x) (e : m y = w) : (fun z => if z = x then v else m z) y = w := by
  show (if y = x then v else m y) = w
  rw [if_neg h]; exact e
theorem at_eq {m : Str → Option Value} {x : Str} {v w : Option Value} (e : v = w) : (fun z => if z = x then v else m z) x = w := by
  show (if x = x then v else m x) = w
  rw [if_pos rfl]; exact e
end Mine
namespace Mine
open PySem PySem.W PySem.Spec PySem.Calls PyProof.Rows
/-- an invariant as a variable, with two arrows -/
theorem hide3 {α β γ : Type} {G : Prop} (X : α → β → γ → Prop) (h : ∀ J : α → β → γ → Prop, (∀ i m nx, X i m nx → J i m nx) → (∀ i m nx, J i m nx → X i m nx) → G) : G := h X (fun _ _ _ h => h) fun _ _ _ h => h
/-- a statement, and then the rest: the rest's goal as a variable -/
theorem cutR {M : Model} {A : Around} {env : Env} {st : Stmt} {rest : List Stmt} {Q : Flow → Shared → Prop} {E : Value → Shared → Prop} {s : Shared}
    (h : ∀ Z : Shared → Prop, (∀ s', wpAny M A (execs rest env) Q E s' → Z s') → wpAny M A (exec st env) (fun f s' => f = .next ∧ Hold (Z s')) E s) : wpAny M A (execs (st :: rest) env) Q E s :=
  cut1 (fun s' => wpAny M A (execs rest env) Q E s') (h _ fun _ h => h) fun _ h => h
/-- an invariant in the form «what it says hands on», as a variable -/
theorem hideC {β γ : Type} {G0 : Prop} (X : Nat → β → (γ → Prop) → Prop) (h : ∀ J : Nat → β → γ → Prop, (∀ i m nx, (∀ G, X i m G → G nx) → J i m nx) → (∀ i m (G : γ → Prop), X i m G → ∀ nx, J i m nx → G nx) → G0) : G0 :=
  h (fun i m nx => ∀ G, X i m G → G nx) (fun _ _ _ h => h) (fun _ _ G x _ j => j G x)
theorem know2 {m : Str → Option Value} {x1 x2 : Str} {v1 v2 : Value} (e1 : m x1 = some v1) (e2 : m x2 = some v2) : m = fun y => if y = x1 then some v1 else if y = x2 then some v2 else m y :=
  (know e1).trans (congrArg (fun (f : Str → Option Value) y => if y = x1 then some v1 else f y) (know e2))
theorem know3 {m : Str → Option Value} {x1 x2 x3 : Str} {v1 v2 v3 : Value} (e1 : m x1 = some v1) (e2 : m x2 = some v2) (e3 : m x3 = some v3) : m = fun y => if y = x1 then some v1 else if y = x2 then some v2 else if y = x3 then some v3 else m y :=
  (know e1).trans (congrArg (fun (f : Str → Option Value) y => if y = x1 then some v1 else f y) (know2 e2 e3))
theorem know4 {m : Str → Option Value} {x1 x2 x3 x4 : Str} {v1 v2 v3 v4 : Value} (e1 : m x1 = some v1) (e2 : m x2 = some v2) (e3 : m x3 = some v3) (e4 : m x4 = some v4) : m = fun y => if y = x1 then some v1 else if y = x2 then some v2 else if y = x3 then some v3 else if y = x4 then some v4 else m y :=
  (know e1).trans (congrArg (fun (f : Str → Option Value) y => if y = x1 then some v1 else f y) (know3 e2 e3 e4))
theorem know5 {m : Str → Option Value} {x1 x2 x3 x4 x5 : Str} {v1 v2 v3 v4 v5 : Value} (e1 : m x1 = some v1) (e2 : m x2 = some v2) (e3 : m x3 = some v3) (e4 : m x4 = some v4) (e5 : m x5 = some v5) : m = fun y => if y = x1 then some v1 else if y = x2 then some v2 else if y = x3 then some v3 else if y = x4 then some v4 else if y = x5 then some v5 else m y :=
  (know e1).trans (congrArg (fun (f : Str → Option Value) y => if y = x1 then some v1 else f y) (know4 e2 e3 e4 e5))
theorem know6 {m : Str → Option Value} {x1 x2 x3 x4 x5 x6 : Str} {v1 v2 v3 v4 v5 v6 : Value} (e1 : m x1 = some v1) (e2 : m x2 = some v2) (e3 : m x3 = some v3) (e4 : m x4 = some v4) (e5 : m x5 = some v5) (e6 : m x6 = some v6) : m = fun y => if y = x1 then some v1 else if y = x2 then some v2 else if y = x3 then some v3 else if y = x4 then some v4 else if y = x5 then some v5 else if y = x6 then some v6 else m y :=
  (know e1).trans (congrArg (fun (f : Str → Option Value) y => if y = x1 then some v1 else f y) (know5 e2 e3 e4 e5 e6))
section
variable {prog : Program} {w : World} {A : Around} {s : Shared} {env : Env} {h₀ : Heap} {E : Value → Shared → Prop} {Q : Flow → Shared → Prop}
theorem while_H {L : Addr} {test : Expr} {body : List Stmt} {pos : Pos} {m : Str → Option Value} {news : List (Addr × Obj)} (J : Nat → (Str → Option Value) → List (Addr × Obj) → Prop) {n₀ : Nat}
    (F : Fr h₀ L s.heap m) (N : News h₀ L s.heap news) (hJ : J n₀ m news)
    (turn : ∀ (Wb : Flow → Shared → Prop) (Z : Shared → Prop) n m₁ h₁ tk₁, (∀ h' tk m' nx' n', Fr h₀ L h' m' → News h₀ L h' nx' → n' < n → J n' m' nx' → Wb .next { s with heap := h', toks := tk }) → (∀ s', Q .next s' → Z s') → ∀ news₁, J n m₁ news₁ → Fr h₀ L h₁ m₁ → News h₀ L h₁ news₁ →
      wpAny (model prog w) A (isTrue test env (eval test env)) (fun b s₂ => if b = true then wpAny (model prog w) A (execs body env) Wb E s₂ else Z s₂) E { s with heap := h₁, toks := tk₁ })
    (hE : PassesOwn (model prog w) A env E := by passes_own) :
    wpAny (model prog w) A (exec (.While test body [] pos) env) Q E s :=
  While_inv J F N hJ (fun n m₁ nx h₁ tk₁ F N j => turn _ _ n m₁ h₁ tk₁ (fun _ _ _ _ _ F' N' hn j' => .intro F' N' hn j') (fun _ h => h) nx j F N) hE
end
end Mine
namespace Mine
open PySem PySem.W PySem.Spec PySem.Calls PyProof.Rows
/-- the word with its k-th and its next letter exchanged, as the law reckons it -/
def swapW (w k : Nat) : Int := (w : Int) + (((w / 4 ^ (k + 1) % 4 : Nat) : Int) - ((w / 4 ^ k % 4 : Nat) : Int)) * ((4 ^ k : Nat) : Int) - (((w / 4 ^ (k + 1) % 4 : Nat) : Int) - ((w / 4 ^ k % 4 : Nat) : Int)) * ((4 ^ (k + 1) : Nat) : Int)
def swapN (w k : Nat) : Nat := (swapW w k).toNat
/-- one place of a word: the words seen (as a mask), how many, the words to do (the last first) -/
def stepC (fr : Nat → Nat → Bool) (w : Nat) (st : Nat × Nat × List Nat) (k : Nat) : Nat × Nat × List Nat :=
  bif fr (w / 4 ^ k % 4) (w / 4 ^ (k + 1) % 4) && !(st.1.testBit (swapN w k)) then (st.1 ||| 2 ^ swapN w k, st.2.1 + 1, swapN w k :: st.2.2) else st
def turnC (fr : Nat → Nat → Bool) (w : Nat) (st : Nat × Nat × List Nat) : Nat → Nat × Nat × List Nat
  | 0 => st
  | m + 1 => stepC fr w (turnC fr w st m) m
def whileC (fr : Nat → Nat → Bool) (m : Nat) : Nat → Nat × Nat × List Nat → Nat × Nat
  | 0, st => (st.1, st.2.1)
  | f + 1, (s, c, []) => (s, c)
  | f + 1, (s, c, w :: t) => whileC fr m f (turnC fr w (s, c, t) m)
/-- the while ends, its words stay below the bound, and few are seen -/
def whileOkC (fr : Nat → Nat → Bool) (m b : Nat) : Nat → Nat × Nat × List Nat → Bool
  | 0, (_, c, t) => t.isEmpty && Nat.ble c 70
  | f + 1, (s, c, []) => Nat.ble c 70
  | f + 1, (s, c, w :: t) => Nat.blt w b && (Nat.ble c 70 && whileOkC fr m b f (turnC fr w (s, c, t) m))
/-- the outer loop: how many classes, the words seen, how many, whether all went well -/
def outC (fr : Nat → Nat → Bool) (sz : Nat) (st : Nat × (Nat × Nat) × Bool) (i : Nat) : Nat × (Nat × Nat) × Bool :=
  bif st.2.1.1.testBit i then st else (st.1 + 1, whileC fr (sz - 1) 100 (st.2.1.1 ||| 2 ^ i, st.2.1.2 + 1, [i]), st.2.2 && whileOkC fr (sz - 1) (4 ^ sz) 100 (st.2.1.1 ||| 2 ^ i, st.2.1.2 + 1, [i]))
def stC (fr : Nat → Nat → Bool) (sz : Nat) : Nat → Nat × (Nat × Nat) × Bool
  | 0 => (0, (0, 0), true)
  | i + 1 => outC fr sz (stC fr sz i) i
def classesC (fr : Nat → Nat → Bool) (sz : Nat) : Nat := (stC fr sz (4 ^ sz)).1
def okC (fr : Nat → Nat → Bool) (sz : Nat) : Bool := (stC fr sz (4 ^ sz)).2.2
theorem okC_at {fr : Nat → Nat → Bool} {sz n : Nat} (h : (stC fr sz n).2.2 = true) : ∀ i, i ≤ n → (stC fr sz i).2.2 = true := by
  induction n with
  | zero => intro i hi; rw [Nat.le_zero.mp hi]; exact h
  | succ n ih =>
    intro i hi
    rcases Nat.lt_or_ge i (n + 1) with h1 | h1
    · refine ih ?_ i (Nat.le_of_lt_succ h1)
      rw [stC, outC] at h
      cases hb : (stC fr sz n).2.1.1.testBit n <;> simp [hb] at h
      · exact h.1
      · exact h
    · rw [Nat.le_antisymm hi h1]; exact h
theorem whileOk_cnt {fr : Nat → Nat → Bool} {m b f : Nat} {st : Nat × Nat × List Nat} (h : whileOkC fr m b f st = true) : st.2.1 ≤ 70 := by
  obtain ⟨s, c, t⟩ := st
  rcases f with _ | f
  · simp only [whileOkC, Bool.and_eq_true] at h
    exact Nat.le_of_ble_eq_true h.2
  · rcases t with _ | ⟨w, t⟩
    · simp only [whileOkC] at h
      exact Nat.le_of_ble_eq_true h
    · simp only [whileOkC, Bool.and_eq_true] at h
      exact Nat.le_of_ble_eq_true h.2.1
theorem whileC_cnt {fr : Nat → Nat → Bool} {m b : Nat} : ∀ {f : Nat} {st : Nat × Nat × List Nat}, whileOkC fr m b f st = true → (whileC fr m f st).2 ≤ 70
  | 0, (s, c, t), h => by
    simp only [whileOkC, Bool.and_eq_true] at h
    exact Nat.le_of_ble_eq_true h.2
  | f + 1, (s, c, []), h => by
    simp only [whileOkC] at h
    exact Nat.le_of_ble_eq_true h
  | f + 1, (s, c, w :: t), h => by
    simp only [whileOkC, Bool.and_eq_true] at h
    exact whileC_cnt (f := f) (st := turnC fr w (s, c, t) m) h.2.2
theorem out_new {fr : Nat → Nat → Bool} {sz i : Nat} {st : Nat × (Nat × Nat) × Bool} (h : (outC fr sz st i).2.2 = true) (hb : st.2.1.1.testBit i = false) : whileOkC fr (sz - 1) (4 ^ sz) 100 (st.2.1.1 ||| 2 ^ i, st.2.1.2 + 1, [i]) = true := by
  rw [outC, hb] at h
  simp only [cond_false, Bool.and_eq_true] at h
  exact h.2
theorem outC_old {fr : Nat → Nat → Bool} {sz i : Nat} {st : Nat × (Nat × Nat) × Bool} (hb : st.2.1.1.testBit i = true) : outC fr sz st i = st := by rw [outC, hb]; rfl
theorem outC_new {fr : Nat → Nat → Bool} {sz i : Nat} {st : Nat × (Nat × Nat) × Bool} (hb : st.2.1.1.testBit i = false) : (outC fr sz st i).1 = st.1 + 1 ∧ (outC fr sz st i).2.1 = whileC fr (sz - 1) 100 (st.2.1.1 ||| 2 ^ i, st.2.1.2 + 1, [i]) := by rw [outC, hb]; exact ⟨rfl, rfl⟩
/-- how the while goes on -/
theorem while_turn {fr : Nat → Nat → Bool} {m b f s c w : Nat} {t : List Nat} (h : whileOkC fr m b f (s, c, w :: t) = true) : ∃ f', f = f' + 1 ∧ w < b ∧ c ≤ 70 ∧ whileOkC fr m b f' (turnC fr w (s, c, t) m) = true ∧ whileC fr m f (s, c, w :: t) = whileC fr m f' (turnC fr w (s, c, t) m) := by
  rcases f with _ | f
  · simp [whileOkC] at h
  · simp only [whileOkC, Bool.and_eq_true] at h
    exact ⟨f, rfl, Nat.blt_eq.mp h.1, Nat.le_of_ble_eq_true h.2.1, h.2.2, rfl⟩
theorem while_end {fr : Nat → Nat → Bool} {m f s c : Nat} : whileC fr m f (s, c, []) = (s, c) := by cases f <;> rfl
theorem turnC_cnt {fr : Nat → Nat → Bool} {w : Nat} {st : Nat × Nat × List Nat} : ∀ m, (turnC fr w st m).2.1 ≤ st.2.1 + m
  | 0 => Nat.le_refl _
  | m + 1 => by
    have h := turnC_cnt (fr := fr) (w := w) (st := st) m
    rw [turnC, stepC]
    cases fr (w / 4 ^ m % 4) (w / 4 ^ (m + 1) % 4) && !((turnC fr w st m).1.testBit (swapN w m))
    · exact Nat.le_succ_of_le h
    · exact Nat.succ_le_succ h
theorem turn_same {fr : Nat → Nat → Bool} {w k msk cnt : Nat} {st : Nat × Nat × List Nat} {T : List Nat} (h : turnC fr w st k = (msk, cnt, T)) (h2 : (fr (w / 4 ^ k % 4) (w / 4 ^ (k + 1) % 4) && !(msk.testBit (swapN w k))) = false) : turnC fr w st (k + 1) = (msk, cnt, T) := by
  rw [turnC, h, stepC, h2]; rfl
theorem turn_new {fr : Nat → Nat → Bool} {w k msk cnt : Nat} {st : Nat × Nat × List Nat} {T : List Nat} (h : turnC fr w st k = (msk, cnt, T)) (h2 : (fr (w / 4 ^ k % 4) (w / 4 ^ (k + 1) % 4) && !(msk.testBit (swapN w k))) = true) : turnC fr w st (k + 1) = (msk ||| 2 ^ swapN w k, cnt + 1, swapN w k :: T) := by
  rw [turnC, h, stepC, h2]; rfl
def frOf (prs : List (Nat × Nat)) (a b : Nat) : Bool := prs.contains (a, b)
def tupD (p : Nat × Nat) : Dat := .tuple [.int (p.1 : Int), .int (p.2 : Int)]
theorem tupD_inj {p q : Nat × Nat} (h : tupD p = tupD q) : p = q := by
  injection h with h
  injection h with h1 h2
  injection h2 with h2 _
  injection h1 with h1
  injection h2 with h2
  exact Prod.ext (Int.ofNat_inj.mp h1) (Int.ofNat_inj.mp h2)
theorem tupD_mem {p : Nat × Nat} {prs : List (Nat × Nat)} : tupD p ∈ prs.map tupD ↔ p ∈ prs := by
  refine ⟨fun h => ?_, fun h => List.mem_map.mpr ⟨p, h, rfl⟩⟩
  obtain ⟨q, hq, e⟩ := List.mem_map.mp h
  exact tupD_inj e ▸ hq
theorem tupD_ok (p : Nat × Nat) : kqdOk 8 (tupD p) = true := by simp [tupD, kqdOk]
section
variable {prog : Program} {w : World} {A : Around} {E : Value → Shared → Prop} {s : Shared} {h₀ : Heap} {L a b : Addr} {news n₁ : List (Addr × Obj)} {xs : List Value} {ka kb : Nat} {Q : Value → Shared → Prop}
/-- (p, q) in pairs: a list of pairs of numbers -/
theorem tup_in {prs : List (Nat × Nat)} {p q : Nat} {t1 t2 : Tok} (N : News h₀ L s.heap news) (ma : (a, W.listOf xs.toArray ka) ∈ news) (Da : DatAll n₁ xs (prs.map tupD)) (sa : ∀ p ∈ n₁, p ∈ news)
    (mb : (b, { cls := Value.type "tuple", data := Data.seq [Value.int (p : Int) t1, .int (q : Int) t2].toArray kb }) ∈ news) (hu : A.units + 64 < cLine) (h : ∀ b, prs.contains (p, q) = b → Q (.bool b) s) :
    wpAny (model prog w) A (compareOp .In (.ref b) (.ref a)) Q E s := by
  refine kqd_isIn (d := tupD (p, q)) N ma rfl rfl Da sa (DatIn.tuple mb (.cons (.int _ _) (.cons (.int _ _) .nil))) (fun _ h => h) ?_ (tupD_ok _) hu ?_
  · intro d hd
    obtain ⟨q, _, rfl⟩ := List.mem_map.mp hd
    exact tupD_ok q
  · have e : ∀ i : Decidable (tupD (p, q) ∈ prs.map tupD), @decide _ i = prs.contains (p, q) := fun i => by
      rw [Bool.eq_iff_iff, decide_eq_true_iff, tupD_mem, List.contains_iff_mem]
    rw [e]
    exact h _ rfl
end
theorem swap_nonneg : ∀ w, w < 64 → ∀ k, k < 2 → 0 ≤ swapW w k := by decide +kernel
theorem letter_nat (w q : Nat) : ((w : Int).fdiv (q : Int)).fmod 4 = ((w / q % 4 : Nat) : Int) := by
  rw [Int.fdiv_eq_ediv_of_nonneg _ (Int.natCast_nonneg _), Int.fmod_eq_emod_of_nonneg _ (by decide)]
  rfl
/-- an equation that the walk's arithmetic does not look at -/
structure IsI (a b : Int) : Prop where
  e : a = b
theorem diff_bits : ∀ x : Nat, x < 4 → ∀ y : Nat, y < 4 → Builtin.Int.intBits ((x : Int) - (y : Int)) ≤ 64 := by decide +kernel
/-- a letter of a word -/
def letC (w k : Nat) : Nat := w / 4 ^ k % 4
theorem letC_lt (w k : Nat) : letC w k < 4 := Nat.mod_lt _ (by decide)
theorem letter_is {w k : Nat} {q : Int} (h : IsI q ((4 ^ k : Nat) : Int)) : ((w : Int).fdiv q).fmod 4 = ((letC w k : Nat) : Int) := by
  rw [h.e]; exact letter_nat w _
theorem letD_ok (w a b : Nat) (z : Int) : IntMulOk (((letC w a : Nat) : Int) - ((letC w b : Nat) : Int)) z := IntMulOk.of_left (diff_bits _ (letC_lt ..) _ (letC_lt ..))
theorem pow4_bd {k : Nat} {q : Int} (h : IsI q ((4 ^ k : Nat) : Int)) (hk : k < 4) : 0 < q ∧ q ≤ 64 := by
  rw [h.e]
  refine ⟨Int.natCast_pos.mpr (Nat.pow_pos (by decide)), ?_⟩
  have := Nat.pow_le_pow_right (show 0 < 4 by decide) (Nat.le_of_lt_succ hk)
  omega
theorem swap_isI {w k : Nat} {q1 q2 z1 z2 : Int} (hw : w < 64) (hk : k < 2) (h1 : IsI q1 ((4 ^ k : Nat) : Int)) (h2 : IsI q2 ((4 ^ (k + 1) : Nat) : Int)) (h3 : IsI ((((letC w (k + 1) : Nat) : Int) - ((letC w k : Nat) : Int)) * q1) z1) (h4 : IsI ((((letC w (k + 1) : Nat) : Int) - ((letC w k : Nat) : Int)) * q2) z2) : ∃ tn : Nat, tn = swapN w k ∧ (w : Int) + z1 - z2 = (tn : Int) := by
  refine ⟨_, rfl, ?_⟩
  rw [← h3.e, ← h4.e, h1.e, h2.e, swapN, Int.toNat_of_nonneg (swap_nonneg w hw k hk)]
  rfl
section
variable {prog : Program} {w : World} {A : Around} {E : Value → Shared → Prop} {s : Shared} {a b : Int} {t u : Tok} {Q : Value → Shared → Prop}
theorem pow4_I {k : Nat} {e : Int} (he : e = (k : Int)) (hk : k < 9) (h : ∀ z t' k', IsI z ((4 ^ k : Nat) : Int) → Q (.int z t') { s with toks := k' }) : wpAny (model prog w) A (binaryOp .Pow (.int 4 t) (.int e u)) Q E s := by
  subst he
  refine pow_int_small (Int.natCast_nonneg _) (by omega) (by decide) (h _ _ _ ⟨?_⟩)
  rw [Int.toNat_natCast, Int.natCast_pow]
  rfl
theorem mul_I (hm : IntMulOk a b) (h : ∀ z t' k', IsI (a * b) z → Q (.int z t') { s with toks := k' }) : wpAny (model prog w) A (binaryOp .Mult (.int a t) (.int b u)) Q E s := mul_int (h _ _ _ ⟨rfl⟩) hm
end
theorem fr_int {h₀ h : Heap} {L : Addr} {m : Str → Option Value} {x : Str} {a b : Int} {t : Tok} (e : a = b) (F : Fr h₀ L h (fun y => if y = x then some (.int a t) else m y)) : Fr h₀ L h (fun y => if y = x then some (.int b t) else m y) := e ▸ F
/-- a set's members are the mask's bits -/
def MaskOf (S : Int → Bool) (msk : Nat) : Prop := ∀ x : Nat, S (x : Int) = msk.testBit x
theorem MaskOf.add {S : Int → Bool} {msk : Nat} (h : MaskOf S msk) (y : Nat) : MaskOf (fun k => S k || decide (k = (y : Int))) (msk ||| 2 ^ y) := fun x => by
  show (S (x : Int) || decide ((x : Int) = (y : Int))) = _
  rw [Nat.testBit_or, h x, Nat.testBit_two_pow]
  congr 1
  rw [Bool.eq_iff_iff, decide_eq_true_iff, decide_eq_true_iff]
  omega
/-- the free pairs told by six bits -/
def free6 (a b c d e f : Bool) : List (Nat × Nat) :=
  (if a then [(0, 1)] else []) ++ (if b then [(0, 2)] else []) ++ (if c then [(0, 3)] else []) ++ (if a then [(1, 0)] else []) ++ (if d then [(1, 2)] else []) ++ (if e then [(1, 3)] else []) ++
  (if b then [(2, 0)] else []) ++ (if d then [(2, 1)] else []) ++ (if f then [(2, 3)] else []) ++ (if c then [(3, 0)] else []) ++ (if e then [(3, 1)] else []) ++ (if f then [(3, 2)] else [])
set_option maxHeartbeats 4000000 in
theorem all_ok : ∀ a b c d e f : Bool, okC (frOf (free6 a b c d e f)) 3 = true ∧ okC (frOf (free6 a b c d e f)) 2 = true := by decide +kernel
end Mine
namespace Mine
open PySem PySem.W PySem.Spec PySem.Calls PyProof.Rows
theorem word4 {sh k : Nat} (h : k < 4) : ((List.range 4).map fun k => W (sh + k)).getD (k : Int).toNat Str.empty = W (sh + k) := by
  rw [Int.toNat_natCast, List.getD_eq_getElem?_getD, List.getElem?_map, List.getElem?_range h]
  rfl
/-- what is laid of a triple: name's letter, value's letter, whether small -/
def rowT (sh : Nat) (t : Nat × Nat × Bool) : Str × Str := (if t.2.2 = true then Txt.lower (W (sh + t.1)) else W (sh + t.1), W (sh + t.2.1))
def prT (t : Nat × Nat × Bool) : Nat × Nat := (t.1, t.2.1)
/-- letters below 4 -/
def Tok4 (T : List (Nat × Nat × Bool)) : Prop := ∀ t ∈ T, t.1 < 4 ∧ t.2.1 < 4
theorem Tok4.nil : Tok4 [] := fun _ h => nomatch h
theorem Tok4.filter {T : List (Nat × Nat × Bool)} (h : Tok4 T) (p : Nat × Nat × Bool → Bool) : Tok4 (T.filter p) := fun t ht => h t (List.mem_filter.mp ht).1
theorem Tok4.snoc {T : List (Nat × Nat × Bool)} (h : Tok4 T) {t : Nat × Nat × Bool} (h1 : t.1 < 4) (h2 : t.2.1 < 4) : Tok4 (T ++ [t]) := fun u hu => by
  rcases List.mem_append.mp hu with hu | hu
  · exact h u hu
  · rw [List.mem_singleton.mp hu]; exact ⟨h1, h2⟩
theorem rowT_low {sh : Nat} (hsh : sh < 10) {t : Nat × Nat × Bool} (ht : t.1 < 4) : Txt.lower (rowT sh t).1 = Txt.lower (W (sh + t.1)) := by
  unfold rowT
  dsimp only
  split
  · exact lower_lower (W_txl _ (by omega))
  · rfl
theorem rowT_txl {sh : Nat} (hsh : sh < 10) {t : Nat × Nat × Bool} (ht : t.1 < 4) : Txl (rowT sh t).1 := by
  unfold rowT
  dsimp only
  split
  · exact (W_txl _ (by omega)).lower
  · exact W_txl _ (by omega)
theorem low_eq {sh a b : Nat} (hsh : sh < 10) (ha : a < 4) (hb : b < 4) : Txt.lower (W (sh + a)) = Txt.lower (W (sh + b)) ↔ a = b := by
  refine ⟨fun h => ?_, fun h => h ▸ rfl⟩
  have := lowW_inj (p := sh + a) (q := sh + b) (by omega) (by omega) h
  omega
/-- deleted by name -/
theorem rows_del4 {sh : Nat} (hsh : sh < 10) {T : List (Nat × Nat × Bool)} (hT : Tok4 T) {u : Nat × Nat × Bool} (hu : u.1 < 4) :
    (T.map (rowT sh)).filter (fun p => decide (Txt.lower p.1 ≠ Txt.lower (rowT sh u).1)) = (T.filter fun t => decide (t.1 ≠ u.1)).map (rowT sh) := by
  rw [List.filter_map]
  congr 1
  refine List.filter_congr fun t ht => ?_
  show decide (Txt.lower (rowT sh t).1 ≠ _) = _
  rw [rowT_low hsh (hT t ht).1, rowT_low hsh hu]
  exact decide_eq_decide.mpr (not_congr (low_eq hsh (hT t ht).1 hu))
theorem prs_del4 {T : List (Nat × Nat × Bool)} (a : Nat) : (T.map prT).filter (fun p => decide (p.1 ≠ a)) = (T.filter fun t => decide (t.1 ≠ a)).map prT := by
  rw [List.filter_map]
  rfl
/-- all values of a letter -/
theorem vals4 {sh : Nat} (hsh : sh < 10) {T : List (Nat × Nat × Bool)} (hT : Tok4 T) {k : Nat} (hk : k < 4) :
    ((T.map (rowT sh)).filter fun p => decide (Txt.lower p.1 = Txt.lower (W (sh + k)))).map (·.2) = ((T.map prT).filter fun p => decide (p.1 = k)).map fun p => W (sh + p.2) := by
  rw [List.filter_map, List.filter_map, List.map_map, List.map_map]
  have e : List.filter ((fun p => decide (Txt.lower p.1 = Txt.lower (W (sh + k)))) ∘ rowT sh) T = List.filter ((fun p => decide (p.1 = k)) ∘ prT) T := by
    refine List.filter_congr fun t ht => ?_
    show decide (Txt.lower (rowT sh t).1 = _) = decide (t.1 = k)
    rw [rowT_low hsh (hT t ht).1]
    exact decide_eq_decide.mpr (low_eq hsh (hT t ht).1 hk)
  rw [e]
  rfl
theorem W_inj {p q : Nat} (hp : p < 32) (hq : q < 32) (h : Mine.W p = Mine.W q) : p = q := lowW_inj hp hq (h ▸ rfl)
theorem any4 {sh : Nat} (hsh : sh < 10) {T : List (Nat × Nat × Bool)} (hT : Tok4 T) {i j : Nat} (hi : i < 4) (hj : j < 4) :
    (((T.map (rowT sh)).filter fun p => decide (Txt.lower p.1 = Txt.lower (W (sh + i)))).map (·.2)).any (fun z => z == W (sh + j)) = (T.map prT).contains (i, j) := by
  rw [vals4 hsh hT hi, Bool.eq_iff_iff, List.any_eq_true, List.contains_iff_mem]
  refine ⟨fun ⟨z, hz, hz2⟩ => ?_, fun h => ⟨W (sh + j), ?_, by simp⟩⟩
  · obtain ⟨p, hp, rfl⟩ := List.mem_map.mp hz
    obtain ⟨hp1, hp2⟩ := List.mem_filter.mp hp
    obtain ⟨t, ht, rfl⟩ := List.mem_map.mp hp1
    have h1 : t.1 = i := of_decide_eq_true hp2
    have h2 : W (sh + t.2.1) = W (sh + j) := eq_of_beq hz2
    have h3 := W_inj (p := sh + t.2.1) (q := sh + j) (by have := (hT t ht).2; omega) (by omega) h2
    have h4 : t.2.1 = j := by omega
    exact List.mem_map.mpr ⟨t, ht, by unfold prT; rw [h1, h4]⟩
  · exact List.mem_map.mpr ⟨(i, j), List.mem_filter.mpr ⟨h, by simp⟩, rfl⟩
abbrev prObj (p q : Nat) (t1 t2 : Tok) (kb : Nat) : Obj := { cls := .type "tuple", data := .seq [Value.int (p : Int) t1, .int (q : Int) t2].toArray kb }
/-- a list of pairs of numbers -/
theorem dat_at {news : List (Addr × Obj)} {v : Value} : ∀ {vs : List Value} {prs : List (Nat × Nat)}, DatAll news vs (prs.map tupD) → ∀ {i : Nat}, vs[i]? = some v →
    ∃ a p q t1 t2 kb, v = .ref a ∧ (a, prObj p q t1 t2 kb) ∈ news ∧ prs[i]? = some (p, q)
  | _, [], h, i, e => by cases h; simp at e
  | _, (p, q) :: prs, h, i, e => by
    rw [List.map_cons] at h
    cases h with
    | cons h1 h2 =>
      cases i with
      | zero =>
        rw [List.getElem?_cons_zero] at e
        cases e
        cases h1 with
        | tuple hm hd =>
          cases hd with
          | cons g1 g2 =>
            cases g1
            cases g2 with
            | cons g3 g4 =>
              cases g3
              cases g4
              exact ⟨_, p, q, _, _, _, rfl, hm, rfl⟩
      | succ i =>
        rw [List.getElem?_cons_succ] at e ⊢
        exact dat_at h2 e
theorem dat_len {news : List (Addr × Obj)} : ∀ {vs : List Value} {ds : List Dat}, DatAll news vs ds → vs.length = ds.length
  | _, _, .nil => rfl
  | _, _, .cons _ h => congrArg (· + 1) (dat_len h)
theorem dat_snoc {news : List (Addr × Obj)} {v : Value} {d : Dat} (hd : DatIn news v d) : ∀ {vs : List Value} {ds : List Dat}, DatAll news vs ds → DatAll news (vs ++ [v]) (ds ++ [d])
  | _, _, .nil => .cons hd .nil
  | _, _, .cons h1 h => .cons h1 (dat_snoc hd h)
theorem prs_snoc {news : List (Addr × Obj)} {a p q kb : Nat} {t1 t2 : Tok} {vs : List Value} {prs : List (Nat × Nat)} (h : DatAll news vs (prs.map tupD)) (hm : (a, prObj p q t1 t2 kb) ∈ news) : DatAll news (vs ++ [.ref a]) ((prs ++ [(p, q)]).map tupD) := by
  rw [List.map_append]
  exact dat_snoc (.tuple hm (.cons (.int _ _) (.cons (.int _ _) .nil))) h
theorem chain2 {m : Str → Option Value} {x1 x2 : Str} {v1 v2 : Value} (h1 : m x1 = some v1) (h2 : m x2 = some v2) : m = fun y => if y = x1 then some v1 else if y = x2 then some v2 else m y := by
  funext y
  by_cases e1 : y = x1
  · rw [if_pos e1, e1, h1]
  rw [if_neg e1]
  by_cases e2 : y = x2
  · rw [if_pos e2, e2, h2]
  rw [if_neg e2]
theorem fr_back2 {h₀ h : Heap} {L : Addr} {m c : Str → Option Value} (e : m = c) (F : Fr h₀ L h c) : Fr h₀ L h m := e ▸ F
theorem nt_cls {o : Obj} {c : String} (h : o.cls = .type c) (hc : c ≠ "tuple") : ∀ ws n, o ≠ ({ cls := .type "tuple", data := .seq ws n } : Obj) := fun ws n e => by
  rw [e] at h
  injection h with h
  exact hc h.symm
theorem nt_cell {o : Obj} {v : Option Value} (h : o.data = .cell v) : ∀ ws n, o ≠ ({ cls := .type "tuple", data := .seq ws n } : Obj) := fun ws n e => by
  rw [e] at h
  cases h
theorem nt_inst {C d : Addr} : ∀ ws n, instObj C d ≠ ({ cls := .type "tuple", data := .seq ws n } : Obj) := fun ws n e => by
  have := congrArg Obj.cls e
  cases this
theorem nt_tab {ps : Array Value} : ∀ ws n, tabObj ps ≠ ({ cls := .type "tuple", data := .seq ws n } : Obj) := fun ws n e => by
  have := congrArg Obj.data e
  cases this
/-- what is no tuple may go: the objects at the head of the ledger -/
theorem tup_drop {hd : List (Addr × Obj)} {gl rest : List (Addr × Obj)} (h : ∀ p ∈ hd, ∀ ws n, p.2 ≠ ({ cls := .type "tuple", data := .seq ws n } : Obj)) : ∀ p ∈ gl ++ (hd ++ rest), p ∈ gl ++ rest ∨ ∀ ws n, p.2 ≠ ({ cls := .type "tuple", data := .seq ws n } : Obj) := fun p hp => by
  rcases List.mem_append.mp hp with hp | hp
  · exact .inl (List.mem_append_left _ hp)
  rcases List.mem_append.mp hp with hp | hp
  · exact .inr (h p hp)
  · exact .inl (List.mem_append_right _ hp)
theorem ints_at {vs : List Value} {ns : List Int} (h : IntsAre vs ns) : ∀ {i : Nat} {v : Value}, vs[i]? = some v → ∃ n t, v = .int n t := by
  induction h with
  | nil => intro i v e; simp at e
  | cons n t _ ih =>
    intro i v e
    cases i with
    | zero => rw [List.getElem?_cons_zero] at e; exact ⟨n, t, (Option.some.inj e).symm⟩
    | succ i => rw [List.getElem?_cons_succ] at e; exact ih e
theorem plus_ne {L : Nat} (i j : Nat) (h : i ≠ j) : L + i ≠ L + j := fun e => h (Nat.add_left_cancel e)
theorem tab_ne {P L : Nat} (h : P < L) (j : Nat) : P ≠ L + j := Nat.ne_of_lt (Nat.lt_of_lt_of_le h (Nat.le_add_right ..))
theorem mod4 (z : Int) : ∃ k : Nat, z.fmod 4 = (k : Int) ∧ k < 4 := by
  have h1 := Int.fmod_nonneg_of_pos z (show (0 : Int) < 4 by decide)
  have h2 := Int.fmod_lt_of_pos z (show (0 : Int) < 4 by decide)
  exact ⟨(z.fmod 4).toNat, by omega, by omega⟩
end Mine
namespace Mine
open PySem PySem.W PySem.Spec PySem.Calls PyProof.Rows
theorem lt_name {b : Addr} {l : List (Addr × Obj)} (h : AllLt b l) : ∃ c, c = b ∧ ∀ p ∈ l, p.1 < c := ⟨b, rfl, ktn_ltOf h⟩
/-- letters that may change places -/
def frTest (prs : List (Nat × Nat)) (a b : Nat) : Bool := !(decide (a = b)) && (prs.contains (a, b) || prs.contains (b, a))
def frIn (prs : List (Nat × Nat)) (i j : Nat) : List (Nat × Nat) := ((List.range j).filter (frTest prs i)).map fun b => (i, b)
def frTo (prs : List (Nat × Nat)) (i : Nat) : List (Nat × Nat) := (List.range i).flatMap fun a => frIn prs a 4
theorem frIn_succ (prs : List (Nat × Nat)) (i j : Nat) : frIn prs i (j + 1) = frIn prs i j ++ (if frTest prs i j = true then [(i, j)] else []) := by
  unfold frIn
  rw [List.range_succ, List.filter_append, List.map_append]
  cases h : frTest prs i j <;> simp [h]
theorem frTo_succ (prs : List (Nat × Nat)) (i : Nat) : frTo prs (i + 1) = frTo prs i ++ frIn prs i 4 := by
  unfold frTo
  rw [List.range_succ, List.flatMap_append]
  simp
theorem frIn_len (prs : List (Nat × Nat)) (i j : Nat) : (frIn prs i j).length ≤ j := by
  unfold frIn
  rw [List.length_map]
  exact Nat.le_trans (List.length_filter_le _ _) (by rw [List.length_range]; exact Nat.le_refl _)
theorem frTo_len (prs : List (Nat × Nat)) : ∀ i, (frTo prs i).length ≤ 4 * i
  | 0 => Nat.le_refl _
  | i + 1 => by
    rw [frTo_succ, List.length_append]
    have h1 := frTo_len prs i
    have h2 := frIn_len prs i 4
    omega
end Mine
namespace Mine
open PySem PySem.W PySem.Spec PySem.Calls PyProof.Rows
/-- a loop over a range whose own name is a cell: what the end of a turn hands on -/
def TurnEndC (h₀ : Heap) (L I : Addr) (it : Obj) (c : Addr) (J : (Str → Option Value) → List (Addr × Obj) → Prop) (s₁ s₂ : Shared) : Prop :=
  ∃ h' tk m' oc v nx, s₂ = { s₁ with heap := h', toks := tk } ∧ Fr h₀ L h' m' ∧ News h₀ L h' ((I, it) :: (c, oc) :: nx) ∧ (∀ p ∈ nx, p.1 ≠ I ∧ p.1 ≠ c) ∧ oc.data = .cell v ∧ J m' nx
def TurnPostC (h₀ : Heap) (L I : Addr) (it : Obj) (c : Addr) (J : (Str → Option Value) → List (Addr × Obj) → Prop) (s₁ : Shared) (Q : Flow → Shared → Prop) (f : Flow) (s₂ : Shared) : Prop :=
  match f with
  | .ret v => Q (.ret v) s₂
  | .brk => Q .next s₂
  | .cont => TurnEndC h₀ L I it c J s₁ s₂
  | .next => TurnEndC h₀ L I it c J s₁ s₂
section
variable {prog : Program} {w : World} {A : Around} {s : Shared} {env : Env} {h₀ : Heap} {E : Value → Shared → Prop} {Q : Flow → Shared → Prop}
def ForC (prog : Program) (w : World) (A : Around) (h₀ : Heap) (env : Env) (c : Addr) (body orelse : List Stmt) (Q : Flow → Shared → Prop) (E : Value → Shared → Prop) (xv : Value) (s₁ : Shared) : Prop :=
  ∃ (r : Addr) (a b : Int) (t u v : Tok) (n : Nat) (m : Str → Option Value) (news : List (Addr × Obj)) (oc : Obj) (vc : Option Value) (J : Nat → (Str → Option Value) → List (Addr × Obj) → Prop),
    xv = .ref r ∧ A.handled = none ∧ IsRange s₁.heap r a b 1 t u v ∧ Builtin.Range.small a b 1 = true ∧ Builtin.Range.rangeSize a b 1 = ((n : Nat) : Int) ∧ Fr h₀ env.locals s₁.heap m ∧ News h₀ env.locals s₁.heap ((c, oc) :: news) ∧ oc.data = .cell vc ∧ (∀ p ∈ news, p.1 ≠ c) ∧ J 0 m news ∧
    (∀ i t' m₁ nx h tk I it oc, i < n → J i m₁ nx → (∀ p ∈ nx, p.1 ≠ I ∧ p.1 ≠ c) → @Ne Nat I c → it.cls = .type "range_iterator" → oc.data = .cell (some (.int (a + (i : Int)) t')) → Fr h₀ env.locals h m₁ → News h₀ env.locals h ((I, it) :: (c, oc) :: nx) →
      wpAny (model prog w) A (execs body env) (TurnPostC h₀ env.locals I it c (J (i + 1)) { s₁ with heap := h, toks := tk } Q) E { s₁ with heap := h, toks := tk }) ∧
    ∀ m₁ nx h tk oc v, J n m₁ nx → (∀ p ∈ nx, p.1 ≠ c) → oc.data = .cell v → Fr h₀ env.locals h m₁ → News h₀ env.locals h ((c, oc) :: nx) → wpAny (model prog w) A (execs orelse env) Q E { s₁ with heap := h, toks := tk }
theorem For_C {x : Str} {px pos : Pos} {iter : Expr} {body orelse : List Stmt} {c : Addr} (hx : env.kindOf x = some .cell) (hc : env.cells.lookup x = some c) (hkind : env.scope.kind = .function)
    (h : wpAny (model prog w) A (eval iter env) (ForC prog w A h₀ env c body orelse Q E) E s)
    (hs : ∀ x, foldedSetIterable iter env x = pure x := by intro _; rfl)
    (hE : PassesOwn (model prog w) A env E := by passes_own) :
    wpAny (model prog w) A (exec (.For (.Name x px) iter body orelse pos) env) Q E s := by
  refine wpAny_For (wpAny_mono h (fun xv s₁ h₁ => ?_) fun _ _ e => e) hs
  obtain ⟨r, a, b, t, u, v, n, m, news, oc, vc, J, rfl, hh, hr, hsm, hsz, F, N, hd, hoff, h0, turn, done⟩ := h₁
  refine wpAny_pyIter_range hr hsm ?_
  rw [hsz]
  have hnew := next_is_new F
  have lL : @LT.lt Nat instLTNat env.locals s₁.heap.objs.size := F.ns.lt
  have lN : ∀ p ∈ (c, oc) :: news, @LT.lt Nat instLTNat p.1 s₁.heap.objs.size := fun p hp => Heap.lt_size (N p hp).1
  have hit : IsRangeIter (s₁.heap.push { cls := .type "range_iterator", data := .fields #[rawInt a, rawInt (n : Int), rawInt 1] }) s₁.heap.objs.size (a + ((0 : Nat) : Int) * 1) ((n : Int) - ((0 : Nat) : Int)) 1 := by
    simpa using Heap.get?_push_size s₁.heap rfl
  have F1 := F.push { cls := .type "range_iterator", data := .fields #[rawInt a, rawInt (n : Int), rawInt 1] }
  have N1 : News h₀ env.locals (s₁.heap.push { cls := .type "range_iterator", data := .fields #[rawInt a, rawInt (n : Int), rawInt 1] }) ((c, oc) :: news) := fun p hp => ⟨Heap.get?_push_of_some _ (N p hp).1, (N p hp).2⟩
  generalize s₁.heap.push { cls := .type "range_iterator", data := .fields #[rawInt a, rawInt (n : Int), rawInt 1] } = H1 at hit F1 N1 ⊢
  generalize s₁.heap.objs.size = I at hit hnew lL lN ⊢
  have W := LCg.range_walks (prog := prog) (w := w) (I := I) hh a n
  have hLI : env.locals ≠ I := Nat.ne_of_lt lL
  have hcI : c ≠ I := Nat.ne_of_lt (lN _ (List.mem_cons_self ..))
  refine codeAny_forLoop
    (fun k s' => ∃ h' tk m' oc' v' nx i, s' = { s₁ with heap := h', toks := tk } ∧ IsRangeIter h' I (a + (i : Nat) * 1) ((n : Int) - (i : Nat)) 1 ∧ Fr h₀ env.locals h' m' ∧ News h₀ env.locals h' ((c, oc') :: nx) ∧ oc'.data = .cell v' ∧ (∀ p ∈ nx, p.1 ≠ I ∧ p.1 ≠ c) ∧ J i m' nx ∧ i ≤ n ∧ k = n + 1 - i) ?_ (n + 1)
    ⟨H1, s₁.toks, m, oc, vc, news, 0, rfl, hit, F1, N1, hd, fun p hp => ⟨Nat.ne_of_lt (lN p (List.mem_cons_of_mem _ hp)), hoff p hp⟩, h0, Nat.zero_le _, rfl⟩
  rintro k s' ⟨h', tk, m', oc', v', nx, i, rfl, hst', F', N', hd', off', hJ, hi, rfl⟩
  have offI : ∀ p ∈ (c, oc') :: nx, p.1 ≠ I := fun p hp => by
    rcases List.mem_cons.mp hp with rfl | hp
    · exact hcI
    · exact (off' p hp).1
  by_cases hlt : i < n
  · refine W.item i _ _ _ hlt hst' fun v₂ h₂ tk₂ hP hst₂ hk₂ => ?_
    obtain ⟨t', rfl⟩ := hP
    have F₂ := LCg.fr_but F' hk₂ hLI hnew
    have N₂ := LCg.news_but N' hk₂ offI
    refine wpAny_assign_Name (wpAny_storeName_cell (c := c) (v₀ := v') hkind hx hc ⟨oc', (N₂ _ (List.mem_cons_self ..)).1, hd'⟩ fun h₃ hc₃ hs₃ => ?_)
    obtain ⟨oc₃, e₃, d₃⟩ := hc₃
    have zc := N₂ _ (List.mem_cons_self ..)
    have hst₃ : IsRangeIter h₃ I (a + ((i + 1 : Nat) : Int) * 1) ((n : Int) - ((i + 1 : Nat) : Int)) 1 := hs₃.extBut _ _ (Ne.symm hcI) hst₂
    have F₃ : Fr h₀ env.locals h₃ m' := F₂.change hs₃ zc.2.1 zc.2.2
    generalize hito : ({ cls := .type "range_iterator", dict := none, data := .fields #[rawInt (a + ((i + 1 : Nat) : Int) * 1), rawInt ((n : Int) - ((i + 1 : Nat) : Int)), rawInt 1], slots := #[] } : Obj) = ito
    have hst₄ : h₃.get? I = some ito := by rw [← hito]; exact hst₃
    have hic : ito.cls = .type "range_iterator" := hito ▸ rfl
    have N₃ : News h₀ env.locals h₃ ((I, ito) :: (c, oc₃) :: nx) := fun p hp => by
      rcases List.mem_cons.mp hp with rfl | hp
      · exact ⟨hst₄, Ne.symm hLI, hnew⟩
      rcases List.mem_cons.mp hp with rfl | hp
      · exact ⟨e₃, zc.2⟩
      · have z := N₂ p (List.mem_cons_of_mem _ hp)
        exact ⟨hs₃.extBut _ _ (off' p hp).2 z.1, z.2⟩
    refine wpAny_mono (wpAny_passesOwn hE (turn i t' m' nx h₃ _ I ito oc₃ hlt hJ off' (Ne.symm hcI) hic d₃ F₃ N₃)) (fun f s₃ h₃' => ?_) fun _ _ e => e
    have fin : TurnEndC h₀ env.locals I ito c (J (i + 1)) { s₁ with heap := h₃, toks := tk₂ } s₃ → ∃ k', k' < n + 1 - i ∧ ∃ h' tk m' oc' v' nx i, s₃ = { s₁ with heap := h', toks := tk } ∧ IsRangeIter h' I (a + (i : Nat) * 1) ((n : Int) - (i : Nat)) 1 ∧ Fr h₀ env.locals h' m' ∧ News h₀ env.locals h' ((c, oc') :: nx) ∧ oc'.data = .cell v' ∧ (∀ p ∈ nx, p.1 ≠ I ∧ p.1 ≠ c) ∧ J i m' nx ∧ i ≤ n ∧ k' = n + 1 - i := by
      rintro ⟨h₅, tk₅, m₅, oc₅, v₅, nx₅, rfl, F₅, N₅, off₅, d₅, hJ₅⟩
      refine ⟨n + 1 - (i + 1), by omega, h₅, tk₅, m₅, oc₅, v₅, nx₅, i + 1, rfl, ?_, F₅, fun p hp => N₅ p (List.mem_cons_of_mem _ hp), d₅, off₅, hJ₅, hlt, rfl⟩
      have z := (N₅ (I, ito) (List.mem_cons_self ..)).1
      rw [← hito] at z
      exact z
    cases f with
    | ret v => exact h₃'
    | brk => exact h₃'
    | cont => exact fin h₃'
    | next => exact fin h₃'
  · have hin : i = n := by omega
    subst hin
    refine W.done _ _ _ hst' fun h₁ tk₁ hk₁ => ?_
    exact wpAny_passesOwn hE (done m' nx h₁ tk₁ oc' v' hJ (fun p hp => (off' p hp).2) hd' (LCg.fr_but F' hk₁ hLI hnew) (LCg.news_but N' hk₁ offI))
theorem ForC.range {r : Addr} {a b : Int} {t u v : Tok} {n : Nat} {m : Str → Option Value} {news : List (Addr × Obj)} {c : Addr} {oc : Obj} {vc : Option Value} {body orelse : List Stmt} (J : Nat → (Str → Option Value) → List (Addr × Obj) → Prop)
    (hh : A.handled = none) (hr : IsRange s.heap r a b 1 t u v) (hsm : Builtin.Range.small a b 1 = true) (hsz : Builtin.Range.rangeSize a b 1 = ((n : Nat) : Int)) (F : Fr h₀ env.locals s.heap m) (N : News h₀ env.locals s.heap ((c, oc) :: news)) (hd : oc.data = .cell vc) (hoff : ∀ p ∈ news, p.1 ≠ c) (h0 : J 0 m news)
    (turn : ∀ i t' m₁ nx h tk I it oc, i < n → J i m₁ nx → (∀ p ∈ nx, p.1 ≠ I ∧ p.1 ≠ c) → @Ne Nat I c → it.cls = .type "range_iterator" → oc.data = .cell (some (.int (a + (i : Int)) t')) → Fr h₀ env.locals h m₁ → News h₀ env.locals h ((I, it) :: (c, oc) :: nx) →
      wpAny (model prog w) A (execs body env) (TurnPostC h₀ env.locals I it c (J (i + 1)) { s with heap := h, toks := tk } Q) E { s with heap := h, toks := tk })
    (done : ∀ m₁ nx h tk oc v, J n m₁ nx → (∀ p ∈ nx, p.1 ≠ c) → oc.data = .cell v → Fr h₀ env.locals h m₁ → News h₀ env.locals h ((c, oc) :: nx) → wpAny (model prog w) A (execs orelse env) Q E { s with heap := h, toks := tk }) :
    ForC prog w A h₀ env c body orelse Q E (.ref r) s := ⟨r, a, b, t, u, v, n, m, news, oc, vc, J, rfl, hh, hr, hsm, hsz, F, N, hd, hoff, h0, turn, done⟩
end
end Mine
namespace Mine
open PySem PySem.W PySem.Spec PySem.Calls PyProof.Rows
abbrev nestE (elt tgt iter tgt2 iter2 ct : Expr) (scope : Scope) (pos : Pos) : Expr := .ListComp elt [⟨tgt, iter, [], 0⟩, ⟨tgt2, iter2, [ct], 0⟩] scope pos
theorem compTurn_n0 (elt tgt iter tgt2 iter2 ct : Expr) (scope : Scope) (pos : Pos) (it acc : Value) (env : Env) :
    compTurn (nestE elt tgt iter tgt2 iter2 ct scope pos) 0 it acc env = (do
      standAt iter.pos
      match ← pyNext it with
      | none => pure (.done .next)
      | some v =>
        letOwnedTupleGo tgt it v
        assign tgt env v
        let x ← eval iter2 env
        standAt iter2.pos
        let x ← foldedSetIterable iter2 env x
        let _ ← runOwn (.compStart (nestE elt tgt iter tgt2 iter2 ct scope pos) 1 (← holding [x] (pyIter x)) acc env) env
        again (.compLoop (nestE elt tgt iter tgt2 iter2 ct scope pos) 0 it acc env)) := by rfl
theorem compTurn_n1 (elt tgt iter tgt2 iter2 ct : Expr) (scope : Scope) (pos : Pos) (it acc : Value) (env : Env) :
    compTurn (nestE elt tgt iter tgt2 iter2 ct scope pos) 1 it acc env = (do
      standAt iter2.pos
      match ← pyNext it with
      | none => pure (.done .next)
      | some v =>
        letOwnedTupleGo tgt2 it v
        assign tgt2 env v
        let mut ok := true
        for c in [ct] do
          if ok then ok ← isTrue c env (eval c env)
        if ok then
          (do let _ ← call (.builtin "list.append") [acc, ← eval elt env])
        again (.compLoop (nestE elt tgt iter tgt2 iter2 ct scope pos) 1 it acc env)) := by rfl
section
variable {prog : Program} {w : World} {A : Around} {R : Result → Shared → Prop} {s : Shared}
theorem nest_loop0 {elt tgt iter tgt2 iter2 ct : Expr} {scope : Scope} {pos : Pos} {it acc : Value} {env : Env} (I : Nat → Shared → Prop)
    (turn : ∀ n s, I n s → wpAny (model prog w) A (pyNext it) (fun r s₁ => match r with
      | none => R (.ok .next) s₁
      | some v => wpAny (model prog w) A (assign tgt env v) (fun _ s₂ => wpAny (model prog w) A (eval iter2 env) (fun x s₃ => wpAny (model prog w) A (pyIter x) (fun it2 s₄ =>
          codeAny (model prog w) A (.compStart (nestE elt tgt iter tgt2 iter2 ct scope pos) 1 it2 acc env) (fun r s₅ => match r with
            | .ok _ => ∃ m, m < n ∧ I m s₅
            | .error e => cameBackBy (model prog w) A env (notedBy (model prog w) A env fun e s' => R (.error e) s') e s₅) s₄)
          (notedBy (model prog w) A env fun e s' => R (.error e) s') s₃) (notedBy (model prog w) A env fun e s' => R (.error e) s') s₂) (notedBy (model prog w) A env fun e s' => R (.error e) s') s₁) (notedBy (model prog w) A env fun e s' => R (.error e) s') s)
    (hs2 : ∀ x, foldedSetIterable iter2 env x = pure x) (n : Nat) (h : I n s) (ht : ∀ v, letOwnedTupleGo tgt it v = pure () := by intro _; rfl) :
    codeAny (model prog w) A (.compLoop (nestE elt tgt iter tgt2 iter2 ct scope pos) 0 it acc env) R s := by
  refine codeAny_loop rfl I (fun n s hI => ?_) n h
  show wpAny _ A ((compTurn (nestE elt tgt iter tgt2 iter2 ct scope pos) 0 it acc env).onRaise (fun x => do noteFrame x env; theTreesLotGoes x)) _ _ s
  refine wpAny_noted ?_
  rw [compTurn_n0]
  refine wpAny_bind (wpAny_standAt (wpAny_bind (wpAny_mono (turn n s hI) (fun r s₁ h₁ => ?_) fun _ _ h' => h')))
  cases r with
  | none => exact wpAny_pure h₁
  | some v =>
    refine wpAny_bind (wpAny_of_eq (ht v) ?_)
    refine wpAny_bind (wpAny_mono h₁ (fun _ s₂ h₂ => ?_) fun _ _ h' => h')
    refine wpAny_bind (wpAny_mono h₂ (fun x s₃ h₃ => ?_) fun _ _ h' => h')
    refine wpAny_bind (wpAny_standAt ?_)
    refine wpAny_bind (wpAny_of_eq (hs2 x) ?_)
    refine wpAny_bind (wpAny_holding (wpAny_mono h₃ (fun it2 s₄ h₄ => ?_) fun _ _ h' => h'))
    exact wpAny_bind (wpAny_mono (wpAny_runOwn (Q := fun _ s₅ => ∃ m, m < n ∧ I m s₅) h₄) (fun _ s₅ h₅ => wpAny_pure ⟨rfl, h₅⟩) fun _ _ h' => h')
theorem nest_loop1 {elt tgt iter tgt2 iter2 ct : Expr} {scope : Scope} {pos : Pos} {it acc : Value} {env : Env} (I : Nat → Shared → Prop)
    (turn : ∀ n s, I n s → wpAny (model prog w) A (pyNext it) (fun r s₁ => match r with
      | none => R (.ok .next) s₁
      | some v => wpAny (model prog w) A (assign tgt2 env v) (fun _ s₂ =>
          wpAny (model prog w) A (isTrue ct env (eval ct env)) (fun ok s₃ =>
            if ok = true then wpAny (model prog w) A (eval elt env) (fun x s₄ =>
              wpAny (model prog w) A (call (.builtin "list.append") [acc, x]) (fun _ s₅ => ∃ m, m < n ∧ I m s₅) (notedBy (model prog w) A env fun e s' => R (.error e) s') s₄) (notedBy (model prog w) A env fun e s' => R (.error e) s') s₃
            else ∃ m, m < n ∧ I m s₃) (notedBy (model prog w) A env fun e s' => R (.error e) s') s₂) (notedBy (model prog w) A env fun e s' => R (.error e) s') s₁) (notedBy (model prog w) A env fun e s' => R (.error e) s') s)
    (n : Nat) (h : I n s) (ht : ∀ v, letOwnedTupleGo tgt2 it v = pure () := by intro _; rfl) :
    codeAny (model prog w) A (.compLoop (nestE elt tgt iter tgt2 iter2 ct scope pos) 1 it acc env) R s := by
  refine codeAny_loop rfl I (fun n s hI => ?_) n h
  show wpAny _ A ((compTurn (nestE elt tgt iter tgt2 iter2 ct scope pos) 1 it acc env).onRaise (fun x => do noteFrame x env; theTreesLotGoes x)) _ _ s
  refine wpAny_noted ?_
  rw [compTurn_n1]
  refine wpAny_bind (wpAny_standAt (wpAny_bind (wpAny_mono (turn n s hI) (fun r s₁ h₁ => ?_) fun _ _ h' => h')))
  cases r with
  | none => exact wpAny_pure h₁
  | some v =>
    refine wpAny_bind (wpAny_of_eq (ht v) ?_)
    refine wpAny_bind (wpAny_mono h₁ (fun _ s₂ h₂ => wpAny_bind (wpAny_tests_one (wpAny_mono h₂ (fun ok s₃ h₃ => ?_) fun _ _ h' => h'))) fun _ _ h' => h')
    cases ok with
    | false => exact wpAny_pure ⟨rfl, h₃⟩
    | true =>
      exact wpAny_bind (wpAny_bind (wpAny_mono h₃ (fun x s₄ h₄ => wpAny_bind (wpAny_mono h₄ (fun _ s₅ h₅ => wpAny_pure (wpAny_pure ⟨rfl, h₅⟩)) fun _ _ h' => h')) fun _ _ h' => h'))
theorem nest_start1 {elt tgt iter tgt2 iter2 ct : Expr} {scope : Scope} {pos : Pos} {it acc : Value} {env : Env}
    (h0 : codeAny (model prog w) A (.compLoop (nestE elt tgt iter tgt2 iter2 ct scope pos) 1 it acc env) R s)
    (h : wpAny (model prog w) A (pyIter it) (fun it' s' => codeAny (model prog w) A (.compLoop (nestE elt tgt iter tgt2 iter2 ct scope pos) 1 it' acc env) R s')
      (notedBy (model prog w) A env fun x s' => R (.error x) s') s) :
    codeAny (model prog w) A (.compStart (nestE elt tgt iter tgt2 iter2 ct scope pos) 1 it acc env) R s := by
  refine codeAny_of_tree ?_
  show wpAny _ _ ((compStart (nestE elt tgt iter tgt2 iter2 ct scope pos) 1 it acc env).onRaise (fun x => do noteFrame x env; standAt theWindowsPlace)) _ _ s
  refine wpAny_notedAt ?_
  unfold compStart
  show wpAny _ _ (ask >>= _) _ _ s
  refine wpAny_bind (wpAny_askSetting (wpAny_ite ?_))
  split
  · first
      | exact wpAny_bind (wpAny_pure (wpAny_pure (And.intro rfl h0)))
      | exact wpAny_pure (And.intro rfl h0)
  · first
      | exact wpAny_bind (wpAny_rule (wpAny_bind (wpAny_standAt (wpAny_bind (wpAny_mono h (fun it' s' h' => wpAny_pure (And.intro rfl h')) fun _ _ x => x)))))
      | (refine wpAny_bind (wpAny_rule ?_); show wpAny _ _ (standAt iter2.pos >>= _) _ _ s; exact wpAny_bind (wpAny_standAt (wpAny_bind (wpAny_mono h (fun it' s' h' => wpAny_pure (And.intro rfl h')) fun _ _ x => x))))
end
end Mine
namespace Mine
open PySem PySem.W PySem.Spec PySem.Calls PyProof.Rows
/-- what an inner turn hands on -/
def NestEnd (h₀ : Heap) (L : Addr) (m : Str → Option Value) (s₁ : Shared) (I2 : Addr) (oI2 : Obj) (I : Addr) (oI : Obj) (C : Addr) (oC : Obj) (D : Addr) (oD : Obj) (K : List (Addr × Obj) → Prop) (s₂ : Shared) : Prop :=
  ∃ h tk nx, s₂ = { s₁ with heap := h, toks := tk } ∧ Fr h₀ L h m ∧ News h₀ L h ((I2, oI2) :: (I, oI) :: (C, oC) :: (D, oD) :: nx) ∧ (∀ p ∈ nx, p.1 ≠ I2 ∧ p.1 ≠ I ∧ p.1 ≠ C ∧ p.1 ≠ D) ∧ K nx
/-- what the inner loop walks: a range or a list of the ledger -/
def NestSrc (h : Heap) (xv : Value) (n2 : Nat) (P2 : Nat → Value → Prop) (K : Nat → List Value → List (Addr × Obj) → Prop) : Prop :=
  (∃ (r : Addr) (a b : Int) (t u v : Tok), xv = .ref r ∧ IsRange h r a b 1 t u v ∧ Builtin.Range.small a b 1 = true ∧ Builtin.Range.rangeSize a b 1 = ((n2 : Nat) : Int) ∧ ∀ j v, (∃ t, v = .int (a + (j : Int)) t) → P2 j v) ∨
  (∃ (ax : Addr) (its : Array Value) (k : Nat), xv = .ref ax ∧ its.size = n2 ∧ (∀ j v, its[j]? = some v → P2 j v) ∧ ∀ j ys nx, K j ys nx → (ax, ({ cls := .type "list", data := .seq its k } : Obj)) ∈ nx)
section
variable {prog : Program} {w : World} {A : Around} {s : Shared} {env : Env} {h₀ : Heap} {L : Addr} {m : Str → Option Value}
/-- the inner loop -/
theorem nest_inner {elt tgt iter iter2 ct : Expr} {y : Str} {py : Pos} {scope : Scope} {pos : Pos} {cenv : Env} {s₁ s₂ : Shared} {I2 I C D : Addr} {oI : Obj} {x : Str} {vx : Value} {n2 : Nat} {P2 : Nat → Value → Prop} {fp2 : List Addr} {St2 : Nat → Heap → Prop} {m₂ : Str → Option Value} {ys : List Value} {nx : List (Addr × Obj)} {h : Heap} {tk : Nat} {R : Result → Shared → Prop}
    (K : Nat → List Value → List (Addr × Obj) → Prop) (W : Walks prog w A I2 fp2 [I2] n2 P2 St2) (hIo : ∀ i h, St2 i h → ∃ o, h.get? I2 = some o)
    (hSt : ∀ i h h' o ys nw, St2 i h → h.get? I2 = some o → h'.get? I2 = some o → (∀ b o, h₀.get? b = some o → h'.get? b = some o) → News h₀ L h' nw → K i ys nw → St2 i h')
    (hC : cenv.locals = C) (hk : cenv.scope.kind = .function) (hy : cenv.kindOf y = some .local) (hxy : x ≠ y) (hCf : C ∉ fp2) (hDf : D ∉ fp2)
    (e₂ : s₂ = { s₁ with heap := h, toks := tk }) (hst : St2 0 h) (F : Fr h₀ L h m) (N : News h₀ L h ((I, oI) :: (D, LCg.lst ys) :: nx)) (hn : h.Ns C m₂) (hm₂ : m₂ x = some vx) (off : ∀ p ∈ nx, p.1 ≠ I2 ∧ p.1 ≠ I ∧ p.1 ≠ C ∧ p.1 ≠ D)
    (ne : @Ne Nat I2 I ∧ @Ne Nat I2 C ∧ @Ne Nat I2 D ∧ @Ne Nat I C ∧ @Ne Nat I D ∧ @Ne Nat C D) (hI2 : @Ne Nat I2 L ∧ h₀.get? I2 = none) (hCL : @Ne Nat C L ∧ h₀.get? C = none) (hK : K 0 ys nx) (hlen : ∀ j ys nx, K j ys nx → ys.length ≤ 1000)
    (turn : ∀ j v ys nx oI2 oC m₂ h tk (E' : Value → Shared → Prop), j < n2 → P2 j v → K j ys nx → LCg.NsObj oC m₂ → m₂ x = some vx → m₂ y = some v → Fr h₀ L h m → News h₀ L h ((I2, oI2) :: (I, oI) :: (C, oC) :: (D, LCg.lst ys) :: nx) → (∀ p ∈ nx, p.1 ≠ I2 ∧ p.1 ≠ I ∧ p.1 ≠ C ∧ p.1 ≠ D) →
      wpAny (model prog w) A (isTrue ct cenv (eval ct cenv)) (fun ok s' => if ok = true then wpAny (model prog w) A (eval elt cenv) (fun y' s'' => NestEnd h₀ L m s₁ I2 oI2 I oI C oC D (LCg.lst ys) (K (j + 1) (ys ++ [y'])) s'') E' s'
        else NestEnd h₀ L m s₁ I2 oI2 I oI C oC D (LCg.lst ys) (K (j + 1) ys) s') E' { s₁ with heap := h, toks := tk })
    (hR : ∀ h tk ys nx m₂, Fr h₀ L h m → News h₀ L h ((I, oI) :: (D, LCg.lst ys) :: nx) → h.Ns C m₂ → (∀ p ∈ nx, p.1 ≠ I2 ∧ p.1 ≠ I ∧ p.1 ≠ C ∧ p.1 ≠ D) → K n2 ys nx → R (.ok .next) { s₁ with heap := h, toks := tk }) :
    codeAny (model prog w) A (.compLoop (nestE elt tgt iter (.Name y py) iter2 ct scope pos) 1 (.ref I2) (.ref D) cenv) R s₂ := by
  subst e₂
  obtain ⟨n1, n2', n3, n4, n5, n6⟩ := ne
  refine nest_loop1
    (fun k s' => ∃ h' tk j ys m' nx, s' = { s₁ with heap := h', toks := tk } ∧ j ≤ n2 ∧ k = n2 + 1 - j ∧ St2 j h' ∧ Fr h₀ L h' m ∧ h'.Ns C m' ∧ m' x = some vx ∧ News h₀ L h' ((I, oI) :: (D, LCg.lst ys) :: nx) ∧ (∀ p ∈ nx, p.1 ≠ I2 ∧ p.1 ≠ I ∧ p.1 ≠ C ∧ p.1 ≠ D) ∧ K j ys nx) ?_ (n2 + 1)
    ⟨h, tk, 0, ys, m₂, nx, rfl, Nat.zero_le _, rfl, hst, F, hn, hm₂, N, off, hK⟩
  rintro k s' ⟨h', tk, j, ys, m', nx, rfl, hj, rfl, hst', F', hn', hm', N', off', hK'⟩
  have offI : ∀ p ∈ (I, oI) :: (D, LCg.lst ys) :: nx, p.1 ≠ I2 := fun p hp => by
    rcases List.mem_cons.mp hp with rfl | hp
    · exact Ne.symm n1
    rcases List.mem_cons.mp hp with rfl | hp
    · exact Ne.symm n3
    · exact (off' p hp).1
  have hI2f : I2 ∈ fp2 := W.sub I2 (List.mem_singleton.mpr rfl)
  by_cases hlt : j < n2
  · refine W.item j _ _ _ hlt hst' fun v h₂ tk₂ hPv hst₂ hk₂ => ?_
    subst hC
    refine wpAny_assign_Name (wpAny_storeName_local hy (hn'.at' fun o e => hk₂ _ o (by simpa using Ne.symm n2') e) (fun h₃ hn₃ hs₃ => ?_) (by simp [hk]))
    have hst₃ : St2 (j + 1) h₃ := W.frame _ _ _ hst₂ fun b hb o e => hs₃.extBut b o (fun q => hCf (q ▸ hb)) e
    obtain ⟨oI2, eI2⟩ := hIo _ _ hst₃
    obtain ⟨oC, eC, hoC⟩ := LCg.ns_obj hn₃
    have F₃ : Fr h₀ L h₃ m := (LCg.fr_but F' hk₂ (Ne.symm hI2.1) hI2.2).change hs₃ hCL.1 hCL.2
    have N₂ := LCg.news_but N' hk₂ offI
    have N₃ : News h₀ L h₃ ((I2, oI2) :: (I, oI) :: (cenv.locals, oC) :: (D, LCg.lst ys) :: nx) := fun p hp => by
      rcases List.mem_cons.mp hp with rfl | hp
      · exact ⟨eI2, hI2⟩
      rcases List.mem_cons.mp hp with rfl | hp
      · have z := N₂ (I, oI) (List.mem_cons_self ..)
        exact ⟨hs₃.extBut _ _ n4 z.1, z.2⟩
      rcases List.mem_cons.mp hp with rfl | hp
      · exact ⟨eC, hCL⟩
      · have z := N₂ p (List.mem_cons_of_mem _ hp)
        refine ⟨hs₃.extBut _ _ ?_ z.1, z.2⟩
        rcases List.mem_cons.mp hp with rfl | hp
        · exact Ne.symm n6
        · exact (off' p hp).2.2.1
    refine wpAny_mono (turn j v ys nx oI2 oC _ h₃ _ _ hlt hPv hK' hoC ((if_neg hxy).trans hm') (if_pos rfl) F₃ N₃ off') (fun ok s₄ h₄ => ?_) fun _ _ e => e
    cases ok with
    | true =>
      simp only [if_true] at h₄ ⊢
      refine wpAny_mono h₄ (fun y' s₅ h₅ => ?_) fun _ _ e => e
      obtain ⟨h₅, tk₅, nx₅, rfl, F₅, N₅, off₅, hK₅⟩ := h₅
      have zI2 := (N₅ (I2, oI2) (.head _)).1
      have zI := N₅ (I, oI) (.tail _ (.head _))
      have zC := (N₅ (cenv.locals, oC) (.tail _ (.tail _ (.head _)))).1
      have zD := N₅ (D, LCg.lst ys) (.tail _ (.tail _ (.tail _ (.head _))))
      have N₅' : News h₀ L h₅ nx₅ := fun p hp => N₅ p (.tail _ (.tail _ (.tail _ (.tail _ hp))))
      have hst₅ : St2 (j + 1) h₅ := hSt _ _ _ _ _ _ hst₃ eI2 zI2 F₅.keep N₅' hK₅
      refine append_at (hsz := by show ys.toArray.size ≤ sizeLine; rw [List.size_toArray, sizeLine_eq]; have := hlen _ _ _ hK'; omega) zD.1 fun h₆ hs₆ hD₆ => ?_
      refine ⟨n2 + 1 - (j + 1), by omega, h₆, tk₅, j + 1, ys ++ [y'], _, nx₅, rfl, hlt, rfl, W.frame _ _ _ hst₅ fun b hb o e => hs₆.extBut b o (fun q => hDf (q ▸ hb)) e, F₅.change hs₆ zD.2.1 zD.2.2, (hoC.ns zC).sameBut hs₆ n6, (if_neg hxy).trans hm', fun p hp => ?_, off₅, hK₅⟩
      rcases List.mem_cons.mp hp with rfl | hp
      · exact ⟨hs₆.extBut _ _ n5 zI.1, zI.2⟩
      rcases List.mem_cons.mp hp with rfl | hp
      · exact ⟨hD₆.trans (congrArg some (LCg.lst_snoc ys y')), zD.2⟩
      · exact ⟨hs₆.extBut _ _ (off₅ p hp).2.2.2 (N₅' p hp).1, (N₅' p hp).2⟩
    | false =>
      simp only [Bool.false_eq_true, if_false] at h₄ ⊢
      obtain ⟨h₅, tk₅, nx₅, rfl, F₅, N₅, off₅, hK₅⟩ := h₄
      have zI2 := (N₅ (I2, oI2) (.head _)).1
      have zC := (N₅ (cenv.locals, oC) (.tail _ (.tail _ (.head _)))).1
      have N₅' : News h₀ L h₅ nx₅ := fun p hp => N₅ p (.tail _ (.tail _ (.tail _ (.tail _ hp))))
      have hst₅ : St2 (j + 1) h₅ := hSt _ _ _ _ _ _ hst₃ eI2 zI2 F₅.keep N₅' hK₅
      refine ⟨n2 + 1 - (j + 1), by omega, h₅, tk₅, j + 1, ys, _, nx₅, rfl, hlt, rfl, hst₅, F₅, hoC.ns zC, (if_neg hxy).trans hm', fun p hp => (List.mem_cons.mp hp).elim (fun e => e ▸ N₅ (I, oI) (.tail _ (.head _))) fun hp => (List.mem_cons.mp hp).elim (fun e => e ▸ N₅ (D, LCg.lst ys) (.tail _ (.tail _ (.tail _ (.head _))))) fun hp => N₅ p (.tail _ (.tail _ (.tail _ (.tail _ hp)))), off₅, hK₅⟩
  · obtain rfl : j = n2 := Nat.le_antisymm hj (Nat.not_lt.mp hlt)
    refine W.done _ _ _ hst' fun h₂ tk₂ hk₂ => ?_
    exact hR h₂ tk₂ ys nx m' (LCg.fr_but F' hk₂ (Ne.symm hI2.1) hI2.2) (LCg.news_but N' hk₂ offI) (hn'.at' fun o e => hk₂ _ o (by simpa using Ne.symm n2') e) off' hK'
end
end Mine
namespace Mine
open PySem PySem.W PySem.Spec PySem.Calls PyProof.Rows
/-- behind the inner iterable -/
def NestIn (prog : Program) (w : World) (A : Around) (h₀ : Heap) (L : Addr) (m : Str → Option Value) (cenv : Env) (ct elt : Expr) (x y : Str) (s₁ : Shared) (vx : Value) (I : Addr) (oI : Obj) (C D : Addr) (ys0 : List Value) (Jn : List Value → List (Addr × Obj) → Prop) (xv : Value) (s₂ : Shared) : Prop :=
  ∃ h tk oC m₂ nx n2 P2 K, s₂ = { s₁ with heap := h, toks := tk } ∧ Fr h₀ L h m ∧ News h₀ L h ((I, oI) :: (C, oC) :: (D, LCg.lst ys0) :: nx) ∧ LCg.NsObj oC m₂ ∧ m₂ x = some vx ∧ (∀ p ∈ nx, p.1 ≠ I ∧ p.1 ≠ C ∧ p.1 ≠ D) ∧ K 0 ys0 nx ∧ (∀ j ys nx, K j ys nx → ys.length ≤ 1000) ∧ NestSrc h xv n2 P2 K ∧
    (∀ j v ys nx I2 oI2 oC m₂ h tk (E' : Value → Shared → Prop), j < n2 → P2 j v → K j ys nx → LCg.NsObj oC m₂ → m₂ x = some vx → m₂ y = some v → Fr h₀ L h m → News h₀ L h ((I2, oI2) :: (I, oI) :: (C, oC) :: (D, LCg.lst ys) :: nx) → (∀ p ∈ nx, p.1 ≠ I2 ∧ p.1 ≠ I ∧ p.1 ≠ C ∧ p.1 ≠ D) → (@Ne Nat I2 I ∧ @Ne Nat I2 C ∧ @Ne Nat I2 D ∧ @Ne Nat I C ∧ @Ne Nat I D ∧ @Ne Nat C D) →
      wpAny (model prog w) A (isTrue ct cenv (eval ct cenv)) (fun ok s' => if ok = true then wpAny (model prog w) A (eval elt cenv) (fun y' s'' => NestEnd h₀ L m s₁ I2 oI2 I oI C oC D (LCg.lst ys) (K (j + 1) (ys ++ [y'])) s'') E' s'
        else NestEnd h₀ L m s₁ I2 oI2 I oI C oC D (LCg.lst ys) (K (j + 1) ys) s') E' { s₁ with heap := h, toks := tk }) ∧
    ∀ ys nx, K n2 ys nx → Jn ys nx
section
variable {prog : Program} {w : World} {A : Around} {s : Shared} {env : Env} {h₀ : Heap} {L : Addr} {m : Str → Option Value} {E : Value → Shared → Prop}
/-- an outer turn behind the inner iterable -/
theorem nest_turn {elt tgt iter iter2 ct : Expr} {x y : Str} {py : Pos} {scope : Scope} {pos : Pos} {cenv : Env} {s₁ s₂ : Shared} {vx xv : Value} {I C D : Addr} {oI : Obj} {ys0 : List Value} {Jn : List Value → List (Addr × Obj) → Prop} {R : Result → Shared → Prop} (hh : A.handled = none)
    (hC : cenv.locals = C) (hk : cenv.scope.kind = .function) (hy : cenv.kindOf y = some .local) (hxy : x ≠ y) (ne : @Ne Nat I C ∧ @Ne Nat I D ∧ @Ne Nat C D) (h : NestIn prog w A h₀ L m cenv ct elt x y s₁ vx I oI C D ys0 Jn xv s₂)
    (hR : ∀ h tk ys nx m₂, Fr h₀ L h m → News h₀ L h ((I, oI) :: (D, LCg.lst ys) :: nx) → h.Ns C m₂ → (∀ p ∈ nx, p.1 ≠ I ∧ p.1 ≠ C ∧ p.1 ≠ D) → Jn ys nx → R (.ok .next) { s₁ with heap := h, toks := tk }) :
    wpAny (model prog w) A (pyIter xv) (fun it2 s₄ => codeAny (model prog w) A (.compStart (nestE elt tgt iter (.Name y py) iter2 ct scope pos) 1 it2 (.ref D) cenv) R s₄) E s₂ := by
  obtain ⟨h, tk, oC, m₂, nx, n2, P2, K, rfl, F, N, hoC, hm₂, off, hK, hlen, hsrc, turn, fin⟩ := h
  have lL : @LT.lt Nat instLTNat L h.objs.size := F.ns.lt
  have lI : @LT.lt Nat instLTNat I h.objs.size := Heap.lt_size (N (I, oI) (.head _)).1
  have lC : @LT.lt Nat instLTNat C h.objs.size := Heap.lt_size (N (C, oC) (.tail _ (.head _))).1
  have lD : @LT.lt Nat instLTNat D h.objs.size := Heap.lt_size (N (D, LCg.lst ys0) (.tail _ (.tail _ (.head _)))).1
  have zC := N (C, oC) (.tail _ (.head _))
  have hnew : h₀.get? h.objs.size = none := next_is_new F
  have ne6 : @Ne Nat h.objs.size I ∧ @Ne Nat h.objs.size C ∧ @Ne Nat h.objs.size D ∧ @Ne Nat I C ∧ @Ne Nat I D ∧ @Ne Nat C D := ⟨Nat.ne_of_gt lI, Nat.ne_of_gt lC, Nat.ne_of_gt lD, ne⟩
  have N' : News h₀ L h ((I, oI) :: (D, LCg.lst ys0) :: nx) := fun p hp => (List.mem_cons.mp hp).elim (fun e => e ▸ N (I, oI) (.head _)) fun hp => N p (.tail _ (.tail _ hp))
  have off' : ∀ p ∈ nx, p.1 ≠ h.objs.size ∧ p.1 ≠ I ∧ p.1 ≠ C ∧ p.1 ≠ D := fun p hp => ⟨Nat.ne_of_lt (Heap.lt_size (N p (.tail _ (.tail _ (.tail _ hp)))).1), off p hp⟩
  rcases hsrc with ⟨r, a, b, t, u, v, rfl, hr, hsm, hsz, hP⟩ | ⟨ax, its, k, rfl, hsz, hP, hmem⟩
  · refine wpAny_pyIter_range hr hsm ?_
    rw [hsz]
    generalize hH : h.push { cls := .type "range_iterator", data := .fields #[rawInt a, rawInt (n2 : Int), rawInt 1] } = H
    have up : ∀ b o, h.get? b = some o → H.get? b = some o := fun b o e => hH ▸ Heap.get?_push_of_some _ e
    have hit : IsRangeIter H h.objs.size (a + ((0 : Nat) : Int) * 1) ((n2 : Int) - ((0 : Nat) : Int)) 1 := by
      rw [← hH]; simpa using Heap.get?_push_size h rfl
    have W := LCg.range_walks (prog := prog) (w := w) (I := h.objs.size) hh a n2
    have loop : codeAny (model prog w) A (.compLoop (nestE elt tgt iter (.Name y py) iter2 ct scope pos) 1 (.ref h.objs.size) (.ref D) cenv) R { s₁ with heap := H, toks := tk } :=
      nest_inner (vx := vx) (x := x) (I := I) (oI := oI) (C := C) K W (fun i h st => ⟨_, st⟩) (fun i h h' o ys nw st e e' k' N' _ => LCg.range_st i h h' o nw st e e' k' N' trivial) hC hk hy hxy (fun q => ne6.2.1 (List.mem_singleton.mp q).symm) (fun q => ne6.2.2.1 (List.mem_singleton.mp q).symm)
        rfl hit (F.keeps up) (fun p hp => ⟨up _ _ (N' p hp).1, (N' p hp).2⟩) ((hoC.ns zC.1).keeps up) hm₂ off' ne6 ⟨Nat.ne_of_gt lL, hnew⟩ zC.2 hK hlen
        (fun j v ys nx oI2 oC m₂ h tk E' hj hp hK hoC hm hmy F N off => turn j v ys nx _ oI2 oC m₂ h tk E' hj (hP j v hp) hK hoC hm hmy F N off ne6)
        (fun h tk ys nx m₂ F N hn off hK => hR h tk ys nx m₂ F N hn (fun p hp => (off p hp).2) (fin ys nx hK))
    exact nest_start1 loop (W.self 0 _ _ _ hit loop)
  · have hmm := hmem _ _ _ hK
    have hl : h.IsList ax its := ⟨_, (N' _ (List.mem_cons_of_mem _ (List.mem_cons_of_mem _ hmm))).1, rfl, _, rfl⟩
    have hlt : @LT.lt Nat instLTNat ax h.objs.size := Heap.lt_size (N' _ (List.mem_cons_of_mem _ (List.mem_cons_of_mem _ hmm))).1
    refine wpAny_pyIter_list hl ?_
    generalize hH : h.push { cls := .type "list_iterator", data := .fields #[.ref ax, .int 0 0] } = H
    have up : ∀ b o, h.get? b = some o → H.get? b = some o := fun b o e => hH ▸ Heap.get?_push_of_some _ e
    have hit : H.IsListIter h.objs.size ax 0 ∧ H.IsList ax its := by
      rw [← hH]; exact ⟨⟨_, Heap.get?_push_size _ rfl, rfl, rfl⟩, hl.push _⟩
    have W := Walks.list (prog := prog) (w := w) hh h.objs.size ax (Nat.ne_of_lt hlt) its
    rw [hsz] at W
    have offx := off _ hmm
    have loop : codeAny (model prog w) A (.compLoop (nestE elt tgt iter (.Name y py) iter2 ct scope pos) 1 (.ref h.objs.size) (.ref D) cenv) R { s₁ with heap := H, toks := tk } :=
      nest_inner (vx := vx) (x := x) (I := I) (oI := oI) (C := C) K W (fun i h st => by obtain ⟨o, e, _⟩ := st.1; exact ⟨o, e⟩) (fun i h h' o ys nw st e e' k' N' hK => LCg.list_st i h h' o nw st e e' k' N' (.inr ⟨_, hmem _ _ _ hK, rfl, _, rfl⟩)) hC hk hy hxy
        (fun q => by rcases List.mem_cons.mp q with q | q; · exact ne6.2.1 q.symm
                     · exact offx.2.1 (List.mem_singleton.mp q).symm)
        (fun q => by rcases List.mem_cons.mp q with q | q; · exact ne6.2.2.1 q.symm
                     · exact offx.2.2 (List.mem_singleton.mp q).symm)
        rfl hit (F.keeps up) (fun p hp => ⟨up _ _ (N' p hp).1, (N' p hp).2⟩) ((hoC.ns zC.1).keeps up) hm₂ off' ne6 ⟨Nat.ne_of_gt lL, hnew⟩ zC.2 hK hlen
        (fun j v ys nx oI2 oC m₂ h tk E' hj hp hK hoC hm hmy F N off => turn j v ys nx _ oI2 oC m₂ h tk E' hj (hP j v hp) hK hoC hm hmy F N off ne6)
        (fun h tk ys nx m₂ F N hn off hK => hR h tk ys nx m₂ F N hn (fun p hp => (off p hp).2) (fin ys nx hK))
    exact nest_start1 loop (W.self 0 _ _ _ hit loop)
end
end Mine
namespace Mine
open PySem PySem.W PySem.Spec PySem.Calls PyProof.Rows
section
variable {prog : Program} {w : World} {A : Around} {s : Shared} {env : Env} {h₀ : Heap} {m : Str → Option Value} {E : Value → Shared → Prop}
/-- what the outer loop walks, and what holds between the turns -/
def NestFor (prog : Program) (w : World) (A : Around) (h₀ : Heap) (m : Str → Option Value) (env : Env) (iter2 ct elt : Expr) (x y : Str) (scope : Scope) (cl : List (Str × Addr)) (mF : Addr → Str → Option Value) (Fin : Addr → Shared → Prop) (xv : Value) (s₁ : Shared) : Prop :=
  ∃ (r : Addr) (a b : Int) (t u v : Tok) (n : Nat) (news : List (Addr × Obj)) (J : Nat → List Value → List (Addr × Obj) → Prop), xv = .ref r ∧ A.handled = none ∧ Fr h₀ env.locals s₁.heap m ∧ News h₀ env.locals s₁.heap news ∧
    IsRange s₁.heap r a b 1 t u v ∧ Builtin.Range.small a b 1 = true ∧ Builtin.Range.rangeSize a b 1 = ((n : Nat) : Int) ∧ J 0 [] news ∧
    (∀ i ys nx t' I oI C oC D m₂ h tk (E' : Value → Shared → Prop), i < n → J i ys nx → LCg.NsObj oC m₂ → m₂ x = some (.int (a + (i : Int)) t') → Fr h₀ env.locals h m → News h₀ env.locals h ((I, oI) :: (C, oC) :: (D, LCg.lst ys) :: nx) → (∀ p ∈ nx, p.1 ≠ I ∧ p.1 ≠ C ∧ p.1 ≠ D) → (@Ne Nat I C ∧ @Ne Nat I D ∧ @Ne Nat C D) →
      wpAny (model prog w) A (eval iter2 (compEnvC scope cl C env)) (NestIn prog w A h₀ env.locals m (compEnvC scope cl C env) ct elt x y s₁ (.int (a + (i : Int)) t') I oI C D ys (J (i + 1))) E' { s₁ with heap := h, toks := tk }) ∧
    ∀ ys nx D h tk, J n ys nx → Fr h₀ env.locals h (mF D) → News h₀ env.locals h ((D, LCg.lst ys) :: nx) → (∀ p ∈ nx, p.1 ≠ D) → Fin D { s₁ with heap := h, toks := tk }
theorem nest_block {elt iter iter2 ct : Expr} {x y : Str} {px py : Pos} {scope : Scope} {cl : List (Str × Addr)} {pos : Pos} {s₁ : Shared} {xv : Value} {mF : Addr → Str → Option Value} {Fin : Addr → Shared → Prop} {RR : Value → Addr → Result → Shared → Prop}
    (hcell : ∀ y ∈ scope.names, y.2 ≠ .cell) (hkind : scope.kind = .function) (hx : scope.names.lookup x = some .local) (hy : scope.names.lookup y = some .local) (hxy : x ≠ y) (hs2 : ∀ C v, foldedSetIterable iter2 (compEnvC scope cl C env) v = pure v)
    (h : NestFor prog w A h₀ m env iter2 ct elt x y scope cl mF Fin xv s₁)
    (hRR : ∀ D C h tk m' ys nx, h.Ns C m' → @Ne Nat C env.locals → h₀.get? C = none → @Ne Nat D C → Fr h₀ env.locals h m → News h₀ env.locals h ((D, LCg.lst ys) :: nx) → (∀ p ∈ nx, p.1 ≠ C) → (∀ h' tk', Fr h₀ env.locals h' (mF D) → News h₀ env.locals h' ((D, LCg.lst ys) :: nx) → Fin D { s₁ with heap := h', toks := tk' }) → RR (.ref D) C (.ok .next) { s₁ with heap := h, toks := tk }) :
    wpAny (model prog w) A (pyIter xv) (fun it s₂ => wpAny (model prog w) A (newList []) (fun acc s₃ => wpAny (model prog w) A (newFunctionEnv scope env.globals cl [] env.qual none .none (some env)) (fun cenv s₄ =>
      codeAny (model prog w) A (.compStart (nestE elt (.Name x px) iter (.Name y py) iter2 ct scope pos) 0 it acc { cenv with scope := relabel scope env }) (RR acc cenv.locals) s₄) E s₃) E s₂) E s₁ := by
  obtain ⟨r, a, b, t, u, v, n, news, J, rfl, hh, F, N, hr, hsm, hsz, h0, turn, done⟩ := h
  refine wpAny_pyIter_range hr hsm ?_
  rw [hsz]
  refine wpAny_newObj_type (wpAny_newFunctionEnv hcell (by intro y hy; simp at hy) (fun h₁ hns₁ hsb₁ => ?_) hkind)
  dsimp only at hns₁ hsb₁ ⊢
  have hI0 := next_is_new F
  have lL : @LT.lt Nat instLTNat env.locals s₁.heap.objs.size := F.ns.lt
  have lN : ∀ p ∈ news, @LT.lt Nat instLTNat p.1 s₁.heap.objs.size := fun p hp => Heap.lt_size (N p hp).1
  generalize hI : s₁.heap.objs.size = I at hI0 lL lN hns₁ hsb₁ ⊢
  generalize hH1 : s₁.heap.push { cls := .type "range_iterator", data := .fields #[rawInt a, rawInt (n : Int), rawInt 1] } = H1 at hns₁ hsb₁ ⊢
  have z1 : H1.objs.size = I + 1 := by rw [← hH1, Heap.size_push, hI]
  have k1 : ∀ b o, s₁.heap.get? b = some o → H1.get? b = some o := fun b o e => hH1 ▸ Heap.get?_push_of_some _ e
  have g1 : IsRangeIter H1 I (a + ((0 : Nat) : Int) * 1) ((n : Int) - ((0 : Nat) : Int)) 1 := by
    rw [← hH1, ← hI]
    simpa using Heap.get?_push_size s₁.heap rfl
  generalize hH2 : H1.push { cls := .type "list", dict := none, data := .seq ([] : List Value).toArray } = H2 at hns₁ hsb₁ ⊢
  have z2 : H2.objs.size = I + 1 + 1 := by rw [← hH2, Heap.size_push, z1]
  have k2 : ∀ b o, H1.get? b = some o → H2.get? b = some o := fun b o e => hH2 ▸ Heap.get?_push_of_some _ e
  have gD0 : H2.get? (I + 1) = some (LCg.lst []) := by rw [← hH2, ← z1]; exact Heap.get?_push_size _ rfl
  rw [z2] at hns₁ hsb₁ ⊢
  rw [z1]
  have n1 : @Ne Nat I (I + 1 + 1) := ne2 I
  have n2 : @Ne Nat I (I + 1) := ne1 I
  have n3 : @Ne Nat (I + 1 + 1) (I + 1) := Ne.symm (ne1 (I + 1))
  have old : ∀ b o, @LT.lt Nat instLTNat b (I + 1 + 1) → H2.get? b = some o → h₁.get? b = some o := fun b o hb e => hsb₁.extBut b o (Nat.ne_of_lt hb) (Heap.get?_push_of_some _ e)
  have old1 : ∀ b o, s₁.heap.get? b = some o → h₁.get? b = some o := fun b o e => old b o (by have : @LT.lt Nat instLTNat b I := hI ▸ Heap.lt_size e; exact Nat.lt_succ_of_lt (Nat.lt_succ_of_lt this)) (k2 _ _ (k1 _ _ e))
  have gI : IsRangeIter h₁ I (a + ((0 : Nat) : Int) * 1) ((n : Int) - ((0 : Nat) : Int)) 1 := old _ _ (Nat.lt_succ_of_lt (Nat.lt_succ_self I)) (k2 _ _ g1)
  have gD : h₁.get? (I + 1) = some (LCg.lst []) := old _ _ (Nat.lt_succ_self _) gD0
  have hLI : env.locals ≠ I := Nat.ne_of_lt lL
  have none₀ : ∀ b, @LE.le Nat instLENat I b → h₀.get? b = none := fun b hb => Heap.get?_none_of_le (Nat.le_trans (Nat.le_trans F.above (Nat.le_of_lt lL)) hb)
  have hCL : @Ne Nat (I + 1 + 1) env.locals := Nat.ne_of_gt (Nat.lt_succ_of_lt (Nat.lt_succ_of_lt lL))
  have hDL : @Ne Nat (I + 1) env.locals := Nat.ne_of_gt (Nat.lt_succ_of_lt lL)
  have W := LCg.range_walks (prog := prog) (w := w) (I := I) hh a n
  have loop : ∀ s₃ : Shared, s₃ = { s₁ with heap := h₁, toks := s₁.toks + ([] : List (Str × Value)).length } → codeAny (model prog w) A (.compLoop (nestE elt (.Name x px) iter (.Name y py) iter2 ct scope pos) 0 (.ref I) (.ref (I + 1)) (compEnvC scope cl (I + 1 + 1) env)) (RR (.ref (I + 1)) (I + 1 + 1)) s₃ := by
    rintro s₃ rfl
    refine nest_loop0
      (fun k s' => ∃ h' tk i ys m' nx, s' = { s₁ with heap := h', toks := tk } ∧ i ≤ n ∧ k = n + 1 - i ∧ IsRangeIter h' I (a + (i : Int) * 1) ((n : Int) - (i : Int)) 1 ∧ Fr h₀ env.locals h' m ∧ h'.Ns (I + 1 + 1) m' ∧ News h₀ env.locals h' ((I + 1, LCg.lst ys) :: nx) ∧ (∀ p ∈ nx, p.1 ≠ I ∧ p.1 ≠ I + 1 + 1 ∧ p.1 ≠ I + 1) ∧ J i ys nx) ?_ (hs2 _) (n + 1)
      ⟨h₁, _, 0, [], _, news, rfl, Nat.zero_le _, rfl, gI, F.keeps old1, hns₁, fun p hp => ?_, ?_, h0⟩
    · rintro k s' ⟨h', tk, i, ys, m', nx, rfl, hi, rfl, hst, F', hn', N', off, hJ⟩
      have nI : ∀ p ∈ (I + 1, LCg.lst ys) :: nx, p.1 ≠ I := fun p hp => by
        rcases List.mem_cons.mp hp with rfl | hp
        · exact Ne.symm n2
        · exact (off p hp).1
      by_cases hlt : i < n
      · refine W.item i _ _ _ hlt hst fun v h₂ tk₂ hPv hst₂ hk₂ => ?_
        obtain ⟨t', rfl⟩ := hPv
        refine wpAny_assign_Name (wpAny_storeName_local (lookup_relabel_local hx) (hn'.at' fun o e => hk₂ _ o (by simpa using Ne.symm n1) e) (fun h₃ hn₃ hs₃ => ?_) (by simp [compEnvC, relabel, hkind]))
        have hst₃ : IsRangeIter h₃ I (a + ((i + 1 : Nat) : Int) * 1) ((n : Int) - ((i + 1 : Nat) : Int)) 1 := hs₃.extBut _ _ n1 hst₂
        obtain ⟨oI, eI⟩ : ∃ o, h₃.get? I = some o := ⟨_, hst₃⟩
        have eoI : oI = _ := Option.some.inj (eI.symm.trans hst₃)
        obtain ⟨oC, eC, hoC⟩ := LCg.ns_obj hn₃
        have F₃ : Fr h₀ env.locals h₃ m := (LCg.fr_but F' hk₂ hLI hI0).change hs₃ hCL (none₀ _ (le2 I))
        have N₂ := LCg.news_but N' hk₂ nI
        have N₃ : News h₀ env.locals h₃ ((I, oI) :: (I + 1 + 1, oC) :: (I + 1, LCg.lst ys) :: nx) := fun p hp => by
          rcases List.mem_cons.mp hp with rfl | hp
          · exact ⟨eI, Ne.symm hLI, hI0⟩
          rcases List.mem_cons.mp hp with rfl | hp
          · exact ⟨eC, hCL, none₀ _ (le2 I)⟩
          · have z := N₂ p hp
            refine ⟨hs₃.extBut _ _ ?_ z.1, z.2⟩
            rcases List.mem_cons.mp hp with rfl | hp
            · exact Ne.symm n3
            · exact (off p hp).2.1
        refine wpAny_mono (turn i ys nx t' I oI _ oC _ _ h₃ _ _ hlt hJ hoC (if_pos rfl) F₃ N₃ off ⟨n1, n2, n3⟩) (fun xv s₄ h₄ => ?_) fun _ _ e => e
        refine nest_turn hh rfl (by simp [compEnvC, relabel, hkind]) (lookup_relabel_local hy) hxy ⟨n1, n2, n3⟩ h₄ ?_
        intro h₅ tk₅ ys₅ nx₅ m₅ F₅ N₅ hn₅ off₅ hJ₅
        refine ⟨n + 1 - (i + 1), by omega, h₅, tk₅, i + 1, ys₅, m₅, nx₅, rfl, hlt, rfl, ?_, F₅, hn₅, fun p hp => N₅ p (List.mem_cons_of_mem _ hp), off₅, hJ₅⟩
        have zI := (N₅ (I, oI) (List.mem_cons_self ..)).1
        rw [eoI] at zI
        exact zI
      · obtain rfl : i = n := Nat.le_antisymm hi (Nat.not_lt.mp hlt)
        refine W.done _ _ _ hst fun h₂ tk₂ hk₂ => ?_
        have F₂ := LCg.fr_but F' hk₂ hLI hI0
        have N₂ := LCg.news_but N' hk₂ nI
        exact hRR _ _ _ _ _ ys nx (hn'.at' fun o e => hk₂ _ o (by simpa using Ne.symm n1) e) hCL (none₀ _ (le2 I)) (Ne.symm n3) F₂ N₂ (fun p hp => (off p hp).2.1) fun h'' tk'' F'' N'' => done ys nx (I + 1) h'' tk'' hJ F'' N'' fun p hp => (off p hp).2.2
    · rcases List.mem_cons.mp hp with rfl | hp
      · exact ⟨gD, hDL, none₀ _ (Nat.le_succ _)⟩
      · exact ⟨old1 _ _ (N p hp).1, (N p hp).2⟩
    · intro p hp
      have this : @LT.lt Nat instLTNat p.1 I := lN p hp
      exact ⟨Nat.ne_of_lt this, Nat.ne_of_lt (lt1 this).2.1, Nat.ne_of_lt (lt1 this).1⟩
  exact codeAny_compStart_list (loop _ rfl) (W.self 0 _ _ _ gI (loop _ rfl))
theorem news_same {h₀ h h'' : Heap} {L C D : Addr} {ys : List Value} {nx : List (Addr × Obj)} (N : News h₀ L h ((D, LCg.lst ys) :: nx)) (hs : Heap.SameBut C h h'') (hDC : @Ne Nat D C) (off : ∀ p ∈ nx, p.1 ≠ C) : News h₀ L h'' ((D, LCg.lst ys) :: nx) := fun p hp => by
  refine ⟨hs.extBut _ _ ?_ (N p hp).1, (N p hp).2⟩
  rcases List.mem_cons.mp hp with rfl | hp
  · exact hDC
  · exact off p hp
/-- a comprehension with two for, for its value -/
theorem comp_nest {elt iter iter2 ct : Expr} {x y : Str} {px py : Pos} {scope : Scope} {cl : List (Str × Addr)} {pos : Pos} {Q : Value → Shared → Prop}
    (hclos : closureFor scope env = pure cl) (hcell : ∀ y ∈ scope.names, y.2 ≠ .cell) (hkind : scope.kind = .function) (hnames : ∀ y ∈ scope.names, y.2 = .local → scope.names.lookup y.1 = some .local)
    (hx : scope.names.lookup x = some .local) (hy : scope.names.lookup y = some .local) (hxy : x ≠ y) (hs2 : ∀ C v, foldedSetIterable iter2 (compEnvC scope cl C env) v = pure v)
    (h : wpAny (model prog w) A (eval iter env) (NestFor prog w A h₀ m env iter2 ct elt x y scope cl (fun _ => m) (fun D s' => Q (.ref D) s')) E s) (hs : ∀ x, foldedSetIterable iter env x = pure x := by intro _; rfl) :
    wpAny (model prog w) A (eval (nestE elt (.Name x px) iter (.Name y py) iter2 ct scope pos) env) Q E s := by
  rw [eval_ListComp]
  refine wpAny_comprehension_free (use := none) rfl hs hclos hkind hnames (wpAny_mono h (fun xv s₁ h₁ => ?_) fun _ _ e => e)
  refine nest_block hcell hkind hx hy hxy hs2 h₁ ?_
  intro D C h' tk m' ys nx hn hCL hC₀ hDC F N off fin
  exact ⟨m', hn, fun h'' hs'' => fin h'' tk (F.change hs'' hCL hC₀) (news_same N hs'' hDC off)⟩
/-- the same, stored under a local name -/
theorem comp_nestA {elt iter iter2 ct : Expr} {x y z : Str} {px py pz : Pos} {scope : Scope} {cl : List (Str × Addr)} {pos spos : Pos} {Q : Flow → Shared → Prop}
    (hsw : swapsWith (nestE elt (.Name x px) iter (.Name y py) iter2 ct scope pos) (some (.Name z pz)) spos.line env = pure true)
    (hclos : closureFor scope env = pure cl) (hcell : ∀ y ∈ scope.names, y.2 ≠ .cell) (hkind : scope.kind = .function) (hnames : ∀ y ∈ scope.names, y.2 = .local → scope.names.lookup y.1 = some .local)
    (hx : scope.names.lookup x = some .local) (hy : scope.names.lookup y = some .local) (hxy : x ≠ y) (hs2 : ∀ C v, foldedSetIterable iter2 (compEnvC scope cl C env) v = pure v)
    (hz : env.kindOf z = some .local) (hp : (env.scope.kind == .class || (env.scope.kind == .module && env.locals != env.globals)) = false)
    (h : wpAny (model prog w) A (eval iter env) (NestFor prog w A h₀ m env iter2 ct elt x y scope cl (fun D q => if q = z then some (.ref D) else m q) (fun _ s' => Q .next s')) E s) (hs : ∀ x, foldedSetIterable iter env x = pure x := by intro _; rfl) :
    wpAny (model prog w) A (exec (.Assign [.Name z pz] (nestE elt (.Name x px) iter (.Name y py) iter2 ct scope pos) spos) env) Q E s := by
  rw [exec_Assign_Name_used _ _ _ _ hsw]
  refine wpAny_bind (wpAny_standAt (wpAny_bind ?_))
  show wpAny _ A (do let _ ← comprehension (nestE elt (.Name x px) iter (.Name y py) iter2 ct scope pos) scope env _ (newList []) false (eval iter env) (some (assign (.Name z pz) env))) _ _ s
  refine wpAny_bind (wpAny_mono (wpAny_comprehension_free (use := some (assign (.Name z pz) env)) (Q := fun _ s' => Q .next s') rfl hs hclos hkind hnames
    (wpAny_mono h (fun xv s₁ h₁ => ?_) fun _ _ e => e)) (fun _ s' hq => wpAny_pure (wpAny_pure hq)) fun _ _ e => e)
  refine nest_block hcell hkind hx hy hxy hs2 h₁ ?_
  intro D C h' tk m' ys nx hn hCL hC₀ hDC F N off fin
  show wpAny _ A (assign (.Name z pz) env (.ref D)) _ _ _
  refine wpAny_assign_Name (wpAny_storeName_local hz F.ns (fun h₂ hn₂ hs₂ => ?_) hp)
  have eL : h₀.get? env.locals = none := Heap.get?_none_of_le F.above
  have F₂ : Fr h₀ env.locals h₂ (fun q => if q = z then some (.ref D) else m q) := ⟨hn₂, fun b o e => hs₂.extBut b o (fun q => by rw [q, eL] at e; cases e) (F.keep b o e), F.above⟩
  exact ⟨m', hn.sameBut hs₂ hCL, fun h'' hs'' => fin h'' _ (F₂.change hs'' hCL hC₀) (news_same (fun p hp => ⟨hs₂.extBut _ _ (N p hp).2.1 (N p hp).1, (N p hp).2⟩) hs'' hDC off)⟩
end
end Mine
namespace Mine
open PySem PySem.W PySem.Spec PySem.Calls PyProof.Rows
section
variable {prog : Program} {w : World} {A : Around} {s : Shared} {env : Env} {h₀ : Heap} {m : Str → Option Value} {E : Value → Shared → Prop}
/-- what a turn hands on -/
def PairEnd (h₀ : Heap) (L : Addr) (m : Str → Option Value) (s₁ : Shared) (I : Addr) (oI : Obj) (C : Addr) (oC : Obj) (D : Addr) (oD : Obj) (J : List (Addr × Obj) → Prop) (s₂ : Shared) : Prop :=
  ∃ h tk nx, s₂ = { s₁ with heap := h, toks := tk } ∧ Fr h₀ L h m ∧ News h₀ L h ((I, oI) :: (C, oC) :: (D, oD) :: nx) ∧ (∀ p ∈ nx, p.1 ≠ I ∧ p.1 ≠ C ∧ p.1 ≠ D) ∧ J nx
/-- a comprehension over a list of pairs, with a test -/
def PairFor (prog : Program) (w : World) (A : Around) (h₀ : Heap) (m : Str → Option Value) (env : Env) (ct elt : Expr) (x y : Str) (scope : Scope) (cl : List (Str × Addr)) (Fin : Addr → Shared → Prop) (xv : Value) (s₁ : Shared) : Prop :=
  ∃ (ax : Addr) (its : Array Value) (k : Nat) (news : List (Addr × Obj)) (J : Nat → List Value → List (Addr × Obj) → Prop), xv = .ref ax ∧ A.handled = none ∧ Fr h₀ env.locals s₁.heap m ∧ News h₀ env.locals s₁.heap news ∧ (ax, ({ cls := .type "list", data := .seq its k } : Obj)) ∈ news ∧ its.size ≤ 1000 ∧
    J 0 [] news ∧ (∀ i ys nx, J i ys nx → (ax, ({ cls := .type "list", data := .seq its k } : Obj)) ∈ nx ∧ ys.length ≤ i) ∧
    (∀ i ys nx v, its[i]? = some v → J i ys nx → ∃ (t : Addr) (ot : Obj) (v₁ v₂ : Value) (nt : Nat), v = .ref t ∧ (t, ot) ∈ nx ∧ ot.cls = .type "tuple" ∧ ot.data = .seq #[v₁, v₂] nt ∧
      ∀ I oI C oC D m₂ h tk (E' : Value → Shared → Prop), LCg.NsObj oC m₂ → m₂ x = some v₁ → m₂ y = some v₂ → Fr h₀ env.locals h m → News h₀ env.locals h ((I, oI) :: (C, oC) :: (D, LCg.lst ys) :: nx) → (∀ p ∈ nx, p.1 ≠ I ∧ p.1 ≠ C ∧ p.1 ≠ D) → (@Ne Nat I C ∧ @Ne Nat I D ∧ @Ne Nat C D) →
      wpAny (model prog w) A (isTrue ct (compEnvC scope cl C env) (eval ct (compEnvC scope cl C env))) (fun ok s' => if ok = true then wpAny (model prog w) A (eval elt (compEnvC scope cl C env)) (fun y' s'' => PairEnd h₀ env.locals m s₁ I oI C oC D (LCg.lst ys) (J (i + 1) (ys ++ [y'])) s'') E' s'
        else PairEnd h₀ env.locals m s₁ I oI C oC D (LCg.lst ys) (J (i + 1) ys) s') E' { s₁ with heap := h, toks := tk }) ∧
    ∀ ys nx D h tk, J its.size ys nx → Fr h₀ env.locals h m → News h₀ env.locals h ((D, LCg.lst ys) :: nx) → (∀ p ∈ nx, p.1 ≠ D) → Fin D { s₁ with heap := h, toks := tk }
theorem comp_pair {elt iter ct : Expr} {x y : Str} {px py tp : Pos} {kk} {scope : Scope} {cl : List (Str × Addr)} {pos : Pos} {Q : Value → Shared → Prop}
    (hclos : closureFor scope env = pure cl) (hcell : ∀ y ∈ scope.names, y.2 ≠ .cell) (hkind : scope.kind = .function) (hnames : ∀ y ∈ scope.names, y.2 = .local → scope.names.lookup y.1 = some .local)
    (hx : scope.names.lookup x = some .local) (hy : scope.names.lookup y = some .local) (hxy : x ≠ y)
    (h : wpAny (model prog w) A (eval iter env) (PairFor prog w A h₀ m env ct elt x y scope cl (fun D s' => Q (.ref D) s')) E s) (hs : ∀ x, foldedSetIterable iter env x = pure x := by intro _; rfl) :
    wpAny (model prog w) A (eval (.ListComp elt [⟨.Tuple [.Name x px, .Name y py] kk tp, iter, [ct], 0⟩] scope pos) env) Q E s := by
  rw [eval_ListComp]
  refine wpAny_comprehension_free (use := none) rfl hs hclos hkind hnames (wpAny_mono h (fun xv s₁ h₁ => ?_) fun _ _ e => e)
  obtain ⟨ax, its, k, news, J, rfl, hh, F, N, hax, hsz, h0, hJm, turn, done⟩ := h₁
  have hl : s₁.heap.IsList ax its := ⟨_, (N _ hax).1, rfl, _, rfl⟩
  refine wpAny_pyIter_list hl ?_
  refine wpAny_newObj_type (wpAny_newFunctionEnv hcell (by intro y hy; simp at hy) (fun h₁ hns₁ hsb₁ => ?_) hkind)
  dsimp only at hns₁ hsb₁ ⊢
  have hI0 := next_is_new F
  have lL : @LT.lt Nat instLTNat env.locals s₁.heap.objs.size := F.ns.lt
  have lN : ∀ p ∈ news, @LT.lt Nat instLTNat p.1 s₁.heap.objs.size := fun p hp => Heap.lt_size (N p hp).1
  generalize hI : s₁.heap.objs.size = I at hI0 lL lN hns₁ hsb₁ ⊢
  have lax : @LT.lt Nat instLTNat ax I := lN _ hax
  generalize hH1 : s₁.heap.push { cls := .type "list_iterator", data := .fields #[.ref ax, .int 0 0] } = H1 at hns₁ hsb₁ ⊢
  have z1 : H1.objs.size = I + 1 := by rw [← hH1, Heap.size_push, hI]
  have k1 : ∀ b o, s₁.heap.get? b = some o → H1.get? b = some o := fun b o e => hH1 ▸ Heap.get?_push_of_some _ e
  have g1 : H1.IsListIter I ax 0 := by rw [← hH1, ← hI]; exact ⟨_, Heap.get?_push_size _ rfl, rfl, rfl⟩
  generalize hH2 : H1.push { cls := .type "list", dict := none, data := .seq ([] : List Value).toArray } = H2 at hns₁ hsb₁ ⊢
  have z2 : H2.objs.size = I + 1 + 1 := by rw [← hH2, Heap.size_push, z1]
  have k2 : ∀ b o, H1.get? b = some o → H2.get? b = some o := fun b o e => hH2 ▸ Heap.get?_push_of_some _ e
  have gD0 : H2.get? (I + 1) = some (LCg.lst []) := by rw [← hH2, ← z1]; exact Heap.get?_push_size _ rfl
  rw [z2] at hns₁ hsb₁ ⊢
  rw [z1]
  have n1 : @Ne Nat I (I + 1 + 1) := ne2 I
  have n2 : @Ne Nat I (I + 1) := ne1 I
  have n3 : @Ne Nat (I + 1 + 1) (I + 1) := Ne.symm (ne1 (I + 1))
  have old : ∀ b o, @LT.lt Nat instLTNat b (I + 1 + 1) → H2.get? b = some o → h₁.get? b = some o := fun b o hb e => hsb₁.extBut b o (Nat.ne_of_lt hb) (Heap.get?_push_of_some _ e)
  have old1 : ∀ b o, s₁.heap.get? b = some o → h₁.get? b = some o := fun b o e => old b o (by have : @LT.lt Nat instLTNat b I := hI ▸ Heap.lt_size e; exact Nat.lt_succ_of_lt (Nat.lt_succ_of_lt this)) (k2 _ _ (k1 _ _ e))
  have gI : h₁.IsListIter I ax 0 ∧ h₁.IsList ax its := by
    refine ⟨?_, ⟨_, old1 _ _ (N _ hax).1, rfl, _, rfl⟩⟩
    obtain ⟨o, e, r⟩ := g1
    exact ⟨o, old _ _ (Nat.lt_succ_of_lt (Nat.lt_succ_self I)) (k2 _ _ e), r⟩
  have gD : h₁.get? (I + 1) = some (LCg.lst []) := old _ _ (Nat.lt_succ_self _) gD0
  have hLI : env.locals ≠ I := Nat.ne_of_lt lL
  have none₀ : ∀ b, @LE.le Nat instLENat I b → h₀.get? b = none := fun b hb => Heap.get?_none_of_le (Nat.le_trans (Nat.le_trans F.above (Nat.le_of_lt lL)) hb)
  have hCL : @Ne Nat (I + 1 + 1) env.locals := Nat.ne_of_gt (Nat.lt_succ_of_lt (Nat.lt_succ_of_lt lL))
  have hDL : @Ne Nat (I + 1) env.locals := Nat.ne_of_gt (Nat.lt_succ_of_lt lL)
  have W := Walks.list (prog := prog) (w := w) hh I ax (Nat.ne_of_lt lax) its
  have fC : I + 1 + 1 ∉ [I, ax] := fun q => by
    rcases List.mem_cons.mp q with q | q
    · exact n1 q.symm
    · exact Nat.ne_of_gt (Nat.lt_succ_of_lt (Nat.lt_succ_of_lt lax)) (List.mem_singleton.mp q)
  have fD : I + 1 ∉ [I, ax] := fun q => by
    rcases List.mem_cons.mp q with q | q
    · exact n2 q.symm
    · exact Nat.ne_of_gt (Nat.lt_succ_of_lt lax) (List.mem_singleton.mp q)
  have loop : ∀ s₃ : Shared, s₃ = { s₁ with heap := h₁, toks := s₁.toks + ([] : List (Str × Value)).length } → codeAny (model prog w) A (.compLoop (.ListComp elt [⟨.Tuple [.Name x px, .Name y py] kk tp, iter, [ct], 0⟩] scope pos) 0 (.ref I) (.ref (I + 1)) (compEnvC scope cl (I + 1 + 1) env))
      (compPost (model prog w) A E none Q (.ref (I + 1)) (I + 1 + 1)) s₃ := by
    rintro s₃ rfl
    refine kct_loop
      (fun k s' => ∃ h' tk i ys m' nx, s' = { s₁ with heap := h', toks := tk } ∧ i ≤ its.size ∧ k = its.size + 1 - i ∧ (h'.IsListIter I ax i ∧ h'.IsList ax its) ∧ Fr h₀ env.locals h' m ∧ h'.Ns (I + 1 + 1) m' ∧ News h₀ env.locals h' ((I + 1, LCg.lst ys) :: nx) ∧ (∀ p ∈ nx, p.1 ≠ I ∧ p.1 ≠ I + 1 + 1 ∧ p.1 ≠ I + 1) ∧ J i ys nx) ?_ (its.size + 1)
      ⟨h₁, _, 0, [], _, news, rfl, Nat.zero_le _, rfl, gI, F.keeps old1, hns₁, fun p hp => ?_, ?_, h0⟩
    · rintro k s' ⟨h', tk, i, ys, m', nx, rfl, hi, rfl, hst, F', hn', N', off, hJ⟩
      have nI : ∀ p ∈ (I + 1, LCg.lst ys) :: nx, p.1 ≠ I := fun p hp => by
        rcases List.mem_cons.mp hp with rfl | hp
        · exact Ne.symm n2
        · exact (off p hp).1
      by_cases hlt : i < its.size
      · refine W.item i _ _ _ hlt hst fun v h₂ tk₂ hPv hst₂ hk₂ => ?_
        obtain ⟨t, ot, v₁, v₂, nt, rfl, hmt, hct, hdt, hturn⟩ := turn i ys nx v hPv hJ
        have N₂ := LCg.news_but N' hk₂ nI
        have ht : IsTup h₂ t #[v₁, v₂] := ⟨ot, (N₂ _ (List.mem_cons_of_mem _ hmt)).1, hct, nt, hdt⟩
        refine wpAny_letOwnedTupleGo_listiter hst₂.1 ?_
        refine assign_Tuple_tuple hh ht rfl rfl fun h₅ he => ?_
        have he' : ∀ b o, h₂.get? b = some o → h₅.get? b = some o := fun b o e => he b o (Nat.ne_of_lt (Heap.lt_size e)) e
        refine assignInOrder_cons (wpAny_assign_Name (wpAny_storeName_local (lookup_relabel_local hx) ((hn'.at' fun o e => hk₂ _ o (by simpa using Ne.symm n1) e).at' fun o e => he' _ o e) (fun h₆ hn₆ hs₆ => ?_) (by simp [compEnvC, relabel, hkind])))
        refine assignInOrder_cons (wpAny_assign_Name (wpAny_storeName_local (lookup_relabel_local hy) hn₆ (fun h₃ hn₃ hs₃ => ?_) (by simp [compEnvC, relabel, hkind])))
        refine assignInOrder_nil ?_
        have old3 : ∀ b o, b ≠ I + 1 + 1 → h₂.get? b = some o → h₃.get? b = some o := fun b o hb e => hs₃.extBut b o hb (hs₆.extBut b o hb (he' b o e))
        have hst₃ : h₃.IsListIter I ax (i + 1) ∧ h₃.IsList ax its := W.frame _ _ _ hst₂ fun b hb o e => old3 b o (fun q => fC (by rw [← q]; exact hb)) e
        obtain ⟨oI, eI, rI⟩ := id hst₃.1
        obtain ⟨oC, eC, hoC⟩ := LCg.ns_obj hn₃
        have F₃ : Fr h₀ env.locals h₃ m := (((LCg.fr_but F' hk₂ hLI hI0).keeps he').change hs₆ hCL (none₀ _ (le2 I))).change hs₃ hCL (none₀ _ (le2 I))
        have N₃ : News h₀ env.locals h₃ ((I, oI) :: (I + 1 + 1, oC) :: (I + 1, LCg.lst ys) :: nx) := fun p hp => by
          rcases List.mem_cons.mp hp with rfl | hp
          · exact ⟨eI, Ne.symm hLI, hI0⟩
          rcases List.mem_cons.mp hp with rfl | hp
          · exact ⟨eC, hCL, none₀ _ (le2 I)⟩
          · have z := N₂ p hp
            refine ⟨old3 _ _ ?_ z.1, z.2⟩
            rcases List.mem_cons.mp hp with rfl | hp
            · exact Ne.symm n3
            · exact (off p hp).2.1
        refine wpAny_mono (hturn I oI _ oC _ _ h₃ _ _ hoC ((if_neg hxy).trans (if_pos rfl)) (if_pos rfl) F₃ N₃ off ⟨n1, n2, n3⟩) (fun ok s₄ h₄ => ?_) fun _ _ e => e
        have st : ∀ h₅ nx₅ ys₅, News h₀ env.locals h₅ ((I, oI) :: nx₅) → J (i + 1) ys₅ nx₅ → h₅.IsListIter I ax (i + 1) ∧ h₅.IsList ax its := fun h₅ nx₅ ys₅ N₅ hJ₅ =>
          ⟨⟨oI, (N₅ _ (List.mem_cons_self ..)).1, rI⟩, ⟨_, (N₅ _ (List.mem_cons_of_mem _ (hJm _ _ _ hJ₅).1)).1, rfl, _, rfl⟩⟩
        cases ok with
        | true =>
          simp only [if_true] at h₄ ⊢
          refine wpAny_mono h₄ (fun y' s₅ h₅ => ?_) fun _ _ e => e
          obtain ⟨h₅, tk₅, nx₅, rfl, F₅, N₅, off₅, hJ₅⟩ := h₅
          have zC := (N₅ (I + 1 + 1, oC) (.tail _ (.head _))).1
          have zD := (N₅ (I + 1, LCg.lst ys) (.tail _ (.tail _ (.head _)))).1
          have N₅' : News h₀ env.locals h₅ nx₅ := fun p hp => N₅ p (.tail _ (.tail _ (.tail _ hp)))
          have hst₅ := st h₅ nx₅ _ (fun p hp => (List.mem_cons.mp hp).elim (fun e => e ▸ N₅ (I, oI) (.head _)) fun hp => N₅ p (.tail _ (.tail _ (.tail _ hp)))) hJ₅
          refine append_at (hsz := by show ys.toArray.size ≤ sizeLine; rw [List.size_toArray, sizeLine_eq]; have := (hJm _ _ _ hJ).2; omega) zD fun h₆ hs₆ hD₆ => ?_
          refine ⟨its.size + 1 - (i + 1), by omega, h₆, tk₅, i + 1, ys ++ [y'], _, nx₅, rfl, hlt, rfl, W.frame _ _ _ hst₅ fun b hb o e => hs₆.extBut b o (fun q => fD (q ▸ hb)) e, F₅.change hs₆ hDL (none₀ _ (Nat.le_succ I)), (hoC.ns zC).sameBut hs₆ n3, fun p hp => ?_, off₅, hJ₅⟩
          rcases List.mem_cons.mp hp with rfl | hp
          · exact ⟨hD₆.trans (congrArg some (LCg.lst_snoc ys y')), hDL, none₀ _ (Nat.le_succ I)⟩
          · exact ⟨hs₆.extBut _ _ (off₅ p hp).2.2 (N₅' p hp).1, (N₅' p hp).2⟩
        | false =>
          simp only [Bool.false_eq_true, if_false] at h₄ ⊢
          obtain ⟨h₅, tk₅, nx₅, rfl, F₅, N₅, off₅, hJ₅⟩ := h₄
          have zC := (N₅ (I + 1 + 1, oC) (.tail _ (.head _))).1
          have hst₅ := st h₅ nx₅ _ (fun p hp => (List.mem_cons.mp hp).elim (fun e => e ▸ N₅ (I, oI) (.head _)) fun hp => N₅ p (.tail _ (.tail _ (.tail _ hp)))) hJ₅
          refine ⟨its.size + 1 - (i + 1), by omega, h₅, tk₅, i + 1, ys, _, nx₅, rfl, hlt, rfl, hst₅, F₅, hoC.ns zC, fun p hp => (List.mem_cons.mp hp).elim (fun e => e ▸ N₅ (I + 1, LCg.lst ys) (.tail _ (.tail _ (.head _)))) fun hp => N₅ p (.tail _ (.tail _ (.tail _ hp))), off₅, hJ₅⟩
      · obtain rfl : i = its.size := Nat.le_antisymm hi (Nat.not_lt.mp hlt)
        refine W.done _ _ _ hst fun h₂ tk₂ hk₂ => ?_
        have F₂ := LCg.fr_but F' hk₂ hLI hI0
        have N₂ := LCg.news_but N' hk₂ nI
        exact ⟨_, hn'.at' fun o e => hk₂ _ o (by simpa using Ne.symm n1) e, fun h'' hs'' => done ys nx (I + 1) h'' _ hJ (F₂.change hs'' hCL (none₀ _ (le2 I))) (news_same N₂ hs'' (Ne.symm n3) fun p hp => (off p hp).2.1) fun p hp => (off p hp).2.2⟩
    · rcases List.mem_cons.mp hp with rfl | hp
      · exact ⟨gD, hDL, none₀ _ (Nat.le_succ _)⟩
      · exact ⟨old1 _ _ (N p hp).1, (N p hp).2⟩
    · intro p hp
      have this : @LT.lt Nat instLTNat p.1 I := lN p hp
      exact ⟨Nat.ne_of_lt this, Nat.ne_of_lt (lt1 this).2.1, Nat.ne_of_lt (lt1 this).1⟩
  exact codeAny_compStart_list (loop _ rfl) (W.self 0 _ _ _ gI (loop _ rfl))
end
end Mine
namespace Mine
open PySem PySem.W PySem.Spec PySem.Calls PyProof.Rows
/-- the letters of a set -/
def setW (sh c : Nat) : List Str := (bitsB c 4).map fun k => W (sh + k)
theorem set_bits : ∀ sh, sh < 10 → ∀ c, c < 16 → bitsB (c * 2 ^ sh) 32 = (bitsB c 4).map (sh + ·) := by decide +kernel
theorem set_told {sh c : Nat} (hsh : sh < 10) (hc : c < 16) : pf (c * 2 ^ sh) = if c = 0 then Str.ofString "0x0" else Txt.join (Str.ofString ", ") (setW sh c) := by
  unfold pf pfNames
  by_cases h : c = 0
  · rw [h, Nat.zero_mul, if_pos rfl, if_pos rfl]
    decide +kernel
  · have h2 : c * 2 ^ sh ≠ 0 := Nat.mul_ne_zero h (Nat.ne_of_gt (Nat.two_pow_pos _))
    rw [if_neg h2, if_neg h, set_bits sh hsh c hc, List.map_map]
    rfl
theorem set_small {sh c : Nat} (hsh : sh < 10) (hc : c < 16) : c * 2 ^ sh < 2 ^ 32 := by
  have := Nat.mul_le_mul (Nat.le_of_lt hc) (Nat.pow_le_pow_right (show 0 < 2 by decide) (Nat.le_of_lt hsh))
  omega
theorem bits_lt4 {c i : Nat} (h : i ∈ bitsB c 4) : i < 4 := List.mem_range.mp (List.mem_filter.mp h).1
theorem bits_len4 (c : Nat) : (bitsB c 4).length ≤ 4 := Nat.le_trans (List.length_filter_le _ _) (by rw [List.length_range]; exact Nat.le_refl _)
theorem setW_len (sh c : Nat) : (setW sh c).length = (bitsB c 4).length := by unfold setW; rw [List.length_map]
theorem setW_map {sh c : Nat} : setW sh c = ((bitsB c 4).map (sh + ·)).map W := by unfold setW; rw [List.map_map]; rfl
theorem bits_ne4 : ∀ c, c < 16 → c ≠ 0 → bitsB c 4 ≠ [] := by decide +kernel
theorem set_weight : ∀ sh, sh < 10 → ∀ c, c < 16 → ((setW sh c).map (·.length)).sum + (setW sh c).length ≤ 1048576 := by decide +kernel
theorem set_size : ∀ sh, sh < 10 → ∀ c, c < 16 → (Txt.join (Str.ofString ", ") (setW sh c)).length ≤ 1000 := fun sh hsh c hc => by
  rw [setW_map]
  refine told_len (fun p hp => ?_) (by rw [List.length_map]; exact Nat.le_trans (bits_len4 c) (by decide))
  obtain ⟨k, hk, rfl⟩ := List.mem_map.mp hp
  have := bits_lt4 hk
  show sh + k < 32
  omega
theorem set_split {sh c : Nat} (hsh : sh < 10) (hc : c < 16) (h0 : c ≠ 0) : Txt.split (Txt.join (Str.ofString ", ") (setW sh c)) (Str.ofString ", ") = setW sh c := by
  rw [setW_map]
  refine split_words (fun e => bits_ne4 c hc h0 (List.map_eq_nil_iff.mp e)) fun p hp => ?_
  obtain ⟨k, hk, rfl⟩ := List.mem_map.mp hp
  have := bits_lt4 hk
  show sh + k < 32
  omega
theorem set_fits {X : Str} {sh c : Nat} (hsh : sh < 10) (hc : c < 16) (hX : X = if c = 0 then Str.ofString "0x0" else Txt.join (Str.ofString ", ") (setW sh c)) (h0 : c ≠ 0) : X.length + 2 ≤ sizeLine := by
  rw [if_neg h0] at hX
  rw [hX]
  exact Nat.le_trans (Nat.add_le_add_right (set_size sh hsh c hc) 2) (by rw [sizeLine_eq]; decide)
theorem set_el {X : Str} {sh c : Nat} (hsh : sh < 10) (hc : c < 16) (hX : X = if c = 0 then Str.ofString "0x0" else Txt.join (Str.ofString ", ") (setW sh c)) (h0 : c ≠ 0) : Txt.split X (Str.ofString ", ") = setW sh c := by
  rw [if_neg h0] at hX
  rw [hX]
  exact set_split hsh hc h0
theorem pos_ne {c : Nat} (h : (c : Int) > 0) : c ≠ 0 := by omega
theorem npos_eq {c : Nat} (h : ¬ (c : Int) > 0) : c = 0 := by omega
theorem swap2 {α : Type} {a c c' : α} {tl : List α} : ∀ p ∈ a :: c' :: tl, p = c' ∨ p ∈ a :: c :: tl := fun p hp => by
  rcases List.mem_cons.mp hp with rfl | hp
  · exact .inr (List.mem_cons_self ..)
  rcases List.mem_cons.mp hp with rfl | hp
  · exact .inl rfl
  · exact .inr (List.mem_cons_of_mem _ (List.mem_cons_of_mem _ hp))
theorem setW_zero (sh : Nat) : setW sh 0 = [] := by unfold setW; rw [show bitsB 0 4 = [] from by decide +kernel]; rfl
theorem shl_cast (c sh : Nat) : (c : Int) * 2 ^ (sh : Int).toNat = ((c * 2 ^ sh : Nat) : Int) := by
  rw [Int.toNat_natCast, Int.natCast_mul, Int.natCast_pow]; rfl
end Mine
namespace Mine
open PySem PySem.W PySem.Spec PySem.Calls PyProof.Rows
def frB (prs : List (Nat × Nat)) (i j : Nat) : Bool := prs.contains (i, j) || prs.contains (j, i)
def okPair (prs : List (Nat × Nat)) (S : List Nat) (i j : Nat) : Bool := (List.range j).all fun b => frB prs (S.getD i 0) (S.getD b 0)
def indepTo (prs : List (Nat × Nat)) (S : List Nat) (i : Nat) : Bool := (List.range i).all fun a => okPair prs S a a
def termC (prs : List (Nat × Nat)) (c : Nat) : Int := if indepTo prs (bitsB c 4) (bitsB c 4).length = true then (-1) ^ (bitsB c 4).length * 1024 ^ (4 - (bitsB c 4).length) else 0
theorem okPair_succ (prs : List (Nat × Nat)) (S : List Nat) (i j : Nat) : okPair prs S i (j + 1) = (okPair prs S i j && frB prs (S.getD i 0) (S.getD j 0)) := by
  unfold okPair; rw [List.range_succ, List.all_append]; simp
theorem indepTo_succ (prs : List (Nat × Nat)) (S : List Nat) (i : Nat) : indepTo prs S (i + 1) = (indepTo prs S i && okPair prs S i i) := by
  unfold indepTo; rw [List.range_succ, List.all_append]; simp
theorem setW_at {sh c k : Nat} (h : k < (bitsB c 4).length) : (setW sh c).getD (k : Int).toNat Str.empty = W (sh + (bitsB c 4).getD k 0) := by
  unfold setW
  rw [Int.toNat_natCast, List.getD_eq_getElem?_getD, List.getD_eq_getElem?_getD, List.getElem?_map, List.getElem?_eq_getElem h]
  rfl
theorem bitsD_lt {c k : Nat} (h : k < (bitsB c 4).length) : (bitsB c 4).getD k 0 < 4 := by
  rw [List.getD_eq_getElem?_getD, List.getElem?_eq_getElem h]
  exact bits_lt4 (List.getElem_mem h)
theorem strs_at {vs : List Value} {ys : List Str} (h : StrsAre vs ys) : ∀ {i : Nat} {v : Value}, vs[i]? = some v → ∃ y t, v = .str y t ∧ ys[i]? = some y := by
  induction h with
  | nil => intro i v e; simp at e
  | cons y t _ ih =>
    intro i v e
    cases i with
    | zero => rw [List.getElem?_cons_zero] at e ⊢; exact ⟨y, t, (Option.some.inj e).symm, rfl⟩
    | succ i => rw [List.getElem?_cons_succ] at e ⊢; exact ih e
theorem setW_get {sh c j : Nat} {y : Str} (h : (setW sh c)[j]? = some y) : y = W (sh + (bitsB c 4).getD j 0) ∧ j < (bitsB c 4).length := by
  unfold setW at h
  rw [List.getElem?_map] at h
  rcases Nat.lt_or_ge j (bitsB c 4).length with hj | hj
  · rw [List.getElem?_eq_getElem hj] at h
    rw [List.getD_eq_getElem?_getD, List.getElem?_eq_getElem hj]
    exact ⟨(Option.some.inj h).symm, hj⟩
  · rw [List.getElem?_eq_none hj] at h
    cases h
end Mine
namespace Mine
open PySem PySem.W PySem.Spec PySem.Calls PyProof.Rows
theorem pickTo (vs : List Value) (k : Nat) : (slicePick vs.toArray none (some (k : Int)) none).toList = vs.take k := by
  have e : sliceBounds none (some (k : Int)) none vs.toArray.size = (((0 : Nat) : Int), ((min k vs.toArray.size : Nat) : Int), 1) := by
    simp only [sliceBounds, Option.getD_none, show (1 : Int) > 0 by decide, if_true, if_neg (show ¬ ((k : Int) < 0) by omega)]
    congr 1
    congr 1
    omega
  rw [kmk_pick_nat _ e]
  show (vs.drop 0).take (min k vs.toArray.size - 0) = _
  rw [List.drop_zero, Nat.sub_zero, List.size_toArray, kmk_take_min]
end Mine
namespace Mine
open PySem PySem.W PySem.Spec PySem.Calls PyProof.Rows
theorem intsA_snoc {vs : List Value} {ns : List Int} (h : IntsAre vs ns) (z : Int) (t : Tok) : IntsAre (vs ++ [.int z t]) (ns ++ [z]) := by
  induction h with
  | nil => exact .cons _ _ .nil
  | cons n t _ ih => exact .cons _ _ ih
end Mine
namespace Mine
open PySem PySem.W PySem.Spec PySem.Calls PyProof.Rows
section
variable {prog : Program} {w : World} {A : Around} {E : Value → Shared → Prop} {s : Shared} {a b : Int} {t u : Tok} {Q : Value → Shared → Prop}
theorem pow_I {n : Nat} {e : Int} (he : e = (n : Int)) (hn : n ≤ 1000) (ha : a.natAbs < 2 ^ 64) (h : ∀ z t' k', IsI (a ^ n) z → Q (.int z t') { s with toks := k' }) : wpAny (model prog w) A (binaryOp .Pow (.int a t) (.int e u)) Q E s := by
  subst he
  refine pow_int_small (Int.natCast_nonneg _) (by omega) ha (h _ _ _ ⟨?_⟩)
  rw [Int.toNat_natCast]
end
theorem sign_bits : ∀ n, n < 5 → Builtin.Int.intBits ((-1 : Int) ^ n) ≤ 64 := by decide +kernel
theorem sign_ok {n : Nat} {z1 : Int} (hn : n < 5) (h : IsI ((-1 : Int) ^ n) z1) (z2 : Int) : IntMulOk z1 z2 := by
  refine IntMulOk.of_left ?_
  rw [← h.e]
  exact sign_bits n hn
theorem term_yes {prs : List (Nat × Nat)} {c : Nat} {z1 z2 z3 dv : Int} (hi : indepTo prs (bitsB c 4) (bitsB c 4).length = true) (h1 : IsI ((-1 : Int) ^ (bitsB c 4).length) z1) (h2 : IsI ((1024 : Int) ^ (4 - (bitsB c 4).length)) z2) (h3 : IsI (z1 * z2) z3) : dv + z3 = dv + termC prs c := by
  unfold termC
  rw [if_pos hi, h1.e, h2.e, h3.e]
theorem term_no {prs : List (Nat × Nat)} {c : Nat} (dv : Int) (hi : ¬ indepTo prs (bitsB c 4) (bitsB c 4).length = true) : dv = dv + termC prs c := by
  unfold termC
  rw [if_neg hi, Int.add_zero]
end Mine
namespace Mine
open PySem PySem.W PySem.Spec PySem.Calls PyProof.Rows
def dvTo (prs : List (Nat × Nat)) : Nat → Int
  | 0 => 0
  | c + 1 => dvTo prs c + termC prs c
theorem term_pow : ∀ n, n < 5 → ((-1 : Int) ^ n * 1024 ^ (4 - n)).natAbs ≤ 2 ^ 40 := by decide +kernel
theorem termC_bd (prs : List (Nat × Nat)) (c : Nat) : (termC prs c).natAbs ≤ 2 ^ 40 := by
  unfold termC
  split
  · exact term_pow _ (Nat.lt_succ_of_le (bits_len4 c))
  · decide
theorem dvTo_bd (prs : List (Nat × Nat)) : ∀ c, (dvTo prs c).natAbs ≤ c * 2 ^ 40
  | 0 => Nat.zero_le _
  | c + 1 => by
    have h1 := dvTo_bd prs c
    have h2 := termC_bd prs c
    rw [dvTo]
    omega
end Mine
namespace Mine
open PySem PySem.W PySem.Spec PySem.Calls PyProof.Rows
theorem set_smallI {sh c : Nat} (hsh : sh < 10) (hc : c < 16) : ((c * 2 ^ sh : Nat) : Int) < 2 ^ 32 := by
  have := set_small hsh hc
  omega
end Mine
namespace Mine
theorem dv_small (prs : List (Nat × Nat)) {i : Nat} (hi : i < 16) : (dvTo prs i).natAbs < 2 ^ 50 := by
  have := dvTo_bd prs i
  omega
end Mine
namespace Mine
open PySem PySem.W PySem.Spec PySem.Calls PyProof.Rows
theorem frTo_mem {prs : List (Nat × Nat)} {i j : Nat} : (i, j) ∈ frTo prs 4 ↔ i < 4 ∧ j < 4 ∧ i ≠ j ∧ frB prs i j = true := by
  unfold frTo frIn
  simp only [List.mem_flatMap, List.mem_map, List.mem_filter, List.mem_range, Prod.mk.injEq]
  unfold frTest frB
  constructor
  · rintro ⟨a, ha, b, ⟨hb, ht⟩, rfl, rfl⟩
    simp only [Bool.and_eq_true, Bool.not_eq_true', decide_eq_false_iff_not] at ht
    exact ⟨ha, hb, ht.1, ht.2⟩
  · rintro ⟨hi, hj, hne, ht⟩
    exact ⟨i, hi, j, ⟨hj, by simp only [Bool.and_eq_true, Bool.not_eq_true', decide_eq_false_iff_not]; exact ⟨hne, ht⟩⟩, rfl, rfl⟩
theorem frB_symm (prs : List (Nat × Nat)) (i j : Nat) : frB prs i j = frB prs j i := by unfold frB; rw [Bool.or_comm]
theorem frB_free {prs : List (Nat × Nat)} {i j : Nat} (hi : i < 4) (hj : j < 4) (h : i ≠ j) : frB (frTo prs 4) i j = frB prs i j := by
  have e1 : (frTo prs 4).contains (i, j) = frB prs i j := by
    rw [Bool.eq_iff_iff, List.contains_iff_mem, frTo_mem]
    exact ⟨fun h => h.2.2.2, fun h2 => ⟨hi, hj, h, h2⟩⟩
  have e2 : (frTo prs 4).contains (j, i) = frB prs j i := by
    rw [Bool.eq_iff_iff, List.contains_iff_mem, frTo_mem]
    exact ⟨fun h => h.2.2.2, fun h2 => ⟨hj, hi, Ne.symm h, h2⟩⟩
  rw [frB, e1, e2, frB_symm prs j i, Bool.or_self]
theorem bits_nodup (c : Nat) : (bitsB c 4).Nodup := (List.nodup_range).filter _
theorem term_congr {p p' : List (Nat × Nat)} (h : ∀ i j, i < 4 → j < 4 → i ≠ j → frB p i j = frB p' i j) (c : Nat) : termC p c = termC p' c := by
  have hp : ∀ i, i < (bitsB c 4).length → okPair p (bitsB c 4) i i = okPair p' (bitsB c 4) i i := fun i hi => by
    unfold okPair
    rw [Bool.eq_iff_iff, List.all_eq_true, List.all_eq_true]
    have key : ∀ b ∈ List.range i, frB p ((bitsB c 4).getD i 0) ((bitsB c 4).getD b 0) = frB p' ((bitsB c 4).getD i 0) ((bitsB c 4).getD b 0) := fun b hb => by
      have hb := List.mem_range.mp hb
      have hbl : b < (bitsB c 4).length := Nat.lt_trans hb hi
      refine h _ _ (bitsD_lt hi) (bitsD_lt hbl) fun e => ?_
      rw [List.getD_eq_getElem?_getD, List.getElem?_eq_getElem hi, List.getD_eq_getElem?_getD, List.getElem?_eq_getElem hbl] at e
      exact Nat.ne_of_gt hb ((List.getElem_inj (bits_nodup c)).mp e)
    exact ⟨fun H b hb => (key b hb) ▸ H b hb, fun H b hb => (key b hb) ▸ H b hb⟩
  have hi : indepTo p (bitsB c 4) (bitsB c 4).length = indepTo p' (bitsB c 4) (bitsB c 4).length := by
    unfold indepTo
    rw [Bool.eq_iff_iff, List.all_eq_true, List.all_eq_true]
    exact ⟨fun H a ha => (hp a (List.mem_range.mp ha)) ▸ H a ha, fun H a ha => (hp a (List.mem_range.mp ha)) ▸ H a ha⟩
  unfold termC
  rw [hi]
theorem dvTo_congr {p p' : List (Nat × Nat)} (h : ∀ i j, i < 4 → j < 4 → i ≠ j → frB p i j = frB p' i j) : ∀ c, dvTo p c = dvTo p' c
  | 0 => rfl
  | c + 1 => by rw [dvTo, dvTo, dvTo_congr h c, term_congr h]
theorem frTo_eq (prs : List (Nat × Nat)) : frTo prs 4 = free6 (frB prs 0 1) (frB prs 0 2) (frB prs 0 3) (frB prs 1 2) (frB prs 1 3) (frB prs 2 3) := by
  have t : ∀ i j, i ≠ j → frTest prs i j = frB prs i j := fun i j h => by
    unfold frTest frB; rw [decide_eq_false h]; rfl
  have n : ∀ i, frTest prs i i = false := fun i => by unfold frTest; rw [decide_eq_true rfl]; rfl
  have z : ∀ i, frIn prs i 0 = [] := fun i => rfl
  have z2 : frTo prs 0 = [] := rfl
  rw [frTo_succ, frTo_succ, frTo_succ, frTo_succ, z2]
  simp only [frIn_succ, z, n, List.nil_append, Bool.false_eq_true, if_false, List.append_nil]
  rw [t 0 1 (by decide), t 0 2 (by decide), t 0 3 (by decide), t 1 0 (by decide), t 1 2 (by decide), t 1 3 (by decide), t 2 0 (by decide), t 2 1 (by decide), t 2 3 (by decide), t 3 0 (by decide), t 3 1 (by decide), t 3 2 (by decide),
    frB_symm prs 1 0, frB_symm prs 2 0, frB_symm prs 3 0, frB_symm prs 2 1, frB_symm prs 3 1, frB_symm prs 3 2]
  unfold free6
  simp only [List.append_assoc]
/-- all that the law asks at the end, told from the pairs alone -/
def fin6 (F : List (Nat × Nat)) : Bool :=
  decide (0 < dvTo F 16) && (decide (dvTo F 16 < 2 ^ 50) && (decide (0 < 2 ^ 70 % (dvTo F 16).toNat) && (decide (2 ^ 70 / (dvTo F 16).toNat < 2 ^ 60) && (decide (digs 10 (2 ^ 70 / (dvTo F 16).toNat) (ndig (2 ^ 70 / (dvTo F 16).toNat) 10) = [((classesC (frOf F) 3 : Nat) : Int), ((classesC (frOf F) 2 : Nat) : Int), 4, 1])))))
set_option maxHeartbeats 4000000 in
theorem fin6_ok : ∀ a b c d e f : Bool, fin6 (free6 a b c d e f) = true := by decide +kernel
end Mine
namespace Mine
open PySem PySem.W PySem.Spec PySem.Calls PyProof.Rows
theorem fr_if3 {h₀ h : Heap} {L : Addr} {m c : Str → Option Value} {x1 x2 x3 : Str} {v1 v2 v3 : Option Value} (e : m = c) (F : Fr h₀ L h (fun y => if y = x1 then v1 else if y = x2 then v2 else if y = x3 then v3 else c y)) : Fr h₀ L h (fun y => if y = x1 then v1 else if y = x2 then v2 else if y = x3 then v3 else m y) := by
  rw [e]; exact F
theorem nat_ok {q : Nat} (hq : q < 2 ^ 60) (z : Int) : IntMulOk (q : Int) z := IntMulOk.of_left (intBits_le (by omega))
end Mine
namespace Mine
open PySem PySem.W PySem.Spec PySem.Calls PyProof.Rows
theorem fin_facts (prs : List (Nat × Nat)) : ∃ D q r : Nat, dvTo prs 16 = (D : Int) ∧ 2 ^ 70 = q * D + r ∧ 0 < r ∧ r < D ∧ D < 2 ^ 60 ∧ q < 2 ^ 60 ∧
    digs 10 q (ndig q 10) = [((classesC (frOf (frTo prs 4)) 3 : Nat) : Int), ((classesC (frOf (frTo prs 4)) 2 : Nat) : Int), 4, 1] ∧ okC (frOf (frTo prs 4)) 3 = true ∧ okC (frOf (frTo prs 4)) 2 = true := by
  have hdv : dvTo prs 16 = dvTo (frTo prs 4) 16 := dvTo_congr (fun i j hi hj h => (frB_free hi hj h).symm) 16
  have hfin : fin6 (frTo prs 4) = true := by rw [frTo_eq]; exact fin6_ok _ _ _ _ _ _
  have hok : okC (frOf (frTo prs 4)) 3 = true ∧ okC (frOf (frTo prs 4)) 2 = true := by rw [frTo_eq]; exact all_ok _ _ _ _ _ _
  rw [hdv]
  generalize frTo prs 4 = F at *
  unfold fin6 at hfin
  simp only [Bool.and_eq_true, decide_eq_true_eq] at hfin
  obtain ⟨h1, h2, h3, h4, h5⟩ := hfin
  obtain ⟨D, hD⟩ : ∃ D : Nat, dvTo F 16 = (D : Int) := ⟨(dvTo F 16).toNat, by omega⟩
  rw [hD, Int.toNat_natCast] at h3 h4 h5
  rw [hD] at h1 h2
  refine ⟨D, 2 ^ 70 / D, 2 ^ 70 % D, hD, ?_, h3, Nat.mod_lt _ (by omega), by omega, h4, h5, hok.1, hok.2⟩
  rw [Nat.mul_comm]
  exact (Nat.div_add_mod ..).symm
end Mine
set_option maxHeartbeats 400000
namespace Mine
open PySem PySem.W PyProof.Rows PySem.Spec PySem.Calls
local macro_rules | `(tactic| walk_at $k:str) => if k.getString ∈ ["exec For Name Name cons nil", "exec For Name Call cons nil", "CompSrc", "CompSrcT", "binaryOp BitXor int int"] then `(tactic| (refine Hold.out ?_)) else Lean.Macro.throwUnsupported
local macro_rules | `(tactic| walk_at "mine mem") => `(tactic| (first | assumption | with_reducible exact List.mem_cons_self .. | (refine List.mem_append_left _ ?_; walk_at "mine mem"; done) | (refine List.mem_append_right _ ?_; walk_at "mine mem"; done) | (refine List.mem_cons_of_mem _ ?_; walk_at "mine mem")))
local macro_rules | `(tactic| walk_at "mine sub") => `(tactic| (first | exact sub_n | with_reducible exact sub_r | (refine sub_c ?_ ?_; (case' refine_1 => walk_at "mine mem"); walk_at "mine sub") | (refine sub_a ?_ ?_; (case' refine_1 => walk_at "mine sub"); walk_at "mine sub") | (refine sub_l ?_; walk_at "mine sub"; done) | (refine sub_s ?_; walk_at "mine sub"; done) | (refine sub_t ?_; walk_at "mine sub")))
local macro_rules | `(tactic| k_all) => `(tactic| first | assumption | exact List.forall_mem_nil _ | (refine' List.forall_mem_cons.mpr ⟨?a, ?b⟩; (case a => k_ne); (case b => k_all)) | exact ne_allLt (by assumption) (by omega))
local macro_rules | `(tactic| walk_at "call ref") => `(tactic| ((fail_if_success (with_reducible show wpAny _ _ (call (Value.ref 182) _ _) _ _ _)); refine Hold.out ?_))
local macro_rules | `(tactic| walk_at "eval ListComp") => `(tactic| (first | ((with_reducible show wpAny _ _ (eval (Expr.ListComp _ [⟨Expr.Name _ _, _, [], _⟩] _ _) _) _ _ _); k_dflt (refine LCg.ListComp_U (F₀ := by k_asm) (by rfl) (by decide) (by rfl) (by decide) (by rfl) ?_)) | ((with_reducible show wpAny _ _ (eval (Expr.ListComp _ [⟨Expr.Name _ _, _, [_], _⟩] _ _) _) _ _ _); k_dflt (refine LCt.ListComp_T (F₀ := by k_asm) (by with_unfolding_all rfl) (by decide) (by rfl) (by decide) (by rfl) ?_)) | k_dflt (refine LCp.ListComp_P (F₀ := by k_asm) (by with_unfolding_all rfl) (by decide) (by rfl) (by decide) (by rfl) (by rfl) (by decide) ?_)))
local macro_rules | `(tactic| walk_at "call builtin:str.lower") => `(tactic| ((with_reducible show wpAny _ _ (call _ [Value.str _ _]) _ _ _); refine lower_T (by assumption) ?_; intro _ _))
local macro_rules | `(tactic| k_ne) => `(tactic| (refine neN ?_; (try dsimp only); first | assumption | exact Ne.symm (by assumption) | omega))
section
set_option maxHeartbeats 4000000 in
theorem pf_con {w : World} {loose : List PySem.Str} {mean : ExcName → Option Value} {mg mb : PySem.Str → Option Value} {news : List (Addr × Obj)} {e : Int} {tk : Tok} :
   Con PySem.Challenge.rw_re0161_02.row.prog w (Mine.pre.heap_1 w.params) PySem.Challenge.rw_re0161_02.row.prog loose mean mg mb 1 8 236 news (0 ≤ e ∧ e < 2^32) [.int e tk] [] (fun r nw => (∃ t, r = .str (pf e.toNat) t) ∧ news = nw) := by
  intro dp un gd cn cs a ccd cl outer A₀ base h₀ L m s Q E B F X N T XM hk hpre hd hu hret
  obtain ⟨n, rfl⟩ : ∃ n : Nat, e = (n : Int) := ⟨e.toNat, by omega⟩
  have hn32 : n < 2 ^ 32 := by omega
  rw [Int.toNat_natCast] at hret
  refine wpAny_call ?_
  k_dflt (refine' code_def ?k1 ?k2 ?k3 ?k4 ?k5 ?kA ?kF ?kK ?k6 ?k7 ?k8 ?k9 ?kB ?_ ?c2 ?c3 ?c4 ?c5; (case kA => exact rfl); (case kF => exact rfl); (case kK => first | exact rfl | assumption); (case k1 => k_asm); (case k2 => k_asm); (case k3 => k_asm); (case k4 => k_asm); (case k5 => k_asm); (case k6 => k_is); (case k7 => k_is); (case k8 => ktr_room); (case k9 => first | exact BindsTo.of_eq rfl | exact binds_K (by k_in) rfl (by k_is) rfl rfl rfl); (case c5 => decide); (case kB => exact locs rfl); (case c2 => exact rfl); (case c3 => exact rfl); (case c4 => exact rfl); k_whole; intro g' L' h' FG' F' N' B' X' T'; (try dsimp only); (try k_lift B'); (try k_fold))
  obtain ⟨mE, hmE, FE⟩ := fr_gen F'
  clear F'
  have XM' := Flt.MathXP.keeps _ _ _ XM FG'.keep
  have e0E : mE (Str.ofString "flags") = some (.int (n : Int) tk) := by rw [hmE]; rfl
  rw [know e0E] at FE
  clear hmE e0E
  k_steps
  rename_i tk' l' h' l1 h'' F' N'
  refine For_X (by assumption) (by rfl) (by rfl) ?_
  k_steps
  refine hideC (fun (i : Nat) (m : PySem.Str → Option Value) (G9 : List (Addr × Obj) → Prop) => ∀ (t : Tok) (vs : List Value), m (Str.ofString "flags") = some (.int ((n / 2 ^ i * 2 ^ i : Nat) : Int) t) → m (Str.ofString "names") = some (.ref l') →
     StrsAre vs ((bitsB n i).map W) → (n = 0 ∨ n / 2 ^ i ≠ 0) → G9 ((l', W.listOf vs.toArray vs.length) :: news)) ?_
  intro J1 toJ1 ofJ1
  refine range_H J1 (n := 32) rfl (by assumption) (by decide) (by decide) (by assumption) (by assumption) (toJ1 _ _ _ fun G9 k9 => k9 _ [] (by simp; rfl) (by rfl) .nil (by simp; omega)) ?_ ?_
  · intro Qb i t m₁ h tk₁ I it hQb hbr hi hic
    refine ofJ1 _ _ _ ?_
    intro t₂ vs hf hn hs hz hI F₁ N₁
    clear ofJ1
    rw [know2 hn hf] at F₁
    clear hf hn
    have hle := Nat.le_trans (Nat.le_of_eq (strsAre_len hs)) (Nat.le_trans (Nat.le_of_eq (List.length_map ..)) (bitsB_len n i))
    k_steps
    · refine P.hex_of_int ?_ (hex_fits hi)
      rename_i hb kyX
      rw [pf_and] at hb
      have hb' : n.testBit i = true := by
        by_cases q : n.testBit i = true
        · exact q
        · rw [if_neg q] at hb; exact absurd rfl hb
      clear hb
      walk1
      refine wp_cut (fun v => ∃ t', v = .str (W i) t') ?_ ?_
      · k_steps
        all_goals refine CutP.of ⟨_, congrArg (fun x => Value.str x _) ?_⟩
        all_goals first | exact W_0 (by assumption) | exact W_1 (by assumption) | exact W_2 (by assumption) | exact W_3 (by assumption) | exact W_4 (by assumption) | exact W_5 (by assumption) | exact W_6 (by assumption) | exact W_7 (by assumption) | exact W_8 (by assumption) | exact W_9 (by assumption) | exact W_hi' (by assumption) (by assumption) (by assumption) (by assumption) (by assumption) (by assumption) (by assumption) (by assumption) (by assumption) (by assumption)
      · rintro _ tk₂ ⟨t', rfl⟩
        dsimp only
        k_steps
        refine append_M (by assumption) (by assumption) (.tail (Ne.symm (hI _ (List.mem_cons_self ..))) (.head fun p hp => Nat.ne_of_lt (l1 p hp))) (by omega) (fun h₃ F₃ N₃ => ?_)
        k_steps
        · rename_i hx
          rw [pf_xor hb'] at hx
          refine hQb _ _ _ _ (by assumption) (by assumption) ?_ (toJ1 _ _ _ fun G9 k9 => k9 _ _ (congrArg (fun z => some (Value.int z _)) (pf_xor hb')) (by rfl) ?_ ?_)
          · intro p hp
            rcases List.mem_cons.mp hp with rfl | hp
            · have hIl := hI _ (List.mem_cons_self ..)
              exact hIl
            · exact hI p (List.mem_cons_of_mem _ hp)
          · rw [bitsB_succ, hb', if_pos rfl, List.map_append]
            exact strsAre_snoc hs _ _
          · exact .inr fun q => hx (by rw [q, Nat.zero_mul]; rfl)
        · rename_i hx
          rw [pf_xor hb'] at hx
          have hx' : n / 2 ^ (i + 1) = 0 := shr_zero (Int.ofNat.inj hx)
          have hn0 : n ≠ 0 := fun q => by rw [q] at hb'; simp at hb'
          have hss := strsAre_snoc hs (W i) t'
          rw [show List.map W (bitsB n i) ++ [W i] = pfNames n by rw [← pf_of_bits (i := i + 1) hi hx' hn0, bitsB_succ, hb', if_pos rfl, List.map_append]; rfl] at hss
          refine hbr _ ?_
          k_steps
          refine join_listW (by is_list) (by simpa using hss) (by decide) (pfNames_weight n) ?_
          intro t' k'
          k_steps
          exact hret _ _ _ _ (by assumption) (news_sub (by assumption) fun p hp => List.mem_cons_of_mem _ (List.mem_cons_of_mem _ hp)) ⟨⟨_, rfl⟩, rfl⟩
    · rename_i hb
      rw [pf_and] at hb
      have hb' : n.testBit i = false := by
        by_cases q : n.testBit i = true
        · rw [if_pos q] at hb; have := Nat.two_pow_pos i; omega
        · simpa using q
      refine hQb _ _ _ _ (by assumption) (by assumption) hI (toJ1 _ _ _ fun G9 k9 => k9 t₂ vs ?_ (by rfl) ?_ ?_)
      · rw [← shr_next0 hb']; rfl
      · rw [bitsB_succ, hb']; simpa using hs
      · exact not_zero_next hz hb'
  · intro m₁ h tk₁
    refine ofJ1 _ _ _ ?_
    intro t₂ vs hf hn hs hz F₁ N₁
    rw [know2 hn hf] at F₁
    clear hf hn
    have hn0 : n = 0 := by
      rcases hz with q | q
      · exact q
      · exact absurd (Nat.div_eq_of_lt (by assumption)) q
    subst hn0
    cases hs
    k_steps
    exact hret _ _ _ _ (by assumption) (news_sub (by assumption) fun p hp => List.mem_cons_of_mem _ hp) ⟨⟨_, rfl⟩, rfl⟩
end
section
local macro_rules | `(tactic| walk_at "mine 0") => Lean.Macro.throwUnsupported
abbrev nameRec : Flt.PatRec := ⟨Str.ofString "_name_disallowed_re", nameCode.toList, 0, 0⟩
abbrev valRec : Flt.PatRec := ⟨Str.ofString "_value_disallowed_re", valCode.toList, 0, 0⟩
theorem pats_name : (Flt.patsOf PySem.Challenge.rw_re0161_02.row.prog).find? (fun r => r.name == Str.ofString "_name_disallowed_re") = some nameRec := by kernel_rfl
theorem pats_val : (Flt.patsOf PySem.Challenge.rw_re0161_02.row.prog).find? (fun r => r.name == Str.ofString "_value_disallowed_re") = some valRec := by kernel_rfl
theorem pats_of {w : World} {loose : List PySem.Str} {mean : ExcName → Option Value} {mg mb : PySem.Str → Option Value} {h : Heap} (XM : Flt.MathXP PySem.Challenge.rw_re0161_02.row.prog mg h) (X : (Mine.pre.heap_1 w.params).In h) (T : Top topProg loose mean mg mb h) :
    Flt.IsPattern h 48 nameRec ∧ Flt.IsPattern h 53 valRec :=
  ⟨pat_at XM (mg_of X T.g (n := Str.ofString "_name_disallowed_re") (v := .ref 48) rfl) pats_name, pat_at XM (mg_of X T.g (n := Str.ofString "_value_disallowed_re") (v := .ref 53) rfl) pats_val⟩
end
section
local macro_rules | `(tactic| walk_at "mine 0") => Lean.Macro.throwUnsupported
local macro_rules | `(tactic| walk_at $k:str) => if k.getString ∈ ["getMethod ref", "call builtin:re.Pattern.search"] then `(tactic| (refine Hold.out ?_)) else Lean.Macro.throwUnsupported
theorem conv_con {w : World} {loose : List PySem.Str} {mean : ExcName → Option Value} {mg mb : PySem.Str → Option Value} {news : List (Addr × Obj)} {t : Value} {x : Str} {tk : Tok} {b : Bool} :
   Con PySem.Challenge.rw_re0161_02.row.prog w (Mine.pre.heap_1 w.params) PySem.Challenge.rw_re0161_02.row.prog loose mean mg mb 1 8 83 news (Txl x) [t, .str x tk] [(Str.ofString "name", .bool b)] (fun r nw => r = .str x tk ∧ news = nw) := by
  intro dp un gd cn cs a ccd cl outer A₀ base h₀ L m s Q E B F X N T XM hk hp1 hd hu hret
  refine wpAny_call ?_
  k_dflt (refine' code_def ?k1 ?k2 ?k3 ?k4 ?k5 ?kA ?kF ?kK ?k6 ?k7 ?k8 ?k9 ?kB ?_ ?c2 ?c3 ?c4 ?c5; (case kA => exact rfl); (case kF => exact rfl); (case kK => first | exact rfl | assumption); (case k1 => k_asm); (case k2 => k_asm); (case k3 => k_asm); (case k4 => k_asm); (case k5 => k_asm); (case k6 => k_is); (case k7 => k_is); (case k8 => ktr_room); (case k9 => first | exact BindsTo.of_eq rfl | exact binds_K (by k_in) rfl (by k_is) rfl rfl rfl); (case c5 => decide); (case kB => exact locs rfl); (case c2 => exact rfl); (case c3 => exact rfl); (case c4 => exact rfl); k_whole; intro g' L' h' FG' F' N' B' X' T'; (try dsimp only); (try k_lift B'); (try k_fold))
  obtain ⟨mE, hmE, FE⟩ := fr_gen F'
  clear F'
  have XM' := Flt.MathXP.keeps _ _ _ XM FG'.keep
  have e0E : mE (Str.ofString "self") = some t := by rw [hmE]; rfl
  have e1E : mE (Str.ofString "value") = some (.str x tk) := by rw [hmE]; rfl
  have e2E : mE (Str.ofString "name") = some (.bool b) := by rw [hmE]; rfl
  rw [know e0E, know e1E, know e2E] at FE
  clear hmE e0E e1E e2E
  obtain ⟨hP1, hP2⟩ := pats_of XM' X' T'
  k_steps
  all_goals refine ⟨?_⟩
  all_goals first | refine getMethod_searchH (P := 48) (by assumption) (by assumption) ?_ | refine getMethod_searchH (P := 53) (by assumption) (by assumption) ?_
  all_goals k_steps
  all_goals refine ⟨?_⟩
  all_goals first | refine search_nameH (P := 48) (by assumption) (by assumption) (by assumption) ?_ | refine search_valH (P := 53) (by assumption) (by assumption) (by assumption) ?_
  all_goals k_steps
  all_goals exact hret _ _ _ _ (by assumption) (by assumption) ⟨rfl, rfl⟩
end
section
theorem lw_hi : ∀ p : Nat, p < 32 → ¬ (p < 10) → Str.ofString "0x" ++ Txt.item (Str.ofString "1248") ((p : Int).fmod 4) ++ Txt.mul (Str.ofString "0") ((p : Int).fdiv 4) = W p := by decide +kernel
theorem lw_size : ∀ p : Nat, p < 32 → (Str.ofString "0x" ++ Txt.item (Str.ofString "1248") ((p : Int).fmod 4)).length + (Txt.mul (Str.ofString "0") ((p : Int).fdiv 4)).length ≤ sizeLine := by decide +kernel
theorem lw_lo : ∀ p : Nat, p < 10 → [Str.ofString "OPTIMIZED", Str.ofString "NEWLOCALS", Str.ofString "VARARGS", Str.ofString "VARKEYWORDS", Str.ofString "NESTED", Str.ofString "GENERATOR", Str.ofString "NOFREE", Str.ofString "COROUTINE", Str.ofString "ITERABLE_COROUTINE", Str.ofString "ASYNC_GENERATOR"].getD ((p : Int)).toNat Str.empty = W p := by decide +kernel
local macro_rules | `(tactic| walk_at "binaryOp Add str str") => `(tactic| (refine Hold.out ?_))
theorem lword_con {w : World} {loose : List PySem.Str} {mean : ExcName → Option Value} {mg mb : PySem.Str → Option Value} {news : List (Addr × Obj)} {p : Nat} {tp : Tok} :
   Con PySem.Challenge.rw_re0161_02.row.prog w (Mine.pre.heap_1 w.params) PySem.Challenge.rw_re0161_02.row.prog loose mean mg mb 2 20 243 news (p < 32) [.int (p : Int) tp] []
     (fun r nw => (∃ t, r = .str (W p) t) ∧ news = nw) := by
  intro dp un gd cn cs a ccd cl outer A₀ base h₀ L m s Q E B F X N T XM hk hp hd hu hret
  refine wpAny_call ?_
  k_dflt (refine' code_def ?k1 ?k2 ?k3 ?k4 ?k5 ?kA ?kF ?kK ?k6 ?k7 ?k8 ?k9 ?kB ?_ ?c2 ?c3 ?c4 ?c5; (case kA => exact rfl); (case kF => exact rfl); (case kK => first | exact rfl | assumption); (case k1 => k_asm); (case k2 => k_asm); (case k3 => k_asm); (case k4 => k_asm); (case k5 => k_asm); (case k6 => k_is); (case k7 => k_is); (case k8 => ktr_room); (case k9 => first | exact BindsTo.of_eq rfl | exact binds_K (by k_in) rfl (by k_is) rfl rfl rfl); (case c5 => decide); (case kB => exact locs rfl); (case c2 => exact rfl); (case c3 => exact rfl); (case c4 => exact rfl); k_whole; intro g' L' h' FG' F' N' B' X' T'; (try dsimp only); (try k_lift B'); (try k_fold))
  obtain ⟨mE, hmE, FE⟩ := fr_gen F'
  clear F'
  have XM' := Flt.MathXP.keeps _ _ _ XM FG'.keep
  have e0E : mE (Str.ofString "place") = some (.int (p : Int) tp) := by rw [hmE]; rfl
  rw [know e0E] at FE
  clear hmE e0E
  k_steps
  · rw [lw_lo p (by omega)]
    exact hret _ _ _ _ (by assumption) (news_sub (by assumption) fun p hp => List.mem_cons_of_mem _ hp) ⟨⟨_, rfl⟩, rfl⟩
  · refine ⟨?_⟩
    refine PyProof.Rows.add_str ?_ (by first | exact lw_size _ (by assumption) | size_fits)
    intro _ _
    k_steps
    refine ⟨?_⟩
    refine PyProof.Rows.add_str ?_ (by first | exact lw_size _ (by assumption) | size_fits)
    intro _ _
    k_steps
    rw [lw_hi p hp (by omega)]
    exact hret _ _ _ _ (by assumption) (news_sub (by assumption) fun p hp => List.mem_cons_of_mem _ hp) ⟨⟨_, rfl⟩, rfl⟩
end
section
local macro_rules | `(tactic| walk_at $k:str) => if k.getString ∈ ["exec FunctionDef", "call builtin:len", "setItem ref int", "binaryOp RShift int int", "binaryOp LShift int int"] then `(tactic| (refine Hold.out ?_)) else Lean.Macro.throwUnsupported
local macro_rules | `(tactic| walk_at "callWith ref") => `(tactic| (refine callWith_F (fnAt_of (by assumption) (by k_asm) (by k_mem)) ?_))
local macro_rules | `(tactic| walk_at "FnAt") => `(tactic| (exact fnAt_of (by assumption) (by k_asm) (by k_mem)))
local macro_rules | `(tactic| walk_at "eval Name") => `(tactic| ((with_reducible show wpAny _ _ (eval (Expr.Name _ _) (envX _ _ _ _ _ _)) _ _ _); k_dflt (refine' nameX_F ?N ?c ?m ?d ?_ ?a ?b; (case a => rfl); (case b => rfl); (case N => k_asm); (case c => rfl); (case m => k_mem); (case d => k_asm); k_whole)))
theorem i2d_con {w : World} {loose : List PySem.Str} {mean : ExcName → Option Value} {mg mb : PySem.Str → Option Value} {rest : List (Addr × Obj)} {x n : Nat} {tk tkn : Tok} {ps : Array Value} :
   Con PySem.Challenge.rw_re0161_02.row.prog w (Mine.pre.heap_1 w.params) PySem.Challenge.rw_re0161_02.row.prog loose mean mg mb 100 900 207 ((202, tabObj ps) :: rest)
     ((∀ p ∈ rest, p.1 ≠ 202) ∧ TbOk 131 4 (Str.ofString "_int2digits.<locals>.inner") ps rest ∧ x < 2 ^ 80 ∧ 0 < n ∧ n < 100) [.int (x : Int) tk, .int (n : Int) tkn] []
     (fun r nw => ∃ ps' add la vs, r = .ref la ∧ ((202, tabObj ps') :: (la, W.listOf vs.toArray 0) :: (add ++ rest)) = nw ∧ IntsAre vs (digs n x (ndig x n)) ∧ TbOk 131 4 (Str.ofString "_int2digits.<locals>.inner") ps' (add ++ rest) ∧
       (202 < la ∧ ∀ q ∈ rest, q.1 < la) ∧ ∀ p ∈ add, la < p.1 ∧ 202 < p.1 ∧ ∀ q ∈ rest, q.1 < p.1) := by
  intro dp un gd cn cs a ccd cl outer A₀ base h₀ L m s Q E B F X N T XM hk ⟨hoff, hTb, hx1, hn0, hn1⟩ hd hu hret
  have hK80 : ndig x n ≤ 80 := ndig_le hx1 hn0
  refine wpAny_call ?_
  k_dflt (refine' code_defC ?k1 ?k2 ?k3 ?k4 ?k5 ?kA ?kF ?kK ?k6 ?k7 ?k8 ?k9 ?kB ?kD ?_ ?c2 ?c3 ?c4; (case kA => exact rfl); (case kF => exact rfl); (case kK => first | exact rfl | assumption); (case k1 => k_asm); (case k2 => k_asm); (case k3 => k_asm); (case k4 => k_asm); (case k5 => k_asm); (case k6 => k_is); (case k7 => k_is); (case k8 => ktr_room); (case k9 => first | exact BindsTo.of_eq rfl | exact binds_K (by k_in) rfl (by k_is) rfl rfl rfl | fail "k_enter: no rule for these arguments"); (case kB => exact rfl); (case kD => decide +kernel); (case c2 => exact rfl); (case c3 => exact rfl); (case c4 => exact rfl); k_whole; intro g' L' h' tk' cells' FG' F' N' Y' B' X' T' l1; (try k_lt l1); k_cells Y'; (try simp only [List.cons_append, List.nil_append] at N'); (try dsimp only); (try k_lift B'); (try k_fold))
  have hR := l1.2
  obtain ⟨mE, hmE, FE⟩ := fr_gen F'
  clear F'
  have XM' := Flt.MathXP.keeps _ _ _ XM FG'.keep
  have e0E : mE (Str.ofString "a") = some (.int (x : Int) tk) := by rw [hmE]; rfl
  rw [know e0E] at FE
  clear hmE e0E
  have hC := codeHd_of_K X' (c := 206) (P := 202) rfl
  k_steps
  have hnd := ndig_int x n hn0
  refine KMa.mul (by assumption) (by assumption) (by is_list) (by rw [hnd]; omega) (by rw [hnd]; omega) (by rw [hnd, Int.toNat_natCast]; simp; omega) (flat1 _ _) ?_
  intro lA hA FA NA lA1
  rw [hnd, Int.toNat_natCast] at NA
  (try k_lt lA1)
  k_steps
  refine ⟨?_⟩
  refine nestDef_K (by exact rfl) (by exact rfl) (by exact rfl) ?_
  refine nestAny_K (by k_asm) (by k_asm) (by k_asm) (by assumption) rfl (by k_updF) (by assumption) (fun p hp => by repeat (first | exact hp | apply List.mem_cons_of_mem)) rfl rfl rfl ?_
  refine ⟨?_⟩
  intro f c' oc vs9 t9 ctv doc h9 tk9 add ps9 F9 N9 e9 hm9 d19 d29 l19 l29
  obtain ⟨fo, hfo, N9b⟩ := news_head N9
  clear N9
  have l2A := fun q (hq : q ∈ add) => And.intro (ltN (l29 q hq).1) (allLt_of (l29 q hq).2)
  clear l29
  simp only [AllLt] at l2A
  k_lt l19
  obtain ⟨oI, oA, oN, eI, eA, eN, N10⟩ := i2d_led N9b
  subst eI eA eN
  clear N9b
  rename oA.data = _ => dA
  rename oN.data = _ => dN
  have dN' : oN.data = .cell (some (.int (n : Int) tkn)) := dN
  clear dN
  have l3 : ∀ q ∈ add ++ rest, q.1 ≠ L' + 1 + 1 + 1 := fun q hq => (List.mem_append.mp hq).elim (fun h => Nat.ne_of_gt (by have := l2A q h; omega)) fun h => Nat.ne_of_lt (Nat.lt_of_lt_of_le (ktn_ltOf hR q h) (by omega))
  k_steps
  · refine ⟨?_⟩
    refine len_M (by k_asm) (by k_mem) (by rw [List.length_replicate]; exact Nat.lt_of_le_of_lt hK80 (by decide)) ?_
    intro _ _
    k_steps
    rename News _ _ _ _ => N11
    obtain ⟨oJ, eJ, N12⟩ := news_head N11
    subst eJ
    clear N11
    rename oJ.data = _ => dI
    have key : ∀ k, InnerSpec PySem.Challenge.rw_re0161_02.row.prog w (Mine.pre.heap_1 w.params) PySem.Challenge.rw_re0161_02.row.prog loose mean mg mb [(f, fo), (c', oc), (L' + 1 + 1 + 1, oJ), (L' + 1 + 1, oA), (L' + 1, oN)] f lA 0 n k := inner_ind fun k IH => by
      clear N12 hret hx1 hK80 hnd hd hu l1 l2A l3 lA1
      unfold InnerSpec
      intro dp un gd cn cs a ccd cl outer A₀ base h₀ L m s Q E rest x l r tx tl tr vs ds B F X N T XM hk hr hfix hoff hi hrl hd1 hx hd hu hret
      have m1 := hfix (f, fo) (by simp)
      have m2 := hfix (c', oc) (by simp)
      have m3 := hfix (L' + 1 + 1 + 1, oJ) (by simp)
      have m4 := hfix (L' + 1 + 1, oA) (by simp)
      have m5 := hfix (L' + 1, oN) (by simp)
      subst hfo
      have M1 := List.mem_cons_of_mem (lA, W.listOf vs.toArray 0) m1
      have M2 := List.mem_cons_of_mem (lA, W.listOf vs.toArray 0) m2
      have M3 := List.mem_cons_of_mem (lA, W.listOf vs.toArray 0) m3
      have M4 := List.mem_cons_of_mem (lA, W.listOf vs.toArray 0) m4
      have M5 := List.mem_cons_of_mem (lA, W.listOf vs.toArray 0) m5
      refine wpAny_call ?_
      k_dflt (refine' code_nest ?k1 ?k2 ?k3 ?k4 ?k5 ?kA ?kF ?kK ?k6 ?k7 ?k8 ?k9 ?kB ?_ ?c2 ?c3 ?c4 ?c5; (case kA => exact rfl); (case kF => exact rfl); (case kK => first | exact rfl | assumption); (case k1 => k_asm); (case k2 => k_asm); (case k3 => k_asm); (case k4 => k_asm); (case k5 => k_asm); (case k6 => exact List.mem_cons_of_mem _ m1); (case k7 => exact codeRec_of9 N (List.mem_cons_of_mem _ m2) d19 d29); (case k8 => ktr_room); (case k9 => exact BindsTo.of_eq rfl); (case c5 => decide); (case kB => exact locs rfl); (case c2 => exact rfl); (case c3 => exact rfl); (case c4 => exact rfl); k_whole; intro g' L'' h' FG' F' N' B' X' T'; (try dsimp only); (try k_lift B'); (try k_fold))
      obtain ⟨mE, hmE, FE⟩ := fr_gen F'
      clear F'
      have e0E : mE (Str.ofString "x") = some (.int (x : Int) tx) := by rw [hmE]; rfl
      have e1E : mE (Str.ofString "L") = some (.int (l : Int) tl) := by rw [hmE]; rfl
      have e2E : mE (Str.ofString "R") = some (.int (r : Int) tr) := by rw [hmE]; rfl
      rw [know e0E, know e1E, know e2E] at FE
      clear hmE e0E e1E e2E
      have XM' := Flt.MathXP.keeps _ _ _ XM FG'.keep
      k_steps
      · rename_i hE
        have hk0 : k = 0 := by omega
        subst hk0
        refine ⟨?_⟩
        refine ksa_set (by assumption) (by assumption) (.head hoff) hi (by omega) (by omega) (by omega) ?_
        intro h8 F8 N8 hi8 _ _
        k_steps
        refine hret _ _ _ (by assumption) (by assumption) ?_
        rw [Int.toNat_natCast, laid_one (by omega)] at hi8
        rw [Int.toNat_natCast]
        have e : digs n x (0 + 1) = [(x : Int)] := by
          simp only [digs]
          rw [Nat.mod_eq_of_lt (by simpa using hx)]
        rw [e]
        exact hi8
      · rename_i hE
        refine ⟨?_⟩
        refine rshift_int (by decide) ?_
        rw [mid_eq hr]
        generalize hj : (k + 1) / 2 = j at *
        obtain ⟨⟨hj1, hj2, hje, hk1, hk2, _, hk3⟩, ⟨a1, a2, a3, a4, a5⟩, b1, b2, b3, b4⟩ := halv hr hrl hd1 hj hE hd hu
        k_steps
        refine ⟨?_⟩
        rename Fr _ _ _ _ => F8
        rw [shift_eq] at F8 ⊢
        refine rshift_int (Int.natCast_nonneg _) ?_
        rw [upper_eq]
        k_steps
        refine ⟨?_⟩
        refine lshift_int (Int.natCast_nonneg _) (shl_room (room_of hx (nk_le hn1 hk1)) (nk_le hn1 hk2)) ?_
        rw [back_eq]
        k_steps
        refine ⟨?_⟩
        refine xor_int ?_
        rw [lower_low]
        k_steps
        refine ⟨?_⟩
        refine inner_call (IH (j - 1) a1) (x := x % 2 ^ (n * j)) (l := l) (r := l + j) rfl rfl rfl (by k_asm) (by k_asm) (by k_asm) (by k_asm) (by k_asm) (by k_asm) (by first | exact rfl | assumption) a2 hfix hoff hi a3 hd1
          (by rw [hje]; exact Nat.mod_lt _ (Nat.two_pow_pos _)) a4 a5 ?_
        intro vs1 h1 tk1 F1 N1 hi1
        rw [hje] at hi1
        have M1 := List.mem_cons_of_mem (lA, W.listOf vs1.toArray 0) m1
        have M2 := List.mem_cons_of_mem (lA, W.listOf vs1.toArray 0) m2
        have M3 := List.mem_cons_of_mem (lA, W.listOf vs1.toArray 0) m3
        have M4 := List.mem_cons_of_mem (lA, W.listOf vs1.toArray 0) m4
        have M5 := List.mem_cons_of_mem (lA, W.listOf vs1.toArray 0) m5
        k_steps
        refine ⟨?_⟩
        have hl1 : (laid ds l (digs n (x % 2 ^ (n * j)) j)).length = ds.length := laid_len (by rw [digs_len]; exact a3)
        refine inner_call (IH (k - j) b1) (x := x / 2 ^ (n * j)) (l := l + j) (r := r) rfl rfl rfl (by k_asm) (by k_asm) (by k_asm) (by k_asm) (by k_asm) (by k_asm) (by first | exact rfl | assumption) b2 hfix hoff hi1 (by rw [hl1]; exact hrl) (by rw [hl1]; exact hd1)
          (div_room hj2 hx) b3 b4 ?_
        intro vs2 h2 tk2 F2 N2 hi2
        rw [laid_two hj2 hk3] at hi2
        k_steps
        exact hret _ _ _ (by assumption) (by assumption) hi2
    have hx0 : x ≠ 0 := by omega
    have hkp := ndig_pos hn0 hx0
    have hke := Nat.sub_add_cancel hkp
    have hk9 : ndig x n ≤ 1000 := Nat.le_trans hK80 (by decide)
    refine ⟨?_⟩
    refine inner_call (key (ndig x n - 1)) (x := x) (l := 0) (r := ndig x n) (rest := (L' + 1 + 1 + 1, oJ) :: (202, tabObj ps9) :: (f, fo) :: (L' + 1 + 1, oA) :: (L' + 1, oN) :: (add ++ rest)) rfl rfl (by simp) (by k_asm) (by k_asm) (by k_asm)
      (news_sub N12 (by walk_at "mine sub")) (by k_asm) (by k_asm) (by first | exact rfl | assumption) (by rw [hke]; exact (Nat.zero_add _).symm)
      (fun q hq => by
        simp only [List.mem_cons, List.not_mem_nil, or_false] at hq
        rcases hq with rfl | rfl | rfl | rfl | rfl
        all_goals repeat (first | exact hm9 | exact List.mem_cons_self .. | apply List.mem_cons_of_mem))
      (fun q hq => by
        rcases List.mem_cons.mp hq with rfl | hq
        · exact Nat.ne_of_lt (by omega)
        rcases List.mem_cons.mp hq with rfl | hq
        · exact Nat.ne_of_lt (by omega)
        rcases List.mem_cons.mp hq with rfl | hq
        · exact Nat.ne_of_gt (by omega)
        rcases List.mem_cons.mp hq with rfl | hq
        · exact Nat.ne_of_lt (by omega)
        rcases List.mem_cons.mp hq with rfl | hq
        · exact Nat.ne_of_lt (by omega)
        rcases List.mem_append.mp hq with hq | hq
        · exact Nat.ne_of_gt (l2A q hq).2.1
        · exact Nat.ne_of_lt (ktn_ltOf lA1.2.2.2.2.2 q hq))
      (ints_rep (ndig x n) tk') (by simp) (by simpa using hk9) (by rw [hke]; exact ndig_lt x n hn0) (by rw [hke]; exact top_dp hK80 hd) (by rw [hke]; exact top_un hK80 hu) ?_
    intro vs2 h2 tk2 F2 N2 hi2
    rw [hke, laid_all] at hi2
    k_steps
    refine hret _ _ _ _ (by assumption) (news_sub (by assumption) fun p hp => ?_) ⟨ps9, add, lA, vs2, rfl, rfl, hi2, .inr ⟨c', oc, vs9, t9, e9, hm9, d19, d29⟩, ⟨lA1.2.2.2.2.1, fun q hq => ktn_ltOf lA1.2.2.2.2.2 q hq⟩, fun p hp => ⟨(l2A p hp).2.1, (l2A p hp).2.2.2.2.2.2.1, fun q hq => ktn_ltOf (l2A p hp).2.2.2.2.2.2.2 q hq⟩⟩
    simp only [List.mem_cons, List.mem_append] at hp ⊢
    grind
  · rename News _ _ _ _ => N11
    have hx0 : x = 0 := by omega
    subst hx0
    rw [ndig_zero n hn0] at N11
    refine hret _ _ _ _ (by assumption) (news_sub N11 fun p hp => ?_) ⟨ps9, add, lA, [], rfl, rfl, by rw [ndig_zero n hn0]; exact .nil, .inr ⟨c', oc, vs9, t9, e9, hm9, d19, d29⟩, ⟨lA1.2.2.2.2.1, fun q hq => ktn_ltOf lA1.2.2.2.2.2 q hq⟩, fun p hp => ⟨(l2A p hp).2.1, (l2A p hp).2.2.2.2.2.2.1, fun q hq => ktn_ltOf (l2A p hp).2.2.2.2.2.2.2 q hq⟩⟩
    simp only [List.mem_cons, List.mem_append] at hp ⊢
    simp only [List.replicate_zero] 
    grind
theorem d2i_con {w : World} {loose : List PySem.Str} {mean : ExcName → Option Value} {mg mb : PySem.Str → Option Value} {rest : List (Addr × Obj)} {n lq nq : Nat} {es : List Nat} {vs : List Value} {tkn : Tok} {ps : Array Value} :
   Con PySem.Challenge.rw_re0161_02.row.prog w (Mine.pre.heap_1 w.params) PySem.Challenge.rw_re0161_02.row.prog loose mean mg mb 100 900 214 ((lq, W.listOf vs.toArray nq) :: (209, tabObj ps) :: rest)
     ((∀ p ∈ rest, p.1 ≠ 209) ∧ (∀ p ∈ rest, p.1 < lq) ∧ 209 < lq ∧ TbOk 146 4 (Str.ofString "_digits2int.<locals>.inner") ps rest ∧ IntsAre vs (es.map Int.ofNat) ∧ (∀ e ∈ es, e < 2 ^ n) ∧ es.length ≤ 80 ∧ 0 < n ∧ n < 100) [.ref lq, .int (n : Int) tkn] []
     (fun r nw => ∃ ps' add t, r = .int (undig n es : Int) t ∧ ((lq, W.listOf vs.toArray nq) :: (209, tabObj ps') :: (add ++ rest)) = nw ∧ TbOk 146 4 (Str.ofString "_digits2int.<locals>.inner") ps' (add ++ rest) ∧
       ∀ p ∈ add, lq < p.1 ∧ 209 < p.1 ∧ ∀ q ∈ rest, q.1 < p.1) := by
  intro dp un gd cn cs a ccd cl outer A₀ base h₀ L m s Q E B F X N T XM hk ⟨hoff, hoff2, hoff3, hTb, hvs, hes, hlen, hn0, hn1⟩ hd hu hret
  have hvl : vs.length = es.length := by rw [IntsAre_len hvs, List.length_map]
  refine wpAny_call ?_
  k_dflt (refine' code_defC ?k1 ?k2 ?k3 ?k4 ?k5 ?kA ?kF ?kK ?k6 ?k7 ?k8 ?k9 ?kB ?kD ?_ ?c2 ?c3 ?c4; (case kA => exact rfl); (case kF => exact rfl); (case kK => first | exact rfl | assumption); (case k1 => k_asm); (case k2 => k_asm); (case k3 => k_asm); (case k4 => k_asm); (case k5 => k_asm); (case k6 => k_is); (case k7 => k_is); (case k8 => ktr_room); (case k9 => first | exact BindsTo.of_eq rfl | exact binds_K (by k_in) rfl (by k_is) rfl rfl rfl | fail "k_enter: no rule for these arguments"); (case kB => exact rfl); (case kD => decide +kernel); (case c2 => exact rfl); (case c3 => exact rfl); (case c4 => exact rfl); k_whole; intro g' L' h' tk' cells' FG' F' N' Y' B' X' T' l1; (try k_lt l1); k_cells Y'; (try simp only [List.cons_append, List.nil_append] at N'); (try dsimp only); (try k_lift B'); (try k_fold))
  have hR := l1.2
  obtain ⟨mE, hmE, FE⟩ := fr_gen F'
  clear F'
  have XM' := Flt.MathXP.keeps _ _ _ XM FG'.keep
  clear hmE
  have hC := codeHd_of_K X' (c := 213) (P := 209) rfl
  k_steps
  refine ⟨?_⟩
  refine nestDef_K (by exact rfl) (by exact rfl) (by exact rfl) ?_
  refine nestAny_K (by k_asm) (by k_asm) (by k_asm) (by assumption) rfl (by k_updF) (by assumption) (fun p hp => by repeat (first | exact hp | apply List.mem_cons_of_mem)) rfl rfl rfl ?_
  refine ⟨?_⟩
  intro f c' oc vs9 t9 ctv doc h9 tk9 add ps9 F9 N9 e9 hm9 d19 d29 l19 l29
  obtain ⟨fo, hfo, N9b⟩ := news_head N9
  clear N9
  have l2A := fun q (hq : q ∈ add) => And.intro (ltN (l29 q hq).1) (allLt_of (l29 q hq).2)
  clear l29
  simp only [AllLt] at l2A
  k_lt l19
  obtain ⟨o3, o2, o1, eI, eA, eN, N10⟩ := d2i_led N9b
  subst eI eA eN
  clear N9b
  rename o2.data = _ => dA
  rename o1.data = _ => dN
  have dA' : o2.data = .cell (some (.int (n : Int) tkn)) := dA
  have dN' : o1.data = .cell (some (.ref lq)) := dN
  clear dA dN
  have hR2 := hR.2
  have l3 : ∀ q ∈ add ++ rest, q.1 ≠ L' + 1 + 1 + 1 := fun q hq => (List.mem_append.mp hq).elim (fun h => Nat.ne_of_gt (by have := l2A q h; omega)) fun h => Nat.ne_of_lt (Nat.lt_of_lt_of_le (ktn_ltOf hR2 q h) (by omega))
  k_steps
  · refine ⟨?_⟩
    refine len_M (by k_asm) (by k_mem) (by rw [hvl]; exact Nat.lt_of_le_of_lt hlen (by decide)) ?_
    intro _ _
    k_steps
    rename News _ _ _ _ => N11
    obtain ⟨oJ, eJ, N12⟩ := news_head N11
    subst eJ
    clear N11
    rename oJ.data = _ => dI
    have key : ∀ k, SumSpec PySem.Challenge.rw_re0161_02.row.prog w (Mine.pre.heap_1 w.params) PySem.Challenge.rw_re0161_02.row.prog loose mean mg mb [(lq, W.listOf vs.toArray nq), (f, fo), (c', oc), (L' + 1 + 1 + 1, oJ), (L' + 1 + 1, o2), (L' + 1, o1)] f n es k := sum_ind fun k IH => by
      clear N12 hret hd hu l1 l2A l3
      unfold SumSpec
      intro dp un gd cn cs a ccd cl outer A₀ base h₀ L m s Q E rest l r tl tr B F X N T XM hk hr hfix hrl hd hu hret
      have m0 := hfix (lq, W.listOf vs.toArray nq) (by simp)
      have m1 := hfix (f, fo) (by simp)
      have m2 := hfix (c', oc) (by simp)
      have m3 := hfix (L' + 1 + 1 + 1, oJ) (by simp)
      have m4 := hfix (L' + 1 + 1, o2) (by simp)
      have m5 := hfix (L' + 1, o1) (by simp)
      subst hfo
      refine wpAny_call ?_
      k_dflt (refine' code_nest ?k1 ?k2 ?k3 ?k4 ?k5 ?kA ?kF ?kK ?k6 ?k7 ?k8 ?k9 ?kB ?_ ?c2 ?c3 ?c4 ?c5; (case kA => exact rfl); (case kF => exact rfl); (case kK => first | exact rfl | assumption); (case k1 => k_asm); (case k2 => k_asm); (case k3 => k_asm); (case k4 => k_asm); (case k5 => k_asm); (case k6 => exact m1); (case k7 => exact codeRec_of9 N m2 d19 d29); (case k8 => ktr_room); (case k9 => exact BindsTo.of_eq rfl); (case c5 => decide); (case kB => exact locs rfl); (case c2 => exact rfl); (case c3 => exact rfl); (case c4 => exact rfl); k_whole; intro g' L'' h' FG' F' N' B' X' T'; (try dsimp only); (try k_lift B'); (try k_fold))
      obtain ⟨mE, hmE, FE⟩ := fr_gen F'
      clear F'
      have e1E : mE (Str.ofString "L") = some (.int (l : Int) tl) := by rw [hmE]; rfl
      have e2E : mE (Str.ofString "R") = some (.int (r : Int) tr) := by rw [hmE]; rfl
      rw [know e1E, know e2E] at FE
      clear hmE e1E e2E
      have XM' := Flt.MathXP.keeps _ _ _ XM FG'.keep
      k_steps
      · rename_i hE
        have hk0 : k = 0 := by omega
        subst hk0
        have e : (List.map Int.ofNat es).getD ((l : Int)).toNat 0 = ((undig n (seg es l (0 + 1)) : Nat) : Int) := by
          rw [Int.toNat_natCast, Nat.zero_add, seg_one (by omega : l < es.length), List.getD_eq_getElem?_getD, List.getElem?_map, List.getElem?_eq_getElem (by omega : l < es.length)]
          rfl
        rw [e]
        exact hret _ _ _ (by assumption) (by assumption)
      · rename_i hE
        refine ⟨?_⟩
        refine rshift_int (by decide) ?_
        rw [mid_eq hr]
        generalize hj : (k + 1) / 2 = j at *
        obtain ⟨⟨hj1, hj2, hje, _, hk2, hk4, hk3⟩, ⟨a1, a2, a3, a4, a5⟩, b1, b2, b3, b4⟩ := halv hr hrl (Nat.le_trans hlen (by decide)) hj hE hd hu
        k_steps
        refine ⟨?_⟩
        rename Fr _ _ _ _ => F8
        rw [shift_eq] at F8
        refine sum_call (IH (k - j) b1) (l := l + j) (r := r) rfl rfl (by k_asm) (by k_asm) (by k_asm) (by k_asm) (by k_asm) (by k_asm) (by first | exact rfl | assumption) b2 hfix hrl b3 b4 ?_
        intro t1 h1 tk1 F1 N1
        k_steps
        refine ⟨?_⟩
        refine lshift_int (Int.natCast_nonneg _) (lift_room (Nat.lt_of_lt_of_le (seg_room hes _ _ (by rw [← b2]; exact hrl)) (Nat.pow_le_pow_right (by decide) (nk_le hn1 hk4))) (nk_le hn1 hk2)) ?_
        k_steps
        refine ⟨?_⟩
        refine sum_call (IH (j - 1) a1) (l := l) (r := l + j) rfl rfl (by k_asm) (by k_asm) (by k_asm) (by k_asm) (by k_asm) (by k_asm) (by first | exact rfl | assumption) a2 hfix a3 a4 a5 ?_
        intro t2 h2 tk2 F2 N2
        k_steps
        rw [hje, seg_two hj2 hk3]
        exact hret _ _ _ (by assumption) (by assumption)
    have hel : 0 < es.length := by
      have a : 0 < (List.map Int.ofNat es).length := by assumption
      rwa [List.length_map] at a
    have hke := Nat.sub_add_cancel hel
    refine ⟨?_⟩
    refine sum_call (key (es.length - 1)) (l := 0) (r := es.length) (rest := (L' + 1 + 1 + 1, oJ) :: (lq, W.listOf vs.toArray nq) :: (209, tabObj ps9) :: (f, fo) :: (L' + 1 + 1, o2) :: (L' + 1, o1) :: (add ++ rest)) rfl (by rw [hvl]) (by k_asm) (by k_asm) (by k_asm)
      N12 (by k_asm) (by k_asm) (by first | exact rfl | assumption) (by rw [hke]; exact (Nat.zero_add _).symm)
      (fun q hq => by
        simp only [List.mem_cons, List.not_mem_nil, or_false] at hq
        rcases hq with rfl | rfl | rfl | rfl | rfl | rfl
        all_goals repeat (first | exact hm9 | exact List.mem_cons_self .. | apply List.mem_cons_of_mem))
      (Nat.le_refl _) (by rw [hke]; exact top_dp hlen hd) (by rw [hke]; exact top_un hlen hu) ?_
    intro t2 h2 tk2 F2 N2
    rw [hke, seg_all]
    k_steps
    refine hret _ _ _ _ (by assumption) (news_sub (by assumption) fun p hp => ?_) ⟨ps9, add, _, rfl, rfl, .inr ⟨c', oc, vs9, t9, e9, hm9, d19, d29⟩, fun p hp => ⟨(l2A p hp).2.2.2.2.1, (l2A p hp).2.2.2.2.2.1, fun q hq => ktn_ltOf (l2A p hp).2.2.2.2.2.2 q hq⟩⟩
    simp only [List.mem_cons, List.mem_append] at hp ⊢
    grind
  · have hel : es = [] := by
      have a : ¬ 0 < (List.map Int.ofNat es).length := by assumption
      rw [List.length_map] at a
      exact List.length_eq_zero_iff.mp (by omega)
    subst hel
    refine hret _ _ _ _ (by assumption) (news_sub (by assumption) fun p hp => ?_) ⟨ps9, add, _, rfl, rfl, .inr ⟨c', oc, vs9, t9, e9, hm9, d19, d29⟩, fun p hp => ⟨(l2A p hp).2.2.2.2.1, (l2A p hp).2.2.2.2.2.1, fun q hq => ktn_ltOf (l2A p hp).2.2.2.2.2.2 q hq⟩⟩
    simp only [List.mem_cons, List.mem_append] at hp ⊢
    grind
end
section
theorem dv2_con {w : World} {loose : List PySem.Str} {mean : ExcName → Option Value} {mg mb : PySem.Str → Option Value} {news : List (Addr × Obj)} {x b n : Nat} {tx tb tn : Tok} :
   Con PySem.Challenge.rw_re0161_02.row.prog w (Mine.pre.heap_1 w.params) PySem.Challenge.rw_re0161_02.row.prog loose mean mg mb 2 20 193 news (0 < b ∧ b < 2 ^ 400 ∧ x < 2 ^ 400) [.int (x : Int) tx, .int (b : Int) tb, .int (n : Int) tn] []
     (fun r nw => ∃ d t1 t2, r = .ref d ∧ ((d, { cls := .type "tuple", data := .seq #[.int ((x / b : Nat) : Int) t1, .int ((x % b : Nat) : Int) t2] }) :: news) = nw ∧ ∀ p ∈ news, p.1 < d) := by
  intro dp un gd cn cs a ccd cl outer A₀ base h₀ L m s Q E B F X N T XM hk ⟨hb, hb2, hx⟩ hd hu hret
  have hbits := bits_le hx
  refine wpAny_call ?_
  k_dflt (refine' code_def ?k1 ?k2 ?k3 ?k4 ?k5 ?kA ?kF ?kK ?k6 ?k7 ?k8 ?k9 ?kB ?_ ?c2 ?c3 ?c4 ?c5; (case kA => exact rfl); (case kF => exact rfl); (case kK => first | exact rfl | assumption); (case k1 => k_asm); (case k2 => k_asm); (case k3 => k_asm); (case k4 => k_asm); (case k5 => k_asm); (case k6 => k_is); (case k7 => k_is); (case k8 => ktr_room); (case k9 => first | exact BindsTo.of_eq rfl | exact binds_K (by k_in) rfl (by k_is) rfl rfl rfl); (case c5 => decide); (case kB => exact locs rfl); (case c2 => exact rfl); (case c3 => exact rfl); (case c4 => exact rfl); k_whole; intro g' L' h' FG' F' N' B' X' T'; (try dsimp only); (try k_lift B'); (try k_fold))
  obtain ⟨mE, hmE, FE⟩ := fr_gen F'
  clear F'
  have XM' := Flt.MathXP.keeps _ _ _ XM FG'.keep
  have e0E : mE (Str.ofString "a") = some (.int (x : Int) tx) := by rw [hmE]; rfl
  have e1E : mE (Str.ofString "b") = some (.int (b : Int) tb) := by rw [hmE]; rfl
  have e2E : mE (Str.ofString "n") = some (.int (n : Int) tn) := by rw [hmE]; rfl
  rw [know e0E, know e1E, know e2E] at FE
  clear hmE e0E e1E e2E
  k_steps
  have hp : Builtin.divisionGoesByPylong (x : Int) (b : Int) = false := PyProof.noPylong_of_log2 (by
    rw [Int.natAbs_natCast]
    exact Nat.lt_trans ((Nat.log2_lt (by omega)).mpr hb2) (by decide))
  rename News _ _ _ _ => N2
  refine divmod_N (by assumption) (by assumption) (by omega) ?_ (.inl hp)
  intro h3 F3 N3
  have ed : (x : Int).fdiv (b : Int) = ((x / b : Nat) : Int) := by rw [Int.fdiv_eq_ediv_of_nonneg _ (by omega)]; rfl
  have em : (x : Int).fmod (b : Int) = ((x % b : Nat) : Int) := by rw [Int.fmod_eq_emod_of_nonneg _ (by omega)]; rfl
  rw [ed, em] at N3
  k_steps
  exact hret _ _ _ _ (by assumption) (by assumption) ⟨_, _, _, rfl, rfl, fun p hp => Heap.lt_size (N2 p hp).1⟩
end
section
local macro_rules | `(tactic| walk_at $k:str) => if k.getString ∈ ["binaryOp LShift int int", "call builtin:list.append", "call builtin:list.reverse"] then `(tactic| (refine Hold.out ?_)) else Lean.Macro.throwUnsupported
theorem divp_con {w : World} {loose : List PySem.Str} {mean : ExcName → Option Value} {mg mb : PySem.Str → Option Value} {rest : List (Addr × Obj)} {x b : Nat} {tx tb : Tok} {ps qs : Array Value} :
   Con PySem.Challenge.rw_re0161_02.row.prog w (Mine.pre.heap_1 w.params) PySem.Challenge.rw_re0161_02.row.prog loose mean mg mb 105 950 221 ((202, tabObj ps) :: (209, tabObj qs) :: rest)
     ((∀ p ∈ rest, p.1 ≠ 202 ∧ p.1 ≠ 209) ∧ TbOk 131 4 (Str.ofString "_int2digits.<locals>.inner") ps rest ∧ TbOk 146 4 (Str.ofString "_digits2int.<locals>.inner") qs rest ∧ x < 2 ^ 80 ∧ 0 < b ∧ b < 2 ^ 80) [.int (x : Int) tx, .int (b : Int) tb] []
     (fun r nw => ∃ ps' qs' add d t1 t2, r = .ref d ∧ ((d, { cls := .type "tuple", data := .seq #[.int ((x / b : Nat) : Int) t1, .int ((x % b : Nat) : Int) t2] }) :: (202, tabObj ps') :: (209, tabObj qs') :: (add ++ rest)) = nw ∧ 
       TbOk 131 4 (Str.ofString "_int2digits.<locals>.inner") ps' (add ++ rest) ∧ TbOk 146 4 (Str.ofString "_digits2int.<locals>.inner") qs' (add ++ rest) ∧
       (202 < d ∧ 209 < d ∧ (∀ q ∈ add, q.1 < d) ∧ ∀ q ∈ rest, q.1 < d) ∧ ∀ p ∈ add, 202 < p.1 ∧ 209 < p.1 ∧ ∀ q ∈ rest, q.1 < p.1) := by
  intro dp un gd cn cs a ccd cl outer A₀ base h₀ L m s Q E B F X N T XM hk hpre hd hu hret
  have hoff := hpre.1
  have hTb := hpre.2.1
  have hTc := hpre.2.2.1
  have hx1 := hpre.2.2.2.1
  have hb0 := hpre.2.2.2.2.1
  have hb1 := hpre.2.2.2.2.2
  clear hpre
  refine wpAny_call ?_
  k_dflt (refine' code_def ?k1 ?k2 ?k3 ?k4 ?k5 ?kA ?kF ?kK ?k6 ?k7 ?k8 ?k9 ?kB ?_ ?c2 ?c3 ?c4 ?c5; (case kA => exact rfl); (case kF => exact rfl); (case kK => first | exact rfl | assumption); (case k1 => k_asm); (case k2 => k_asm); (case k3 => k_asm); (case k4 => k_asm); (case k5 => k_asm); (case k6 => k_is); (case k7 => k_is); (case k8 => ktr_room); (case k9 => first | exact BindsTo.of_eq rfl | exact binds_K (by k_in) rfl (by k_is) rfl rfl rfl); (case c5 => decide); (case kB => exact locs rfl); (case c2 => exact rfl); (case c3 => exact rfl); (case c4 => exact rfl); k_whole; intro g' L' h' FG' F' N' B' X' T'; (try dsimp only); (try k_lift B'); (try k_fold))
  obtain ⟨mE, hmE, FE⟩ := fr_gen F'
  clear F'
  have XM' := Flt.MathXP.keeps _ _ _ XM FG'.keep
  have e0E : mE (Str.ofString "a") = some (.int (x : Int) tx) := by rw [hmE]; rfl
  have e1E : mE (Str.ofString "b") = some (.int (b : Int) tb) := by rw [hmE]; rfl
  rw [know e0E, know e1E] at FE
  clear hmE e0E e1E
  k_steps
  refine ⟨?_⟩
  have hn0 := bits_pos hb0
  have hbn := bits_lt_pow b
  have hn1 := bits_le hb1
  generalize Builtin.Int.intBits (b : Int) = n at *
  refine i2d_con (rest := (209, tabObj qs) :: rest) (by k_asm) (by k_asm) (by k_asm) (by k_asm) (by k_asm) (by k_asm) rfl
    ⟨fun p hp => (List.mem_cons.mp hp).elim (fun e => by rw [e]; show (209 : Nat) ≠ 202; decide) fun h => (hoff p h).1, hTb.mono fun p hp => List.mem_cons_of_mem _ hp, hx1, hn0, by omega⟩ (by show dp + 1 + 100 < _; omega) (by show un + 3 + 900 < _; omega) ?_
  intro r1 nw1 h1 tk1 F1 N1 hp1
  obtain ⟨ps1, add1, la, vs1, e1, e2, hi1, hTb1, ⟨lo1, lo2⟩, lo3⟩ := hp1
  subst e1 e2
  have hK := ndig_le hx1 hn0
  have hlv : vs1.length = ndig x n := by rw [IntsAre_len hi1, digs_len]
  have la1 : 209 < la := lo2 (209, tabObj qs) (List.mem_cons_self ..)
  k_steps
  refine ⟨?_⟩
  rename_i l2' h2' l2 _ _
  refine For_X (by assumption) (by rfl) (by rfl) ?_
  k_steps
  rename_i _ _ lq D _ F3 N3 l3
  have hh2 := h2'
  have lR : ∀ p ∈ (202, tabObj ps1) :: (la, W.listOf vs1.toArray 0) :: (add1 ++ (209, tabObj qs) :: rest), p.1 < lq := fun p hp => by
    rcases List.mem_cons.mp hp with rfl | hp
    · exact hh2.1
    rcases List.mem_cons.mp hp with rfl | hp
    · exact hh2.2.1
    exact ktn_ltOf hh2.2.2 p hp
  refine hideC (fun (i : Nat) (m : PySem.Str → Option Value) (G9 : List (Addr × Obj) → Prop) => ∀ es r t tn vs, m (Str.ofString "b") = some (.int (b : Int) tb) → m (Str.ofString "n") = some (.int (n : Int) tn) → m (Str.ofString "r") = some (.int ((r : Nat) : Int) t) → m (Str.ofString "q_digits") = some (.ref lq) →
     IntsAre vs (es.map Int.ofNat) → Told n x b (ndig x n) i es r → G9 ((lq, W.listOf vs.toArray vs.length) :: (202, tabObj ps1) :: (la, W.listOf vs1.toArray 0) :: (add1 ++ (209, tabObj qs) :: rest))) ?_
  intro J1 toJ1 ofJ1
  refine rev_H (l := la) (vs := vs1) (nn := 0) J1 rfl (by assumption) (by assumption) ?_ ?_ ?_ ?_ ?_ ?_
  · intro p hp
    rcases List.mem_cons.mp hp with rfl | hp
    · exact Nat.ne_of_lt l3.1
    · exact Nat.ne_of_lt (Nat.lt_trans (lR p hp) l3.1)
  · simp
  · exact toJ1 _ _ _ fun G9 k9 => k9 [] 0 _ _ [] rfl rfl rfl rfl .nil (.zero (ndig_lt x n hn0) hb0)
  · intro i m
    refine ofJ1 _ _ _ fun es r t tn vs _ _ _ _ _ _ => ?_
    walk_at "mine mem"
  · intro Qb i v m₁ h tk₁ it hQb hi hv hic
    refine ofJ1 _ _ _ ?_
    intro es r t tn vs hmb hmn hmr hmq hvs hT hI F₁ N₁
    clear ofJ1
    have hlt : vs1.length - 1 - i < (digs n x (ndig x n)).length := by rw [digs_len, ← hlv]; omega
    obtain ⟨tv, hv2⟩ := IntsAre_get hi1 _ hlt
    rw [hv] at hv2
    cases hv2
    rw [digs_get, hlv, know4 hmb hmn hmr hmq] at F₁
    clear hmb hmn hmr hmq
    k_steps
    refine ⟨?_⟩
    have hr := hT.room hb0
    have hr80 : r < 2 ^ 80 := Nat.lt_trans hr hb1
    refine lshift_int (Int.natCast_nonneg _) (lift_room (Nat.lt_of_lt_of_le hr80 (Nat.pow_le_pow_right (by decide) (by decide))) (by omega)) ?_
    rw [Int.toNat_natCast, show (r : Int) * 2 ^ n = ((r * 2 ^ n : Nat) : Int) by simp]
    k_steps
    refine ⟨?_⟩
    rw [← Int.natCast_add]
    have hxx : r * 2 ^ n + x / 2 ^ (n * (ndig x n - 1 - i)) % 2 ^ n < 2 ^ 400 := by
      have hm : x / 2 ^ (n * (ndig x n - 1 - i)) % 2 ^ n < 2 ^ n := Nat.mod_lt _ (Nat.two_pow_pos _)
      have hp : 2 ^ n ≤ 2 ^ 80 := Nat.pow_le_pow_right (by decide) hn1
      have hq := Nat.mul_le_mul (Nat.le_of_lt hr80) hp
      have : (2 ^ 80 * 2 ^ 80 + 2 ^ 80 : Nat) < 2 ^ 400 := by decide
      omega
    have hN := hT.next (by omega : i < ndig x n) hb0
    have hle : vs.length ≤ 80 := by
      have := IntsAre_len hvs
      rw [List.length_map, hT.len] at this
      omega
    generalize r * 2 ^ n + x / 2 ^ (n * (ndig x n - 1 - i)) % 2 ^ n = y at *
    refine dv2_con (by k_asm) (by k_asm) (by k_asm) (by k_asm) (by k_asm) (by k_asm) rfl ⟨hb0, Nat.lt_trans hb1 (by decide), hxx⟩ (by show dp + 1 + 2 < _; omega) (by show un + 3 + 20 < _; omega) ?_
    intro r2 nw2 h2 tk2 F2 N2 hp2
    obtain ⟨d2, u1, u2, e3, e4, ld2⟩ := hp2
    subst e3 e4
    k_steps
    refine ⟨?_⟩
    rename News _ _ _ _ => N5
    have N6 := news_sub (news := (lq, W.listOf vs.toArray vs.length) :: (D, it) :: (202, tabObj ps1) :: (la, W.listOf vs1.toArray 0) :: (add1 ++ (209, tabObj qs) :: rest)) N5 (by walk_at "mine sub")
    clear N5
    have hDq : lq ≠ D := hI _ (List.mem_cons_self ..)
    refine append_M (by assumption) N6 (.head fun p hp => (List.mem_cons.mp hp).elim (fun e => by rw [e]; exact Ne.symm hDq) fun hp => Nat.ne_of_lt (lR p hp)) (by omega) (fun h₃ F₃ N₃ => ?_)
    clear N6
    k_steps
    have N7 := news_sub (news := (D, it) :: (lq, W.listOf (vs ++ [Value.int ((y / b : Nat) : Int) u1]).toArray (vs ++ [Value.int ((y / b : Nat) : Int) u1]).length) :: (202, tabObj ps1) :: (la, W.listOf vs1.toArray 0) :: (add1 ++ (209, tabObj qs) :: rest)) N₃ (by walk_at "mine sub")
    refine hQb _ _ _ _ (by assumption) N7 ?_ (toJ1 _ _ _ fun G9 k9 => k9 (es ++ [y / b]) (y % b) _ _ _ rfl rfl rfl rfl (ints_snoc hvs _ _) hN)
    · intro p hp
      rcases List.mem_cons.mp hp with rfl | hp
      · exact hDq
      · exact Nat.ne_of_lt (Nat.lt_trans (lR p hp) l3.1)
  · intro m₁ h tk₁
    refine ofJ1 _ _ _ ?_
    intro es r t tn vs hmb hmn hmr hmq hvs hT F₁ N₁
    rw [know4 hmb hmn hmr hmq] at F₁
    clear hmb hmn hmr hmq
    rw [hlv] at hT
    have hA := hT.all
    k_steps
    refine ⟨?_⟩
    refine kl_reverse (by assumption) (by assumption) rfl (.head fun p hp => Nat.ne_of_lt (lR p hp)) (by have := IntsAre_len hvs; rw [List.length_map, hT.len] at this; rw [List.toList_toArray, this, sizeLine_eq]; omega) ?_
    intro h4 F4 N4
    have hvr : IntsAre vs.reverse (es.reverse.map Int.ofNat) := by
      rw [List.map_reverse]
      exact PyProof.Rows.IntsAre.reverse hvs
    rw [List.toList_toArray] at N4
    k_steps
    refine ⟨?_⟩
    have hlen : vs.length = ndig x n := by have := IntsAre_len hvs; rw [List.length_map, hT.len] at this; exact this
    refine d2i_con (nq := vs.length) (rest := (202, tabObj ps1) :: (la, W.listOf vs1.toArray 0) :: (add1 ++ rest)) (by k_asm) (by k_asm) (by k_asm)
      (news_sub N4 (by walk_at "mine sub")) (by k_asm) (by k_asm) rfl
      ⟨fun p hp => ?_, fun p hp => lR p ?_, hh2.2.2 |> fun h => ktn_ltOf h (209, tabObj qs) (by simp), hTc.mono fun p hp => by simp [hp], hvr, fun e he => hT.small e (List.mem_reverse.mp he), by rw [List.length_reverse, hT.len]; exact hK, hn0, by omega⟩ (by show dp + 1 + 100 < _; omega) (by show un + 3 + 900 < _; omega) ?_
    · rcases List.mem_cons.mp hp with rfl | hp
      · show (202 : Nat) ≠ 209; decide
      rcases List.mem_cons.mp hp with rfl | hp
      · exact Nat.ne_of_gt la1
      rcases List.mem_append.mp hp with hp | hp
      · exact Nat.ne_of_gt ((lo3 p hp).2.2 (209, tabObj qs) (List.mem_cons_self ..))
      · exact (hoff p hp).2
    · simp only [List.mem_cons, List.mem_append] at hp ⊢
      grind
    intro r5 nw5 h5 tk5 F5 N5 hp5
    obtain ⟨qs2, add2, t5, e5, e6, hTc2, lo5⟩ := hp5
    subst e5 e6
    rw [hA.1, hA.2] at *
    k_steps
    rename_i D9 _ _ _ l9 _ kN9 _ _
    have l10 := ktn_ltOf l9.2.2
    have kN8 := news_sub (news := (D9, { cls := .type "tuple", data := .seq #[.int ((x / b : Nat) : Int) t5, .int ((x % b : Nat) : Int) t] }) :: (202, tabObj ps1) :: (209, tabObj qs2) :: ((add2 ++ add1) ++ rest)) kN9 (by walk_at "mine sub")
    refine hret _ _ _ _ (by assumption) kN8 ⟨ps1, qs2, add2 ++ add1, _, _, _, rfl, rfl, ?_, ?_, ⟨l10 (202, tabObj ps1) (by simp), l9.2.1, fun q hq => l10 q ?_, fun q hq => l10 q (by simp [hq])⟩, fun p hp => ?_⟩
    · refine hTb1.off hTc fun p hp => ?_
      simp only [List.mem_cons, List.mem_append] at hp ⊢
      rcases hp with h | h | h
      · exact .inl (.inl (.inr h))
      · exact .inr (.inl (by rw [h]))
      · exact .inl (.inr h)
    · refine hTc2.off hTb1 fun p hp => ?_
      simp only [List.mem_cons, List.mem_append] at hp ⊢
      rcases hp with h | h | h | h | h
      · exact .inl (.inl (.inl h))
      · exact .inr (.inl (by rw [h]))
      · exact .inr (.inr ⟨_, _, by rw [h]⟩)
      · exact .inl (.inl (.inr h))
      · exact .inl (.inr h)
    · simp only [List.mem_cons, List.mem_append] at hq ⊢
      grind
    · rcases List.mem_append.mp hp with hp | hp
      · exact ⟨(lo5 p hp).2.2 (202, tabObj ps1) (by simp), (lo5 p hp).2.1, fun q hq => (lo5 p hp).2.2 q (by simp [hq])⟩
      · exact ⟨(lo3 p hp).2.1, (lo3 p hp).2.2 (209, tabObj qs) (by simp), fun q hq => (lo3 p hp).2.2 q (by simp [hq])⟩
end
section
theorem idvA_con {w : World} {loose : List PySem.Str} {mean : ExcName → Option Value} {mg mb : PySem.Str → Option Value} {rest : List (Addr × Obj)} {x b : Nat} {tx tb : Tok} {ps qs : Array Value} :
   Con PySem.Challenge.rw_re0161_02.row.prog w (Mine.pre.heap_1 w.params) PySem.Challenge.rw_re0161_02.row.prog loose mean mg mb 107 960 228 ((202, tabObj ps) :: (209, tabObj qs) :: rest)
     (DvPre 202 209 131 146 ps qs rest ∧ x < 2 ^ 80 ∧ 0 < b ∧ b < 2 ^ 80) [.int (x : Int) tx, .int (b : Int) tb] []
     (fun r nw => DvPost 202 209 131 146 rest ((x / b : Nat) : Int) ((x % b : Nat) : Int) r nw) := by
  intro dp un gd cn cs a ccd cl outer A₀ base h₀ L m s Q E B F X N T XM hk ⟨⟨hoff, hTb, hTc⟩, hx1, hb0, hb1⟩ hd hu hret
  refine wpAny_call ?_
  k_dflt (refine' code_def ?k1 ?k2 ?k3 ?k4 ?k5 ?kA ?kF ?kK ?k6 ?k7 ?k8 ?k9 ?kB ?_ ?c2 ?c3 ?c4 ?c5; (case kA => exact rfl); (case kF => exact rfl); (case kK => first | exact rfl | assumption); (case k1 => k_asm); (case k2 => k_asm); (case k3 => k_asm); (case k4 => k_asm); (case k5 => k_asm); (case k6 => k_is); (case k7 => k_is); (case k8 => ktr_room); (case k9 => first | exact BindsTo.of_eq rfl | exact binds_K (by k_in) rfl (by k_is) rfl rfl rfl); (case c5 => decide); (case kB => exact locs rfl); (case c2 => exact rfl); (case c3 => exact rfl); (case c4 => exact rfl); k_whole; intro g' L' h' FG' F' N' B' X' T'; (try dsimp only); (try k_lift B'); (try k_fold))
  obtain ⟨mE, hmE, FE⟩ := fr_gen F'
  clear F'
  have XM' := Flt.MathXP.keeps _ _ _ XM FG'.keep
  have e0E : mE (Str.ofString "a") = some (.int (x : Int) tx) := by rw [hmE]; rfl
  have e1E : mE (Str.ofString "b") = some (.int (b : Int) tb) := by rw [hmE]; rfl
  rw [know e0E, know e1E] at FE
  clear hmE e0E e1E
  k_steps
  all_goals try (exfalso; omega)
  refine ⟨?_⟩
  refine divp_con (by k_asm) (by k_asm) (by k_asm) (by k_asm) (by k_asm) (by k_asm) rfl ⟨hoff, hTb, hTc, hx1, hb0, hb1⟩ (by show dp + 1 + 105 < _; omega) (by show un + 3 + 950 < _; omega) ?_
  intro r2 nw2 h2 tk2 F2 N2 hp2
  have hp3 := hp2
  obtain ⟨ps', qs', add, d, t1, t2, e1, e2, _⟩ := hp2
  subst e1 e2
  k_steps
  exact hret _ _ _ _ (by assumption) (by assumption) hp3
theorem idvB_con {w : World} {loose : List PySem.Str} {mean : ExcName → Option Value} {mg mb : PySem.Str → Option Value} {rest : List (Addr × Obj)} {x b : Nat} {tx tb : Tok} {ps qs : Array Value} :
   Con PySem.Challenge.rw_re0161_02.row.prog w (Mine.pre.heap_1 w.params) PySem.Challenge.rw_re0161_02.row.prog loose mean mg mb 109 970 228 ((202, tabObj ps) :: (209, tabObj qs) :: rest)
     (DvPre 202 209 131 146 ps qs rest ∧ x < 2 ^ 80 ∧ 0 < b ∧ b < 2 ^ 80) [.int (-(x : Int) - 1) tx, .int (b : Int) tb] []
     (fun r nw => DvPost 202 209 131 146 rest (-((x / b : Nat) : Int) - 1) ((b : Int) - ((x % b : Nat) : Int) - 1) r nw) := by
  intro dp un gd cn cs a ccd cl outer A₀ base h₀ L m s Q E B F X N T XM hk ⟨hpre, hx1, hb0, hb1⟩ hd hu hret
  refine wpAny_call ?_
  k_dflt (refine' code_def ?k1 ?k2 ?k3 ?k4 ?k5 ?kA ?kF ?kK ?k6 ?k7 ?k8 ?k9 ?kB ?_ ?c2 ?c3 ?c4 ?c5; (case kA => exact rfl); (case kF => exact rfl); (case kK => first | exact rfl | assumption); (case k1 => k_asm); (case k2 => k_asm); (case k3 => k_asm); (case k4 => k_asm); (case k5 => k_asm); (case k6 => k_is); (case k7 => k_is); (case k8 => ktr_room); (case k9 => first | exact BindsTo.of_eq rfl | exact binds_K (by k_in) rfl (by k_is) rfl rfl rfl); (case c5 => decide); (case kB => exact locs rfl); (case c2 => exact rfl); (case c3 => exact rfl); (case c4 => exact rfl); k_whole; intro g' L' h' FG' F' N' B' X' T'; (try dsimp only); (try k_lift B'); (try k_fold))
  obtain ⟨mE, hmE, FE⟩ := fr_gen F'
  clear F'
  have XM' := Flt.MathXP.keeps _ _ _ XM FG'.keep
  have e0E : mE (Str.ofString "a") = some (.int (-(x : Int) - 1) tx) := by rw [hmE]; rfl
  have e1E : mE (Str.ofString "b") = some (.int (b : Int) tb) := by rw [hmE]; rfl
  rw [know e0E, know e1E] at FE
  clear hmE e0E e1E
  k_steps
  all_goals try (exfalso; omega)
  refine ⟨?_⟩
  rw [show Builtin.bitNot (-(x : Int) - 1) = (x : Int) by unfold Builtin.bitNot; omega]
  refine idvA_con (by k_asm) (by k_asm) (by k_asm) (by k_asm) (by k_asm) (by k_asm) rfl ⟨hpre, hx1, hb0, hb1⟩ (by show dp + 1 + 107 < _; omega) (by show un + 3 + 960 < _; omega) ?_
  intro r2 nw2 h2 tk2 F2 N2 hp2
  obtain ⟨ps', qs', add, d, t1, t2, e1, e2, hT1, hT2, hl1, hl2⟩ := hp2
  subst e1 e2
  k_steps
  rename_i D9 _ _ _ l9 _ kN9 _ _
  have l10 := ktn_ltOf l9.2.2.2
  obtain ⟨o9, ho9, kN8⟩ := news_head kN9
  have kN7 := news_sub (news := (D9, o9) :: (202, tabObj ps') :: (209, tabObj qs') :: (add ++ rest)) kN8 fun p hp => by
    simp only [List.mem_cons, List.mem_append] at hp ⊢
    grind
  rw [show (b : Int) + Builtin.bitNot ((x % b : Nat) : Int) = (b : Int) - ((x % b : Nat) : Int) - 1 by unfold Builtin.bitNot; omega] at ho9
  subst ho9
  exact hret _ _ _ _ (by assumption) kN7 ⟨ps', qs', add, _, _, _, rfl, rfl, hT1, hT2, ⟨l9.2.1, l9.2.2.1, fun q hq => l10 q (List.mem_append_left _ hq), fun q hq => l10 q (List.mem_append_right _ hq)⟩, hl2⟩
theorem idvP_con {w : World} {loose : List PySem.Str} {mean : ExcName → Option Value} {mg mb : PySem.Str → Option Value} {rest : List (Addr × Obj)} {a : Int} {b : Nat} {tx tb : Tok} {ps qs : Array Value} :
   Con PySem.Challenge.rw_re0161_02.row.prog w (Mine.pre.heap_1 w.params) PySem.Challenge.rw_re0161_02.row.prog loose mean mg mb 109 970 228 ((202, tabObj ps) :: (209, tabObj qs) :: rest)
     (DvPre 202 209 131 146 ps qs rest ∧ a.natAbs < 2 ^ 80 ∧ 0 < b ∧ b < 2 ^ 80) [.int a tx, .int (b : Int) tb] []
     (fun r nw => DvPost 202 209 131 146 rest (a.fdiv b) (a.fmod b) r nw) := by
  intro dp un gd cn cs ad ccd cl outer A₀ base h₀ L m s Q E B F X N T XM hk ⟨hpre, hx1, hb0, hb1⟩ hd hu hret
  rcases Int.lt_or_le a 0 with ha | ha
  · obtain ⟨x, rfl⟩ : ∃ x : Nat, a = -(x : Int) - 1 := ⟨(-a - 1).toNat, by omega⟩
    refine idvB_con B F X N T XM hk ⟨hpre, by omega, hb0, hb1⟩ (by omega) (by omega) ?_
    obtain ⟨e1, e2⟩ := fdiv_neg_of x b hb0
    rw [e1, e2] at hret
    exact hret
  · obtain ⟨x, rfl⟩ : ∃ x : Nat, a = (x : Int) := ⟨a.toNat, by omega⟩
    refine idvA_con B F X N T XM hk ⟨hpre, by omega, hb0, hb1⟩ (by omega) (by omega) ?_
    rw [Int.fdiv_eq_ediv_of_nonneg _ (by omega), Int.fmod_eq_emod_of_nonneg _ (by omega)] at hret
    exact hret
theorem idvC_con {w : World} {loose : List PySem.Str} {mean : ExcName → Option Value} {mg mb : PySem.Str → Option Value} {rest : List (Addr × Obj)} {a b : Int} {tx tb : Tok} {ps qs : Array Value} :
   Con PySem.Challenge.rw_re0161_02.row.prog w (Mine.pre.heap_1 w.params) PySem.Challenge.rw_re0161_02.row.prog loose mean mg mb 111 980 228 ((202, tabObj ps) :: (209, tabObj qs) :: rest)
     (DvPre 202 209 131 146 ps qs rest ∧ a.natAbs < 2 ^ 80 ∧ b < 0 ∧ b.natAbs < 2 ^ 80) [.int a tx, .int b tb] []
     (fun r nw => DvPost 202 209 131 146 rest (a.fdiv b) (a.fmod b) r nw) := by
  intro dp un gd cn cs ad ccd cl outer A₀ base h₀ L m s Q E B F X N T XM hk ⟨hpre, hx1, hb0, hb1⟩ hd hu hret
  refine wpAny_call ?_
  k_dflt (refine' code_def ?k1 ?k2 ?k3 ?k4 ?k5 ?kA ?kF ?kK ?k6 ?k7 ?k8 ?k9 ?kB ?_ ?c2 ?c3 ?c4 ?c5; (case kA => exact rfl); (case kF => exact rfl); (case kK => first | exact rfl | assumption); (case k1 => k_asm); (case k2 => k_asm); (case k3 => k_asm); (case k4 => k_asm); (case k5 => k_asm); (case k6 => k_is); (case k7 => k_is); (case k8 => ktr_room); (case k9 => first | exact BindsTo.of_eq rfl | exact binds_K (by k_in) rfl (by k_is) rfl rfl rfl); (case c5 => decide); (case kB => exact locs rfl); (case c2 => exact rfl); (case c3 => exact rfl); (case c4 => exact rfl); k_whole; intro g' L' h' FG' F' N' B' X' T'; (try dsimp only); (try k_lift B'); (try k_fold))
  obtain ⟨mE, hmE, FE⟩ := fr_gen F'
  clear F'
  have XM' := Flt.MathXP.keeps _ _ _ XM FG'.keep
  have e0E : mE (Str.ofString "a") = some (.int a tx) := by rw [hmE]; rfl
  have e1E : mE (Str.ofString "b") = some (.int b tb) := by rw [hmE]; rfl
  rw [know e0E, know e1E] at FE
  clear hmE e0E e1E
  k_steps
  all_goals try (exfalso; omega)
  refine ⟨?_⟩
  obtain ⟨c, hc⟩ : ∃ c : Nat, -b = (c : Int) := ⟨(-b).toNat, by omega⟩
  have hb : b = -(c : Int) := by omega
  have e := fdiv_minus a b
  rw [hc] at e ⊢
  refine idvP_con (by k_asm) (by k_asm) (by k_asm) (by k_asm) (by k_asm) (by k_asm) rfl ⟨hpre, by omega, by omega, by omega⟩ (by show dp + 1 + 109 < _; omega) (by show un + 3 + 970 < _; omega) ?_
  intro r2 nw2 h2 tk2 F2 N2 hp2
  rw [e.1, e.2] at hp2
  obtain ⟨ps', qs', add, d, t1, t2, e1, e2, hT1, hT2, hl1, hl2⟩ := hp2
  subst e1 e2
  k_steps
  rename_i D9 _ _ _ l9 _ kN9 _ _
  have l10 := ktn_ltOf l9.2.2.2
  obtain ⟨o9, ho9, kN8⟩ := news_head kN9
  have kN7 := news_sub (news := (D9, o9) :: (202, tabObj ps') :: (209, tabObj qs') :: (add ++ rest)) kN8 fun p hp => by
    simp only [List.mem_cons, List.mem_append] at hp ⊢
    grind
  subst ho9
  rw [Int.neg_neg] at kN7
  exact hret _ _ _ _ (by assumption) kN7 ⟨ps', qs', add, _, _, _, rfl, rfl, hT1, hT2, ⟨l9.2.1, l9.2.2.1, fun q hq => l10 q (List.mem_append_left _ hq), fun q hq => l10 q (List.mem_append_right _ hq)⟩, hl2⟩
theorem idv_con {w : World} {loose : List PySem.Str} {mean : ExcName → Option Value} {mg mb : PySem.Str → Option Value} {rest : List (Addr × Obj)} {a b : Int} {tx tb : Tok} {ps qs : Array Value} :
   Con PySem.Challenge.rw_re0161_02.row.prog w (Mine.pre.heap_1 w.params) PySem.Challenge.rw_re0161_02.row.prog loose mean mg mb 111 980 228 ((202, tabObj ps) :: (209, tabObj qs) :: rest)
     (DvPre 202 209 131 146 ps qs rest ∧ a.natAbs < 2 ^ 80 ∧ b ≠ 0 ∧ b.natAbs < 2 ^ 80) [.int a tx, .int b tb] []
     (fun r nw => DvPost 202 209 131 146 rest (a.fdiv b) (a.fmod b) r nw) := by
  intro dp un gd cn cs ad ccd cl outer A₀ base h₀ L m s Q E B F X N T XM hk ⟨hpre, hx1, hb0, hb1⟩ hd hu hret
  rcases Int.lt_or_le b 0 with hb | hb
  · exact idvC_con B F X N T XM hk ⟨hpre, hx1, hb, hb1⟩ hd hu hret
  · obtain ⟨c, rfl⟩ : ∃ c : Nat, b = (c : Int) := ⟨b.toNat, by omega⟩
    exact idvP_con B F X N T XM hk ⟨hpre, hx1, by omega, by omega⟩ (by omega) (by omega) hret
end
section
local macro_rules | `(tactic| walk_at "call ref") => `(tactic| ((with_reducible show wpAny _ _ (call (Value.ref 83) [_, Value.str _ _] _) _ _ _); k_dflt (refine conv_con (by k_asm) (by k_asm) (by k_asm) (by k_asm) (by k_asm) (by k_asm) (by first | exact rfl | assumption) (by assumption) (by ktr_room) (by ktr_units) ?_); (intro r9 nw9 h9 tk9 F9 N9 hp9); (have e1 := hp9.1); (have e2 := hp9.2); (subst e1); (subst e2); (try k_sweep)))
theorem del_con {w : World} {loose : List PySem.Str} {mean : ExcName → Option Value} {mg mb : PySem.Str → Option Value} {rest : List (Addr × Obj)} {t d hl : Addr} {tkk : Tok} {vs : List Value} {nl : Nat} {ps : List (Str × Str)} {x : Str} {tk : Tok} :
   Con PySem.Challenge.rw_re0161_02.row.prog w (Mine.pre.heap_1 w.params) PySem.Challenge.rw_re0161_02.row.prog loose mean mg mb 3 32 102 ((hl, W.listOf vs.toArray nl) :: rest)
     ((t, instObj 182 d) ∈ rest ∧ (d, hdrDict w.params tkk hl) ∈ rest ∧ vs.length ≤ 999 ∧ Rows rest vs ps ∧ (∀ p ∈ rest, p.1 ≠ hl) ∧ Txl x) [.ref t, .str x tk] []
     (fun r nw => r = .none ∧ ∃ vs' nl', ((hl, W.listOf vs'.toArray nl') :: rest) = nw ∧ Rows rest vs' (ps.filter fun p => decide (Txt.lower p.1 ≠ Txt.lower x))) := by
  intro dp un gd cn cs a ccd cl outer A₀ base h₀ L m s Q E B F X N T XM hk ⟨hp1, hp2, hp4, hr, hoff, hx⟩ hd hu hret
  have hp1' := List.mem_cons_of_mem (hl, W.listOf vs.toArray nl) hp1
  have hp2' := List.mem_cons_of_mem (hl, W.listOf vs.toArray nl) hp2
  have hr' := hr.mono (fun p hp => List.mem_cons_of_mem (hl, W.listOf vs.toArray nl) hp)
  refine wpAny_call ?_
  k_dflt (refine' code_defC ?k1 ?k2 ?k3 ?k4 ?k5 ?kA ?kF ?kK ?k6 ?k7 ?k8 ?k9 ?kB ?kD ?_ ?c2 ?c3 ?c4; (case kA => exact rfl); (case kF => exact rfl); (case kK => first | exact rfl | assumption); (case k1 => k_asm); (case k2 => k_asm); (case k3 => k_asm); (case k4 => k_asm); (case k5 => k_asm); (case k6 => k_is); (case k7 => k_is); (case k8 => ktr_room); (case k9 => first | exact BindsTo.of_eq rfl | exact binds_K (by k_in) rfl (by k_is) rfl rfl rfl | fail "k_enter: no rule for these arguments"); (case kB => exact rfl); (case kD => decide +kernel); (case c2 => exact rfl); (case c3 => exact rfl); (case c4 => exact rfl); k_whole; intro g' L' h' tk' cells' FG' F' N' Y' B' X' T' l1; (try k_lt l1); k_cells Y'; (try simp only [List.cons_append, List.nil_append] at N'); (try dsimp only); (try k_lift B'); (try k_fold))
  obtain ⟨mE, hmE, FE⟩ := fr_gen F'
  clear F'
  have XM' := Flt.MathXP.keeps _ _ _ XM FG'.keep
  have e0E : mE (Str.ofString "self") = some (.ref t) := by rw [hmE]; rfl
  rw [know e0E] at FE
  clear hmE e0E
  have hlx := hx.lower
  rename Obj => oc
  rename _ = Data.cell _ => doc
  have hp1c := List.mem_cons_of_mem (L' + 1, oc) hp1'
  have hp2c := List.mem_cons_of_mem (L' + 1, oc) hp2'
  have doc2 : oc.data = .cell (some (.str x tk)) := doc.trans (by rfl)
  clear doc
  k_steps
  rename Obj => o2
  rename _ = Data.cell _ => do2
  have hp1d := List.mem_cons_of_mem (L' + 1, o2) hp1'
  have hp2d := List.mem_cons_of_mem (L' + 1, o2) hp2'
  have e1 := doc2
  clear doc2
  k_steps
  refine ⟨?_⟩
  refine LCt.CompSrcT.ledger rfl (by k_asm) (by k_asm) (List.mem_cons_of_mem _ (List.mem_cons_self ..)) (by rw [List.size_toArray, sizeLine_eq]; omega) ?_
  intro g3
  refine comp_invT (fun i ys nx => ((L' + 1, o2) :: (hl, W.listOf vs.toArray nl) :: rest) = nx ∧ Rows rest ys ((ps.take i).filter fun p => decide (Txt.lower p.1 ≠ Txt.lower x))) ⟨rfl, .nil⟩ ?_ ?_
  · rintro i ys nx v I oI C oC D m2 h tk E2 hj ⟨hnx, hys⟩ hv hC hx2 F3 N3 off3 ne
    subst hnx
    rw [List.getElem?_toArray] at hv
    obtain ⟨a₁, k, y, tk₃, ty, rfl, hmem, hkx, hy, hps⟩ := hr.at hv
    have hm3 := List.mem_cons_of_mem (I, oI) (List.mem_cons_of_mem (C, oC) (List.mem_cons_of_mem (D, LCg.lst ys) (List.mem_cons_of_mem (L' + 1, o2) (List.mem_cons_of_mem (hl, W.listOf vs.toArray nl) hmem))))
    k_steps
    · rename (_ != _) = true => hb
      have hb2 : Txt.lower k ≠ Txt.lower x := by simpa using hb
      refine ⟨_, _, _, rfl, by assumption, by assumption, off3, .inr ⟨_, List.mem_cons_of_mem _ (List.mem_cons_self ..), rfl, _, rfl⟩, rfl, ?_⟩
      rw [List.take_add_one, hps, List.filter_append]
      have e3 : List.filter (fun p => decide (Txt.lower p.1 ≠ Txt.lower x)) (some (k, y)).toList = [(k, y)] := by simp [hb2]
      rw [e3]
      exact hys.snoc hmem hkx hy
    · rename (_ != _) = false => hb
      have hb2 : Txt.lower k = Txt.lower x := by simpa using hb
      refine ⟨_, _, _, rfl, by assumption, by assumption, off3, .inr ⟨_, List.mem_cons_of_mem _ (List.mem_cons_self ..), rfl, _, rfl⟩, rfl, ?_⟩
      rw [List.take_add_one, hps, List.filter_append]
      have e3 : List.filter (fun p => decide (Txt.lower p.1 ≠ Txt.lower x)) (some (k, y)).toList = [] := by simp [hb2]
      rw [e3, List.append_nil]
      exact hys
  · rintro ys nx ⟨hnx, hys⟩
    subst hnx
    k_steps
    rename_i D9 _ _ _ _ o9
    have hp1e := List.mem_cons_of_mem (D9, LCg.lst ys) hp1d
    have hp2e := List.mem_cons_of_mem (D9, LCg.lst ys) hp2d
    k_steps
    rename Fr _ _ _ _ => F8
    rename News _ _ _ _ => N8
    have hyl : ys.length ≤ vs.length := by
      rw [hys.len, hr.len]
      exact Nat.le_trans (List.length_filter_le _ _) (List.length_take_le' ..)
    refine setSlice_P (new := ys) (its := vs) F8 N8 rfl rfl (List.mem_cons_self ..) o9.2.1 (by rw [sizeLine_eq]; omega) rfl (.tail (Ne.symm o9.2.1) (.tail (Nat.ne_of_gt (Nat.lt_succ_of_lt l1.1)) (.head hoff))) ?_
    intro h9 F9 N9
    k_steps
    refine hret _ _ _ _ (by assumption) (news_sub (by assumption) fun p hp => List.mem_cons_of_mem _ (List.mem_cons_of_mem _ hp)) ⟨rfl, ys, _, rfl, ?_⟩
    rw [List.size_toArray, hr.len, List.take_length] at hys
    exact hys
end
section
local macro_rules | `(tactic| walk_at "exec If") => `(tactic| (refine Hold.out ?_))
local macro_rules | `(tactic| walk_at "call ref") => `(tactic| ((with_reducible show wpAny _ _ (call (Value.ref 83) [_, Value.str _ _] _) _ _ _); k_dflt (refine conv_con (by k_asm) (by k_asm) (by k_asm) (by k_asm) (by k_asm) (by k_asm) (by first | exact rfl | assumption) (by assumption) (by ktr_room) (by ktr_units) ?_); (intro r9 nw9 h9 tk9 F9 N9 hp9); (have e1 := hp9.1); (have e2 := hp9.2); (subst e1); (subst e2); (try k_sweep)))
theorem add_con {w : World} {loose : List PySem.Str} {mean : ExcName → Option Value} {mg mb : PySem.Str → Option Value} {rest : List (Addr × Obj)} {t d hl : Addr} {tkk : Tok} {vs : List Value} {nl : Nat} {ps : List (Str × Str)} {x y : Str} {tk tky : Tok} :
   Con PySem.Challenge.rw_re0161_02.row.prog w (Mine.pre.heap_1 w.params) PySem.Challenge.rw_re0161_02.row.prog loose mean mg mb 3 32 179 ((hl, W.listOf vs.toArray nl) :: rest)
     ((t, instObj 182 d) ∈ rest ∧ (d, hdrDict w.params tkk hl) ∈ rest ∧ vs.length ≤ 999 ∧ Rows rest vs ps ∧ (∀ p ∈ rest, p.1 ≠ hl) ∧ Txl x ∧ Txl y) [.ref t, .str x tk, .str y tky] []
     (fun r nw => r = .none ∧ ∃ a' t', ((hl, W.listOf (vs ++ [Value.ref a']).toArray (nl + 1)) :: (a', tupObj [.str x tk, .str y t']) :: rest) = nw ∧ hl < a' ∧ ∀ p ∈ rest, p.1 < a') := by
  intro dp un gd cn cs a ccd cl outer A₀ base h₀ L m s Q E B F X N T XM hk ⟨hp1, hp2, hp4, hr, hoff, hx, hy⟩ hd hu hret
  have hp1' := List.mem_cons_of_mem (hl, W.listOf vs.toArray nl) hp1
  have hp2' := List.mem_cons_of_mem (hl, W.listOf vs.toArray nl) hp2
  have hr' := hr.mono (fun p hp => List.mem_cons_of_mem (hl, W.listOf vs.toArray nl) hp)
  refine wpAny_call ?_
  k_dflt (refine' kp_more ?k1 ?k2 ?k3 ?k4 ?k5 ?kA ?kF ?kK ?k6 ?k7 ?k8 ?kX ?kM ?kN ?kD ?kR ?kP ?kT ?kB ?_ ?c2 ?c3 ?c4 ?c5; (case kA => exact rfl); (case kF => exact rfl); (case kK => first | exact rfl | assumption); (case k1 => k_asm); (case k2 => k_asm); (case k3 => k_asm); (case k4 => k_asm); (case k5 => k_asm); (case k6 => k_is); (case k7 => k_is); (case k8 => ktr_room); (case kX => kp_lit); (case kM => exact rfl); (case kN => exact rfl); (case kD => kp_flats); (case kR => exact rfl); (case kP => exact rfl); (case kT => exact fun _ => rfl); (case kB => exact fun _ => locs rfl); (case c5 => decide); (case c2 => exact rfl); (case c3 => exact rfl); (case c4 => exact rfl); k_whole; intro D' o' g' L' h' tk' l1 lo' hs' fs' FG' F' N' B' X' T'; (try k_lt l1); (try dsimp only); (try k_lift B'); (try k_fold))
  obtain ⟨mE, hmE, FE⟩ := fr_gen F'
  clear F'
  have XM' := Flt.MathXP.keeps _ _ _ XM FG'.keep
  have e0E : mE (Str.ofString "self") = some (.ref t) := by rw [hmE]; rfl
  have e1E : mE (Str.ofString "_name") = some (.str x tk) := by rw [hmE]; rfl
  have e2E : mE (Str.ofString "_value") = some (.str y tky) := by rw [hmE]; rfl
  have e3E : mE (Str.ofString "_params") = some (.ref D') := by rw [hmE]; rfl
  rw [know e0E, know e1E, know e2E, know e3E] at FE
  clear hmE e0E e1E e2E e3E
  k_steps
  refine ⟨?_⟩
  rename_i lp h6 l7 h7 F7 N7
  refine wpAny_If ?_
  have hp1c : (t, instObj 182 d) ∈ (lp, W.listOf #[] 0) :: (D', o') :: (hl, W.listOf vs.toArray nl) :: rest := List.mem_cons_of_mem _ (List.mem_cons_of_mem _ hp1')
  have hp2c : (d, hdrDict w.params tkk hl) ∈ (lp, W.listOf #[] 0) :: (D', o') :: (hl, W.listOf vs.toArray nl) :: rest := List.mem_cons_of_mem _ (List.mem_cons_of_mem _ hp2')
  have hp1d : (t, instObj 182 d) ∈ (lp, W.listOf (#[].push (Value.str y tky)) (0 + 1)) :: (D', o') :: (hl, W.listOf vs.toArray nl) :: rest := List.mem_cons_of_mem _ (List.mem_cons_of_mem _ hp1')
  have hp2d : (d, hdrDict w.params tkk hl) ∈ (lp, W.listOf (#[].push (Value.str y tky)) (0 + 1)) :: (D', o') :: (hl, W.listOf vs.toArray nl) :: rest := List.mem_cons_of_mem _ (List.mem_cons_of_mem _ hp2')
  k_steps
  rename News _ _ _ _ => N8
  have N9 := news_sub (news := (lp, W.listOf (#[].push (Value.str y tky)) (0 + 1)) :: (hl, W.listOf vs.toArray nl) :: rest) N8 (by walk_at "mine sub")
  clear N8 hp1d hp2d hp1c hp2c hr'
  have hp1e : (t, instObj 182 d) ∈ (lp, W.listOf (#[].push (Value.str y tky)) (0 + 1)) :: (hl, W.listOf vs.toArray nl) :: rest := List.mem_cons_of_mem _ hp1'
  have hp2e : (d, hdrDict w.params tkk hl) ∈ (lp, W.listOf (#[].push (Value.str y tky)) (0 + 1)) :: (hl, W.listOf vs.toArray nl) :: rest := List.mem_cons_of_mem _ hp2'
  k_steps
  rename Fr _ _ _ _ => F9
  rename News _ _ _ _ => N10
  have lN : ∀ p ∈ (hl, W.listOf vs.toArray nl) :: rest, @LT.lt Nat instLTNat p.1 _ := fun p hp => Heap.lt_size (N10 p (List.mem_cons_of_mem _ hp)).1
  refine SC.join (texts := [y]) (list_at (vs := strValues [(y, tky)]) N10 (.head _)) rfl (joinOk_of_weight (by show y.length + 0 + 1 ≤ _; have := hy.2; omega) (by decide +kernel)) ?_
  intro kj tj
  have ej : Txt.join (Str.ofString "; ") [y] = y := by unfold Txt.join; rw [StrLaws.glued_eq_join]; rfl
  rw [ej]
  k_steps
  rename News _ _ _ _ => N11
  rename Fr _ _ _ _ => F11
  refine append_C F11 N11 (.tail (Nat.ne_of_gt (lN _ (.head _))) (.tail (Nat.ne_of_gt l7.2.1) (.head hoff))) (by omega) ?_
  intro h12 F12 N12
  k_steps
  refine hret _ _ _ _ (by assumption) (news_sub (by assumption) fun p hp => ?_) ⟨rfl, _, kj, rfl, lN _ (.head _), fun p hp => lN p (.tail _ hp)⟩
  rcases List.mem_cons.mp hp with rfl | hp
  · exact .tail _ (.tail _ (.head _))
  · rcases List.mem_cons.mp hp with rfl | hp
    · exact .head _
    · exact .tail _ (.tail _ (.tail _ hp))
end
section
local macro_rules | `(tactic| walk_at "call ref") => `(tactic| ((with_reducible show wpAny _ _ (call (Value.ref 83) [_, Value.str _ _] _) _ _ _); k_dflt (refine conv_con (by k_asm) (by k_asm) (by k_asm) (by k_asm) (by k_asm) (by k_asm) (by first | exact rfl | assumption) (by assumption) (by ktr_room) (by ktr_units) ?_); (intro r9 nw9 h9 tk9 F9 N9 hp9); (have e1 := hp9.1); (have e2 := hp9.2); (subst e1); (subst e2); (try k_sweep)))
theorem getall_con {w : World} {loose : List PySem.Str} {mean : ExcName → Option Value} {mg mb : PySem.Str → Option Value} {rest : List (Addr × Obj)} {t d hl : Addr} {tkk : Tok} {vs : List Value} {nl : Nat} {ps : List (Str × Str)} {x : Str} {tk : Tok} :
   Con PySem.Challenge.rw_re0161_02.row.prog w (Mine.pre.heap_1 w.params) PySem.Challenge.rw_re0161_02.row.prog loose mean mg mb 3 32 121 ((hl, W.listOf vs.toArray nl) :: rest)
     ((t, instObj 182 d) ∈ rest ∧ (d, hdrDict w.params tkk hl) ∈ rest ∧ vs.length ≤ 999 ∧ Rows rest vs ps ∧ (∀ p ∈ rest, p.1 ≠ hl) ∧ Txl x) [.ref t, .str x tk] []
     (fun r nw => ∃ D ys, r = .ref D ∧ ((D, LCg.lst ys) :: (hl, W.listOf vs.toArray nl) :: rest) = nw ∧ StrsAre ys ((ps.filter fun p => decide (Txt.lower p.1 = Txt.lower x)).map (·.2)) ∧ ∀ p ∈ (hl, W.listOf vs.toArray nl) :: rest, p.1 ≠ D) := by
  intro dp un gd cn cs a ccd cl outer A₀ base h₀ L m s Q E B F X N T XM hk ⟨hp1, hp2, hp4, hr, hoff, hx⟩ hd hu hret
  have hp1' := List.mem_cons_of_mem (hl, W.listOf vs.toArray nl) hp1
  have hp2' := List.mem_cons_of_mem (hl, W.listOf vs.toArray nl) hp2
  have hr' := hr.mono (fun p hp => List.mem_cons_of_mem (hl, W.listOf vs.toArray nl) hp)
  refine wpAny_call ?_
  k_dflt (refine' code_defC ?k1 ?k2 ?k3 ?k4 ?k5 ?kA ?kF ?kK ?k6 ?k7 ?k8 ?k9 ?kB ?kD ?_ ?c2 ?c3 ?c4; (case kA => exact rfl); (case kF => exact rfl); (case kK => first | exact rfl | assumption); (case k1 => k_asm); (case k2 => k_asm); (case k3 => k_asm); (case k4 => k_asm); (case k5 => k_asm); (case k6 => k_is); (case k7 => k_is); (case k8 => ktr_room); (case k9 => first | exact BindsTo.of_eq rfl | exact binds_K (by k_in) rfl (by k_is) rfl rfl rfl | fail "k_enter: no rule for these arguments"); (case kB => exact rfl); (case kD => decide +kernel); (case c2 => exact rfl); (case c3 => exact rfl); (case c4 => exact rfl); k_whole; intro g' L' h' tk' cells' FG' F' N' Y' B' X' T' l1; (try k_lt l1); k_cells Y'; (try simp only [List.cons_append, List.nil_append] at N'); (try dsimp only); (try k_lift B'); (try k_fold))
  obtain ⟨mE, hmE, FE⟩ := fr_gen F'
  clear F'
  have XM' := Flt.MathXP.keeps _ _ _ XM FG'.keep
  have e0E : mE (Str.ofString "self") = some (.ref t) := by rw [hmE]; rfl
  rw [know e0E] at FE
  clear hmE e0E
  have hlx := hx.lower
  rename Obj => oc
  rename _ = Data.cell _ => doc
  have hp1c := List.mem_cons_of_mem (L' + 1, oc) hp1'
  have hp2c := List.mem_cons_of_mem (L' + 1, oc) hp2'
  have doc2 : oc.data = .cell (some (.str x tk)) := doc.trans (by rfl)
  clear doc
  k_steps
  rename Obj => o2
  rename _ = Data.cell _ => do2
  have hp1d := List.mem_cons_of_mem (L' + 1, o2) hp1'
  have hp2d := List.mem_cons_of_mem (L' + 1, o2) hp2'
  have e1 := doc2
  clear doc2
  k_steps
  refine ⟨?_⟩
  refine LCt.CompSrcT.ledger rfl (by k_asm) (by k_asm) (List.mem_cons_of_mem _ (List.mem_cons_self ..)) (by rw [List.size_toArray, sizeLine_eq]; omega) ?_
  intro g3
  refine comp_invT (fun i ys nx => ((L' + 1, o2) :: (hl, W.listOf vs.toArray nl) :: rest) = nx ∧ StrsAre ys (((ps.take i).filter fun p => decide (Txt.lower p.1 = Txt.lower x)).map (·.2))) ⟨rfl, .nil⟩ ?_ ?_
  · rintro i ys nx v I oI C oC D m2 h tk E2 hj ⟨hnx, hys⟩ hv hC hx2 F3 N3 off3 ne
    subst hnx
    rw [List.getElem?_toArray] at hv
    obtain ⟨a₁, k, y, tk₃, ty, rfl, hmem, hkx, hy, hps⟩ := hr.at hv
    have hm3 := List.mem_cons_of_mem (I, oI) (List.mem_cons_of_mem (C, oC) (List.mem_cons_of_mem (D, LCg.lst ys) (List.mem_cons_of_mem (L' + 1, o2) (List.mem_cons_of_mem (hl, W.listOf vs.toArray nl) hmem))))
    k_steps
    · rename (_ == _) = true => hb
      have hb2 : Txt.lower k = Txt.lower x := by simpa using hb
      refine ⟨_, _, _, rfl, by assumption, by assumption, off3, .inr ⟨_, List.mem_cons_of_mem _ (List.mem_cons_self ..), rfl, _, rfl⟩, rfl, ?_⟩
      rw [List.take_add_one, hps, List.filter_append, List.map_append]
      have e3 : List.filter (fun p => decide (Txt.lower p.1 = Txt.lower x)) (some (k, y)).toList = [(k, y)] := by simp [hb2]
      rw [e3]
      exact strsAre_snoc hys _ _
    · rename (_ == _) = false => hb
      have hb2 : Txt.lower k ≠ Txt.lower x := by simpa using hb
      refine ⟨_, _, _, rfl, by assumption, by assumption, off3, .inr ⟨_, List.mem_cons_of_mem _ (List.mem_cons_self ..), rfl, _, rfl⟩, rfl, ?_⟩
      rw [List.take_add_one, hps, List.filter_append]
      have e3 : List.filter (fun p => decide (Txt.lower p.1 = Txt.lower x)) (some (k, y)).toList = [] := by simp [hb2]
      rw [e3, List.append_nil]
      exact hys
  · rintro ys nx ⟨hnx, hys⟩
    subst hnx
    rw [List.size_toArray, hr.len, List.take_length] at hys
    k_steps
    rename_i D9 _ _ _ _ o9 _ kN9 _ _
    exact hret _ _ _ _ (by assumption) (news_sub (news := (D9, LCg.lst ys) :: (hl, W.listOf vs.toArray nl) :: rest) kN9 (by walk_at "mine sub")) ⟨D9, ys, rfl, rfl, hys, off1_mem o9.2⟩
end
section
local macro_rules | `(tactic| walk_at "mine 0") => Lean.Macro.throwUnsupported
local macro_rules | `(tactic| walk_at "call builtin:str.upper") => `(tactic| (refine Hold.out ?_))
def valsOf (ps : List (Str × Str)) (x : Str) : List Str := (ps.filter fun p => decide (Txt.lower p.1 = Txt.lower x)).map (·.2)
theorem free_con {w : World} {loose : List PySem.Str} {mean : ExcName → Option Value} {mg mb : PySem.Str → Option Value} {rest : List (Addr × Obj)} {t d hl : Addr} {tkk : Tok} {vs : List Value} {nl : Nat} {ps : List (Str × Str)} {x y : Str} {tx ty : Tok} :
   Con PySem.Challenge.rw_re0161_02.row.prog w (Mine.pre.heap_1 w.params) PySem.Challenge.rw_re0161_02.row.prog loose mean mg mb 5 60 257 ((hl, W.listOf vs.toArray nl) :: rest)
     ((t, instObj 182 d) ∈ rest ∧ (d, hdrDict w.params tkk hl) ∈ rest ∧ vs.length ≤ 999 ∧ Rows rest vs ps ∧ (∀ p ∈ rest, p.1 ≠ hl) ∧ Txl x ∧ Txl y) [.ref t, .str x tx, .str y ty] []
     (fun r nw => r = .bool ((valsOf ps x).any (fun z => z == y) || (valsOf ps y).any fun z => z == x) ∧ ((hl, W.listOf vs.toArray nl) :: rest) = nw) := by
  intro dp un gd cn cs a ccd cl outer A₀ base h₀ L m s Q E B F X N T XM hk ⟨hp1, hp2, hp4, hr, hoff, hx, hy⟩ hd hu hret
  have hp1' := List.mem_cons_of_mem (hl, W.listOf vs.toArray nl) hp1
  have hp2' := List.mem_cons_of_mem (hl, W.listOf vs.toArray nl) hp2
  refine wpAny_call ?_
  k_dflt (refine' code_def ?k1 ?k2 ?k3 ?k4 ?k5 ?kA ?kF ?kK ?k6 ?k7 ?k8 ?k9 ?kB ?_ ?c2 ?c3 ?c4 ?c5; (case kA => exact rfl); (case kF => exact rfl); (case kK => first | exact rfl | assumption); (case k1 => k_asm); (case k2 => k_asm); (case k3 => k_asm); (case k4 => k_asm); (case k5 => k_asm); (case k6 => k_is); (case k7 => k_is); (case k8 => ktr_room); (case k9 => first | exact BindsTo.of_eq rfl | exact binds_K (by k_in) rfl (by k_is) rfl rfl rfl); (case c5 => decide); (case kB => exact locs rfl); (case c2 => exact rfl); (case c3 => exact rfl); (case c4 => exact rfl); k_whole; intro g' L' h' FG' F' N' B' X' T'; (try dsimp only); (try k_lift B'); (try k_fold))
  obtain ⟨mE, hmE, FE⟩ := fr_gen F'
  clear F'
  have XM' := Flt.MathXP.keeps _ _ _ XM FG'.keep
  have e0E : mE (Str.ofString "table") = some (.ref t) := by rw [hmE]; rfl
  have e1E : mE (Str.ofString "one") = some (.str x tx) := by rw [hmE]; rfl
  have e2E : mE (Str.ofString "other") = some (.str y ty) := by rw [hmE]; rfl
  rw [know e0E, know e1E, know e2E] at FE
  clear hmE e0E e1E e2E
  k_steps
  refine ⟨?_⟩
  refine upper_T hx ?_
  intro k1 t1
  k_steps
  refine ⟨?_⟩
  refine getall_con (ps := ps) (by k_asm) (by k_asm) (by k_asm) (by k_asm) (by k_asm) (by k_asm) (by first | exact rfl | assumption) ⟨hp1, hp2, hp4, hr, hoff, hx.upper⟩ (by ktr_room) (by ktr_units) ?_
  intro r8 nw8 h8 tk8 F8 N8 ⟨D, ys, e8, e7, hys, hD⟩
  subst e8 e7
  rw [lower_upper hx] at hys
  have hys : StrsAre ys (valsOf ps x) := hys
  have N8' : News g' L' h8 ((D, W.listOf (List.toArray ys) ys.length) :: (hl, W.listOf vs.toArray nl) :: rest) := N8
  clear N8
  k_steps
  · rename _ = true => hb
    exact hret _ _ _ _ (by assumption) (news_sub (by assumption) fun p hp => List.mem_cons_of_mem _ hp) ⟨by rw [hb, Bool.true_or], rfl⟩
  · rename _ = false => hb
    rename News _ _ _ _ => N9
    have N10 := news_sub (news := (hl, W.listOf vs.toArray nl) :: rest) N9 fun p hp => List.mem_cons_of_mem _ hp
    clear N9
    k_steps
    refine ⟨?_⟩
    refine upper_T hy ?_
    intro k2 t2
    k_steps
    refine ⟨?_⟩
    refine getall_con (ps := ps) (by k_asm) (by k_asm) (by k_asm) (by k_asm) (by k_asm) (by k_asm) (by first | exact rfl | assumption) ⟨hp1, hp2, hp4, hr, hoff, hy.upper⟩ (by ktr_room) (by ktr_units) ?_
    intro r5 nw5 h5 tk5 F5 N5 ⟨D2, ys2, e5, e6, hys2, hD2⟩
    subst e5 e6
    rw [lower_upper hy] at hys2
    have hys2 : StrsAre ys2 (valsOf ps y) := hys2
    have N5' : News g' L' h5 ((D2, W.listOf (List.toArray ys2) ys2.length) :: (hl, W.listOf vs.toArray nl) :: rest) := N5
    clear N5
    k_steps
    exact hret _ _ _ _ (by assumption) (news_sub (by assumption) fun p hp => List.mem_cons_of_mem _ hp) ⟨by rw [hb, Bool.false_or], rfl⟩
end
section
theorem deed_con {w : World} {loose : List PySem.Str} {mean : ExcName → Option Value} {mg mb : PySem.Str → Option Value} {rest : List (Addr × Obj)} {t d hl : Addr} {tkk : Tok} {vs : List Value} {nl : Nat} {ps : List (Str × Str)} {x y : Str} {k : Int} {tk ty t2 : Tok} :
   Con PySem.Challenge.rw_re0161_02.row.prog w (Mine.pre.heap_1 w.params) PySem.Challenge.rw_re0161_02.row.prog loose mean mg mb 5 50 250 ((hl, W.listOf vs.toArray nl) :: rest)
     ((t, instObj 182 d) ∈ rest ∧ (d, hdrDict w.params tkk hl) ∈ rest ∧ vs.length ≤ 999 ∧ Rows rest vs ps ∧ (∀ p ∈ rest, p.1 ≠ hl) ∧ Txl x ∧ Txl y) [.ref t, .str x tk, .str y ty, .int k t2] []
     (fun r nw => r = .none ∧ ∃ vs' nl' gl, ((hl, W.listOf vs'.toArray nl') :: (gl ++ rest)) = nw ∧ Rows (gl ++ rest) vs' (if k = 3 then ps.filter fun p => decide (Txt.lower p.1 ≠ Txt.lower x) else ps ++ [(x, y)]) ∧ ∀ p ∈ gl, hl < p.1 ∧ ∀ q ∈ rest, q.1 < p.1) := by
  intro dp un gd cn cs a ccd cl outer A₀ base h₀ L m s Q E B F X N T XM hk ⟨hp1, hp2, hp4, hr, hoff, hx, hy⟩ hd hu hret
  have hp1' := List.mem_cons_of_mem (hl, W.listOf vs.toArray nl) hp1
  have hp2' := List.mem_cons_of_mem (hl, W.listOf vs.toArray nl) hp2
  refine wpAny_call ?_
  k_dflt (refine' code_def ?k1 ?k2 ?k3 ?k4 ?k5 ?kA ?kF ?kK ?k6 ?k7 ?k8 ?k9 ?kB ?_ ?c2 ?c3 ?c4 ?c5; (case kA => exact rfl); (case kF => exact rfl); (case kK => first | exact rfl | assumption); (case k1 => k_asm); (case k2 => k_asm); (case k3 => k_asm); (case k4 => k_asm); (case k5 => k_asm); (case k6 => k_is); (case k7 => k_is); (case k8 => ktr_room); (case k9 => first | exact BindsTo.of_eq rfl | exact binds_K (by k_in) rfl (by k_is) rfl rfl rfl); (case c5 => decide); (case kB => exact locs rfl); (case c2 => exact rfl); (case c3 => exact rfl); (case c4 => exact rfl); k_whole; intro g' L' h' FG' F' N' B' X' T'; (try dsimp only); (try k_lift B'); (try k_fold))
  obtain ⟨mE, hmE, FE⟩ := fr_gen F'
  clear F'
  have XM' := Flt.MathXP.keeps _ _ _ XM FG'.keep
  have e0E : mE (Str.ofString "table") = some (.ref t) := by rw [hmE]; rfl
  have e1E : mE (Str.ofString "name") = some (.str x tk) := by rw [hmE]; rfl
  have e2E : mE (Str.ofString "value") = some (.str y ty) := by rw [hmE]; rfl
  have e3E : mE (Str.ofString "kind") = some (.int k t2) := by rw [hmE]; rfl
  rw [know e0E, know e1E, know e2E, know e3E] at FE
  clear hmE e0E e1E e2E e3E
  k_steps
  · rename k = 3 => hk3
    k_dflt (refine' delItem_own ?F ?X ?I ?hQ ?hS ?hF ?_; (case F => k_asm); (case X => k_asm); (case I => k_inst); (case hS => k_is); (case hF => k_is); (case hQ => k_is); k_whole)
    refine del_con (ps := ps) (by k_asm) (by k_asm) (by k_asm) (by k_asm) (by k_asm) (by k_asm) (by first | exact rfl | assumption) ⟨hp1, hp2, hp4, hr, hoff, hx⟩ (by ktr_room) (by ktr_units) ?_
    intro r8 nw8 h8 tk8 F8 N8 ⟨e8, vs', nl', e7, hr8⟩
    subst e8 e7
    k_steps
    exact hret _ _ _ _ (by assumption) (by assumption) ⟨rfl, vs', nl', [], rfl, by rw [if_pos hk3]; exact hr8, fun p hp => nomatch hp⟩
  · rename ¬ k = 3 => hk3
    refine ⟨?_⟩
    refine add_con (ps := ps) (by k_asm) (by k_asm) (by k_asm) (by k_asm) (by k_asm) (by k_asm) (by first | exact rfl | assumption) ⟨hp1, hp2, hp4, hr, hoff, hx, hy⟩ (by ktr_room) (by ktr_units) ?_
    intro r1 nw1 h1 tk1 F1 N1 ⟨e1, a1, u1, f1, l1, m1⟩
    subst e1 f1
    k_steps
    refine hret _ _ _ _ (by assumption) (by assumption) ⟨rfl, vs ++ [Value.ref a1], nl + 1, [(a1, _)], rfl, ?_, fun p hp => ?_⟩
    · rw [if_neg hk3]
      exact (hr.mono fun p hp => List.mem_cons_of_mem _ hp).snoc (List.mem_cons_self ..) hx hy
    · rw [List.mem_singleton.mp hp]
      exact ⟨l1, m1⟩
end
section
local macro_rules | `(tactic| walk_at $k:str) => if k.getString ∈ ["binaryOp Pow int int", "binaryOp Mult int int", "compareOp NotEq ref ref", "compareOp In ref ref", "call builtin:list.pop", "exec While Compare cons nil"] then `(tactic| (refine Hold.out ?_)) else Lean.Macro.throwUnsupported
theorem pb_0 (k : Nat) : (0 : Int) ≤ (k : Int) := Int.natCast_nonneg k
theorem pb_1 {k : Nat} (h : k < 9) : (k : Int) ≤ 1000000 := by omega
theorem pb_2 (k : Nat) : (0 : Int) ≤ (k : Int) + 1 := by omega
theorem pb_3 {k : Nat} (h : k < 9) : (k : Int) + 1 ≤ 1000000 := by omega
theorem nmD {news : List (Addr × Obj)} {I sa l : Addr} (h : I < l ∧ sa < l ∧ AllLt l news) : ∃ b, b = l ∧ I < b ∧ sa < b ∧ ∀ p ∈ news, p.1 < b := ⟨l, rfl, h.1, h.2.1, ktn_ltOf h.2.2⟩
theorem nmA {news : List (Addr × Obj)} {a : Addr} (h : ∀ p ∈ news, p.1 < a) : ∃ b, b = a ∧ ∀ p ∈ news, p.1 < b := ⟨a, rfl, h⟩
set_option maxHeartbeats 4000000 in
theorem classes_con {w : World} {loose : List PySem.Str} {mean : ExcName → Option Value} {mg mb : PySem.Str → Option Value} {news : List (Addr × Obj)} {fl nf sz : Nat} {vf : List Value} {prs : List (Nat × Nat)} {ts : Tok} :
   Con PySem.Challenge.rw_re0161_02.row.prog w (Mine.pre.heap_1 w.params) PySem.Challenge.rw_re0161_02.row.prog loose mean mg mb 3 150 264 news ((fl, W.listOf vf.toArray nf) ∈ news ∧ DatAll news vf (prs.map tupD) ∧ (sz = 2 ∨ sz = 3) ∧ prs.length ≤ 100 ∧ okC (frOf prs) sz = true) [.int (sz : Int) ts, .ref fl] []
     (fun r nw => (∃ t, r = .int ((classesC (frOf prs) sz : Nat) : Int) t) ∧ news = nw) := by
  intro dp un gd cn cs a ccd cl outer A₀ base h₀ L m s Q E B F X N T XM hk hpre hd hu hret
  have hfl := hpre.1
  have hdat := hpre.2.1
  have hsz := hpre.2.2.1
  have hpl := hpre.2.2.2.1
  have hok := hpre.2.2.2.2
  clear hpre
  have hsz2 : sz ≤ 3 := by omega
  have hsz0 : 2 ≤ sz := by omega
  have hszB : sz < 9 := Nat.lt_of_le_of_lt hsz2 (by decide)
  refine wpAny_call ?_
  k_dflt (refine' code_def ?k1 ?k2 ?k3 ?k4 ?k5 ?kA ?kF ?kK ?k6 ?k7 ?k8 ?k9 ?kB ?_ ?c2 ?c3 ?c4 ?c5; (case kA => exact rfl); (case kF => exact rfl); (case kK => first | exact rfl | assumption); (case k1 => k_asm); (case k2 => k_asm); (case k3 => k_asm); (case k4 => k_asm); (case k5 => k_asm); (case k6 => k_is); (case k7 => k_is); (case k8 => ktr_room); (case k9 => first | exact BindsTo.of_eq rfl | exact binds_K (by k_in) rfl (by k_is) rfl rfl rfl); (case c5 => decide); (case kB => exact locs rfl); (case c2 => exact rfl); (case c3 => exact rfl); (case c4 => exact rfl); k_whole; intro g' L' h' FG' F' N' B' X' T'; (try dsimp only); (try k_lift B'); (try k_fold))
  obtain ⟨mE, hmE, FE⟩ := fr_gen F'
  clear F'
  have XM' := Flt.MathXP.keeps _ _ _ XM FG'.keep
  have e0E : mE (Str.ofString "size") = some (.int (sz : Int) ts) := by rw [hmE]; rfl
  have e1E : mE (Str.ofString "free") = some (.ref fl) := by rw [hmE]; rfl
  rw [know e0E, know e1E] at FE
  clear hmE e0E e1E
  k_steps
  refine ⟨?_⟩
  refine For_X (by assumption) (by rfl) (by rfl) ?_
  k_steps
  refine ⟨?_⟩
  refine pow_int_small (pb_0 _) (pb_1 hszB) (by decide) ?_
  k_steps
  rename (∀ p ∈ news, p.1 < _) => lsa
  obtain ⟨sa, hsae, lsb⟩ := nmA lsa
  subst hsae
  rename Obj.SetObjOf (PySem.intKind _ _) _ _ _ => hsi
  rename Obj.SetObjOf (PySem.strKind _ _) _ _ _ => hsz9
  clear hsz9
  have hsa : ∀ p ∈ news, p.1 ≠ sa := fun p hp => Nat.ne_of_lt (lsa p hp)
  refine hideC (fun (i : Nat) (m : PySem.Str → Option Value) (G : List (Addr × Obj) → Prop) => ∀ so S n t, m (Str.ofString "count") = some (.int (((stC (frOf prs) sz i).1 : Nat) : Int) t) → m (Str.ofString "size") = some (.int (sz : Int) ts) → m (Str.ofString "free") = some (.ref fl) → m (Str.ofString "seen") = some (.ref sa) →
     Obj.SetObjOf (PySem.intKind PySem.Challenge.rw_re0161_02.row.prog w) so S n → n ≤ 70 → n ≤ (stC (frOf prs) sz i).2.1.2 → MaskOf S (stC (frOf prs) sz i).2.1.1 → G ((sa, so) :: news)) ?_
  intro J1 toJ1 ofJ1
  refine range_H J1 (n := 4 ^ sz) rfl (by assumption) (by rcases hsz with rfl | rfl <;> decide) (by rcases hsz with rfl | rfl <;> decide) (by assumption) (by assumption)
     (toJ1 _ _ _ fun G9 k9 => k9 _ _ _ _ rfl rfl rfl rfl hsi (by decide) (Nat.le_refl _) fun x => (Nat.zero_testBit x).symm) ?_ ?_
  · clear hsi
    intro Qb i t m1 h1 tk1 I it hQb _ hi hic
    refine ofJ1 _ _ _ ?_
    intro so S n t0 e1 e2 e3 e4 hso hn7 hn hmk hI F1 N1
    clear ofJ1
    rw [know4 e1 e2 e3 e4] at F1
    have hok1 := okC_at hok (i + 1) hi
    have hok0 := okC_at hok i (Nat.le_of_lt hi)
    have hIs : I ≠ sa := Ne.symm (hI _ (List.mem_cons_self ..))
    have hIo : ∀ p ∈ news, p.1 ≠ I := fun p hp => hI p (.tail _ hp)
    rw [stC] at hok1
    have hIn : ∀ o' : Obj, ∀ p ∈ (sa, o') :: news, p.1 ≠ I := fun o' p hp => by
      rcases List.mem_cons.mp hp with rfl | hp
      · exact Ne.symm hIs
      · exact hIo p hp
    generalize hst : stC (frOf prs) sz i = st at *
    have hst1 : stC (frOf prs) sz (i + 1) = outC (frOf prs) sz st i := by rw [stC, hst]
    have hbi := hmk i
    k_steps
    · rename S (i : Int) = true => hb
      rw [hb] at hbi
      rw [outC_old hbi.symm] at hst1
      exact hQb _ _ _ _ (by assumption) (by assumption) hI (toJ1 _ _ _ fun G9 k9 => k9 _ _ _ _ (congrArg (fun z : Nat × (Nat × Nat) × Bool => some (Value.int ((z.1 : Nat) : Int) t0)) hst1.symm) rfl rfl rfl hso hn7 (by rw [hst1]; exact hn) (by rw [hst1]; exact hmk))
    · rename S (i : Int) = false => hb
      rw [hb] at hbi
      have hbi := hbi.symm
      have hwk := out_new hok1 hbi
      have hcn := whileOk_cnt hwk
      have hmk' := hmk.add i
      obtain ⟨hc1, hc2⟩ := outC_new (fr := frOf prs) (sz := sz) hbi
      rw [← hst1] at hc1 hc2
      have hwc := whileC_cnt hwk
      clear hok1 hok0
      rename Obj.SetObjOf _ _ (fun k' => S k' || decide (k' = (i : Int))) _ => hs2
      rw [hb] at hs2
      rename Fr _ _ _ _ => F8
      rename News _ _ _ _ => N8
      rename _ ∧ _ ∧ _ => l8
      obtain ⟨D, hDe, lD1, lD2, lD3⟩ := nmD l8
      subst hDe
      refine ⟨?_⟩
      refine hideC (fun (f : Nat) (m : PySem.Str → Option Value) (G : List (Addr × Obj) → Prop) => ∀ so S n msk cnt T vt nt tc, m (Str.ofString "todo") = some (.ref D) → m (Str.ofString "seen") = some (.ref sa) → m (Str.ofString "size") = some (.int (sz : Int) ts) → m (Str.ofString "free") = some (.ref fl) →
         m (Str.ofString "count") = some (.int ((st.1 : Nat) + 1) tc) → Obj.SetObjOf (PySem.intKind PySem.Challenge.rw_re0161_02.row.prog w) so S n → n ≤ cnt → T.length ≤ cnt → MaskOf S msk → IntsAre vt (T.reverse.map Int.ofNat) →
         whileOkC (frOf prs) (sz - 1) (4 ^ sz) f (msk, cnt, T) = true → whileC (frOf prs) (sz - 1) f (msk, cnt, T) = (stC (frOf prs) sz (i + 1)).2.1 → G ((D, W.listOf (List.toArray vt) nt) :: (I, it) :: (sa, so) :: news)) ?_
      intro J2 toJ2 ofJ2
      refine while_H J2 (n₀ := 100) F8 N8
         (toJ2 _ _ _ fun G9 k9 => k9 _ _ _ _ _ [i] _ _ _ rfl rfl rfl rfl rfl hs2 (by simp only [Bool.false_eq_true, if_false]; exact Nat.succ_le_succ hn) (Nat.succ_le_succ (Nat.zero_le _)) hmk' (.cons _ _ .nil) hwk hc2.symm) ?_
      clear F8 N8 hs2 hso hmk hmk' hn hwk hcn F1 N1
      intro Wb Z f m2 h2 tk2 hWb hZ
      refine ofJ2 _ _ _ ?_
      intro so S n msk0 cnt0 T vt nt tc e1 e2 e3 e4 e5 hso hn hTc hmk hvt hwk hwe F2 N2
      clear ofJ2
      rw [know5 e1 e2 e3 e4 e5] at F2
      clear e1 e2 e3 e4 e5
      rcases T with _ | ⟨wd, T⟩
      · k_steps
        refine ⟨?_⟩
        refine ke_ne_ints (list_at (by k_asm) (by walk_at "mine mem")) (list_at (vs := []) (by k_asm) (by walk_at "mine mem")) hvt .nil (by ktr_units) ?_
        rw [while_end] at hwe
        have hcn := whileOk_cnt hwk
        k_steps
        refine hZ _ ?_
        k_steps
        refine hQb _ _ _ _ (by assumption) (news_sub (news := (I, it) :: (sa, so) :: news) (by assumption) (by walk_at "mine sub")) (hIn so) (toJ1 _ _ _ fun G9 k9 => k9 _ _ _ _ (congrArg (fun z : Nat => some (Value.int (z : Int) tc)) hc1.symm) rfl rfl rfl hso (Nat.le_trans hn hcn) (by rw [← hwe]; exact hn) (by rw [← hwe]; exact hmk))
      · obtain ⟨f', hf, hwb, hcn, hwk', hwe'⟩ := while_turn hwk
        rw [hwe'] at hwe
        clear hwe' hwk
        have hw64 : wd < 64 := Nat.lt_of_lt_of_le hwb (by rcases hsz with rfl | rfl <;> decide)
        have hlast : (List.map Int.ofNat (wd :: T).reverse).getLastD 0 = (wd : Int) := by simp
        have hdrop : (List.map Int.ofNat (wd :: T).reverse).dropLast = List.map Int.ofNat T.reverse := by simp
        have hne : 0 < vt.length := by rw [IntsAre_len hvt]; simp
        have hlen : vt.length ≤ sizeLine := by rw [IntsAre_len hvt, List.length_map, List.length_reverse, sizeLine_eq]; omega
        generalize hl0 : List.map Int.ofNat (wd :: T).reverse = l0 at *
        k_steps
        refine ⟨?_⟩
        refine ke_ne_ints (list_at (by k_asm) (by walk_at "mine mem")) (list_at (vs := []) (by k_asm) (by walk_at "mine mem")) hvt .nil (by ktr_units) ?_
        have hl1 : l0 ≠ [] := by rw [← hl0]; simp
        rw [decide_eq_false hl1]
        k_steps
        refine ⟨?_⟩
        refine kpa_pop (by k_asm) (by k_asm) (by k_upd) hvt hne hlen ?_
        intro h3 t3 F3 N3 hvt3
        rw [hlast]
        rw [hdrop] at hvt3
        have N3' := news_sub (news := (D, W.listOf (List.toArray vt.dropLast) (nt + 1)) :: (I, it) :: (sa, so) :: news) N3 (by walk_at "mine sub")
        clear N3
        k_steps
        refine ⟨?_⟩
        refine For_X (by assumption) (by rfl) (by rfl) ?_
        k_steps
        clear hvt hne hlen hlast hdrop hl1 hl0
        refine hideC (fun (k : Nat) (m : PySem.Str → Option Value) (G : List (Addr × Obj) → Prop) => ∀ so S n msk cnt T' vt nt, turnC (frOf prs) wd (msk0, cnt0, T) k = (msk, cnt, T') → m (Str.ofString "todo") = some (.ref D) → m (Str.ofString "seen") = some (.ref sa) → m (Str.ofString "size") = some (.int (sz : Int) ts) → m (Str.ofString "free") = some (.ref fl) →
          m (Str.ofString "count") = some (.int ((st.1 : Nat) + 1) tc) → m (Str.ofString "word") = some (.int (wd : Int) t3) → Obj.SetObjOf (PySem.intKind PySem.Challenge.rw_re0161_02.row.prog w) so S n → n ≤ cnt → T'.length ≤ cnt → MaskOf S msk → IntsAre vt (T'.reverse.map Int.ofNat) → G ((D, W.listOf (List.toArray vt) nt) :: (I, it) :: (sa, so) :: news)) ?_
        intro J3 toJ3 ofJ3
        refine range_H J3 (n := sz - 1) rfl (by assumption) (by rcases hsz with rfl | rfl <;> decide) (by rcases hsz with rfl | rfl <;> decide) (by assumption) (by assumption)
          (toJ3 _ _ _ fun G9 k9 => k9 _ _ _ _ _ _ _ _ rfl rfl rfl rfl rfl rfl rfl hso hn (by simp only [List.length_cons] at hTc; exact Nat.le_of_succ_le hTc) hmk hvt3) ?_ ?_
        · clear hso hn hTc hmk hvt3 hwk' hwe
          intro Q3 k t4 m4 h4 tk4 I4 it4 hQ3 _ hk4 hic4
          refine ofJ3 _ _ _ ?_
          intro so S n msk cnt T' vt nt htu e1 e2 e3 e4 e5 e6 hso hn hTc hmk hvt hI4 F4 N4
          clear ofJ3
          rw [know6 e1 e2 e3 e4 e5 e6] at F4
          clear e1 e2 e3 e4 e5 e6
          have hcc := turnC_cnt (fr := frOf prs) (w := wd) (st := (msk0, cnt0, T)) k
          rw [htu] at hcc
          dsimp only at hcc
          have hk2 : k = 0 ∨ k = 1 := by omega
          have hk22 : k < 2 := by omega
          have hkB : k < 9 := by omega
          have hkB1 : k + 1 < 9 := by omega
          have hk44 : k < 4 := by omega
          have hk45 : k + 1 < 4 := by omega
          clear hk2
          have hn72 : n ≤ 72 := by omega
          have hD4 : @Ne Nat D I4 := hI4 _ (List.mem_cons_self ..)
          have hs4 : @Ne Nat sa I4 := hI4 (sa, so) (by walk_at "mine mem")
          have hDn : ∀ p ∈ news, p.1 ≠ D := fun p hp => Nat.ne_of_lt (lD3 p hp)
          have hvl : vt.length ≤ 72 := by rw [IntsAre_len hvt, List.length_map, List.length_reverse]; omega
          k_steps
          refine ⟨?_⟩
          refine pow4_I rfl hkB ?_
          intro q0 tq0 kq0 hq0
          dsimp only
          obtain ⟨hqp, hq6⟩ := pow4_bd hq0 hk44
          k_steps
          refine ⟨?_⟩
          refine pow4_I rfl hkB1 ?_
          intro r0 tr0 kr0 hr0
          dsimp only
          obtain ⟨hrp, hr6⟩ := pow4_bd hr0 hk45
          rename Fr _ _ _ _ => F5
          rw [letter_is hq0] at F5
          clear hqp hq6 hq0
          k_steps
          refine ⟨?_⟩
          refine pow4_I rfl hkB ?_
          intro q1 tq1 kq1 hq1
          dsimp only
          rename Fr _ _ _ _ => F6
          rw [letter_is hr0] at F6
          rw [letter_is hr0]
          clear hrp hr6 hr0
          k_steps
          refine ⟨?_⟩
          refine mul_I (letD_ok _ _ _ _) ?_
          intro z1 tz1 kz1 hz1
          dsimp only
          k_steps
          refine ⟨?_⟩
          refine pow4_I rfl hkB1 ?_
          intro q2 tq2 kq2 hq2
          dsimp only
          k_steps
          refine ⟨?_⟩
          refine mul_I (letD_ok _ _ _ _) ?_
          intro z2 tz2 kz2 hz2
          dsimp only
          obtain ⟨tn, htn, hsw⟩ := swap_isI hw64 hk22 hq1 hq2 hz1 hz2
          clear hq1 hq2 hz1 hz2
          k_steps
          refine ⟨?_⟩
          dsimp only
          rename Fr _ _ _ _ => F7
          have F8 := fr_int hsw F7
          clear F7 hsw
          rename News _ _ _ _ => N7
          refine tup_in N7 (by walk_at "mine mem") hdat (by walk_at "mine sub") (List.mem_cons_self ..) (by ktr_units) ?_
          intro b1 hb1
          k_steps
          · rename b1 = true => hx1
            rename S _ = true => hx2
            rw [hmk tn, htn] at hx2
            exact hQ3 _ _ _ _ F8 (news_sub (by assumption) (by walk_at "mine sub")) hI4 (toJ3 _ _ _ fun G9 k9 => k9 so S n msk cnt T' vt nt (turn_same htu (by rw [hx2, Bool.not_true, Bool.and_false])) rfl rfl rfl rfl rfl rfl (by assumption) hn hTc hmk hvt)
          · rename b1 = true => hx1
            rename S _ = false => hx2
            rename Obj.SetObjOf _ _ (fun k' => S k' || decide (k' = (tn : Int))) _ => hs9
            rename Fr _ _ _ _ => F9
            rename News _ _ _ _ => N9
            have hmk9 := hmk.add tn
            rw [hx2] at hs9
            rw [hmk tn] at hx2
            have hvt9 := ints_snoc hvt tn kz2
            rw [← List.reverse_cons] at hvt9
            have htu9 := turn_new htu (by rw [show frOf prs (wd / 4 ^ k % 4) (wd / 4 ^ (k + 1) % 4) = b1 from hb1, hx1, ← htn, hx2]; rfl)
            rw [← htn] at htu9
            rw [List.push_toArray] at N9
            refine hQ3 _ _ _ _ F9 (news_sub (news := (I4, it4) :: (D, W.listOf (List.toArray (vt ++ [Value.int (tn : Int) kz2])) (nt + 1)) :: (I, it) :: (sa, _) :: news) N9 (by walk_at "mine sub")) ?_ (toJ3 _ _ _ fun G9 k9 => k9 _ _ _ (msk ||| 2 ^ tn) (cnt + 1) (tn :: T') _ _ htu9 rfl rfl rfl rfl rfl rfl hs9 (by simp only [Bool.false_eq_true, if_false]; exact Nat.succ_le_succ hn) (Nat.succ_le_succ hTc) hmk9 hvt9)
            intro p hp
            rcases List.mem_cons.mp hp with rfl | hp
            · exact hD4
            rcases List.mem_cons.mp hp with rfl | hp
            · exact hI4 _ (by walk_at "mine mem")
            rcases List.mem_cons.mp hp with rfl | hp
            · exact hs4
            exact hI4 _ (by walk_at "mine mem")
          · rename b1 = false => hx1
            exact hQ3 _ _ _ _ F8 (news_sub (by assumption) (by walk_at "mine sub")) hI4 (toJ3 _ _ _ fun G9 k9 => k9 so S n msk cnt T' vt nt (turn_same htu (by rw [show frOf prs (wd / 4 ^ k % 4) (wd / 4 ^ (k + 1) % 4) = b1 from hb1, hx1]; rfl)) rfl rfl rfl rfl rfl rfl (by assumption) hn hTc hmk hvt)
        · clear hso hn hTc hmk hvt3
          intro m4 h4 tk4
          refine ofJ3 _ _ _ ?_
          intro so S n msk cnt T' vt nt htu e1 e2 e3 e4 e5 e6 hso hn hTc hmk hvt F4 N4
          rw [htu] at hwk' hwe
          k_steps
          exact hWb _ _ _ _ f' F4 N4 (by rw [hf]; exact Nat.lt_succ_self _) (toJ2 _ _ _ fun G9 k9 => k9 so S n msk cnt T' vt nt tc e1 e2 e3 e4 e5 hso hn hTc hmk hvt hwk' hwe)
  · intro m1 h1 tk1
    refine ofJ1 _ _ _ ?_
    intro so S n t0 e1 e2 e3 e4 hso hn7 hn hmk F1 N1
    rw [know4 e1 e2 e3 e4] at F1
    k_steps
    exact hret _ _ _ _ (by assumption) (news_sub (by assumption) fun p hp => List.mem_cons_of_mem _ hp) ⟨⟨_, rfl⟩, rfl⟩
end
section
def lawScope : Scope := match (PySem.Challenge.rw_re0161_02.row.prog).main.body.getLast? with
  | some (.FunctionDef _ _ _ _ _ _ sc _ _ _) => sc
  | _ => default
def lawBody : List Stmt := match (PySem.Challenge.rw_re0161_02.row.prog).main.body.getLast? with
  | some (.FunctionDef _ _ b _ _ _ _ _ _ _) => b
  | _ => []
theorem lawBody_len : lawBody.length = 14 := by decide +kernel
def loop1 : List Stmt := match lawBody.drop 5 with
  | .For _ _ b _ _ :: _ => b
  | _ => []
def loop2 : List Stmt := match lawBody.drop 6 with
  | .For _ _ b _ _ :: _ => b
  | _ => []
def loop3 : List Stmt := match lawBody.drop 9 with
  | .For _ _ b _ _ :: _ => b
  | _ => []
theorem loop_lens : loop1.length = 5 ∧ loop2.length = 1 ∧ loop3.length = 5 := by decide +kernel
end
section
local macro_rules | `(tactic| walk_at "mine 0") => Lean.Macro.throwUnsupported
local macro_rules | `(tactic| walk_at "last subscriptTail") => `(tactic| (refine Hold.out ?_))
set_option maxHeartbeats 4000000 in
theorem law2_0 {w : World} {loose : List PySem.Str} {mean : ExcName → Option Value} {mg mb m : PySem.Str → Option Value} {g : Heap} {L fa : Nat} {cd : Value} {s : Shared} {Q : Flow → Shared → Prop} {E : Value → Shared → Prop} {ls : Nat} {R : List (Addr × Obj)} {vs : List Value} {ns : List Int}
    (X : (Mine.pre.heap_1 w.params).In g) (T : Top topProg loose mean mg mb g) (B : Below callerA g [] g) (F : Fr g L s.heap (fun y => if y = Str.ofString "script" then some (.ref ls) else m y))
    (N : News g L s.heap R) (hls : g.IsList ls vs.toArray) (hi : IntsAre vs ns) (hlen : ns.length ≤ 63)
    (hret : ∀ h' tk ln vn cap nums, Fr g L h' (fun y => if y = Str.ofString "numbers" then some (.ref ln) else if y = Str.ofString "script" then some (.ref ls) else m y) → News g L h' ((ln, W.listOf (List.toArray vn) cap) :: R) →
      IntsAre vn nums → nums.length = 5 → AllLt ln R → wpAny (model PySem.Challenge.rw_re0161_02.row.prog w) (callerA.deeper (envOfC (Str.ofString "law") lawScope L fa cd)) (execs (lawBody.drop 1) (envOfC (Str.ofString "law") lawScope L fa cd)) Q E { s with heap := h', toks := tk }) :
    wpAny (model PySem.Challenge.rw_re0161_02.row.prog w) (callerA.deeper (envOfC (Str.ofString "law") lawScope L fa cd)) (execs (lawBody.drop 0) (envOfC (Str.ofString "law") lawScope L fa cd)) Q E s := by
  generalize hsc : lawScope = sc at *
  conv at hsc => lhs; whnf
  subst hsc
  refine cut1 (fun s' => ∃ ln vn cap h tk nums, s' = { s with heap := h, toks := tk } ∧ Fr g L h (fun y => if y = Str.ofString "numbers" then some (.ref ln) else if y = Str.ofString "script" then some (.ref ls) else m y) ∧ News g L h ((ln, W.listOf (List.toArray vn) cap) :: R) ∧
     IntsAre vn nums ∧ nums.length = 5 ∧ AllLt ln R) ?_ ?_
  · have hvl := IntsAre_len hi
    k_steps
    refine ⟨?_⟩
    have hdef : ∀ t1 t2 t3 t4 t5, IntsAre [Value.int 4 t1, .int 18 t2, .int 7 t3, .int 114 t4, .int 14 t5] [4, 18, 7, 114, 14] := fun _ _ _ _ _ => .cons _ _ (.cons _ _ (.cons _ _ (.cons _ _ (.cons _ _ .nil))))
    rename News _ _ _ _ => N5
    rename Fr _ _ _ _ => F5
    refine kba_turn (value' := PySem.Expr.Name (PySem.Str.ofString "_") ⟨0, 0, 0, 0⟩) (fun _ => rfl) ?_
    refine kmk_slice_ints (vs := [_, _, _, _, _]) (c := _) F5 N5 (list_at N5 (List.mem_cons_of_mem _ (List.mem_cons_self ..))) (IsPart.int _ _) .none (hdef _ _ _ _ _) (kmk_from (hdef _ _ _ _ _) (Int.natCast_nonneg _)) rfl ?_ (by with_unfolding_all rfl) (fun _ => rfl) (by rw [sizeLine_eq]; show 5 ≤ _; decide)
    intro D9 ws9 h9 F9 N9 l9 hw9 _ _
    have h5A : (List.take 5 ns).length ≤ 5 := by rw [List.length_take]; exact Nat.min_le_left _ _
    rw [Int.toNat_natCast] at hw9
    k_steps
    all_goals try trivial
    refine ⟨?_⟩
    rename IntsAre _ (List.take 5 ns ++ _) => hw8
    rename Fr _ _ _ _ => F8
    rename News _ _ _ _ => N8
    rename _ < _ ∧ _ => l8
    refine ⟨_, _, _, _, _, _, rfl, F8, news_sub N8 (by walk_at "mine sub"), hw8, ?_, by first | exact l8 | exact l8.2 | exact l8.2.2 | exact l8.2.2.2 | exact l8.2.2.2.2⟩
    rw [List.length_append, List.length_drop]
    show (List.take 5 ns).length + (5 - (List.take 5 ns).length) = 5
    omega
  · rintro s' ⟨ln, vn, cap, h, tk, nums, rfl, F2, N2, hin, hn5, lln⟩
    exact hret _ _ _ _ _ _ F2 N2 hin hn5 lln
end
section
theorem cell_mod {o : Obj} {z : Int} {t : Tok} (h : o.data = .cell (some (.int (z.fmod 10) t))) : ∃ k : Nat, k < 10 ∧ o.data = .cell (some (.int (k : Int) t)) := by
  have h1 := Int.fmod_nonneg_of_pos z (show (0 : Int) < 10 by decide)
  have h2 := Int.fmod_lt_of_pos z (show (0 : Int) < 10 by decide)
  refine ⟨(z.fmod 10).toNat, by omega, ?_⟩
  rw [h, Int.toNat_of_nonneg h1]
theorem law2_1 {w : World} {loose : List PySem.Str} {mean : ExcName → Option Value} {mg mb m : PySem.Str → Option Value} {g : Heap} {L fa : Nat} {cd : Value} {s : Shared} {Q : Flow → Shared → Prop} {E : Value → Shared → Prop} {oc1 : Obj} {ls : Nat} {vs : List Value} {R : List (Addr × Obj)} {ns : List Int}
    (X : (Mine.pre.heap_1 w.params).In g) (T : Top topProg loose mean mg mb g) (B : Below callerA g [] g) (F : Fr g L s.heap m) (hm : m (Str.ofString "script") = some (.ref ls))
    (N : News g L s.heap ((L + 1, oc1) :: R)) (hls : g.IsList ls vs.toArray) (hi : IntsAre vs ns) (hlen : ns.length ≤ 63) (hof1 : ∀ p ∈ R, p.1 ≠ L + 1)
    (dc1 : oc1.data = .cell none)
    (hret : ∀ h' tk o1 sh tsh, Fr g L h' m → News g L h' ((L + 1, o1) :: R) → o1.data = .cell (some (.int ((sh : Nat) : Int) tsh)) → sh < 10 → wpAny (model PySem.Challenge.rw_re0161_02.row.prog w) (callerA.deeper (envOfC (Str.ofString "law") lawScope L fa cd)) (execs (lawBody.drop 2) (envOfC (Str.ofString "law") lawScope L fa cd)) Q E { s with heap := h', toks := tk }) :
    wpAny (model PySem.Challenge.rw_re0161_02.row.prog w) (callerA.deeper (envOfC (Str.ofString "law") lawScope L fa cd)) (execs (lawBody.drop 1) (envOfC (Str.ofString "law") lawScope L fa cd)) Q E s := by
  generalize hsc : lawScope = sc at *
  conv at hsc => lhs; whnf
  subst hsc
  refine cut1 (fun s' => ∃ h tk o1 sh tsh, s' = { s with heap := h, toks := tk } ∧ Fr g L h m ∧ News g L h ((L + 1, o1) :: R) ∧ o1.data = .cell (some (.int ((sh : Nat) : Int) tsh)) ∧ sh < 10) ?_ ?_
  · rw [know hm] at F
    have hvl := IntsAre_len hi
    k_steps
    all_goals try trivial
    refine ⟨?_⟩
    rename Obj => o9
    rename News _ _ _ _ => N9
    rename Fr _ _ _ _ => F9
    rename o9.data = _ => d9
    rw [← know hm] at F9
    obtain ⟨k, hk, d8⟩ := cell_mod d9
    exact ⟨_, _, o9, k, _, rfl, F9, news_sub N9 (by walk_at "mine sub"), d8, hk⟩
  · rintro s' ⟨h, tk, o1, sh, tsh, rfl, F2, N2, d1, hsh⟩
    exact hret _ _ _ _ _ F2 N2 d1 hsh
end
section
local macro_rules | `(tactic| walk_at "mine 0") => Lean.Macro.throwUnsupported
theorem law2_2 {w : World} {loose : List PySem.Str} {mean : ExcName → Option Value} {mg mb m : PySem.Str → Option Value} {g : Heap} {L fa : Nat} {cd : Value} {s : Shared} {Q : Flow → Shared → Prop} {E : Value → Shared → Prop} {o1 oc3 : Obj} {sh : Nat} {tsh : Tok} {R : List (Addr × Obj)}
    (X : (Mine.pre.heap_1 w.params).In g) (T : Top topProg loose mean mg mb g) (XM : Flt.MathXP PySem.Challenge.rw_re0161_02.row.prog mg g) (B : Below callerA g [] g) (F : Fr g L s.heap m)
    (N : News g L s.heap ((L + 1 + 1 + 1, oc3) :: (L + 1, o1) :: R)) (hof3 : ∀ p ∈ R, p.1 ≠ L + 1 + 1 + 1) (d1 : o1.data = .cell (some (.int ((sh : Nat) : Int) tsh))) (hsh : sh < 10)
    (dc3 : oc3.data = .cell none)
    (hret : ∀ h' tk o3 lw vw, Fr g L h' m → News g L h' ((lw, W.listOf (List.toArray vw) vw.length) :: (L + 1 + 1 + 1, o3) :: (L + 1, o1) :: R) → o3.data = .cell (some (.ref lw)) → StrsAre vw ((List.range 4).map fun k => W (sh + k)) → (∀ p ∈ (L + 1 + 1 + 1, oc3) :: (L + 1, o1) :: R, p.1 ≠ lw) → wpAny (model PySem.Challenge.rw_re0161_02.row.prog w) (callerA.deeper (envOfC (Str.ofString "law") lawScope L fa cd)) (execs (lawBody.drop 3) (envOfC (Str.ofString "law") lawScope L fa cd)) Q E { s with heap := h', toks := tk }) :
    wpAny (model PySem.Challenge.rw_re0161_02.row.prog w) (callerA.deeper (envOfC (Str.ofString "law") lawScope L fa cd)) (execs (lawBody.drop 2) (envOfC (Str.ofString "law") lawScope L fa cd)) Q E s := by
  generalize hsc : lawScope = sc at *
  conv at hsc => lhs; whnf
  subst hsc
  have n13 : @Ne Nat (L + 1) (L + 1 + 1 + 1) := plus_ne 1 3 (by decide)
  refine cut1 (fun s' => ∃ h tk o3 lw vw, s' = { s with heap := h, toks := tk } ∧ Fr g L h m ∧ News g L h ((lw, W.listOf (List.toArray vw) vw.length) :: (L + 1 + 1 + 1, o3) :: (L + 1, o1) :: R) ∧ o3.data = .cell (some (.ref lw)) ∧ StrsAre vw ((List.range 4).map fun k => W (sh + k)) ∧ (∀ p ∈ (L + 1 + 1 + 1, oc3) :: (L + 1, o1) :: R, p.1 ≠ lw)) ?_ ?_
  · k_steps
    refine ⟨?_⟩
    refine LCg.CompSrc.range (n := 4) rfl (by k_asm) (by k_asm) (by assumption) (by decide) (by decide) (by rw [sizeLine_eq]; decide) ?_
    intro g3
    refine comp_inv (fun i ys nx => (L + 1 + 1 + 1, oc3) :: (L + 1, o1) :: R = nx ∧ StrsAre ys ((List.range i).map fun k => W (sh + k))) ⟨rfl, .nil⟩ ?_ ?_
    · rintro k ys nx v I3 oI3 C3 oC3 D3 m3 h3 tk3 E3 hk ⟨hnx, hys⟩ ⟨t3, rfl⟩ hC hx F3 N3 off ne
      subst hnx
      k_steps
      refine ⟨?_⟩
      rw [show ((sh : Int) + (0 + (k : Int))) = ((sh + k : Nat) : Int) by omega]
      refine lword_con (p := sh + k) (by k_asm) (by k_asm) (by k_asm) (by k_asm) (by k_asm) (by k_asm) rfl (by omega) (by ktr_room) (by ktr_units) ?_
      intro r1 nw1 h1 tk1 F1 N1 ⟨⟨t1, e1⟩, e2⟩
      subst e1 e2
      refine ⟨_, _, _, rfl, by assumption, by assumption, off, trivial, rfl, ?_⟩
      rw [List.range_succ, List.map_append]
      exact strsAre_snoc hys _ _
    · rintro ys nx ⟨hnx, hys⟩
      subst hnx
      k_steps
      all_goals try trivial
      refine ⟨?_⟩
      rename Fr _ _ _ _ => F9
      rename News _ _ _ _ => N9
      rename Obj => o9
      rename o9.data = _ => d9
      rename _ ∧ _ => l9
      exact ⟨_, _, o9, _, ys, rfl, F9, news_sub N9 (by walk_at "mine sub"), d9, hys, off1_mem (l := (L + 1 + 1 + 1, oc3) :: (L + 1, o1) :: R) l9⟩
  · rintro s' ⟨h, tk, o3, lw, vw, rfl, F2, N2, d3, hvw, hne⟩
    exact hret _ _ _ _ _ F2 N2 d3 hvw hne
end
section
local macro_rules | `(tactic| walk_at "mine 0") => Lean.Macro.throwUnsupported
local macro_rules | `(tactic| walk_at "exec For Tuple Name cons nil") => `(tactic| (refine Hold.out ?_))
theorem news_gen {h₀ h : Heap} {L : Addr} {news : List (Addr × Obj)} (N : News h₀ L h news) : ∃ n, n = news ∧ News h₀ L h n := ⟨_, rfl, N⟩
theorem law2_3 {w : World} {loose : List PySem.Str} {mean : ExcName → Option Value} {mg mb m : PySem.Str → Option Value} {g : Heap} {L fa : Nat} {cd : Value} {s : Shared} {Q : Flow → Shared → Prop} {E : Value → Shared → Prop} {oc4 oc5 : Obj} {R : List (Addr × Obj)}
    (X : (Mine.pre.heap_1 w.params).In g) (T : Top topProg loose mean mg mb g) (XM : Flt.MathXP PySem.Challenge.rw_re0161_02.row.prog mg g) (B : Below callerA g [] g) (F : Fr g L s.heap m) (N : News g L s.heap ((L + 1 + 1 + 1 + 1, oc4) :: (L + 1 + 1 + 1 + 1 + 1, oc5) :: R)) (hof4 : ∀ p ∈ R, p.1 ≠ L + 1 + 1 + 1 + 1) (hof5 : ∀ p ∈ R, p.1 ≠ L + 1 + 1 + 1 + 1 + 1) (dc4 : oc4.data = .cell none) (dc5 : oc5.data = .cell none)
    (hret : ∀ h' tk x d tkk hl lp o4 o5, Fr g L h' m → News g L h' ((lp, W.listOf #[] 0) :: (hl, W.listOf #[] 0) :: (x, instObj 182 d) :: (d, hdrDict w.params tkk hl) :: (L + 1 + 1 + 1 + 1, o4) :: (L + 1 + 1 + 1 + 1 + 1, o5) :: R) → AllLt d ((L + 1 + 1 + 1 + 1, oc4) :: (L + 1 + 1 + 1 + 1 + 1, oc5) :: R) ∧ @LT.lt Nat instLTNat d x ∧ @LT.lt Nat instLTNat x hl → @LT.lt Nat instLTNat hl lp → o4.data = .cell (some (.ref x)) → o5.data = .cell (some (.ref lp)) →
     wpAny (model PySem.Challenge.rw_re0161_02.row.prog w) (callerA.deeper (envOfC (Str.ofString "law") lawScope L fa cd)) (execs (lawBody.drop 5) (envOfC (Str.ofString "law") lawScope L fa cd)) Q E { s with heap := h', toks := tk }) :
    wpAny (model PySem.Challenge.rw_re0161_02.row.prog w) (callerA.deeper (envOfC (Str.ofString "law") lawScope L fa cd)) (execs (lawBody.drop 3) (envOfC (Str.ofString "law") lawScope L fa cd)) Q E s := by
  generalize hsc : lawScope = sc at *
  conv at hsc => lhs; whnf
  subst hsc
  have n45 : @Ne Nat (L + 1 + 1 + 1 + 1) (L + 1 + 1 + 1 + 1 + 1) := plus_ne 4 5 (by decide)
  refine cut1 (fun s' => ∃ h tk x d tkk hl o4, s' = { s with heap := h, toks := tk } ∧ Fr g L h m ∧ News g L h ((hl, W.listOf #[] 0) :: (x, instObj 182 d) :: (d, hdrDict w.params tkk hl) :: (L + 1 + 1 + 1 + 1, o4) :: (L + 1 + 1 + 1 + 1 + 1, oc5) :: R) ∧ AllLt d ((L + 1 + 1 + 1 + 1, oc4) :: (L + 1 + 1 + 1 + 1 + 1, oc5) :: R) ∧ @LT.lt Nat instLTNat d x ∧ @LT.lt Nat instLTNat x hl ∧ o4.data = .cell (some (.ref x))) ?_ ?_
  · k_steps
    all_goals try trivial
    refine ⟨?_⟩
    rename_i l9 _ _ _ _ _ F9 N9
    obtain ⟨mE, hmE, FE⟩ := fr_gen F9
    obtain ⟨nE, hnE, NE⟩ := news_gen N9
    have hl9 := list_at N9 (List.mem_cons_self ..)
    have hlg := (N9 _ (List.mem_cons_self ..)).1
    have hlL := (N9 _ (List.mem_cons_self ..)).2.1
    refine For_turns (by assumption) ?_
    clear F9 N9
    have e1 : mE (Str.ofString "headers") = some (.ref l9) := by rw [hmE]; rfl
    rw [know e1] at FE
    k_steps
    refine list_T0 rfl hl9 hlL (by rw [← know e1] at FE; exact FE) NE ?_
    · intro h tk₁ F₁ N₁
      rw [know e1] at F₁
      rw [hnE] at N₁
      clear hnE hmE NE FE
      k_steps
      all_goals try trivial
      refine ⟨?_⟩
      rename Fr _ _ _ _ => F9
      rename News _ _ _ _ => N9
      rename Obj => o9
      rename o9.data = _ => d9
      refine ⟨_, _, _, _, _, l9, o9, rfl, F9, N9, ?_, ?_, ?_, d9⟩
      · assumption
      · assumption
      · rename _ ∧ _ => l1_9
        exact l1_9.1
  · rintro s' ⟨h, tk, x, d, tkk, hl, o4, rfl, F2, N2, hb, hb1, hb2, d4⟩
    have hbA : @LT.lt Nat instLTNat (L + 1 + 1 + 1 + 1 + 1) d := hb.2.1
    refine cut1 (fun s' => ∃ h tk lp o5, s' = { s with heap := h, toks := tk } ∧ Fr g L h m ∧ News g L h ((lp, W.listOf #[] 0) :: (hl, W.listOf #[] 0) :: (x, instObj 182 d) :: (d, hdrDict w.params tkk hl) :: (L + 1 + 1 + 1 + 1, o4) :: (L + 1 + 1 + 1 + 1 + 1, o5) :: R) ∧ @LT.lt Nat instLTNat hl lp ∧ o5.data = .cell (some (.ref lp))) ?_ ?_
    · k_steps
      all_goals try trivial
      refine ⟨?_⟩
      rename Fr _ _ _ _ => F9
      rename News _ _ _ _ => N9
      rename Obj => o9
      rename o9.data = _ => d9
      rename _ ∧ _ => l9
      exact ⟨_, _, _, o9, rfl, F9, N9, l9.1, d9⟩
    · rintro s' ⟨h4, tk4, lp, o5, rfl, F4, N4, hb4, d5⟩
      exact hret _ _ _ _ _ _ _ _ _ F4 N4 ⟨hb, hb1, hb2⟩ hb4 d4 d5
end
section
local macro_rules | `(tactic| walk_at $k:str) => if k.getString ∈ ["subscriptTail Name Name ref int", "eval IfExp"] then `(tactic| (refine Hold.out ?_)) else Lean.Macro.throwUnsupported
theorem cell_int {o : Obj} {z y : Int} {t : Tok} (h : o.data = .cell (some (.int z t))) (e : z = y) : o.data = .cell (some (.int y t)) := e ▸ h
set_option maxHeartbeats 4000000 in
theorem law2_t5a {w : World} {loose : List PySem.Str} {mean : ExcName → Option Value} {mg mb m : PySem.Str → Option Value} {g : Heap} {L fa : Nat} {cd : Value} {s : Shared} {Q : Flow → Shared → Prop} {E : Value → Shared → Prop} {o3 o4 o6 : Obj} {lw cw hl nl x d sh : Nat} {tkk tn : Tok} {n : Int} {v6 : Option Value} {vw vst : List Value} {tt : List (Nat × Nat × Bool)} {rest : List (Addr × Obj)}
    (X : (Mine.pre.heap_1 w.params).In g) (T : Top topProg loose mean mg mb g) (XM : Flt.MathXP PySem.Challenge.rw_re0161_02.row.prog mg g) (B : Below callerA g [] g) (F : Fr g L s.heap m) (N : News g L s.heap ((hl, W.listOf (List.toArray vst) nl) :: (L + 1 + 1 + 1 + 1 + 1 + 1, o6) :: (L + 1 + 1 + 1 + 1, o4) :: (L + 1 + 1 + 1, o3) :: rest)) (hm1 : m (Str.ofString "number") = some (.int n tn))
    (d3 : o3.data = .cell (some (.ref lw))) (d4 : o4.data = .cell (some (.ref x))) (hlw : (lw, W.listOf (List.toArray vw) cw) ∈ rest) (hx : (x, instObj 182 d) ∈ rest) (hdd : (d, hdrDict w.params tkk hl) ∈ rest) (d6 : o6.data = .cell v6)
    (hr : Rows rest vst (tt.map (rowT sh))) (hlen : tt.length ≤ 4) (hvw : StrsAre vw ((List.range 4).map fun k => W (sh + k))) (hsh : sh < 10)
    (hoff : ∀ p ∈ rest, p.1 ≠ hl ∧ p.1 ≠ L + 1 + 1 + 1 + 1 + 1 + 1) (ho : @Ne Nat (L + 1 + 1 + 1 + 1 + 1 + 1) (hl) ∧ @Ne Nat (L + 1 + 1 + 1 + 1) (hl) ∧ @Ne Nat (L + 1 + 1 + 1) (hl))
    (hret : ∀ h' tk m' vst' nl' gl o6' t6 a b low kd tb tkd, Fr g L h' m' → (∀ y, y ≠ Str.ofString "b" → y ≠ Str.ofString "kind" → m' y = m y) → m' (Str.ofString "b") = some (.int ((b : Nat) : Int) tb) → m' (Str.ofString "kind") = some (.int kd tkd) → News g L h' ((hl, W.listOf (List.toArray vst') nl') :: (L + 1 + 1 + 1 + 1 + 1 + 1, o6') :: (L + 1 + 1 + 1 + 1, o4) :: (L + 1 + 1 + 1, o3) :: (gl ++ rest)) →
      o6'.data = .cell (some (.int ((a : Nat) : Int) t6)) → Rows (gl ++ rest) vst' (if kd = 3 then (tt.map (rowT sh)).filter fun p => decide (Txt.lower p.1 ≠ Txt.lower (rowT sh (a, b, low)).1) else tt.map (rowT sh) ++ [rowT sh (a, b, low)]) → (∀ p ∈ gl, ∀ q ∈ ((hl, W.listOf (List.toArray vst) nl) :: (L + 1 + 1 + 1 + 1 + 1 + 1, o6') :: (L + 1 + 1 + 1 + 1, o4) :: (L + 1 + 1 + 1, o3) :: []), q.1 < p.1) → (∀ p ∈ gl, ∀ q ∈ rest, q.1 < p.1) → a < 4 → b < 4 → wpAny (model PySem.Challenge.rw_re0161_02.row.prog w) (callerA.deeper (envOfC (Str.ofString "law") lawScope L fa cd)) (execs (loop1.drop 4) (envOfC (Str.ofString "law") lawScope L fa cd)) Q E { s with heap := h', toks := tk }) :
    wpAny (model PySem.Challenge.rw_re0161_02.row.prog w) (callerA.deeper (envOfC (Str.ofString "law") lawScope L fa cd)) (execs (loop1.drop 0) (envOfC (Str.ofString "law") lawScope L fa cd)) Q E s := by
  generalize hsc : lawScope = sc at *
  conv at hsc => lhs; whnf
  subst hsc
  have n46 : @Ne Nat (L + 1 + 1 + 1 + 1) (L + 1 + 1 + 1 + 1 + 1 + 1) := plus_ne 4 6 (by decide)
  have n36 : @Ne Nat (L + 1 + 1 + 1) (L + 1 + 1 + 1 + 1 + 1 + 1) := plus_ne 3 6 (by decide)
  have hlm : ∀ o6', (lw, W.listOf (List.toArray vw) cw) ∈ ((hl, W.listOf (List.toArray vst) nl) :: (L + 1 + 1 + 1 + 1 + 1 + 1, o6') :: (L + 1 + 1 + 1 + 1, o4) :: (L + 1 + 1 + 1, o3) :: rest) := fun _ => by walk_at "mine mem"
  have hof6 : ∀ p ∈ rest, p.1 ≠ L + 1 + 1 + 1 + 1 + 1 + 1 := fun p hp => (hoff p hp).2
  have hofl : ∀ p ∈ rest, p.1 ≠ hl := fun p hp => (hoff p hp).1
  obtain ⟨a, ha, ha4⟩ := mod4 n
  obtain ⟨b, hb, hb4⟩ := mod4 (n.fdiv 4)
  refine cut1 (fun s' => ∃ h tk o6', s' = { s with heap := h, toks := tk } ∧ Fr g L h m ∧ News g L h ((hl, W.listOf (List.toArray vst) nl) :: (L + 1 + 1 + 1 + 1 + 1 + 1, o6') :: (L + 1 + 1 + 1 + 1, o4) :: (L + 1 + 1 + 1, o3) :: rest) ∧ ∃ t6, o6'.data = .cell (some (.int (a : Int) t6))) ?_ ?_
  · rw [know hm1] at F
    k_steps
    all_goals try trivial
    refine ⟨?_⟩
    rename Fr _ _ _ _ => F9
    rename News _ _ _ _ => N9
    rename Obj => o9
    rename o9.data = _ => d9
    rw [← know hm1] at F9
    exact ⟨_, _, o9, rfl, F9, N9, _, cell_int d9 ha⟩
  · rintro s' ⟨h, tk, o6A, rfl, F2, N2, t6, d6A⟩
    clear F N d6
    refine cut1 (fun s' => ∃ h tk tb, s' = { s with heap := h, toks := tk } ∧ Fr g L h (fun y => if y = Str.ofString "b" then some (.int (b : Int) tb) else m y) ∧ News g L h ((hl, W.listOf (List.toArray vst) nl) :: (L + 1 + 1 + 1 + 1 + 1 + 1, o6A) :: (L + 1 + 1 + 1 + 1, o4) :: (L + 1 + 1 + 1, o3) :: rest)) ?_ ?_
    · rw [know hm1] at F2
      k_steps
      all_goals try trivial
      refine ⟨?_⟩
      rename Fr _ _ _ _ => F9
      rename News _ _ _ _ => N9
      exact ⟨_, _, _, rfl, fr_if (know hm1) (fr_int hb F9), N9⟩
    · rintro s' ⟨h, tk, tb, rfl, F3, N3⟩
      clear F2 N2
      have hm1' : (fun y => if y = Str.ofString "b" then some (.int (b : Int) tb) else m y) (Str.ofString "number") = some (.int n tn) := hm1
      obtain ⟨m1, hm1e, F4⟩ := fr_gen F3
      rw [← hm1e] at hm1'
      have hm2 : m1 (Str.ofString "b") = some (.int (b : Int) tb) := by rw [hm1e]; rfl
      clear F3
      refine cut1 (fun s' => ∃ h tk tk', s' = { s with heap := h, toks := tk } ∧ Fr g L h (fun y => if y = Str.ofString "kind" then some (.int ((n.fdiv 32).fmod 4) tk') else m1 y) ∧ News g L h ((hl, W.listOf (List.toArray vst) nl) :: (L + 1 + 1 + 1 + 1 + 1 + 1, o6A) :: (L + 1 + 1 + 1 + 1, o4) :: (L + 1 + 1 + 1, o3) :: rest)) ?_ ?_
      · rw [know hm1'] at F4
        k_steps
        all_goals try trivial
        refine ⟨?_⟩
        rename Fr _ _ _ _ => F9
        rename News _ _ _ _ => N9
        exact ⟨_, _, _, rfl, fr_if (know hm1') F9, N9⟩
      · rintro s' ⟨h, tk, tkd, rfl, F5, N5⟩
        clear F4 N3
        have hch := Hold.mk (chain2 hm1' hm2)
        rw [hch.out] at F5
        have hwx := W_txl (sh + a) (by omega)
        refine cut1 (fun s' => ∃ h tk vst' nl' gl, s' = { s with heap := h, toks := tk } ∧ Fr g L h (fun y => if y = Str.ofString "kind" then some (.int ((n.fdiv 32).fmod 4) tkd) else m1 y) ∧ News g L h ((hl, W.listOf (List.toArray vst') nl') :: (L + 1 + 1 + 1 + 1 + 1 + 1, o6A) :: (L + 1 + 1 + 1 + 1, o4) :: (L + 1 + 1 + 1, o3) :: (gl ++ rest)) ∧
          Rows (gl ++ rest) vst' (if (n.fdiv 32).fmod 4 = 3 then (tt.map (rowT sh)).filter fun p => decide (Txt.lower p.1 ≠ Txt.lower (rowT sh (a, b, decide ((n.fdiv 16).fmod 2 = 1))).1) else tt.map (rowT sh) ++ [rowT sh (a, b, decide ((n.fdiv 16).fmod 2 = 1))]) ∧ ∀ p ∈ gl, ∀ q ∈ ((hl, W.listOf (List.toArray vst) nl) :: (L + 1 + 1 + 1 + 1 + 1 + 1, o6A) :: (L + 1 + 1 + 1 + 1, o4) :: (L + 1 + 1 + 1, o3) :: rest), q.1 < p.1) ?_ ?_
        · k_steps
          refine ⟨?_⟩
          refine wp_cut (fun v => ∃ t, v = .str (rowT sh (a, b, decide ((n.fdiv 16).fmod 2 = 1))).1 t) ?_ ?_
          · refine IfExp_ ?_
            k_steps
            · rename _ = (1 : Int) => hx1
              refine ⟨?_⟩
              refine KTb.item_list (list_at N5 (hlm _)) hvw (by omega) (by rw [List.length_map, List.length_range]; omega) (by omega) ?_
              intro t7 _
              dsimp only
              rw [word4 ha4]
              k_steps
              exact CutP.of ⟨_, congrArg (fun x => Value.str x _) (by unfold rowT; rw [if_pos (decide_eq_true hx1)])⟩
            · rename _ ≠ (1 : Int) => hx1
              refine ⟨?_⟩
              refine KTb.item_list (list_at N5 (hlm _)) hvw (by omega) (by rw [List.length_map, List.length_range]; omega) (by omega) ?_
              intro t7 _
              dsimp only
              exact CutP.of ⟨_, congrArg (fun x => Value.str x _) (by rw [word4 ha4]; unfold rowT; rw [if_neg (show ¬ decide _ = true from fun h => hx1 (of_decide_eq_true h))])⟩
          rintro _ tk5 ⟨t5, rfl⟩
          clear hwx
          k_steps
          refine ⟨?_⟩
          refine KTb.item_list (list_at N5 (hlm _)) hvw (by omega) (by rw [List.length_map, List.length_range]; omega) (by omega) ?_
          intro t7 _
          dsimp only
          rw [word4 hb4]
          k_steps
          refine ⟨?_⟩
          refine deed_con (ps := tt.map (rowT sh)) (t := x) (d := d) (hl := hl) (vs := vst) (nl := nl) (rest := (L + 1 + 1 + 1 + 1 + 1 + 1, o6A) :: (L + 1 + 1 + 1 + 1, o4) :: (L + 1 + 1 + 1, o3) :: rest) (by k_asm) (by k_asm) (by k_asm) (by k_asm) (by k_asm) (by k_asm) rfl
            ⟨by walk_at "mine mem", by walk_at "mine mem", by rw [hr.len, List.length_map]; omega, hr.mono (by walk_at "mine sub"), ?_, rowT_txl hsh ha4, W_txl _ (by omega)⟩ (by ktr_room) (by ktr_units) ?_
          · exact List.forall_mem_cons.mpr ⟨ho.1, List.forall_mem_cons.mpr ⟨ho.2.1, List.forall_mem_cons.mpr ⟨ho.2.2, hofl⟩⟩⟩
          intro r8 nw8 h8 tk8 F8 N8 ⟨e8, vst', nl', gl, e7, hr8, hgl⟩
          subst e8 e7
          k_steps
          all_goals try trivial
          refine ⟨?_⟩
          have hnt : ∀ p ∈ (L + 1 + 1 + 1 + 1 + 1 + 1, o6A) :: (L + 1 + 1 + 1 + 1, o4) :: (L + 1 + 1 + 1, o3) :: [], ∀ ws n, p.2 ≠ ({ cls := .type "tuple", data := .seq ws n } : Obj) := List.forall_mem_cons.mpr ⟨nt_cell d6A, List.forall_mem_cons.mpr ⟨nt_cell d4, List.forall_mem_cons.mpr ⟨nt_cell d3, List.forall_mem_nil _⟩⟩⟩
          refine ⟨_, _, vst', nl', gl, rfl, fr_if hch.out F8, news_sub N8 (by walk_at "mine sub"), hr8.drop fun p hp => (tup_drop (gl := gl) (rest := rest) hnt p hp).imp id fun h ws => h _ _, ?_⟩
          intro p hp q hq
          rcases List.mem_cons.mp hq with rfl | hq
          · exact (hgl p hp).1
          · exact (hgl p hp).2 q hq
        · rintro s' ⟨h, tk, vst', nl', gl, rfl, F6, N6, hr6, hgl⟩
          refine hret _ _ _ vst' nl' gl o6A t6 a b _ _ tb tkd F6 (fun y h1 h2 => ?_) ?_ rfl N6 d6A hr6 ?_ ?_ ha4 hb4
          · show (if y = Str.ofString "kind" then _ else m1 y) = m y
            rw [if_neg h2, hm1e]
            exact if_neg h1
          · exact hm2
          · intro p hp q hq
            simp only [List.mem_cons, List.not_mem_nil, or_false] at hq
            rcases hq with rfl | rfl | rfl | rfl <;> exact hgl p hp _ (by walk_at "mine mem")
          · exact fun p hp q hq => hgl p hp q (by walk_at "mine mem")
end
section
local macro_rules | `(tactic| walk_at "mine 0") => Lean.Macro.throwUnsupported
local macro_rules | `(tactic| walk_at $k:str) => if k.getString ∈ ["binaryOp Add ref ref", "eval IfExp"] then `(tactic| (refine Hold.out ?_)) else Lean.Macro.throwUnsupported
set_option maxHeartbeats 4000000 in
theorem law2_t5b {w : World} {loose : List PySem.Str} {mean : ExcName → Option Value} {mg mb m : PySem.Str → Option Value} {g : Heap} {L fa : Nat} {cd : Value} {s : Shared} {Q : Flow → Shared → Prop} {E : Value → Shared → Prop} {o5 o6 : Obj} {lp np a b : Nat} {tb t6 tkd : Tok} {kd : Int} {vp : List Value} {prs : List (Nat × Nat)} {rest dl : List (Addr × Obj)}
    (X : (Mine.pre.heap_1 w.params).In g) (T : Top topProg loose mean mg mb g) (XM : Flt.MathXP PySem.Challenge.rw_re0161_02.row.prog mg g) (B : Below callerA g [] g) (F : Fr g L s.heap m) (N : News g L s.heap ((L + 1 + 1 + 1 + 1 + 1 + 1, o6) :: (L + 1 + 1 + 1 + 1 + 1, o5) :: rest)) (hm1 : m (Str.ofString "b") = some (.int (b : Int) tb)) (hm2 : m (Str.ofString "kind") = some (.int kd tkd))
    (d5 : o5.data = .cell (some (.ref lp))) (d6 : o6.data = .cell (some (.int (a : Int) t6))) (hlp : (lp, W.listOf (List.toArray vp) np) ∈ rest)
    (hdl : ∀ p ∈ dl, p ∈ rest) (hdat : DatAll dl vp (prs.map tupD)) (hlen : prs.length ≤ 4) (hof5 : ∀ p ∈ rest, p.1 ≠ L + 1 + 1 + 1 + 1 + 1)
    (hret : ∀ h' tk o5' lp' np' vp' add, Fr g L h' m → News g L h' ((L + 1 + 1 + 1 + 1 + 1 + 1, o6) :: (L + 1 + 1 + 1 + 1 + 1, o5') :: (add ++ rest)) →
      o5'.data = .cell (some (.ref lp')) → (lp', W.listOf (List.toArray vp') np') ∈ add → DatAll (add ++ dl) vp' ((if kd = 3 then prs.filter (fun p => decide (p.1 ≠ a)) else prs ++ [(a, b)]).map tupD) →
      (∀ p ∈ add, ∀ q ∈ ((L + 1 + 1 + 1 + 1 + 1 + 1, o6) :: (L + 1 + 1 + 1 + 1 + 1, o5) :: rest), p.1 ≠ q.1) → wpAny (model PySem.Challenge.rw_re0161_02.row.prog w) (callerA.deeper (envOfC (Str.ofString "law") lawScope L fa cd)) (execs (loop1.drop 5) (envOfC (Str.ofString "law") lawScope L fa cd)) Q E { s with heap := h', toks := tk }) :
    wpAny (model PySem.Challenge.rw_re0161_02.row.prog w) (callerA.deeper (envOfC (Str.ofString "law") lawScope L fa cd)) (execs (loop1.drop 4) (envOfC (Str.ofString "law") lawScope L fa cd)) Q E s := by
  generalize hsc : lawScope = sc at *
  conv at hsc => lhs; whnf
  subst hsc
  have hch := Hold.mk (chain2 hm1 hm2)
  have hvl : vp.length ≤ 4 := by rw [dat_len hdat, List.length_map]; exact hlen
  have hlp1 : (lp, W.listOf (List.toArray vp) np) ∈ ((L + 1 + 1 + 1 + 1 + 1 + 1, o6) :: (L + 1 + 1 + 1 + 1 + 1, o5) :: rest) := by walk_at "mine mem"
  refine cut1 (fun s' => ∃ h tk o5' lp' np' vp' add, s' = { s with heap := h, toks := tk } ∧ Fr g L h m ∧ News g L h ((L + 1 + 1 + 1 + 1 + 1 + 1, o6) :: (L + 1 + 1 + 1 + 1 + 1, o5') :: (add ++ rest)) ∧ o5'.data = .cell (some (.ref lp')) ∧ (lp', W.listOf (List.toArray vp') np') ∈ add ∧ DatAll (add ++ dl) vp' ((if kd = 3 then prs.filter (fun p => decide (p.1 ≠ a)) else prs ++ [(a, b)]).map tupD) ∧ (∀ p ∈ add, ∀ q ∈ ((L + 1 + 1 + 1 + 1 + 1 + 1, o6) :: (L + 1 + 1 + 1 + 1 + 1, o5) :: rest), p.1 ≠ q.1)) ?_ ?_
  · rw [hch.out] at F
    k_steps
    refine ⟨?_⟩
    refine IfExp_ ?_
    k_steps
    · rename kd = 3 => hkd
      refine ⟨?_⟩
      refine LCt.CompSrcT.ledger rfl (by k_asm) (by k_asm) hlp1 (by rw [List.size_toArray, sizeLine_eq]; omega) ?_
      intro g3
      refine comp_invT (fun i ys nx => ((L + 1 + 1 + 1 + 1 + 1 + 1, o6) :: (L + 1 + 1 + 1 + 1 + 1, o5) :: rest) = nx ∧ DatAll dl ys (((prs.take i).filter fun p => decide (p.1 ≠ a)).map tupD)) ⟨rfl, .nil⟩ ?_ ?_
      · rintro i ys nx v I oI C oC D m2 h tk E2 hj ⟨hnx, hys⟩ hv hC hx2 F3 N3 off3 ne
        subst hnx
        rw [List.getElem?_toArray] at hv
        obtain ⟨a₁, p, q, tp, tq, kb, rfl, hmem, hps⟩ := dat_at hdat hv
        have hm3 := List.mem_cons_of_mem (I, oI) (List.mem_cons_of_mem (C, oC) (List.mem_cons_of_mem (D, LCg.lst ys) (List.mem_cons_of_mem (L + 1 + 1 + 1 + 1 + 1 + 1, o6) (List.mem_cons_of_mem (L + 1 + 1 + 1 + 1 + 1, o5) (hdl _ hmem)))))
        k_steps
        · rename (p : Int) ≠ (a : Int) => hb
          have hb2 : p ≠ a := fun e => hb (congrArg Int.ofNat e)
          refine ⟨_, _, _, rfl, by assumption, by assumption, off3, .inr ⟨_, by walk_at "mine mem", rfl, _, rfl⟩, rfl, ?_⟩
          rw [List.take_add_one, hps, List.filter_append]
          have e3 : List.filter (fun p => decide (p.1 ≠ a)) (some (p, q)).toList = [(p, q)] := by simp [hb2]
          rw [e3]
          exact prs_snoc hys hmem
        · rename (p : Int) = (a : Int) => hb
          have hb2 : p = a := Int.ofNat_inj.mp hb
          refine ⟨_, _, _, rfl, by assumption, by assumption, off3, .inr ⟨_, by walk_at "mine mem", rfl, _, rfl⟩, rfl, ?_⟩
          rw [List.take_add_one, hps, List.filter_append]
          have e3 : List.filter (fun p => decide (p.1 ≠ a)) (some (p, q)).toList = [] := by simp [hb2]
          rw [e3, List.append_nil]
          exact hys
      · rintro ys nx ⟨hnx, hys⟩
        subst hnx
        rw [List.size_toArray, dat_len hdat, List.length_map, List.take_length] at hys
        k_steps
        all_goals try trivial
        refine ⟨?_⟩
        rename Fr _ _ _ _ => F9
        rename News _ _ _ _ => N9
        rename Obj => o9
        rename o9.data = _ => d9
        rename _ ∧ _ => l9
        refine ⟨_, _, o9, _, ys.length, ys, [(_, LCg.lst ys)], rfl, fr_back2 hch.out F9, news_sub N9 (by walk_at "mine sub"), d9, List.mem_cons_self .., ?_, ?_⟩
        · rw [if_pos hkd]
          exact hys.mono (by walk_at "mine sub")
        · intro p hp q hq
          rw [List.mem_singleton.mp hp]
          rcases List.mem_cons.mp hq with rfl | hq
          · exact Ne.symm l9.1
          rcases List.mem_cons.mp hq with rfl | hq
          · exact Ne.symm l9.2.1
          · exact Ne.symm (off1_mem l9.2.2 q hq)
    · rename kd ≠ 3 => hkd
      refine ⟨?_⟩
      rename Fr _ _ _ _ => F3
      rename News _ _ _ _ => N3
      refine kmk_add_lit F3 N3 (list_at N3 (by walk_at "mine mem")) (list_at (vs := [_]) N3 (List.mem_cons_self ..)) rfl ?_ (by rw [sizeLine_eq]; show vp.length + 1 ≤ _; omega)
      intro D9 h9 F9 N9 lt9
      have h95 : @LT.lt Nat instLTNat (L + 1 + 1 + 1 + 1 + 1) D9 := lt9 (L + 1 + 1 + 1 + 1 + 1, o5) (by walk_at "mine mem")
      k_steps
      all_goals try trivial
      refine ⟨?_⟩
      rename Fr _ _ _ _ => F8
      rename News _ _ _ _ => N8
      rename Obj => o9
      rename o9.data = _ => d9
      rename_i T9 _ lT T8 _ l9 _
      refine ⟨_, _, o9, D9, 0, vp ++ [Value.ref T9], [(D9, W.listOf (List.toArray (vp ++ [Value.ref T9])) 0), (T9, prObj a b t6 tb _)], rfl, fr_back2 hch.out F8, news_sub N8 (by walk_at "mine sub"), d9, List.mem_cons_self .., ?_, ?_⟩
      · rw [if_neg hkd]
        exact prs_snoc (hdat.mono (by walk_at "mine sub")) (by walk_at "mine mem")
      · intro p hp q hq
        rcases List.mem_cons.mp hp with rfl | hp
        · exact Nat.ne_of_gt (lt9 q (by walk_at "mine mem"))
        rw [List.mem_singleton.mp hp]
        rcases List.mem_cons.mp hq with rfl | hq
        · exact Nat.ne_of_gt lT.1
        rcases List.mem_cons.mp hq with rfl | hq
        · exact Nat.ne_of_gt lT.2.1
        · exact Nat.ne_of_gt (ktn_ltOf lT.2.2 q hq)
  · rintro s' ⟨h, tk, o5', lp', np', vp', add, rfl, F2, N2, d5', hlp', hdat', hadd⟩
    exact hret _ _ _ _ _ _ _ F2 N2 d5' hlp' hdat' hadd
end
section
set_option maxHeartbeats 4000000 in
theorem law2_5 {w : World} {loose : List PySem.Str} {mean : ExcName → Option Value} {mg mb m : PySem.Str → Option Value} {g : Heap} {L fa : Nat} {cd : Value} {s : Shared} {Q : Flow → Shared → Prop} {E : Value → Shared → Prop} {o3 o4 o5 oc6 : Obj} {ln cap lw hl x d lp sh : Nat} {tkk : Tok} {vw vn : List Value} {nums : List Int} {R : List (Addr × Obj)}
    (X : (Mine.pre.heap_1 w.params).In g) (T : Top topProg loose mean mg mb g) (XM : Flt.MathXP PySem.Challenge.rw_re0161_02.row.prog mg g) (B : Below callerA g [] g) (F : Fr g L s.heap m) (hE : PassesOwn (model PySem.Challenge.rw_re0161_02.row.prog w) (callerA.deeper (envOfC (Str.ofString "law") lawScope L fa cd)) (envOfC (Str.ofString "law") lawScope L fa cd) E) (N : News g L s.heap ((hl, W.listOf (List.toArray []) 0) :: (x, instObj 182 d) :: (d, hdrDict w.params tkk hl) :: (lw, W.listOf (List.toArray vw) vw.length) :: (L + 1 + 1 + 1 + 1 + 1 + 1, oc6) :: (L + 1 + 1 + 1 + 1 + 1, o5) :: (L + 1 + 1 + 1 + 1, o4) :: (L + 1 + 1 + 1, o3) :: ((lp, W.listOf #[] 0) :: R))) (hRl : (ln, W.listOf (List.toArray vn) cap) ∈ R) (hR0 : ∀ p ∈ R, p.1 ≠ hl ∧ p.1 ≠ L + 1 + 1 + 1 + 1 + 1 ∧ p.1 ≠ L + 1 + 1 + 1 + 1 + 1 + 1) (hRp : ∀ p ∈ R, p.1 ≠ lp) (hnt : ∀ p ∈ R, ∀ ws n, p.2 ≠ ({ cls := .type "tuple", data := .seq ws n } : Obj))
    (hm1 : m (Str.ofString "numbers") = some (.ref ln)) (hin : IntsAre vn nums) (hn5 : nums.length = 5)
    (d3 : o3.data = .cell (some (.ref lw))) (d4 : o4.data = .cell (some (.ref x))) (d5 : o5.data = .cell (some (.ref lp))) (d6 : oc6.data = .cell none) (hvw : StrsAre vw ((List.range 4).map fun k => W (sh + k))) (hsh : sh < 10)
    (ho : @Ne Nat (x) (hl) ∧ @Ne Nat (d) (hl) ∧ @Ne Nat (lw) (hl) ∧ @Ne Nat (L + 1 + 1 + 1 + 1 + 1 + 1) (hl) ∧ @Ne Nat (L + 1 + 1 + 1 + 1 + 1) (hl) ∧ @Ne Nat (L + 1 + 1 + 1 + 1) (hl) ∧ @Ne Nat (L + 1 + 1 + 1) (hl) ∧ @Ne Nat (x) (L + 1 + 1 + 1 + 1 + 1) ∧ @Ne Nat (d) (L + 1 + 1 + 1 + 1 + 1) ∧ @Ne Nat (lw) (L + 1 + 1 + 1 + 1 + 1) ∧ @Ne Nat (x) (L + 1 + 1 + 1 + 1 + 1 + 1) ∧ @Ne Nat (d) (L + 1 + 1 + 1 + 1 + 1 + 1) ∧ @Ne Nat (lw) (L + 1 + 1 + 1 + 1 + 1 + 1)) (hlp : @Ne Nat (hl) (lp) ∧ @Ne Nat (L + 1 + 1 + 1 + 1 + 1 + 1) (lp) ∧ @Ne Nat (L + 1 + 1 + 1 + 1 + 1) (lp)) (hlL : @Ne Nat ln L)
    (hret : ∀ h' tk m' vst nl o5 o6 v6 lp np vp tt add, Fr g L h' m' → News g L h' ((hl, W.listOf (List.toArray vst) nl) :: (x, instObj 182 d) :: (d, hdrDict w.params tkk hl) :: (lw, W.listOf (List.toArray vw) vw.length) :: (L + 1 + 1 + 1 + 1 + 1 + 1, o6) :: (L + 1 + 1 + 1 + 1 + 1, o5) :: (L + 1 + 1 + 1 + 1, o4) :: (L + 1 + 1 + 1, o3) :: (add ++ R)) → o5.data = .cell (some (.ref lp)) → o6.data = .cell v6 → (lp, W.listOf (List.toArray vp) np) ∈ add → DatAll add vp ((tt.map prT).map tupD) → Rows add vst (tt.map (rowT sh)) → Tok4 tt → tt.length ≤ 5 → (∀ p ∈ add, p.1 ≠ hl ∧ p.1 ≠ L + 1 + 1 + 1 + 1 + 1 ∧ p.1 ≠ L + 1 + 1 + 1 + 1 + 1 + 1 ∧ ∀ q ∈ R, p.1 ≠ q.1) → wpAny (model PySem.Challenge.rw_re0161_02.row.prog w) (callerA.deeper (envOfC (Str.ofString "law") lawScope L fa cd)) (execs (lawBody.drop 6) (envOfC (Str.ofString "law") lawScope L fa cd)) Q E { s with heap := h', toks := tk }) :
    wpAny (model PySem.Challenge.rw_re0161_02.row.prog w) (callerA.deeper (envOfC (Str.ofString "law") lawScope L fa cd)) (execs (lawBody.drop 5) (envOfC (Str.ofString "law") lawScope L fa cd)) Q E s := by
  generalize hsc : lawScope = sc at *
  conv at hsc => lhs; whnf
  subst hsc
  refine cutR ?_
  intro Z hZ
  · rw [know hm1] at F
    k_steps
    refine ⟨?_⟩
    refine For_X (by assumption) (by rfl) (by rfl) ?_ (hE := hE)
    k_steps
    have hvl : vn.length = 5 := (IntsAre_len hin).trans hn5
    have hN0 := N
    refine hideC (fun (i : Nat) (m₁ : PySem.Str → Option Value) (G9 : List (Addr × Obj) → Prop) => ∀ vst nl o5 o6 v6 lp np vp tt add, m₁ (Str.ofString "numbers") = some (.ref ln) → o5.data = .cell (some (.ref lp)) → o6.data = .cell v6 → (lp, W.listOf (List.toArray vp) np) ∈ add → DatAll add vp ((tt.map prT).map tupD) → Rows (add ++ R) vst (tt.map (rowT sh)) → Tok4 tt → tt.length ≤ i → (∀ p ∈ add, p.1 ≠ hl ∧ p.1 ≠ L + 1 + 1 + 1 + 1 + 1 ∧ p.1 ≠ L + 1 + 1 + 1 + 1 + 1 + 1 ∧ ∀ q ∈ R, p.1 ≠ q.1) → G9 ((hl, W.listOf (List.toArray vst) nl) :: (x, instObj 182 d) :: (d, hdrDict w.params tkk hl) :: (lw, W.listOf (List.toArray vw) vw.length) :: (L + 1 + 1 + 1 + 1 + 1 + 1, o6) :: (L + 1 + 1 + 1 + 1 + 1, o5) :: (L + 1 + 1 + 1 + 1, o4) :: (L + 1 + 1 + 1, o3) :: (add ++ R))) ?_
    intro J1 toJ1 ofJ1
    refine list_H (vs := vn) J1 rfl (list_at (by assumption) (by walk_at "mine mem")) hlL (by assumption) (by assumption)
      (toJ1 _ _ _ fun G9 k9 => k9 [] 0 o5 oc6 none lp 0 [] [] [(lp, W.listOf #[] 0)] rfl d5 d6 (List.mem_cons_self ..) .nil .nil Tok4.nil (Nat.le_refl _) ?_) ?_ ?_ ?_
    · intro p hp
      rw [List.mem_singleton.mp hp]
      exact ⟨Ne.symm hlp.1, Ne.symm hlp.2.2, Ne.symm hlp.2.1, fun q hq => Ne.symm (hRp q hq)⟩
    · intro i m₁ h
      refine ofJ1 _ _ _ ?_
      intro vst nl o5 o6 v6 lp np vp tt add _ _ _ _ _ _ _ _ _ N₂
      refine (N₂ (ln, W.listOf (List.toArray vn) cap) (by walk_at "mine mem")).1.trans (Eq.symm ?_)
      exact (hN0 (ln, W.listOf (List.toArray vn) cap) (by walk_at "mine mem")).1
    · intro Qb i v m₁ h tk I it hQb _ hv hic
      refine ofJ1 _ _ _ ?_
      intro vst nl o5 o6 v6 lp np vp tt add hm2 d5 d6 hlp hdat hr hT hlen hadd hI F₁ N₁
      clear ofJ1
      have hi5 : i < 5 := by rw [← hvl]; exact (List.getElem?_eq_some_iff.mp hv).1
      obtain ⟨n, tn, rfl⟩ := ints_at hin hv
      have N₂ := news_sub (news := ((hl, W.listOf (List.toArray vst) nl) :: (x, instObj 182 d) :: (d, hdrDict w.params tkk hl) :: (lw, W.listOf (List.toArray vw) vw.length) :: (L + 1 + 1 + 1 + 1 + 1 + 1, o6) :: (L + 1 + 1 + 1 + 1 + 1, o5) :: (L + 1 + 1 + 1 + 1, o4) :: (L + 1 + 1 + 1, o3) :: ((I, it) :: (add ++ R)))) N₁ (by walk_at "mine sub")
      clear N₁
      have hoff : ∀ p ∈ (I, it) :: (add ++ R), p.1 ≠ hl ∧ p.1 ≠ L + 1 + 1 + 1 + 1 + 1 ∧ p.1 ≠ L + 1 + 1 + 1 + 1 + 1 + 1 := by
        intro p hp
        rcases List.mem_cons.mp hp with rfl | hp
        · exact ⟨Ne.symm (hI (hl, _) (List.mem_cons_self ..)), Ne.symm (hI (L + 1 + 1 + 1 + 1 + 1, o5) (by walk_at "mine mem")), Ne.symm (hI (L + 1 + 1 + 1 + 1 + 1 + 1, o6) (by walk_at "mine mem"))⟩
        rcases List.mem_append.mp hp with hp | hp
        · exact ⟨(hadd p hp).1, (hadd p hp).2.1, (hadd p hp).2.2.1⟩
        · exact hR0 p hp
      have N₂' := news_sub (news := (hl, W.listOf (List.toArray vst) nl) :: (L + 1 + 1 + 1 + 1 + 1 + 1, o6) :: (L + 1 + 1 + 1 + 1, o4) :: (L + 1 + 1 + 1, o3) :: (x, instObj 182 d) :: (d, hdrDict w.params tkk hl) :: (lw, W.listOf (List.toArray vw) vw.length) :: (L + 1 + 1 + 1 + 1 + 1, o5) :: ((I, it) :: (add ++ R))) N₂ (by walk_at "mine sub")
      clear N₂
      refine law2_t5a (tt := tt) (sh := sh) (lw := lw) (x := x) (d := d) X T XM B F₁ N₂' (at_eq rfl) d3 d4 (by walk_at "mine mem") (by walk_at "mine mem") (by walk_at "mine mem") d6 (hr.mono (by walk_at "mine sub")) (by omega) hvw hsh (List.forall_mem_cons.mpr ⟨⟨ho.1, ho.2.2.2.2.2.2.2.2.2.2.1⟩, List.forall_mem_cons.mpr ⟨⟨ho.2.1, ho.2.2.2.2.2.2.2.2.2.2.2.1⟩, List.forall_mem_cons.mpr ⟨⟨ho.2.2.1, ho.2.2.2.2.2.2.2.2.2.2.2.2⟩, List.forall_mem_cons.mpr ⟨⟨ho.2.2.2.2.1, plus_ne 5 6 (by decide)⟩, (fun p hp => ⟨(hoff p hp).1, (hoff p hp).2.2⟩)⟩⟩⟩⟩) ⟨ho.2.2.2.1, ho.2.2.2.2.2.1, ho.2.2.2.2.2.2.1⟩ ?_
      intro h3 tk3 m3 vst3 nl3 gl o63 t6 a b low kd tb tkd F3 hm3 hb3 hk3 N3 d63 hr3 hgl1 hgl2 ha4 hb4
      have N3b := news_sub (news := (L + 1 + 1 + 1 + 1 + 1 + 1, o63) :: (L + 1 + 1 + 1 + 1 + 1, o5) :: (hl, W.listOf (List.toArray vst3) nl3) :: (x, instObj 182 d) :: (d, hdrDict w.params tkk hl) :: (lw, W.listOf (List.toArray vw) vw.length) :: (L + 1 + 1 + 1 + 1, o4) :: (L + 1 + 1 + 1, o3) :: (gl ++ ((I, it) :: (add ++ R)))) N3 (by walk_at "mine sub")
      clear N3
      have hofA : ∀ p ∈ gl ++ ((I, it) :: (add ++ R)), p.1 ≠ L + 1 + 1 + 1 + 1 + 1 := fun p hp => by
        rcases List.mem_append.mp hp with hp | hp
        · exact Nat.ne_of_gt (hgl2 p hp (L + 1 + 1 + 1 + 1 + 1, o5) (by walk_at "mine mem"))
        · exact (hoff p hp).2.1
      refine law2_t5b (dl := add) (lp := lp) (np := np) (vp := vp) (prs := tt.map prT) X T XM B F3 N3b hb3 hk3 d5 d63 (by walk_at "mine mem") (fun p hp => by walk_at "mine mem") hdat (by rw [List.length_map]; omega) ?_ ?_
      · exact List.forall_mem_cons.mpr ⟨Ne.symm ho.2.2.2.2.1, List.forall_mem_cons.mpr ⟨ho.2.2.2.2.2.2.2.1, List.forall_mem_cons.mpr ⟨ho.2.2.2.2.2.2.2.2.1, List.forall_mem_cons.mpr ⟨ho.2.2.2.2.2.2.2.2.2.1, List.forall_mem_cons.mpr ⟨plus_ne 4 5 (by decide), List.forall_mem_cons.mpr ⟨plus_ne 3 5 (by decide), hofA⟩⟩⟩⟩⟩⟩
      intro h4 tk4 o54 lp4 np4 vp4 add2 F4 N4 d54 hlp4 hdat4 hadd2
      refine wpAny_execs_nil ?_
      have hmn : m3 (Str.ofString "numbers") = some (.ref ln) := (hm3 _ (by decide) (by decide)).trans hm2
      obtain ⟨tt', e1, e2, hT', hlen'⟩ : ∃ tt' : List (Nat × Nat × Bool), (if kd = 3 then (tt.map (rowT sh)).filter fun p => decide (Txt.lower p.1 ≠ Txt.lower (rowT sh (a, b, low)).1) else tt.map (rowT sh) ++ [rowT sh (a, b, low)]) = tt'.map (rowT sh) ∧ (if kd = 3 then (tt.map prT).filter (fun p => decide (p.1 ≠ a)) else tt.map prT ++ [(a, b)]) = tt'.map prT ∧ Tok4 tt' ∧ tt'.length ≤ i + 1 := by
        by_cases hkd : kd = 3
        · refine ⟨tt.filter fun t => decide (t.1 ≠ a), ?_, ?_, hT.filter _, Nat.le_succ_of_le (Nat.le_trans (List.length_filter_le _ _) hlen)⟩
          · rw [if_pos hkd, rows_del4 hsh hT (u := (a, b, low)) ha4]
          · rw [if_pos hkd, prs_del4]
        · refine ⟨tt ++ [(a, b, low)], ?_, ?_, hT.snoc ha4 hb4, by rw [List.length_append]; exact Nat.succ_le_succ hlen⟩
          · rw [if_neg hkd, List.map_append]; rfl
          · rw [if_neg hkd, List.map_append]; rfl
      rw [e1] at hr3
      rw [e2] at hdat4
      clear e1 e2
      have hgl3 : ∀ p ∈ gl, p.1 ≠ hl ∧ p.1 ≠ L + 1 + 1 + 1 + 1 + 1 ∧ p.1 ≠ L + 1 + 1 + 1 + 1 + 1 + 1 ∧ ∀ q ∈ R, p.1 ≠ q.1 := fun p hp => ⟨Nat.ne_of_gt (hgl1 p hp (hl, W.listOf (List.toArray vst) nl) (List.mem_cons_self ..)), hofA p (List.mem_append_left _ hp), Nat.ne_of_gt (hgl1 p hp (L + 1 + 1 + 1 + 1 + 1 + 1, o63) (by walk_at "mine mem")), fun q hq => Nat.ne_of_gt (hgl2 p hp q (by walk_at "mine mem"))⟩
      have had3 : ∀ p ∈ add2, p.1 ≠ hl ∧ p.1 ≠ L + 1 + 1 + 1 + 1 + 1 ∧ p.1 ≠ L + 1 + 1 + 1 + 1 + 1 + 1 ∧ ∀ q ∈ R, p.1 ≠ q.1 := fun p hp => ⟨hadd2 p hp (hl, W.listOf (List.toArray vst3) nl3) (by walk_at "mine mem"), hadd2 p hp (L + 1 + 1 + 1 + 1 + 1, o5) (by walk_at "mine mem"), hadd2 p hp (L + 1 + 1 + 1 + 1 + 1 + 1, o63) (by walk_at "mine mem"), fun q hq => hadd2 p hp q (by walk_at "mine mem")⟩
      refine hQb _ _ m3 ((hl, W.listOf (List.toArray vst3) nl3) :: (x, instObj 182 d) :: (d, hdrDict w.params tkk hl) :: (lw, W.listOf (List.toArray vw) vw.length) :: (L + 1 + 1 + 1 + 1 + 1 + 1, o63) :: (L + 1 + 1 + 1 + 1 + 1, o54) :: (L + 1 + 1 + 1 + 1, o4) :: (L + 1 + 1 + 1, o3) :: ((add2 ++ (gl ++ add)) ++ R)) F4 (news_sub N4 (by walk_at "mine sub")) ?_ (toJ1 _ _ _ fun G9 k9 => k9 vst3 nl3 o54 o63 _ lp4 np4 vp4 tt' (add2 ++ (gl ++ add)) hmn d54 d63 (List.mem_append_left _ hlp4) (hdat4.mono (by walk_at "mine sub")) ?_ hT' hlen' ?_)
      · have offI : ∀ p ∈ (add2 ++ (gl ++ add)) ++ R, p.1 ≠ I := fun p hp => by
          rcases List.mem_append.mp hp with hp | hp
          · rcases List.mem_append.mp hp with hp | hp
            · exact hadd2 p hp (I, it) (by walk_at "mine mem")
            rcases List.mem_append.mp hp with hp | hp
            · exact Nat.ne_of_gt (hgl2 p hp (I, it) (by walk_at "mine mem"))
            · exact hI p (by walk_at "mine mem")
          · exact hI p (by walk_at "mine mem")
        exact List.forall_mem_cons.mpr ⟨hI (hl, W.listOf (List.toArray vst) nl) (by walk_at "mine mem"), List.forall_mem_cons.mpr ⟨hI (x, instObj 182 d) (by walk_at "mine mem"), List.forall_mem_cons.mpr ⟨hI (d, hdrDict w.params tkk hl) (by walk_at "mine mem"), List.forall_mem_cons.mpr ⟨hI (lw, W.listOf (List.toArray vw) vw.length) (by walk_at "mine mem"), List.forall_mem_cons.mpr ⟨hI (L + 1 + 1 + 1 + 1 + 1 + 1, o6) (by walk_at "mine mem"), List.forall_mem_cons.mpr ⟨hI (L + 1 + 1 + 1 + 1 + 1, o5) (by walk_at "mine mem"), List.forall_mem_cons.mpr ⟨hI (L + 1 + 1 + 1 + 1, o4) (by walk_at "mine mem"), List.forall_mem_cons.mpr ⟨hI (L + 1 + 1 + 1, o3) (by walk_at "mine mem"), offI⟩⟩⟩⟩⟩⟩⟩⟩
      · refine hr3.drop fun p hp => ?_
        rcases List.mem_append.mp hp with hp | hp
        · exact .inl (by walk_at "mine mem")
        rcases List.mem_cons.mp hp with rfl | hp
        · exact .inr fun ws => nt_inst _ _
        rcases List.mem_cons.mp hp with rfl | hp
        · exact .inr fun ws => nt_cls rfl (by decide) _ _
        rcases List.mem_cons.mp hp with rfl | hp
        · exact .inr fun ws => nt_cls rfl (by decide) _ _
        rcases List.mem_cons.mp hp with rfl | hp
        · exact .inr fun ws => nt_cell d5 _ _
        rcases List.mem_cons.mp hp with rfl | hp
        · exact .inr fun ws => nt_cls hic (by decide) _ _
        rcases List.mem_append.mp hp with hp | hp
        · exact .inl (by walk_at "mine mem")
        · exact .inl (List.mem_append_right _ hp)
      · intro p hp
        rcases List.mem_append.mp hp with hp | hp
        · exact had3 p hp
        rcases List.mem_append.mp hp with hp | hp
        · exact hgl3 p hp
        · exact hadd p hp
    · intro m₁ h tk
      refine ofJ1 _ _ _ ?_
      intro vst nl o5 o6 v6 lp np vp tt add hm2 d5 d6 hlp hdat hr hT hlen hadd F₁ N₁
      k_steps
      all_goals try trivial
      refine ⟨hZ _ ?_⟩
      refine hret _ _ _ vst nl o5 o6 v6 lp np vp tt add F₁ N₁ d5 d6 hlp hdat (hr.drop fun p hp => ?_) hT (hvl ▸ hlen) hadd
      rcases List.mem_append.mp hp with hp | hp
      · exact .inl hp
      · exact .inr fun ws => hnt p hp _ _
end
section
local macro_rules | `(tactic| walk_at $k:str) => if k.getString ∈ ["subscriptTail Name Name ref int", "call builtin:str.upper", "eval ListComp", "compareOp NotEq ref ref"] then `(tactic| (refine Hold.out ?_)) else Lean.Macro.throwUnsupported
set_option maxHeartbeats 4000000 in
theorem law2_6 {w : World} {loose : List PySem.Str} {mean : ExcName → Option Value} {mg mb m : PySem.Str → Option Value} {g : Heap} {L fa : Nat} {cd : Value} {s : Shared} {Q : Flow → Shared → Prop} {E : Value → Shared → Prop} {o2 o3 o4 o5 : Obj} {lw hl nl x d lp np sh : Nat} {tkk : Tok} {vw vst vp : List Value} {tt : List (Nat × Nat × Bool)} {R : List (Addr × Obj)} {v2 : Option Value}
    (X : (Mine.pre.heap_1 w.params).In g) (T : Top topProg loose mean mg mb g) (XM : Flt.MathXP PySem.Challenge.rw_re0161_02.row.prog mg g) (B : Below callerA g [] g) (F : Fr g L s.heap m) (hE : PassesOwn (model PySem.Challenge.rw_re0161_02.row.prog w) (callerA.deeper (envOfC (Str.ofString "law") lawScope L fa cd)) (envOfC (Str.ofString "law") lawScope L fa cd) E) (N : News g L s.heap ((L + 1 + 1, o2) :: (hl, W.listOf (List.toArray vst) nl) :: (L + 1 + 1 + 1, o3) :: (L + 1 + 1 + 1 + 1, o4) :: (L + 1 + 1 + 1 + 1 + 1, o5) :: R)) (d2 : o2.data = .cell v2)
    (d3 : o3.data = .cell (some (.ref lw))) (d4 : o4.data = .cell (some (.ref x))) (d5 : o5.data = .cell (some (.ref lp))) (hlw : (lw, W.listOf (List.toArray vw) vw.length) ∈ R) (hx : (x, instObj 182 d) ∈ R) (hdd : (d, hdrDict w.params tkk hl) ∈ R) (hlp : (lp, W.listOf (List.toArray vp) np) ∈ R)
    (hdat : DatAll R vp ((tt.map prT).map tupD)) (hr : Rows R vst (tt.map (rowT sh))) (hT : Tok4 tt) (hlen : tt.length ≤ 5) (hvw : StrsAre vw ((List.range 4).map fun k => W (sh + k))) (hsh : sh < 10) (hoff : ∀ p ∈ R, p.1 ≠ hl ∧ p.1 ≠ L + 1 + 1) (hh : @Ne Nat (L + 1 + 1) (hl) ∧ @Ne Nat (L + 1 + 1 + 1) (hl) ∧ @Ne Nat (L + 1 + 1 + 1 + 1) (hl) ∧ @Ne Nat (L + 1 + 1 + 1 + 1 + 1) (hl))
    (hret : ∀ h' tk m' o2 v2, Fr g L h' m' → News g L h' ((L + 1 + 1, o2) :: (hl, W.listOf (List.toArray vst) nl) :: (L + 1 + 1 + 1, o3) :: (L + 1 + 1 + 1 + 1, o4) :: (L + 1 + 1 + 1 + 1 + 1, o5) :: R) → o2.data = .cell v2 → wpAny (model PySem.Challenge.rw_re0161_02.row.prog w) (callerA.deeper (envOfC (Str.ofString "law") lawScope L fa cd)) (execs (lawBody.drop 7) (envOfC (Str.ofString "law") lawScope L fa cd)) Q E { s with heap := h', toks := tk }) :
    wpAny (model PySem.Challenge.rw_re0161_02.row.prog w) (callerA.deeper (envOfC (Str.ofString "law") lawScope L fa cd)) (execs (lawBody.drop 6) (envOfC (Str.ofString "law") lawScope L fa cd)) Q E s := by
  generalize hsc : lawScope = sc at *
  conv at hsc => lhs; whnf
  subst hsc
  have hwl : vw.length = 4 := strsAre_len hvw
  have hvl : vp.length = tt.length := by rw [dat_len hdat, List.length_map, List.length_map]
  refine cut1 (fun s' => ∃ h tk m' o2 v2, s' = { s with heap := h, toks := tk } ∧ Fr g L h m' ∧ News g L h ((L + 1 + 1, o2) :: (hl, W.listOf (List.toArray vst) nl) :: (L + 1 + 1 + 1, o3) :: (L + 1 + 1 + 1 + 1, o4) :: (L + 1 + 1 + 1 + 1 + 1, o5) :: R) ∧ o2.data = .cell v2) ?_ ?_
  · k_steps
    refine ⟨?_⟩
    refine For_C (h₀ := g) (c := L + 1 + 1) (by rfl) (by rfl) (by rfl) ?_ (hE := hE)
    k_steps
    refine ForC.range (n := 4) (fun i m₁ nx => (hl, W.listOf (List.toArray vst) nl) :: (L + 1 + 1 + 1, o3) :: (L + 1 + 1 + 1 + 1, o4) :: (L + 1 + 1 + 1 + 1 + 1, o5) :: R = nx) rfl (by assumption) (by decide) (by decide) (by assumption) (by assumption) d2 ?_ rfl ?_ ?_
    · exact List.forall_mem_cons.mpr ⟨Ne.symm hh.1, List.forall_mem_cons.mpr ⟨plus_ne 3 2 (by decide), List.forall_mem_cons.mpr ⟨plus_ne 4 2 (by decide), List.forall_mem_cons.mpr ⟨plus_ne 5 2 (by decide), fun p hp => (hoff p hp).2⟩⟩⟩⟩
    · rintro i t m₁ nx h tk I it oc hi hnx hI hIc hic dc F₁ N₁
      subst hnx
      rw [Int.zero_add] at dc
      have hIc1 : ∀ p ∈ (hl, W.listOf (List.toArray vst) nl) :: (L + 1 + 1 + 1, o3) :: (L + 1 + 1 + 1 + 1, o4) :: (L + 1 + 1 + 1 + 1 + 1, o5) :: R, p.1 ≠ I := fun p hp => (hI p hp).1
      have hwx := W_txl (sh + i) (by omega)
      have hx1 : (x, instObj 182 d) ∈ (I, it) :: (L + 1 + 1, oc) :: (hl, W.listOf (List.toArray vst) nl) :: (L + 1 + 1 + 1, o3) :: (L + 1 + 1 + 1 + 1, o4) :: (L + 1 + 1 + 1 + 1 + 1, o5) :: R := by walk_at "mine mem"
      have hd1 : (d, hdrDict w.params tkk hl) ∈ (I, it) :: (L + 1 + 1, oc) :: (hl, W.listOf (List.toArray vst) nl) :: (L + 1 + 1 + 1, o3) :: (L + 1 + 1 + 1 + 1, o4) :: (L + 1 + 1 + 1 + 1 + 1, o5) :: R := by walk_at "mine mem"
      k_steps
      refine ⟨?_⟩
      refine KTb.item_list (list_at N₁ (by walk_at "mine mem")) hvw (by omega) (by rw [List.length_map, List.length_range]; omega) (by omega) ?_
      intro t5 _
      dsimp only
      rw [word4 hi]
      k_steps
      refine ⟨?_⟩
      dsimp only
      refine upper_T hwx ?_
      intro k1 t1
      dsimp only
      k_steps
      refine ⟨?_⟩
      refine getall_con (ps := tt.map (rowT sh)) (t := x) (d := d) (hl := hl) (vs := vst) (nl := nl) (rest := (I, it) :: (L + 1 + 1, oc) :: (L + 1 + 1 + 1, o3) :: (L + 1 + 1 + 1 + 1, o4) :: (L + 1 + 1 + 1 + 1 + 1, o5) :: R) (by k_asm) (by k_asm) (by k_asm) (news_sub N₁ (by walk_at "mine sub")) (by k_asm) (by k_asm) rfl
        ⟨by walk_at "mine mem", by walk_at "mine mem", by rw [hr.len, List.length_map]; omega, hr.mono (by walk_at "mine sub"), ?_, hwx.upper⟩ (by ktr_room) (by ktr_units) ?_
      · exact List.forall_mem_cons.mpr ⟨Ne.symm (hIc1 (hl, _) (by walk_at "mine mem")), List.forall_mem_cons.mpr ⟨hh.1, List.forall_mem_cons.mpr ⟨hh.2.1, List.forall_mem_cons.mpr ⟨hh.2.2.1, List.forall_mem_cons.mpr ⟨hh.2.2.2, fun p hp => (hoff p hp).1⟩⟩⟩⟩⟩
      intro r8 nw8 h8 tk8 F8 N8 ⟨D1, ys1, e8, e7, hys1, hD1⟩
      subst e8 e7
      rw [lower_upper hwx, vals4 hsh hT hi] at hys1
      have N8' : News g L h8 ((D1, W.listOf (List.toArray ys1) ys1.length) :: (hl, W.listOf (List.toArray vst) nl) :: (I, it) :: (L + 1 + 1, oc) :: (L + 1 + 1 + 1, o3) :: (L + 1 + 1 + 1 + 1, o4) :: (L + 1 + 1 + 1 + 1 + 1, o5) :: R) := N8
      clear N8
      k_steps
      refine ⟨?_⟩
      refine comp_pair (h₀ := g) (m := m₁) (by rfl) (by decide) (by rfl) (by decide) (by rfl) (by rfl) (by decide) ?_
      k_steps
      refine ⟨lp, vp.toArray, np, (D1, W.listOf (List.toArray ys1) ys1.length) :: (hl, W.listOf (List.toArray vst) nl) :: (I, it) :: (L + 1 + 1, oc) :: (L + 1 + 1 + 1, o3) :: (L + 1 + 1 + 1 + 1, o4) :: (L + 1 + 1 + 1 + 1 + 1, o5) :: R,
        fun j ys nx => (D1, W.listOf (List.toArray ys1) ys1.length) :: (hl, W.listOf (List.toArray vst) nl) :: (I, it) :: (L + 1 + 1, oc) :: (L + 1 + 1 + 1, o3) :: (L + 1 + 1 + 1 + 1, o4) :: (L + 1 + 1 + 1 + 1 + 1, o5) :: R = nx ∧ ys.length ≤ j ∧ StrsAre ys ((((tt.map prT).take j).filter fun p => decide (p.1 = i)).map fun p => W (sh + p.2)), rfl, rfl, by assumption, by assumption, by walk_at "mine mem", by rw [List.size_toArray]; omega, ⟨rfl, Nat.le_refl _, .nil⟩, ?_, ?_, ?_⟩
      · rintro j ys nx ⟨hnx, hyl, _⟩
        subst hnx
        exact ⟨by walk_at "mine mem", hyl⟩
      · rintro j ys nx v hv ⟨hnx, hyl, hys⟩
        subst hnx
        rw [List.getElem?_toArray] at hv
        obtain ⟨a₁, p, q, tp, tq, kb, rfl, hmem, hps⟩ := dat_at hdat hv
        obtain ⟨t0, ht0, hpq⟩ := List.mem_map.mp (List.mem_of_getElem? hps)
        have hq4 : q < 4 := by have := (hT t0 ht0).2; have e := congrArg Prod.snd hpq; dsimp only [prT] at e; omega
        refine ⟨a₁, _, _, _, _, rfl, by walk_at "mine mem", rfl, rfl, ?_⟩
        intro I9 oI9 C9 oC9 D9 m9 h9 tk9 E9 hC9 hx9 hy9 F9 N9 off9 ne9
        k_steps
        · rename (p : Int) = (i : Int) => hb
          have hb2 : p = i := Int.ofNat_inj.mp hb
          refine ⟨?_⟩
          refine KTb.item_list (list_at (by assumption) (by walk_at "mine mem")) hvw (by omega) (by rw [List.length_map, List.length_range]; omega) (by omega) ?_
          intro t5 _
          dsimp only
          rw [word4 hq4]
          refine ⟨_, _, _, rfl, by assumption, by assumption, off9, rfl, by rw [List.length_append]; exact Nat.succ_le_succ hyl, ?_⟩
          rw [List.take_add_one, hps, List.filter_append, List.map_append]
          have e3 : List.filter (fun p => decide (p.1 = i)) (some (p, q)).toList = [(p, q)] := by simp [hb2]
          rw [e3]
          exact strsAre_snoc hys _ _
        · rename (p : Int) ≠ (i : Int) => hb
          have hb2 : p ≠ i := fun e => hb (congrArg Int.ofNat e)
          refine ⟨_, _, _, rfl, by assumption, by assumption, off9, rfl, Nat.le_succ_of_le hyl, ?_⟩
          rw [List.take_add_one, hps, List.filter_append]
          have e3 : List.filter (fun p => decide (p.1 = i)) (some (p, q)).toList = [] := by simp [hb2]
          rw [e3, List.append_nil]
          exact hys
      · rintro ys nx D9 h9 tk9 ⟨hnx, _, hys⟩ F9 N9 off9
        subst hnx
        have hmapl : (tt.map prT).length = vp.toArray.size := by rw [List.length_map, List.size_toArray, hvl]
        rw [← hmapl, List.take_length] at hys
        have N9' : News g L h9 ((D9, W.listOf (List.toArray ys) ys.length) :: (D1, W.listOf (List.toArray ys1) ys1.length) :: (hl, W.listOf (List.toArray vst) nl) :: (I, it) :: (L + 1 + 1, oc) :: (L + 1 + 1 + 1, o3) :: (L + 1 + 1 + 1 + 1, o4) :: (L + 1 + 1 + 1 + 1 + 1, o5) :: R) := N9
        clear N9
        k_steps
        refine ⟨?_⟩
        refine ne_strs N9' (List.mem_cons_of_mem _ (List.mem_cons_self ..)) (List.mem_cons_self ..) hys1 hys ?_ (by ktr_units) ?_
        · intro y hy
          obtain ⟨p, hp, rfl⟩ := List.mem_map.mp hy
          obtain ⟨t0, ht0, rfl⟩ := List.mem_map.mp (List.mem_filter.mp hp).1
          exact W_ok _ (by have := (hT t0 ht0).2; show sh + t0.2.1 < 32; omega)
        k_steps
        exact ⟨_, _, m₁, oc, _, _, rfl, F9, news_sub (news := (I, it) :: (L + 1 + 1, oc) :: (hl, W.listOf (List.toArray vst) nl) :: (L + 1 + 1 + 1, o3) :: (L + 1 + 1 + 1 + 1, o4) :: (L + 1 + 1 + 1 + 1 + 1, o5) :: R) N9' (by walk_at "mine sub"), hI, dc, rfl⟩
    · rintro m₁ nx h tk oc v hnx hoc dc F₁ N₁
      subst hnx
      k_steps
      all_goals try trivial
      refine ⟨?_⟩
      exact ⟨_, _, m₁, oc, v, rfl, F₁, N₁, dc⟩
  · rintro s' ⟨h, tk, m', o2, v2, rfl, F2, N2, d2⟩
    exact hret _ _ _ _ _ F2 N2 d2
end
section
local macro_rules | `(tactic| walk_at "mine 0") => Lean.Macro.throwUnsupported
local macro_rules | `(tactic| walk_at $k:str) => if k.getString ∈ ["exec Assign cons ListComp", "compareOp In ref ref"] then `(tactic| (refine Hold.out ?_)) else Lean.Macro.throwUnsupported
set_option maxHeartbeats 4000000 in
theorem law2_7 {w : World} {loose : List PySem.Str} {mean : ExcName → Option Value} {mg mb m : PySem.Str → Option Value} {g : Heap} {L fa : Nat} {cd : Value} {s : Shared} {Q : Flow → Shared → Prop} {E : Value → Shared → Prop} {o5 : Obj} {lp np : Nat} {vp : List Value} {tt : List (Nat × Nat × Bool)} {rest : List (Addr × Obj)}
    (X : (Mine.pre.heap_1 w.params).In g) (T : Top topProg loose mean mg mb g) (XM : Flt.MathXP PySem.Challenge.rw_re0161_02.row.prog mg g) (B : Below callerA g [] g) (F : Fr g L s.heap m) (N : News g L s.heap ((L + 1 + 1 + 1 + 1 + 1, o5) :: rest))
    (d5 : o5.data = .cell (some (.ref lp))) (hlp : (lp, W.listOf (List.toArray vp) np) ∈ rest) (hdat : DatAll rest vp ((tt.map prT).map tupD))
    (hret : ∀ h' tk lf vf add, Fr g L h' (fun y => if y = Str.ofString "free" then some (.ref lf) else m y) → News g L h' ((lf, W.listOf (List.toArray vf) vf.length) :: ((L + 1 + 1 + 1 + 1 + 1, o5) :: (add ++ rest))) → DatAll add vf ((frTo (tt.map prT) 4).map tupD) → (∀ p ∈ ((L + 1 + 1 + 1 + 1 + 1, o5) :: (add ++ rest)), p.1 ≠ lf) → (∀ p ∈ add, ∀ q ∈ ((L + 1 + 1 + 1 + 1 + 1, o5) :: rest), p.1 ≠ q.1) → wpAny (model PySem.Challenge.rw_re0161_02.row.prog w) (callerA.deeper (envOfC (Str.ofString "law") lawScope L fa cd)) (execs (lawBody.drop 8) (envOfC (Str.ofString "law") lawScope L fa cd)) Q E { s with heap := h', toks := tk }) :
    wpAny (model PySem.Challenge.rw_re0161_02.row.prog w) (callerA.deeper (envOfC (Str.ofString "law") lawScope L fa cd)) (execs (lawBody.drop 7) (envOfC (Str.ofString "law") lawScope L fa cd)) Q E s := by
  generalize hsc : lawScope = sc at *
  conv at hsc => lhs; whnf
  subst hsc
  refine cut1 (fun s' => ∃ h tk lf vf add, s' = { s with heap := h, toks := tk } ∧ Fr g L h (fun y => if y = Str.ofString "free" then some (.ref lf) else m y) ∧ News g L h ((lf, W.listOf (List.toArray vf) vf.length) :: ((L + 1 + 1 + 1 + 1 + 1, o5) :: (add ++ rest))) ∧ DatAll add vf ((frTo (tt.map prT) 4).map tupD) ∧ (∀ p ∈ ((L + 1 + 1 + 1 + 1 + 1, o5) :: (add ++ rest)), p.1 ≠ lf) ∧ (∀ p ∈ add, ∀ q ∈ ((L + 1 + 1 + 1 + 1 + 1, o5) :: rest), p.1 ≠ q.1)) ?_ ?_
  · k_steps
    refine ⟨?_⟩
    refine comp_nestA (h₀ := g) (m := m) (by with_unfolding_all rfl) (by rfl) (by decide) (by rfl) (by decide) (by rfl) (by rfl) (by decide) (by intro _ _; rfl) (by rfl) (by rfl) ?_
    k_steps
    refine hide3 (fun (i : Nat) (ys : List Value) (nx : List (Addr × Obj)) => ∃ add, ((L + 1 + 1 + 1 + 1 + 1, o5) :: (add ++ rest)) = nx ∧ DatAll add ys ((frTo (tt.map prT) i).map tupD) ∧ (∀ p ∈ add, ∀ q ∈ ((L + 1 + 1 + 1 + 1 + 1, o5) :: rest), p.1 ≠ q.1)) ?_
    intro J1 toJ1 ofJ1
    refine ⟨_, _, _, _, _, _, 4, ((L + 1 + 1 + 1 + 1 + 1, o5) :: rest), J1, rfl, rfl, by assumption, by assumption, by assumption, by decide, by decide, toJ1 _ _ _ ⟨[], rfl, .nil, fun p hp => nomatch hp⟩, ?_, ?_⟩
    · intro i ys nx t' I oI C oC D m2 h tk E' hi hJ1 hC hx F3 N3 off ne
      obtain ⟨add, hnx, hys, hadd⟩ := ofJ1 _ _ _ hJ1
      clear hJ1 ofJ1
      subst hnx
      rw [Int.zero_add] at hx ⊢
      k_steps
      refine ⟨_, _, oC, m2, ((L + 1 + 1 + 1 + 1 + 1, o5) :: (add ++ rest)), 4, fun j v => ∃ t, v = .int (j : Int) t, fun j ys nx => ∃ add, ((L + 1 + 1 + 1 + 1 + 1, o5) :: (add ++ rest)) = nx ∧ DatAll add ys ((frTo (tt.map prT) i ++ frIn (tt.map prT) i j).map tupD) ∧ (∀ p ∈ add, ∀ q ∈ ((L + 1 + 1 + 1 + 1 + 1, o5) :: rest), p.1 ≠ q.1) ∧ j ≤ 4, rfl, by assumption, by assumption, hC, hx, off,
        ⟨add, rfl, by rw [show frIn (tt.map prT) i 0 = [] from rfl, List.append_nil]; exact hys, hadd, Nat.zero_le _⟩, ?_, .inl ⟨_, _, _, _, _, _, rfl, by assumption, by decide, by decide, fun j v hv => by rw [Int.zero_add] at hv; exact hv⟩, ?_, ?_⟩
      · rintro j ys nx ⟨add, _, hys, _, hj4⟩
        have h1 := frTo_len (tt.map prT) i
        have h2 := frIn_len (tt.map prT) i j
        rw [dat_len hys, List.length_map, List.length_append]
        omega
      · rintro j v ys nx I2 oI2 oC2 m3 h3 tk3 E3 hj ⟨tj, rfl⟩ ⟨add, hnx, hys, hadd, _⟩ hC3 hx3 hy3 F3 N3 off3 ne3
        subst hnx
        have hno : frTest (tt.map prT) i j = false → ∃ add', ((L + 1 + 1 + 1 + 1 + 1, o5) :: (add' ++ rest)) = ((L + 1 + 1 + 1 + 1 + 1, o5) :: (add ++ rest)) ∧ DatAll add' ys ((frTo (tt.map prT) i ++ frIn (tt.map prT) i (j + 1)).map tupD) ∧ (∀ p ∈ add', ∀ q ∈ ((L + 1 + 1 + 1 + 1 + 1, o5) :: rest), p.1 ≠ q.1) ∧ j + 1 ≤ 4 := fun hf => ⟨add, rfl, by rw [frIn_succ, hf]; simp only [Bool.false_eq_true, if_false, List.append_nil]; exact hys, hadd, hj⟩
        have hyes : frTest (tt.map prT) i j = true → ∀ T9 t8 t9 k9, (∀ q ∈ ((L + 1 + 1 + 1 + 1 + 1, o5) :: (add ++ rest)), @LT.lt Nat instLTNat q.1 T9) → ∃ add', ((L + 1 + 1 + 1 + 1 + 1, o5) :: (add' ++ rest)) = ((L + 1 + 1 + 1 + 1 + 1, o5) :: ((T9, prObj i j t8 t9 k9) :: add ++ rest)) ∧ DatAll add' (ys ++ [Value.ref T9]) ((frTo (tt.map prT) i ++ frIn (tt.map prT) i (j + 1)).map tupD) ∧ (∀ p ∈ add', ∀ q ∈ ((L + 1 + 1 + 1 + 1 + 1, o5) :: rest), p.1 ≠ q.1) ∧ j + 1 ≤ 4 := fun hf T9 t8 t9 k9 hlt => by
          refine ⟨(T9, prObj i j t8 t9 k9) :: add, rfl, ?_, fun p hp q hq => ?_, hj⟩
          · rw [frIn_succ, hf, if_pos rfl, ← List.append_assoc]
            exact prs_snoc (hys.mono fun p hp => List.mem_cons_of_mem _ hp) (List.mem_cons_self ..)
          · rcases List.mem_cons.mp hp with rfl | hp
            · exact Nat.ne_of_gt (hlt q ((show ∀ p ∈ ((L + 1 + 1 + 1 + 1 + 1, o5) :: rest), p ∈ ((L + 1 + 1 + 1 + 1 + 1, o5) :: (add ++ rest)) by walk_at "mine sub") q hq))
            · exact hadd p hp q hq
        k_steps
        · rename (i : Int) ≠ (j : Int) => hij
          have hij2 : i ≠ j := fun e => hij (congrArg Int.ofNat e)
          refine ⟨?_⟩
          rename News _ _ _ _ => N5
          refine tup_in N5 (by walk_at "mine mem") hdat (by walk_at "mine sub") (List.mem_cons_self ..) (by ktr_units) ?_
          intro b1 hb1
          k_steps
          · rename b1 = true => hx1
            rename News _ _ _ _ => N7
            rename _ < _ ∧ _ => lT
            obtain ⟨T9, e9, lA⟩ := lt_name (show AllLt _ ((_, oC2) :: (I2, oI2) :: (I, oI) :: (C, oC2) :: (D, LCg.lst ys) :: ((L + 1 + 1 + 1 + 1 + 1, o5) :: (add ++ rest))) from lT)
            subst e9
            refine ⟨_, _, ((L + 1 + 1 + 1 + 1 + 1, o5) :: ((T9, prObj i j t' tj 0) :: add ++ rest)), rfl, by assumption, news_sub N7 (by walk_at "mine sub"), ?_, hyes (by unfold frTest; rw [hb1, hx1, decide_eq_false hij2]; rfl) T9 t' tj 0 fun q hq => lA q (by walk_at "mine mem")⟩
            intro p hp
            rcases List.mem_cons.mp ((show ∀ p ∈ ((L + 1 + 1 + 1 + 1 + 1, o5) :: ((T9, prObj i j t' tj 0) :: add ++ rest)), p ∈ (T9, prObj i j t' tj 0) :: ((L + 1 + 1 + 1 + 1 + 1, o5) :: (add ++ rest)) by walk_at "mine sub") p hp) with rfl | hp
            · exact ⟨Nat.ne_of_gt (lA (I2, oI2) (by walk_at "mine mem")), Nat.ne_of_gt (lA (I, oI) (by walk_at "mine mem")), Nat.ne_of_gt (lA (C, oC2) (by walk_at "mine mem")), Nat.ne_of_gt (lA (D, LCg.lst ys) (by walk_at "mine mem"))⟩
            · exact off3 p hp
          · rename b1 = false => hx1
            refine ⟨?_⟩
            rename News _ _ _ _ => N6
            refine tup_in N6 (by walk_at "mine mem") hdat (by walk_at "mine sub") (List.mem_cons_self ..) (by ktr_units) ?_
            intro b2 hb2
            k_steps
            · rename b2 = true => hx2
              rename News _ _ _ _ => N7
              rename _ < _ ∧ _ => lT
              obtain ⟨T9, e9, lA⟩ := lt_name (show AllLt _ ((_, oC2) :: (_, oC2) :: (I2, oI2) :: (I, oI) :: (C, oC2) :: (D, LCg.lst ys) :: ((L + 1 + 1 + 1 + 1 + 1, o5) :: (add ++ rest))) from lT)
              subst e9
              refine ⟨_, _, ((L + 1 + 1 + 1 + 1 + 1, o5) :: ((T9, prObj i j t' tj 0) :: add ++ rest)), rfl, by assumption, news_sub N7 (by walk_at "mine sub"), ?_, hyes (by unfold frTest; rw [hb1, hb2, hx1, hx2, decide_eq_false hij2]; rfl) T9 t' tj 0 fun q hq => lA q (by walk_at "mine mem")⟩
              intro p hp
              rcases List.mem_cons.mp ((show ∀ p ∈ ((L + 1 + 1 + 1 + 1 + 1, o5) :: ((T9, prObj i j t' tj 0) :: add ++ rest)), p ∈ (T9, prObj i j t' tj 0) :: ((L + 1 + 1 + 1 + 1 + 1, o5) :: (add ++ rest)) by walk_at "mine sub") p hp) with rfl | hp
              · exact ⟨Nat.ne_of_gt (lA (I2, oI2) (by walk_at "mine mem")), Nat.ne_of_gt (lA (I, oI) (by walk_at "mine mem")), Nat.ne_of_gt (lA (C, oC2) (by walk_at "mine mem")), Nat.ne_of_gt (lA (D, LCg.lst ys) (by walk_at "mine mem"))⟩
              · exact off3 p hp
            · rename b2 = false => hx2
              exact ⟨_, _, _, rfl, by assumption, news_sub (by assumption) (by walk_at "mine sub"), off3, hno (by unfold frTest; rw [hb1, hb2, hx1, hx2, Bool.or_self, Bool.and_false])⟩
        · rename (i : Int) = (j : Int) => hij
          exact ⟨_, _, _, rfl, by assumption, news_sub (by assumption) (by walk_at "mine sub"), off3, hno (by unfold frTest; rw [decide_eq_true (Int.ofNat_inj.mp hij)]; rfl)⟩
      · rintro ys nx ⟨add, hnx, hys, hadd, _⟩
        exact toJ1 _ _ _ ⟨add, hnx, by rw [frTo_succ]; exact hys, hadd⟩
    · intro ys nx D h tk hJ1 F3 N3 off
      obtain ⟨add, hnx, hys, hadd⟩ := ofJ1 _ _ _ hJ1
      subst hnx
      k_steps
      all_goals try trivial
      refine ⟨?_⟩
      exact ⟨_, _, D, ys, add, rfl, F3, N3, hys, off, hadd⟩
  · rintro s' ⟨h, tk, lf, vf, add, rfl, F2, N2, h1, h2, h3⟩
    exact hret _ _ _ _ _ F2 N2 h1 h2 h3
end
section
local macro_rules | `(tactic| walk_at "subscriptTail Name Name ref int") => `(tactic| (refine Hold.out ?_))
set_option maxHeartbeats 4000000 in
theorem law2_9a {w : World} {loose : List PySem.Str} {mean : ExcName → Option Value} {mg mb m : PySem.Str → Option Value} {g : Heap} {L fa : Nat} {cd : Value} {s : Shared} {Q : Flow → Shared → Prop} {E : Value → Shared → Prop} {o1 o3 o7 o8 : Obj} {lw sh c : Nat} {tsh tc : Tok} {vw : List Value} {R : List (Addr × Obj)}
    (X : (Mine.pre.heap_1 w.params).In g) (T : Top topProg loose mean mg mb g) (XM : Flt.MathXP PySem.Challenge.rw_re0161_02.row.prog mg g) (B : Below callerA g [] g) (F : Fr g L s.heap m) (N : News g L s.heap ((L + 1 + 1 + 1 + 1 + 1 + 1 + 1, o7) :: (L + 1 + 1 + 1 + 1 + 1 + 1 + 1 + 1, o8) :: (L + 1 + 1 + 1, o3) :: (L + 1, o1) :: R)) (d7 : o7.data = .cell (some (.int (c : Int) tc))) (hc : c < 16) {v8 : Option Value} (d8 : o8.data = .cell v8)
    (d1 : o1.data = .cell (some (.int (sh : Int) tsh))) (d3 : o3.data = .cell (some (.ref lw))) (hlw : (lw, W.listOf (List.toArray vw) vw.length) ∈ R) (hvw : StrsAre vw ((List.range 4).map fun k => W (sh + k))) (hsh : sh < 10) (hof8 : ∀ p ∈ R, p.1 ≠ L + 1 + 1 + 1 + 1 + 1 + 1 + 1 + 1)
    (hret : ∀ h' tk o8 ll vl tt, Fr g L h' (fun y => if y = Str.ofString "told" then some (.str (pf (c * 2 ^ sh)) tt) else m y) → News g L h' ((L + 1 + 1 + 1 + 1 + 1 + 1 + 1, o7) :: (L + 1 + 1 + 1 + 1 + 1 + 1 + 1 + 1, o8) :: (L + 1 + 1 + 1, o3) :: (L + 1, o1) :: ((ll, W.listOf (List.toArray vl) vl.length) :: R)) → o8.data = .cell (some (.ref ll)) → StrsAre vl (setW sh c) → (∀ p ∈ ((L + 1 + 1 + 1 + 1 + 1 + 1 + 1, o7) :: (L + 1 + 1 + 1 + 1 + 1 + 1 + 1 + 1, o8) :: (L + 1 + 1 + 1, o3) :: (L + 1, o1) :: R), p.1 ≠ ll) → wpAny (model PySem.Challenge.rw_re0161_02.row.prog w) (callerA.deeper (envOfC (Str.ofString "law") lawScope L fa cd)) (execs (loop3.drop 2) (envOfC (Str.ofString "law") lawScope L fa cd)) Q E { s with heap := h', toks := tk }) :
    wpAny (model PySem.Challenge.rw_re0161_02.row.prog w) (callerA.deeper (envOfC (Str.ofString "law") lawScope L fa cd)) (execs (loop3.drop 0) (envOfC (Str.ofString "law") lawScope L fa cd)) Q E s := by
  generalize hsc : lawScope = sc at *
  conv at hsc => lhs; whnf
  subst hsc
  have hwl : vw.length = 4 := strsAre_len hvw
  have n78 : @Ne Nat (L + 1 + 1 + 1 + 1 + 1 + 1 + 1) (L + 1 + 1 + 1 + 1 + 1 + 1 + 1 + 1) := plus_ne 7 8 (by decide)
  have n38 : @Ne Nat (L + 1 + 1 + 1) (L + 1 + 1 + 1 + 1 + 1 + 1 + 1 + 1) := plus_ne 3 8 (by decide)
  have n18 : @Ne Nat (L + 1) (L + 1 + 1 + 1 + 1 + 1 + 1 + 1 + 1) := plus_ne 1 8 (by decide)
  refine cut1 (fun s' => ∃ h tk tt, s' = { s with heap := h, toks := tk } ∧ Fr g L h (fun y => if y = Str.ofString "told" then some (.str (pf (c * 2 ^ sh)) tt) else m y) ∧ News g L h ((L + 1 + 1 + 1 + 1 + 1 + 1 + 1, o7) :: (L + 1 + 1 + 1 + 1 + 1 + 1 + 1 + 1, o8) :: (L + 1 + 1 + 1, o3) :: (L + 1, o1) :: R)) ?_ ?_
  · k_steps
    refine ⟨?_⟩
    rw [shl_cast]
    refine pf_con (e := ((c * 2 ^ sh : Nat) : Int)) (by k_asm) (by k_asm) (by k_asm) (by k_asm) (by k_asm) (by k_asm) rfl ⟨Int.natCast_nonneg _, set_smallI hsh hc⟩ (by ktr_room) (by ktr_units) ?_
    intro r1 nw1 h1 tk1 F1 N1 ⟨⟨t1, e1⟩, e2⟩
    subst e1 e2
    rw [Int.toNat_natCast]
    k_steps
    all_goals try trivial
    refine ⟨?_⟩
    exact ⟨_, _, _, rfl, by assumption, by assumption⟩
  rintro s' ⟨h, tk, tt, rfl, F2, N2⟩
  refine cut1 (fun s' => ∃ h tk o8 ll vl, s' = { s with heap := h, toks := tk } ∧ Fr g L h (fun y => if y = Str.ofString "told" then some (.str (pf (c * 2 ^ sh)) tt) else m y) ∧ News g L h ((L + 1 + 1 + 1 + 1 + 1 + 1 + 1, o7) :: (L + 1 + 1 + 1 + 1 + 1 + 1 + 1 + 1, o8) :: (L + 1 + 1 + 1, o3) :: (L + 1, o1) :: ((ll, W.listOf (List.toArray vl) vl.length) :: R)) ∧ o8.data = .cell (some (.ref ll)) ∧ StrsAre vl (setW sh c) ∧ (∀ p ∈ ((L + 1 + 1 + 1 + 1 + 1 + 1 + 1, o7) :: (L + 1 + 1 + 1 + 1 + 1 + 1 + 1 + 1, o8) :: (L + 1 + 1 + 1, o3) :: (L + 1, o1) :: R), p.1 ≠ ll)) ?_ ?_
  · k_steps
    refine ⟨?_⟩
    refine LCt.CompSrcT.range (n := 4) rfl (by k_asm) (by k_asm) (by assumption) (by decide) (by decide) (by rw [sizeLine_eq]; decide) ?_
    intro g3
    refine comp_invT (fun i ys nx => ((L + 1 + 1 + 1 + 1 + 1 + 1 + 1, o7) :: (L + 1 + 1 + 1 + 1 + 1 + 1 + 1 + 1, o8) :: (L + 1 + 1 + 1, o3) :: (L + 1, o1) :: R) = nx ∧ StrsAre ys ((bitsB c i).map fun k => W (sh + k))) ⟨rfl, .nil⟩ ?_ ?_
    · rintro k ys nx v I3 oI3 C3 oC3 D3 m3 h3 tk3 E3 hk ⟨hnx, hys⟩ ⟨t3, rfl⟩ hC hx F3 N3 off ne
      subst hnx
      have hlm : (lw, W.listOf (List.toArray vw) vw.length) ∈ (I3, oI3) :: (C3, oC3) :: (D3, LCg.lst ys) :: ((L + 1 + 1 + 1 + 1 + 1 + 1 + 1, o7) :: (L + 1 + 1 + 1 + 1 + 1 + 1 + 1 + 1, o8) :: (L + 1 + 1 + 1, o3) :: (L + 1, o1) :: R) := by walk_at "mine mem"
      k_steps
      · rename _ = (1 : Int) => hbit
        refine ⟨?_⟩
        refine KTb.item_list (list_at (by k_asm) hlm) hvw (by omega) (by rw [List.length_map, List.length_range]; omega) (by omega) ?_
        intro t5 _
        dsimp only
        refine ⟨_, _, _, rfl, by assumption, by assumption, off, trivial, rfl, ?_⟩
        rw [bitsB_succ, (bit_any c k).mp hbit, if_pos rfl, List.map_append, Int.zero_add, word4 hk]
        exact strsAre_snoc hys _ _
      · rename _ ≠ (1 : Int) => hbit
        refine ⟨_, _, _, rfl, by assumption, by assumption, off, trivial, rfl, ?_⟩
        rw [bitsB_succ, if_neg (fun h => hbit ((bit_any c k).mpr h)), List.append_nil]
        exact hys
    · rintro ys nx ⟨hnx, hys⟩
      subst hnx
      k_steps
      all_goals try trivial
      refine ⟨?_⟩
      rename Fr _ _ _ _ => F9
      rename News _ _ _ _ => N9
      rename Obj => o9
      rename o9.data = _ => d9
      rename _ ≠ _ ∧ _ => l9
      refine ⟨_, _, o9, _, ys, rfl, F9, news_sub N9 (by walk_at "mine sub"), d9, hys, off1_mem (l := ((L + 1 + 1 + 1 + 1 + 1 + 1 + 1, o7) :: (L + 1 + 1 + 1 + 1 + 1 + 1 + 1 + 1, o9) :: (L + 1 + 1 + 1, o3) :: (L + 1, o1) :: R)) l9⟩
  · rintro s' ⟨h, tk, o8, ll, vl, rfl, F3, N3, h1, h2, h3⟩
    exact hret _ _ _ _ _ _ F3 N3 h1 h2 h3
end
section
local macro_rules | `(tactic| walk_at "mine 0") => Lean.Macro.throwUnsupported
local macro_rules | `(tactic| walk_at $k:str) => if k.getString ∈ ["eval IfExp", "call builtin:str.split", "call builtin:str.join"] then `(tactic| (refine Hold.out ?_)) else Lean.Macro.throwUnsupported
set_option maxHeartbeats 4000000 in
theorem law2_9b {w : World} {loose : List PySem.Str} {mean : ExcName → Option Value} {mg mb m : PySem.Str → Option Value} {g : Heap} {L fa : Nat} {cd : Value} {s : Shared} {Q : Flow → Shared → Prop} {E : Value → Shared → Prop} {o7 o8 : Obj} {sh c ll : Nat} {tc tt9 : Tok} {vl : List Value} {R : List (Addr × Obj)}
    (X : (Mine.pre.heap_1 w.params).In g) (T : Top topProg loose mean mg mb g) (XM : Flt.MathXP PySem.Challenge.rw_re0161_02.row.prog mg g) (B : Below callerA g [] g) (F : Fr g L s.heap m) (N : News g L s.heap ((L + 1 + 1 + 1 + 1 + 1 + 1 + 1, o7) :: (L + 1 + 1 + 1 + 1 + 1 + 1 + 1 + 1, o8) :: ((ll, W.listOf (List.toArray vl) vl.length) :: R))) (d7 : o7.data = .cell (some (.int (c : Int) tc))) (hc : c < 16) (d8 : o8.data = .cell (some (.ref ll))) (hvl : StrsAre vl (setW sh c)) (hll : ∀ p ∈ ((L + 1 + 1 + 1 + 1 + 1 + 1 + 1, o7) :: (L + 1 + 1 + 1 + 1 + 1 + 1 + 1 + 1, o8) :: R), p.1 ≠ ll)
    (hsh : sh < 10) (hof8 : ∀ p ∈ R, p.1 ≠ L + 1 + 1 + 1 + 1 + 1 + 1 + 1 + 1) (hm1 : m (Str.ofString "told") = some (.str (pf (c * 2 ^ sh)) tt9))
    (hret : ∀ h' tk o8 ll vl nl9, Fr g L h' m → News g L h' ((L + 1 + 1 + 1 + 1 + 1 + 1 + 1, o7) :: (L + 1 + 1 + 1 + 1 + 1 + 1 + 1 + 1, o8) :: ((ll, W.listOf (List.toArray vl) nl9) :: R)) → o8.data = .cell (some (.ref ll)) → StrsAre vl (setW sh c) → (∀ p ∈ ((L + 1 + 1 + 1 + 1 + 1 + 1 + 1, o7) :: (L + 1 + 1 + 1 + 1 + 1 + 1 + 1 + 1, o8) :: R), p.1 ≠ ll) → wpAny (model PySem.Challenge.rw_re0161_02.row.prog w) (callerA.deeper (envOfC (Str.ofString "law") lawScope L fa cd)) (execs (loop3.drop 4) (envOfC (Str.ofString "law") lawScope L fa cd)) Q E { s with heap := h', toks := tk }) :
    wpAny (model PySem.Challenge.rw_re0161_02.row.prog w) (callerA.deeper (envOfC (Str.ofString "law") lawScope L fa cd)) (execs (loop3.drop 2) (envOfC (Str.ofString "law") lawScope L fa cd)) Q E s := by
  generalize hsc : lawScope = sc at *
  conv at hsc => lhs; whnf
  subst hsc
  have n78 : @Ne Nat (L + 1 + 1 + 1 + 1 + 1 + 1 + 1) (L + 1 + 1 + 1 + 1 + 1 + 1 + 1 + 1) := plus_ne 7 8 (by decide)
  have hl8 : @Ne Nat (L + 1 + 1 + 1 + 1 + 1 + 1 + 1 + 1) ll := hll (L + 1 + 1 + 1 + 1 + 1 + 1 + 1 + 1, o8) (by walk_at "mine mem")
  obtain ⟨X9, hX9⟩ : ∃ X9, X9 = pf (c * 2 ^ sh) := ⟨_, rfl⟩
  rw [← hX9] at hm1
  rw [set_told hsh hc] at hX9
  have hch := Hold.mk (know hm1)
  refine cut1 (fun s' => ∃ h tk, s' = { s with heap := h, toks := tk } ∧ Fr g L h m ∧ News g L h ((L + 1 + 1 + 1 + 1 + 1 + 1 + 1, o7) :: (L + 1 + 1 + 1 + 1 + 1 + 1 + 1 + 1, o8) :: ((ll, W.listOf (List.toArray vl) vl.length) :: R))) ?_ ?_
  · rw [hch.out] at F
    k_steps
    refine ⟨?_⟩
    refine wp_cut (fun v => ∃ t, v = .str X9 t) ?_ ?_
    · refine IfExp_ ?_
      k_steps
      · rename (c : Int) > 0 => hc0
        refine ⟨?_⟩
        refine join_listW (list_at (by k_asm) (by walk_at "mine mem")) hvl (by decide) (set_weight sh hsh c hc) ?_
        intro t2 k2
        exact CutP.of ⟨_, congrArg (fun x => Value.str x _) (by rw [hX9, if_neg (pos_ne hc0)])⟩
      · rename ¬ (c : Int) > 0 => hc0
        exact CutP.of ⟨_, congrArg (fun x => Value.str x _) (by rw [hX9, if_pos (npos_eq hc0)])⟩
    rintro _ tk5 ⟨t5, rfl⟩
    k_steps
    all_goals first
      | (rename (X9 != X9) = true => hx; exact absurd hx (by simp))
      | trivial
      | (refine ⟨?_⟩; exact ⟨_, _, rfl, fr_back2 hch.out (by assumption), by assumption⟩)
  rintro s' ⟨h, tk, rfl, F2, N2⟩
  clear F N
  refine cut1 (fun s' => ∃ h tk o8 ll vl nl9, s' = { s with heap := h, toks := tk } ∧ Fr g L h m ∧ News g L h ((L + 1 + 1 + 1 + 1 + 1 + 1 + 1, o7) :: (L + 1 + 1 + 1 + 1 + 1 + 1 + 1 + 1, o8) :: ((ll, W.listOf (List.toArray vl) nl9) :: R)) ∧ o8.data = .cell (some (.ref ll)) ∧ StrsAre vl (setW sh c) ∧ (∀ p ∈ ((L + 1 + 1 + 1 + 1 + 1 + 1 + 1, o7) :: (L + 1 + 1 + 1 + 1 + 1 + 1 + 1 + 1, o8) :: R), p.1 ≠ ll)) ?_ ?_
  · rw [hch.out] at F2
    k_steps
    refine ⟨?_⟩
    refine IfExp_ ?_
    k_steps
    · rename (c : Int) > 0 => hc0
      refine ⟨?_⟩
      refine KSpl.split1 (by k_asm) (by k_asm) (by decide) ?_ (set_fits hsh hc hX9 (pos_ne hc0))
      intro D l h3 k3 el hsl F3 N3 l3
      rw [el.trans (set_el hsh hc hX9 (pos_ne hc0))] at hsl
      clear el
      have l3' : ∀ p ∈ ((L + 1 + 1 + 1 + 1 + 1 + 1 + 1, o7) :: (L + 1 + 1 + 1 + 1 + 1 + 1 + 1 + 1, o8) :: R), @LT.lt Nat instLTNat p.1 D := fun p hp => l3 p ((show ∀ p ∈ ((L + 1 + 1 + 1 + 1 + 1 + 1 + 1, o7) :: (L + 1 + 1 + 1 + 1 + 1 + 1 + 1 + 1, o8) :: R), p ∈ ((L + 1 + 1 + 1 + 1 + 1 + 1 + 1, o7) :: (L + 1 + 1 + 1 + 1 + 1 + 1 + 1 + 1, o8) :: ((ll, W.listOf (List.toArray vl) vl.length) :: R)) by walk_at "mine sub") p hp)
      generalize strValues l = vs at *
      have hD8 : @LT.lt Nat instLTNat (L + 1 + 1 + 1 + 1 + 1 + 1 + 1 + 1) D := l3 (L + 1 + 1 + 1 + 1 + 1 + 1 + 1 + 1, o8) (by walk_at "mine mem")
      k_steps
      all_goals try trivial
      refine ⟨?_⟩
      rename Fr _ _ _ _ => F9
      rename News _ _ _ _ => N9
      rename Obj => o9
      rename o9.data = _ => d9
      exact ⟨_, _, o9, D, vs, 0, rfl, fr_back2 hch.out F9, news_sub N9 (by walk_at "mine sub"), d9, hsl, fun p hp => (swap2 (c := (L + 1 + 1 + 1 + 1 + 1 + 1 + 1 + 1, o8)) p hp).elim (fun e => e ▸ Nat.ne_of_lt hD8) fun hp => Nat.ne_of_lt (l3' p hp)⟩
    · trivial
    · rename ¬ (c : Int) > 0 => hc0
      rename Fr _ _ _ _ => F9
      rename News _ _ _ _ => N9
      rename Obj => o9
      rename o9.data = _ => d9
      rename _ < _ ∧ _ => l9
      refine ⟨?_⟩
      have hc00 := npos_eq hc0
      refine ⟨_, _, o9, _, [], 0, rfl, fr_back2 hch.out F9, news_sub N9 (by walk_at "mine sub"), d9, by rw [hc00, setW_zero]; exact .nil, ?_⟩
      exact fun p hp => Nat.ne_of_lt (ktn_ltOf (l := ((L + 1 + 1 + 1 + 1 + 1 + 1 + 1, o7) :: (L + 1 + 1 + 1 + 1 + 1 + 1 + 1 + 1, o9) :: ((ll, W.listOf (List.toArray vl) vl.length) :: R))) l9 p ((show ∀ p ∈ ((L + 1 + 1 + 1 + 1 + 1 + 1 + 1, o7) :: (L + 1 + 1 + 1 + 1 + 1 + 1 + 1 + 1, o9) :: R), p ∈ ((L + 1 + 1 + 1 + 1 + 1 + 1 + 1, o7) :: (L + 1 + 1 + 1 + 1 + 1 + 1 + 1 + 1, o9) :: ((ll, W.listOf (List.toArray vl) vl.length) :: R)) by walk_at "mine sub") p hp))
  · rintro s' ⟨h, tk, o8, ll, vl, nl9, rfl, F3, N3, h1, h2, h3⟩
    exact hret _ _ _ _ _ _ F3 N3 h1 h2 h3
end
section
local macro_rules | `(tactic| walk_at $k:str) => if k.getString ∈ ["binaryOp Pow int int", "binaryOp Mult int int", "compareOp Eq ref ref", "subscriptTail Name Name ref int", "eval ListComp", "call builtin:len", "subscriptTail Name Slice ref ref"] then `(tactic| (refine Hold.out ?_)) else Lean.Macro.throwUnsupported
set_option maxHeartbeats 4000000 in
theorem law2_9c {w : World} {loose : List PySem.Str} {mean : ExcName → Option Value} {mg mb m : PySem.Str → Option Value} {g : Heap} {L fa : Nat} {cd : Value} {s : Shared} {Q : Flow → Shared → Prop} {E : Value → Shared → Prop} {o4 o8 : Obj} {hl nl x d sh c ll nl9 : Nat} {tkk td : Tok} {vst vl : List Value} {tt : List (Nat × Nat × Bool)} {dv : Int} {R : List (Addr × Obj)}
    (X : (Mine.pre.heap_1 w.params).In g) (T : Top topProg loose mean mg mb g) (XM : Flt.MathXP PySem.Challenge.rw_re0161_02.row.prog mg g) (B : Below callerA g [] g) (F : Fr g L s.heap m) (N : News g L s.heap ((hl, W.listOf (List.toArray vst) nl) :: (L + 1 + 1 + 1 + 1 + 1 + 1 + 1 + 1, o8) :: (L + 1 + 1 + 1 + 1, o4) :: ((ll, W.listOf (List.toArray vl) nl9) :: R))) (hc : c < 16) (d8 : o8.data = .cell (some (.ref ll))) (hvl : StrsAre vl (setW sh c)) (hll : @Ne Nat hl ll)
    (d4 : o4.data = .cell (some (.ref x))) (hx : (x, instObj 182 d) ∈ R) (hdd : (d, hdrDict w.params tkk hl) ∈ R) (hr : Rows R vst (tt.map (rowT sh))) (hT : Tok4 tt) (hlen : tt.length ≤ 5) (hsh : sh < 10) (hoff : ∀ p ∈ R, p.1 ≠ hl) (hl8 : @Ne Nat (L + 1 + 1 + 1 + 1 + 1 + 1 + 1 + 1) (hl)) (hl4 : @Ne Nat (L + 1 + 1 + 1 + 1) (hl)) (hm1 : m (Str.ofString "divisor") = some (.int dv td)) (hdv : dv.natAbs < 2 ^ 50)
    (hret : ∀ h' tk m' t', Fr g L h' m' → (∀ y, y ≠ Str.ofString "divisor" → m' y = m y) → m' (Str.ofString "divisor") = some (.int (dv + termC (tt.map prT) c) t') → News g L h' ((hl, W.listOf (List.toArray vst) nl) :: (L + 1 + 1 + 1 + 1 + 1 + 1 + 1 + 1, o8) :: (L + 1 + 1 + 1 + 1, o4) :: ((ll, W.listOf (List.toArray vl) nl9) :: R)) → wpAny (model PySem.Challenge.rw_re0161_02.row.prog w) (callerA.deeper (envOfC (Str.ofString "law") lawScope L fa cd)) (execs (loop3.drop 5) (envOfC (Str.ofString "law") lawScope L fa cd)) Q E { s with heap := h', toks := tk }) :
    wpAny (model PySem.Challenge.rw_re0161_02.row.prog w) (callerA.deeper (envOfC (Str.ofString "law") lawScope L fa cd)) (execs (loop3.drop 4) (envOfC (Str.ofString "law") lawScope L fa cd)) Q E s := by
  generalize hsc : lawScope = sc at *
  conv at hsc => lhs; whnf
  subst hsc
  have hbl := bits_len4 c
  have hvll : vl.length = (bitsB c 4).length := by rw [strsAre_len hvl, setW_len]
  obtain ⟨nS, hnS⟩ : ∃ nS, nS = (bitsB c 4).length := ⟨_, rfl⟩
  rw [← hnS] at hvll hbl
  have hrg := range_small nS (by omega)
  have hch := Hold.mk (know hm1)
  refine cut1 (fun s' => ∃ h tk m' t', s' = { s with heap := h, toks := tk } ∧ Fr g L h m' ∧ (∀ y, y ≠ Str.ofString "divisor" → m' y = m y) ∧ m' (Str.ofString "divisor") = some (.int (dv + termC (tt.map prT) c) t') ∧ News g L h ((hl, W.listOf (List.toArray vst) nl) :: (L + 1 + 1 + 1 + 1 + 1 + 1 + 1 + 1, o8) :: (L + 1 + 1 + 1 + 1, o4) :: ((ll, W.listOf (List.toArray vl) nl9) :: R))) ?_ ?_
  · rw [hch.out] at F
    k_steps
    refine ⟨?_⟩
    refine comp_nest (h₀ := g) (m := fun y => if y = Str.ofString "divisor" then some (.int dv td) else m y) (by rfl) (by decide) (by rfl) (by decide) (by rfl) (by rfl) (by decide) (by intro _ _; rfl) ?_
    k_steps
    refine ⟨?_⟩
    refine len_M (vs := vl) (nn := nl9) (by k_asm) (by walk_at "mine mem") (by rw [hvll]; exact Nat.lt_of_le_of_lt hbl (by decide)) ?_
    intro _ _
    rw [hvll]
    k_steps
    refine hide3 (fun (i : Nat) (ys : List Value) (nx : List (Addr × Obj)) => ∃ ex ns, ((hl, W.listOf (List.toArray vst) nl) :: (L + 1 + 1 + 1 + 1 + 1 + 1 + 1 + 1, o8) :: (L + 1 + 1 + 1 + 1, o4) :: (ex ++ (ll, W.listOf (List.toArray vl) nl9) :: R)) = nx ∧ IntsAre ys ns ∧ (ns = [] ↔ indepTo (tt.map prT) (bitsB c 4) i = true) ∧ ys.length ≤ 4 * i ∧ (∀ p ∈ ex, p.1 ≠ hl)) ?_
    intro J1 toJ1 ofJ1
    refine ⟨_, _, _, _, _, _, nS, ((hl, W.listOf (List.toArray vst) nl) :: (L + 1 + 1 + 1 + 1 + 1 + 1 + 1 + 1, o8) :: (L + 1 + 1 + 1 + 1, o4) :: ((ll, W.listOf (List.toArray vl) nl9) :: R)), J1, rfl, rfl, by assumption, by assumption, by assumption, hrg.1, hrg.2, toJ1 _ _ _ ⟨[], [], rfl, .nil, ⟨fun _ => rfl, fun _ => rfl⟩, Nat.zero_le _, fun p hp => nomatch hp⟩, ?_, ?_⟩
    · intro i ys nx t' I oI C oC D m2 h tk E' hi hJ1 hC hx F3 N3 off ne
      obtain ⟨ex, ns, hnx, hys, hns, hyl, hex⟩ := ofJ1 _ _ _ hJ1
      clear hJ1 ofJ1
      subst hnx
      rw [Int.zero_add] at hx ⊢
      k_steps
      refine ⟨?_⟩
      refine kmk_slice_lit (its := vl.toArray) (zs := vl.take i) (by k_asm) (by k_asm) (list_at (by k_asm) (by walk_at "mine mem")) .none (IsPart.int _ _) (pickTo _ _) ?_ (by with_unfolding_all rfl) (by intro _; with_unfolding_all rfl) (by rw [List.size_toArray, sizeLine_eq]; omega)
      intro Ds hs F4 N4 lDs
      k_steps
      refine hide3 (fun (j : Nat) (ys : List Value) (nx : List (Addr × Obj)) => ∃ ns, ((hl, W.listOf (List.toArray vst) nl) :: (L + 1 + 1 + 1 + 1 + 1 + 1 + 1 + 1, o8) :: (L + 1 + 1 + 1 + 1, o4) :: (((Ds, W.listOf (List.toArray (vl.take i)) 0) :: ex) ++ (ll, W.listOf (List.toArray vl) nl9) :: R)) = nx ∧ IntsAre ys ns ∧ (ns = [] ↔ (indepTo (tt.map prT) (bitsB c 4) i && okPair (tt.map prT) (bitsB c 4) i j) = true) ∧ ys.length ≤ 4 * i + j ∧ j ≤ 4) ?_
      intro J2 toJ2 ofJ2
      refine ⟨_, _, oC, m2, ((hl, W.listOf (List.toArray vst) nl) :: (L + 1 + 1 + 1 + 1 + 1 + 1 + 1 + 1, o8) :: (L + 1 + 1 + 1 + 1, o4) :: (((Ds, W.listOf (List.toArray (vl.take i)) 0) :: ex) ++ (ll, W.listOf (List.toArray vl) nl9) :: R)), i, fun j v => (vl.take i)[j]? = some v, J2, rfl, F4, news_sub N4 (by walk_at "mine sub"), hC, hx, ?_,
        toJ2 _ _ _ ⟨ns, rfl, hys, by rw [show okPair (tt.map prT) (bitsB c 4) i 0 = true from rfl, Bool.and_true]; exact hns, hyl, Nat.zero_le _⟩, ?_, .inr ⟨Ds, (vl.take i).toArray, 0, rfl, ?_, ?_, ?_⟩, ?_, ?_⟩
      · intro p hp
        rcases List.mem_cons.mp ((show ∀ p ∈ ((hl, W.listOf (List.toArray vst) nl) :: (L + 1 + 1 + 1 + 1 + 1 + 1 + 1 + 1, o8) :: (L + 1 + 1 + 1 + 1, o4) :: (((Ds, W.listOf (List.toArray (vl.take i)) 0) :: ex) ++ (ll, W.listOf (List.toArray vl) nl9) :: R)), p ∈ (Ds, W.listOf (List.toArray (vl.take i)) 0) :: ((hl, W.listOf (List.toArray vst) nl) :: (L + 1 + 1 + 1 + 1 + 1 + 1 + 1 + 1, o8) :: (L + 1 + 1 + 1 + 1, o4) :: (ex ++ (ll, W.listOf (List.toArray vl) nl9) :: R)) by walk_at "mine sub") p hp) with rfl | hp
        · exact ⟨Nat.ne_of_gt (lDs (I, oI) (by walk_at "mine mem")), Nat.ne_of_gt (lDs (C, oC) (by walk_at "mine mem")), Nat.ne_of_gt (lDs (D, LCg.lst ys) (by walk_at "mine mem"))⟩
        · exact off p hp
      · intro j ys nx hJ2
        obtain ⟨ns, _, _, _, hyl, hj4⟩ := ofJ2 _ _ _ hJ2
        omega
      · rw [List.size_toArray, List.length_take]
        omega
      · intro j v hv
        rw [List.getElem?_toArray] at hv
        exact hv
      · intro j ys nx hJ2
        obtain ⟨ns, hnx, _⟩ := ofJ2 _ _ _ hJ2
        subst hnx
        walk_at "mine mem"
      · intro j v ys nx I2 oI2 oC2 m3 h3 tk3 E3 hj hv hJ2 hC3 hx3 hy3 F3 N3 off3 ne3
        obtain ⟨ns, hnx, hys, hns, hyl, _⟩ := ofJ2 _ _ _ hJ2
        clear hJ2 ofJ2
        subst hnx
        rw [List.getElem?_take_of_lt hj] at hv
        obtain ⟨y, ty, rfl, hy⟩ := strs_at hvl hv
        obtain ⟨rfl, hjn⟩ := setW_get hy
        have hin : i < (bitsB c 4).length := by rw [← hnS]; exact hi
        have hgi := bitsD_lt hin
        have hgj := bitsD_lt hjn
        have hlm : (ll, W.listOf (List.toArray vl) nl9) ∈ (I2, oI2) :: (I, oI) :: (C, oC2) :: (D, LCg.lst ys) :: ((hl, W.listOf (List.toArray vst) nl) :: (L + 1 + 1 + 1 + 1 + 1 + 1 + 1 + 1, o8) :: (L + 1 + 1 + 1 + 1, o4) :: (((Ds, W.listOf (List.toArray (vl.take i)) 0) :: ex) ++ (ll, W.listOf (List.toArray vl) nl9) :: R)) := by walk_at "mine mem"
        have hllen : vl.length = (setW sh c).length := strsAre_len hvl
        have hsl : (setW sh c).length = nS := by rw [setW_len, hnS]
        k_steps
        refine ⟨?_⟩
        refine KTb.item_list (list_at (by k_asm) hlm) hvl (Int.natCast_nonneg _) (by omega) (by omega) ?_
        intro t5 _
        rw [setW_at hin]
        k_steps
        refine ⟨?_⟩
        have hfr : ((valsOf (tt.map (rowT sh)) (W (sh + (bitsB c 4).getD i 0))).any (fun z => z == W (sh + (bitsB c 4).getD j 0)) || (valsOf (tt.map (rowT sh)) (W (sh + (bitsB c 4).getD j 0))).any fun z => z == W (sh + (bitsB c 4).getD i 0)) = frB (tt.map prT) ((bitsB c 4).getD i 0) ((bitsB c 4).getD j 0) := by
          unfold valsOf
          rw [any4 hsh hT hgi hgj, any4 hsh hT hgj hgi]
          rfl
        refine free_con (ps := tt.map (rowT sh)) (t := x) (d := d) (hl := hl) (vs := vst) (nl := nl) (rest := (I2, oI2) :: (I, oI) :: (C, oC2) :: (D, LCg.lst ys) :: (L + 1 + 1 + 1 + 1 + 1 + 1 + 1 + 1, o8) :: (L + 1 + 1 + 1 + 1, o4) :: ((Ds, W.listOf (List.toArray (vl.take i)) 0) :: ex ++ (ll, W.listOf (List.toArray vl) nl9) :: R)) (by k_asm) (by k_asm) (by k_asm) (news_sub (by assumption) (by walk_at "mine sub")) (by k_asm) (by k_asm) rfl
          ⟨by walk_at "mine mem", by walk_at "mine mem", by rw [hr.len, List.length_map]; omega, hr.mono (by walk_at "mine sub"), ?_, W_txl _ (by omega), W_txl _ (by omega)⟩ (by ktr_room) (by ktr_units) ?_
        · exact List.forall_mem_cons.mpr ⟨Ne.symm (off3 (hl, W.listOf (List.toArray vst) nl) (by walk_at "mine mem")).1, List.forall_mem_cons.mpr ⟨Ne.symm (off3 (hl, W.listOf (List.toArray vst) nl) (by walk_at "mine mem")).2.1, List.forall_mem_cons.mpr ⟨Ne.symm (off3 (hl, W.listOf (List.toArray vst) nl) (by walk_at "mine mem")).2.2.1, List.forall_mem_cons.mpr ⟨Ne.symm (off3 (hl, W.listOf (List.toArray vst) nl) (by walk_at "mine mem")).2.2.2, List.forall_mem_cons.mpr ⟨hl8, List.forall_mem_cons.mpr ⟨hl4, List.forall_mem_cons.mpr ⟨Nat.ne_of_gt (lDs (hl, W.listOf (List.toArray vst) nl) (by walk_at "mine mem")), List.forall_mem_append.mpr ⟨hex, List.forall_mem_cons.mpr ⟨Ne.symm hll, hoff⟩⟩⟩⟩⟩⟩⟩⟩⟩
        intro r8 nw8 h8 tk8 F8 N8 ⟨e8, e7⟩
        subst e8 e7
        rw [hfr]
        have hsucc := okPair_succ (tt.map prT) (bitsB c 4) i j
        generalize frB (tt.map prT) ((bitsB c 4).getD i 0) ((bitsB c 4).getD j 0) = b1 at *
        have N8' := news_sub (news := (I2, oI2) :: (I, oI) :: (C, oC2) :: (D, LCg.lst ys) :: ((hl, W.listOf (List.toArray vst) nl) :: (L + 1 + 1 + 1 + 1 + 1 + 1 + 1 + 1, o8) :: (L + 1 + 1 + 1 + 1, o4) :: (((Ds, W.listOf (List.toArray (vl.take i)) 0) :: ex) ++ (ll, W.listOf (List.toArray vl) nl9) :: R))) N8 (by walk_at "mine sub")
        clear N8
        k_steps
        all_goals first
          | (rename b1 = true => hb9; exact ⟨_, _, _, rfl, F8, N8', off3, toJ2 _ _ _ ⟨ns, rfl, hys, by rw [hsucc, hb9, Bool.and_true]; exact hns, Nat.le_succ_of_le hyl, by omega⟩⟩)
          | (rename b1 = false => hb9; exact ⟨_, _, _, rfl, F8, N8', off3, toJ2 _ _ _ ⟨ns ++ [(i : Int)], rfl, intsA_snoc hys _ _, ⟨fun h => absurd h (by simp), fun h => by rw [hsucc, hb9] at h; simp at h⟩, by rw [List.length_append]; exact Nat.succ_le_succ hyl, by omega⟩⟩)
      · intro ys nx hJ2
        obtain ⟨ns, hnx, hys, hns, hyl, _⟩ := ofJ2 _ _ _ hJ2
        refine toJ1 _ _ _ ⟨(Ds, W.listOf (List.toArray (vl.take i)) 0) :: ex, ns, hnx, hys, by rw [indepTo_succ]; exact hns, by omega, fun p hp => ?_⟩
        rcases List.mem_cons.mp hp with rfl | hp
        · exact Nat.ne_of_gt (lDs (hl, W.listOf (List.toArray vst) nl) (by walk_at "mine mem"))
        · exact hex p hp
    · intro ys nx D h tk hJ1 F3 N3 off
      obtain ⟨ex, ns, hnx, hys, hns, hyl, hex⟩ := ofJ1 _ _ _ hJ1
      clear hJ1 ofJ1 toJ1
      subst hnx
      have N3' : News g L h ((D, W.listOf (List.toArray ys) ys.length) :: ((hl, W.listOf (List.toArray vst) nl) :: (L + 1 + 1 + 1 + 1 + 1 + 1 + 1 + 1, o8) :: (L + 1 + 1 + 1 + 1, o4) :: (ex ++ (ll, W.listOf (List.toArray vl) nl9) :: R))) := N3
      clear N3
      have F3' : Fr g L h (fun y => if y = Str.ofString "divisor" then some (.int dv td) else m y) := F3
      clear F3
      k_steps
      refine ⟨?_⟩
      refine ke_eq_ints (list_at (by k_asm) (by walk_at "mine mem")) (list_at (vs := []) (by k_asm) (by walk_at "mine mem")) hys .nil (by ktr_units) ?_
      by_cases hnn : ns = []
      · rw [decide_eq_true hnn]
        rw [hnS] at hns
        have hind := hns.mp hnn
        k_steps
        refine ⟨?_⟩
        refine len_M (vs := vl) (nn := nl9) (by k_asm) (by walk_at "mine mem") (by rw [hvll]; exact Nat.lt_of_le_of_lt hbl (by decide)) ?_
        intro _ _
        rw [hvll]
        k_steps
        refine ⟨?_⟩
        refine pow_I (n := nS) rfl (by omega) (by decide) ?_
        intro z1 tz1 kz1 hz1
        dsimp only
        k_steps
        refine ⟨?_⟩
        refine len_M (vs := vl) (nn := nl9) (by k_asm) (by walk_at "mine mem") (by rw [hvll]; exact Nat.lt_of_le_of_lt hbl (by decide)) ?_
        intro _ _
        rw [hvll]
        k_steps
        refine ⟨?_⟩
        refine pow_I (n := 4 - nS) (by omega) (by omega) (by decide) ?_
        intro z2 tz2 kz2 hz2
        dsimp only
        k_steps
        refine ⟨?_⟩
        refine mul_I (sign_ok (by omega) hz1 _) ?_
        intro z3 tz3 kz3 hz3
        dsimp only
        k_steps
        all_goals try trivial
        refine ⟨?_⟩
        rename Fr _ _ _ _ => F9
        rename News _ _ _ _ => N9
        rw [hnS] at hz1 hz2
        exact ⟨_, _, _, _, rfl, F9, (fun y hy => (if_neg hy).trans ((if_neg hy).trans rfl)), congrArg (fun z => some (Value.int z _)) (term_yes hind hz1 hz2 hz3), news_sub N9 (by walk_at "mine sub")⟩
      · rw [decide_eq_false hnn]
        k_steps
        all_goals try trivial
        refine ⟨?_⟩
        rename Fr _ _ _ _ => F9
        rename News _ _ _ _ => N9
        rw [hnS] at hns
        exact ⟨_, _, _, _, rfl, F9, (fun y hy => (if_neg hy).trans rfl), congrArg (fun z => some (Value.int z _)) (term_no dv fun h => hnn (hns.mpr h)), news_sub N9 (by walk_at "mine sub")⟩
  · rintro s' ⟨h, tk, m', t', rfl, F2, h1, h2, N2⟩
    exact hret _ _ _ _ F2 h1 h2 N2
end
section
set_option maxHeartbeats 4000000 in
theorem law2_9 {w : World} {loose : List PySem.Str} {mean : ExcName → Option Value} {mg mb m : PySem.Str → Option Value} {g : Heap} {L fa : Nat} {cd : Value} {s : Shared} {Q : Flow → Shared → Prop} {E : Value → Shared → Prop} {o1 o3 o4 o7 o8 : Obj} {lw hl nl x d sh lf : Nat} {tkk tsh : Tok} {vw vst : List Value} {tt : List (Nat × Nat × Bool)} {R : List (Addr × Obj)} {v7 v8 : Option Value}
    (X : (Mine.pre.heap_1 w.params).In g) (T : Top topProg loose mean mg mb g) (XM : Flt.MathXP PySem.Challenge.rw_re0161_02.row.prog mg g) (B : Below callerA g [] g) (F : Fr g L s.heap m) (hE : PassesOwn (model PySem.Challenge.rw_re0161_02.row.prog w) (callerA.deeper (envOfC (Str.ofString "law") lawScope L fa cd)) (envOfC (Str.ofString "law") lawScope L fa cd) E) (N : News g L s.heap ((L + 1 + 1 + 1 + 1 + 1 + 1 + 1, o7) :: (L + 1 + 1 + 1 + 1 + 1 + 1 + 1 + 1, o8) :: (L + 1 + 1 + 1, o3) :: (L + 1, o1) :: (L + 1 + 1 + 1 + 1, o4) :: (hl, W.listOf (List.toArray vst) nl) :: R)) (d7 : o7.data = .cell v7) (d8 : o8.data = .cell v8) (hmf : m (Str.ofString "free") = some (.ref lf))
    (d1 : o1.data = .cell (some (.int (sh : Int) tsh))) (d3 : o3.data = .cell (some (.ref lw))) (d4 : o4.data = .cell (some (.ref x))) (hlw : (lw, W.listOf (List.toArray vw) vw.length) ∈ R) (hx : (x, instObj 182 d) ∈ R) (hdd : (d, hdrDict w.params tkk hl) ∈ R)
    (hr : Rows R vst (tt.map (rowT sh))) (hT : Tok4 tt) (hlen : tt.length ≤ 5) (hvw : StrsAre vw ((List.range 4).map fun k => W (sh + k))) (hsh : sh < 10) (hoff : ∀ p ∈ R, p.1 ≠ hl ∧ p.1 ≠ L + 1 + 1 + 1 + 1 + 1 + 1 + 1 ∧ p.1 ≠ L + 1 + 1 + 1 + 1 + 1 + 1 + 1 + 1) (hh : @Ne Nat (L + 1 + 1 + 1 + 1 + 1 + 1 + 1) (hl) ∧ @Ne Nat (L + 1 + 1 + 1 + 1 + 1 + 1 + 1 + 1) (hl) ∧ @Ne Nat (L + 1 + 1 + 1 + 1) (hl) ∧ @Ne Nat (L + 1 + 1 + 1) (hl) ∧ @Ne Nat (L + 1) (hl))
    (hret : ∀ h' tk m' o7 o8 td, Fr g L h' m' → m' (Str.ofString "divisor") = some (.int (dvTo (tt.map prT) 16) td) → m' (Str.ofString "free") = some (.ref lf) → News g L h' ((L + 1 + 1 + 1 + 1 + 1 + 1 + 1, o7) :: (L + 1 + 1 + 1 + 1 + 1 + 1 + 1 + 1, o8) :: (L + 1 + 1 + 1, o3) :: (L + 1, o1) :: (L + 1 + 1 + 1 + 1, o4) :: (hl, W.listOf (List.toArray vst) nl) :: R) → wpAny (model PySem.Challenge.rw_re0161_02.row.prog w) (callerA.deeper (envOfC (Str.ofString "law") lawScope L fa cd)) (execs (lawBody.drop 10) (envOfC (Str.ofString "law") lawScope L fa cd)) Q E { s with heap := h', toks := tk }) :
    wpAny (model PySem.Challenge.rw_re0161_02.row.prog w) (callerA.deeper (envOfC (Str.ofString "law") lawScope L fa cd)) (execs (lawBody.drop 8) (envOfC (Str.ofString "law") lawScope L fa cd)) Q E s := by
  generalize hsc : lawScope = sc at *
  conv at hsc => lhs; whnf
  subst hsc
  refine cut1 (fun s' => ∃ h tk td, s' = { s with heap := h, toks := tk } ∧ Fr g L h (fun y => if y = Str.ofString "divisor" then some (.int (0 : Int) td) else m y) ∧ News g L h ((L + 1 + 1 + 1 + 1 + 1 + 1 + 1, o7) :: (L + 1 + 1 + 1 + 1 + 1 + 1 + 1 + 1, o8) :: (L + 1 + 1 + 1, o3) :: (L + 1, o1) :: (L + 1 + 1 + 1 + 1, o4) :: (hl, W.listOf (List.toArray vst) nl) :: R)) ?_ ?_
  · k_steps
    all_goals try trivial
    refine ⟨?_⟩
    exact ⟨_, _, _, rfl, by assumption, by assumption⟩
  rintro s' ⟨h, tk, td, rfl, F2, N2⟩
  refine cut1 (fun s' => ∃ h tk m' o7 o8 td, s' = { s with heap := h, toks := tk } ∧ Fr g L h m' ∧ m' (Str.ofString "divisor") = some (.int (dvTo (tt.map prT) 16) td) ∧ m' (Str.ofString "free") = some (.ref lf) ∧ News g L h ((L + 1 + 1 + 1 + 1 + 1 + 1 + 1, o7) :: (L + 1 + 1 + 1 + 1 + 1 + 1 + 1 + 1, o8) :: (L + 1 + 1 + 1, o3) :: (L + 1, o1) :: (L + 1 + 1 + 1 + 1, o4) :: (hl, W.listOf (List.toArray vst) nl) :: R)) ?_ ?_
  · k_steps
    refine ⟨?_⟩
    refine For_C (h₀ := g) (c := L + 1 + 1 + 1 + 1 + 1 + 1 + 1) (by rfl) (by rfl) (by rfl) ?_ (hE := hE)
    k_steps
    refine ForC.range (m := fun y => if y = Str.ofString "divisor" then some (.int (0 : Int) td) else m y) (n := 16) (news := (L + 1 + 1 + 1 + 1 + 1 + 1 + 1 + 1, o8) :: (L + 1 + 1 + 1, o3) :: (L + 1, o1) :: (L + 1 + 1 + 1 + 1, o4) :: (hl, W.listOf (List.toArray vst) nl) :: R) (fun i m₁ nx => ∃ o8 v8 td, m₁ (Str.ofString "divisor") = some (.int (dvTo (tt.map prT) i) td) ∧ m₁ (Str.ofString "free") = some (.ref lf) ∧ (L + 1 + 1 + 1 + 1 + 1 + 1 + 1 + 1, o8) :: (L + 1 + 1 + 1, o3) :: (L + 1, o1) :: (L + 1 + 1 + 1 + 1, o4) :: (hl, W.listOf (List.toArray vst) nl) :: R = nx ∧ o8.data = .cell v8) rfl (by assumption) (by decide) (by decide) (by assumption) (by assumption) d7 ?_ ⟨o8, v8, td, rfl, hmf, rfl, d8⟩ ?_ ?_
    · exact List.forall_mem_cons.mpr ⟨plus_ne 8 7 (by decide), List.forall_mem_cons.mpr ⟨plus_ne 3 7 (by decide), List.forall_mem_cons.mpr ⟨plus_ne 1 7 (by decide), List.forall_mem_cons.mpr ⟨plus_ne 4 7 (by decide), List.forall_mem_cons.mpr ⟨Ne.symm hh.1, fun p hp => (hoff p hp).2.1⟩⟩⟩⟩⟩
    · rintro i t m₁ nx h tk I it oc hi ⟨o8, v8, td, hmd, hmf, hnx, d8⟩ hI hIc hic dc F₁ N₁
      subst hnx
      rw [Int.zero_add] at dc
      have h8I : @Ne Nat I (L + 1 + 1 + 1 + 1 + 1 + 1 + 1 + 1) := Ne.symm (hI (L + 1 + 1 + 1 + 1 + 1 + 1 + 1 + 1, o8) (List.mem_cons_self ..)).1
      have hlI : @Ne Nat I hl := Ne.symm (hI (hl, W.listOf (List.toArray vst) nl) (by walk_at "mine mem")).1
      have N₂ := news_sub (news := (L + 1 + 1 + 1 + 1 + 1 + 1 + 1, oc) :: (L + 1 + 1 + 1 + 1 + 1 + 1 + 1 + 1, o8) :: (L + 1 + 1 + 1, o3) :: (L + 1, o1) :: ((I, it) :: (L + 1 + 1 + 1 + 1, o4) :: (hl, W.listOf (List.toArray vst) nl) :: R)) N₁ (by walk_at "mine sub")
      clear N₁
      refine law2_9a (c := i) X T XM B F₁ N₂ dc hi d8 d1 d3 (by walk_at "mine mem") hvw hsh ?_ ?_
      · exact List.forall_mem_cons.mpr ⟨h8I, List.forall_mem_cons.mpr ⟨plus_ne 4 8 (by decide), List.forall_mem_cons.mpr ⟨Ne.symm hh.2.1, fun p hp => (hoff p hp).2.2⟩⟩⟩
      intro h3 tk3 o83 ll vl tt3 F3 N3 d83 hvl hll
      have N3' := news_sub (news := (L + 1 + 1 + 1 + 1 + 1 + 1 + 1, oc) :: (L + 1 + 1 + 1 + 1 + 1 + 1 + 1 + 1, o83) :: (ll, W.listOf (List.toArray vl) vl.length) :: ((I, it) :: (L + 1 + 1 + 1, o3) :: (L + 1, o1) :: (L + 1 + 1 + 1 + 1, o4) :: (hl, W.listOf (List.toArray vst) nl) :: R)) N3 (by walk_at "mine sub")
      clear N3
      have hll8 : @Ne Nat (L + 1 + 1 + 1 + 1 + 1 + 1 + 1 + 1) ll := hll (L + 1 + 1 + 1 + 1 + 1 + 1 + 1 + 1, o83) (by walk_at "mine mem")
      refine law2_9b (c := i) X T XM B F3 N3' dc hi d83 hvl ?_ hsh ?_ (at_eq rfl) ?_
      · exact fun p hp => hll p ((show ∀ p ∈ (L + 1 + 1 + 1 + 1 + 1 + 1 + 1, oc) :: (L + 1 + 1 + 1 + 1 + 1 + 1 + 1 + 1, o83) :: ((I, it) :: (L + 1 + 1 + 1, o3) :: (L + 1, o1) :: (L + 1 + 1 + 1 + 1, o4) :: (hl, W.listOf (List.toArray vst) nl) :: R), p ∈ (L + 1 + 1 + 1 + 1 + 1 + 1 + 1, oc) :: (L + 1 + 1 + 1 + 1 + 1 + 1 + 1 + 1, o83) :: (L + 1 + 1 + 1, o3) :: (L + 1, o1) :: ((I, it) :: (L + 1 + 1 + 1 + 1, o4) :: (hl, W.listOf (List.toArray vst) nl) :: R) by walk_at "mine sub") p hp)
      · exact List.forall_mem_cons.mpr ⟨h8I, List.forall_mem_cons.mpr ⟨plus_ne 3 8 (by decide), List.forall_mem_cons.mpr ⟨plus_ne 1 8 (by decide), List.forall_mem_cons.mpr ⟨plus_ne 4 8 (by decide), List.forall_mem_cons.mpr ⟨Ne.symm hh.2.1, fun p hp => (hoff p hp).2.2⟩⟩⟩⟩⟩
      intro h4 tk4 o84 ll4 vl4 nl4 F4 N4 d84 hvl4 hll4
      have N4' := news_sub (news := (hl, W.listOf (List.toArray vst) nl) :: (L + 1 + 1 + 1 + 1 + 1 + 1 + 1 + 1, o84) :: (L + 1 + 1 + 1 + 1, o4) :: (ll4, W.listOf (List.toArray vl4) nl4) :: ((I, it) :: (L + 1 + 1 + 1 + 1 + 1 + 1 + 1, oc) :: (L + 1 + 1 + 1, o3) :: (L + 1, o1) :: R)) N4 (by walk_at "mine sub")
      clear N4
      refine law2_9c (c := i) (tt := tt) X T XM B F4 N4' hi d84 hvl4 (hll4 (hl, W.listOf (List.toArray vst) nl) (by walk_at "mine mem")) d4 (by walk_at "mine mem") (by walk_at "mine mem") (hr.mono (by walk_at "mine sub")) hT hlen hsh ?_ hh.2.1 hh.2.2.1 (at_if (by decide) hmd) (dv_small _ hi) ?_
      · exact List.forall_mem_cons.mpr ⟨hlI, List.forall_mem_cons.mpr ⟨hh.1, List.forall_mem_cons.mpr ⟨hh.2.2.2.1, List.forall_mem_cons.mpr ⟨hh.2.2.2.2, fun p hp => (hoff p hp).1⟩⟩⟩⟩
      intro h5 tk5 m5 t5 F5 hm5 hd5 N5
      refine wpAny_execs_nil ?_
      have hmf5 : m5 (Str.ofString "free") = some (.ref lf) := (hm5 _ (by decide)).trans (at_if (by decide) hmf)
      refine ⟨_, _, m5, oc, _, (L + 1 + 1 + 1 + 1 + 1 + 1 + 1 + 1, o84) :: (L + 1 + 1 + 1, o3) :: (L + 1, o1) :: (L + 1 + 1 + 1 + 1, o4) :: (hl, W.listOf (List.toArray vst) nl) :: R, rfl, F5, news_sub N5 (by walk_at "mine sub"), ?_, dc, o84, _, t5, hd5, hmf5, rfl, d84⟩
      refine List.forall_mem_cons.mpr ⟨hI (L + 1 + 1 + 1 + 1 + 1 + 1 + 1 + 1, o8) (by walk_at "mine mem"), fun p hp => hI p (by walk_at "mine mem")⟩
    · rintro m₁ nx h tk oc v ⟨o8, v8, td, hmd, hmf, hnx, d8⟩ hoc dc F₁ N₁
      subst hnx
      k_steps
      all_goals try trivial
      refine ⟨?_⟩
      exact ⟨_, _, m₁, oc, o8, td, rfl, F₁, hmd, hmf, N₁⟩
  · rintro s' ⟨h, tk, m', o7, o8, td, rfl, F3, h1, h2, N3⟩
    exact hret _ _ _ _ _ _ F3 h1 h2 N3
end
section
local macro_rules | `(tactic| walk_at "binaryOp Mult int int") => `(tactic| (refine Hold.out ?_))
theorem pow_div {D q r : Nat} (h : 2 ^ 70 = q * D + r) (hr : r < D) : ((1024 : Int) ^ 7).fdiv (D : Int) = (q : Int) ∧ ((1024 : Int) ^ 7).fmod (D : Int) = (r : Int) := by
  have hD : 0 < D := Nat.lt_of_le_of_lt (Nat.zero_le _) hr
  have e : ((1024 : Int) ^ 7) = ((2 ^ 70 : Nat) : Int) := by decide
  rw [e, Int.fdiv_eq_ediv_of_nonneg _ (Int.natCast_nonneg _), Int.fmod_eq_emod_of_nonneg _ (Int.natCast_nonneg _), h]
  refine ⟨?_, ?_⟩
  · rw [← Int.natCast_ediv, Nat.mul_comm, Nat.mul_add_div hD, Nat.div_eq_of_lt hr, Nat.add_zero]
  · rw [← Int.natCast_emod, Nat.mul_comm, Nat.mul_add_mod, Nat.mod_eq_of_lt hr]
theorem pow_ndiv {D q r : Nat} (h : 2 ^ 70 = q * D + r) (h0 : 0 < r) (hr : r < D) : (-((1024 : Int) ^ 7)).fdiv (D : Int) = -1 - (q : Int) ∧ (-((1024 : Int) ^ 7)).fmod (D : Int) = (D : Int) - (r : Int) := by
  have hD : 0 < D := Nat.lt_of_le_of_lt (Nat.zero_le _) hr
  have e : -((1024 : Int) ^ 7) = -((q * D + (r - 1) : Nat) : Int) - 1 := by
    have e1 : ((1024 : Int) ^ 7) = ((2 ^ 70 : Nat) : Int) := by decide
    rw [e1, h]
    omega
  obtain ⟨h1, h2⟩ := fdiv_neg_of (q * D + (r - 1)) D hD
  have hr1 : r - 1 < D := by omega
  have e3 : (q * D + (r - 1)) / D = q := by rw [Nat.mul_comm, Nat.mul_add_div hD, Nat.div_eq_of_lt hr1, Nat.add_zero]
  have e4 : (q * D + (r - 1)) % D = r - 1 := by rw [Nat.mul_comm, Nat.mul_add_mod, Nat.mod_eq_of_lt hr1]
  rw [e, h1, h2, e3, e4]
  omega
set_option maxHeartbeats 4000000 in
theorem law2_10 {w : World} {loose : List PySem.Str} {mean : ExcName → Option Value} {mg mb m : PySem.Str → Option Value} {g : Heap} {L fa : Nat} {cd : Value} {s : Shared} {Q : Flow → Shared → Prop} {E : Value → Shared → Prop} {R : List (Addr × Obj)} {lf : Nat} {D q r : Nat} {td : Tok}
    (X : (Mine.pre.heap_1 w.params).In g) (T : Top topProg loose mean mg mb g) (XM : Flt.MathXP PySem.Challenge.rw_re0161_02.row.prog mg g) (B : Below callerA g [] g) (F : Fr g L s.heap m) (N : News g L s.heap ((202, tabObj #[]) :: (209, tabObj #[]) :: R)) (hR : ∀ p ∈ R, p.1 ≠ 202 ∧ p.1 ≠ 209)
    (hm1 : m (Str.ofString "divisor") = some (.int (D : Int) td)) (hm2 : m (Str.ofString "free") = some (.ref lf)) (hDq : 2 ^ 70 = q * D + r) (hr0 : 0 < r) (hr1 : r < D) (hD : D < 2 ^ 60) (hq : q < 2 ^ 60)
    (hret : ∀ h' tk m' ps qs add tq, Fr g L h' m' → m' (Str.ofString "free") = some (.ref lf) → m' (Str.ofString "quotient") = some (.int (q : Int) tq) → News g L h' ((202, tabObj ps) :: (209, tabObj qs) :: (add ++ R)) → TbOk 131 4 (Str.ofString "_int2digits.<locals>.inner") ps (add ++ R) → (∀ p ∈ add, p.1 ≠ 202 ∧ p.1 ≠ 209) → wpAny (model PySem.Challenge.rw_re0161_02.row.prog w) (callerA.deeper (envOfC (Str.ofString "law") lawScope L fa cd)) (execs (lawBody.drop 13) (envOfC (Str.ofString "law") lawScope L fa cd)) Q E { s with heap := h', toks := tk }) :
    wpAny (model PySem.Challenge.rw_re0161_02.row.prog w) (callerA.deeper (envOfC (Str.ofString "law") lawScope L fa cd)) (execs (lawBody.drop 10) (envOfC (Str.ofString "law") lawScope L fa cd)) Q E s := by
  generalize hsc : lawScope = sc at *
  conv at hsc => lhs; whnf
  subst hsc
  obtain ⟨P, hP⟩ : ∃ P : Int, P = 1024 ^ 7 := ⟨_, rfl⟩
  obtain ⟨e1, e2⟩ := pow_div hDq hr1
  obtain ⟨e3, e4⟩ := pow_ndiv hDq hr0 hr1
  have eP : P = (q : Int) * (D : Int) + (r : Int) := by
    rw [hP, show ((1024 : Int) ^ 7) = ((2 ^ 70 : Nat) : Int) from by decide, hDq, Int.natCast_add, Int.natCast_mul]
  rw [← hP] at e1 e2 e3 e4
  have bP : P.natAbs < 2 ^ 80 := by rw [hP]; decide
  have bP2 : (-P).natAbs < 2 ^ 80 := by rw [Int.natAbs_neg]; exact bP
  have hch := Hold.mk (chain2 hm1 hm2)
  refine cut1 (fun s' => ∃ h tk tp, s' = { s with heap := h, toks := tk } ∧ Fr g L h (fun y => if y = Str.ofString "power" then some (.int P tp) else m y) ∧ News g L h ((202, tabObj #[]) :: (209, tabObj #[]) :: R)) ?_ ?_
  · clear e1 e2 e3 e4 eP bP bP2
    k_steps
    all_goals try trivial
    refine ⟨?_⟩
    rename Fr _ _ _ _ => F9
    exact ⟨_, _, _, rfl, fr_int (show _ = P from hP.symm) F9, by assumption⟩
  rintro s' ⟨h, tk, tp, rfl, F2, N2⟩
  clear hP
  refine cut1 (fun s' => ∃ h tk ps qs add tq tr, s' = { s with heap := h, toks := tk } ∧ Fr g L h (fun y => if y = Str.ofString "rest" then some (.int (r : Int) tr) else if y = Str.ofString "quotient" then some (.int (q : Int) tq) else if y = Str.ofString "power" then some (.int P tp) else m y) ∧ News g L h ((202, tabObj ps) :: (209, tabObj qs) :: (add ++ R)) ∧
      TbOk 131 4 (Str.ofString "_int2digits.<locals>.inner") ps (add ++ R) ∧ TbOk 146 4 (Str.ofString "_digits2int.<locals>.inner") qs (add ++ R) ∧ (∀ p ∈ add, p.1 ≠ 202 ∧ p.1 ≠ 209)) ?_ ?_
  · rw [hch.out] at F2
    k_steps
    refine ⟨?_⟩
    refine idv_con (ps := #[]) (qs := #[]) (rest := R) (by k_asm) (by k_asm) (by k_asm) N2 (by k_asm) (by k_asm) rfl ⟨⟨hR, .inl rfl, .inl rfl⟩, bP, by omega, by omega⟩ (by ktr_room) (by ktr_units) ?_
    intro r1 nw1 h1 tk1 F3 N3 ⟨ps', qs', add, d9, t1, t2, e5, e6, hT3, hT4, hd9, hadd⟩
    subst e5 e6
    rw [e1, e2] at N3
    k_steps
    all_goals try trivial
    refine ⟨?_⟩
    rename Fr _ _ _ _ => F9
    rename News _ _ _ _ => N9
    exact ⟨_, _, ps', qs', add, _, _, rfl, fr_if3 hch.out F9, news_sub N9 (by walk_at "mine sub"), hT3, hT4, fun p hp => ⟨Nat.ne_of_gt (hadd p hp).1, Nat.ne_of_gt (hadd p hp).2.1⟩⟩
  rintro s' ⟨h, tk, ps, qs, add, tq, tr, rfl, F3, N3, hT3, hT4, hadd⟩
  clear F F2 N2 N e1 e2
  have hoff2 : ∀ p ∈ add ++ R, p.1 ≠ 202 ∧ p.1 ≠ 209 := fun p hp => (List.mem_append.mp hp).elim (hadd p) (hR p)
  refine cut1 (fun s' => ∃ h tk m' ps qs add tq, s' = { s with heap := h, toks := tk } ∧ Fr g L h m' ∧ m' (Str.ofString "free") = some (.ref lf) ∧ m' (Str.ofString "quotient") = some (.int (q : Int) tq) ∧ News g L h ((202, tabObj ps) :: (209, tabObj qs) :: (add ++ R)) ∧ TbOk 131 4 (Str.ofString "_int2digits.<locals>.inner") ps (add ++ R) ∧ (∀ p ∈ add, p.1 ≠ 202 ∧ p.1 ≠ 209)) ?_ ?_
  · rw [hch.out] at F3
    k_steps
    refine ⟨?_⟩
    refine mul_I (nat_ok hq _) ?_
    intro z1 tz1 kz1 hz1
    dsimp only
    have hz := hz1.e
    k_steps
    all_goals try (rename _ ≠ P => hx; exact absurd (by rw [← hz, eP]) hx)
    · refine ⟨?_⟩
      refine idv_con (ps := ps) (qs := qs) (rest := add ++ R) (by k_asm) (by k_asm) (by k_asm) N3 (by k_asm) (by k_asm) rfl ⟨⟨hoff2, hT3, hT4⟩, bP2, by omega, by omega⟩ (by ktr_room) (by ktr_units) ?_
      intro r1 nw1 h1 tk1 F4 N4 ⟨ps', qs', add2, d9, t1, t2, e5, e6, hT5, hT6, hd9, hadd2⟩
      subst e5 e6
      rw [e3, e4] at N4
      k_steps
      all_goals try trivial
      refine ⟨?_⟩
      rename Fr _ _ _ _ => F9
      rename News _ _ _ _ => N9
      refine ⟨_, _, _, ps', qs', add2 ++ add, tq, rfl, F9, rfl, rfl, news_sub N9 (by walk_at "mine sub"), ?_, fun p hp => ?_⟩
      · rw [List.append_assoc]; exact hT5
      · rcases List.mem_append.mp hp with hp | hp
        · exact ⟨Nat.ne_of_gt (hadd2 p hp).1, Nat.ne_of_gt (hadd2 p hp).2.1⟩
        · exact hadd p hp
  · rintro s' ⟨h, tk, m', ps, qs, add, tq, rfl, F4, h1, h2, N4, hT, hadd⟩
    exact hret _ _ _ _ _ _ _ F4 h1 h2 N4 hT hadd
end
section
local macro_rules | `(tactic| walk_at "mine 0") => Lean.Macro.throwUnsupported
local macro_rules | `(tactic| walk_at "compareOp Eq ref ref") => `(tactic| (refine Hold.out ?_))
set_option maxHeartbeats 4000000 in
theorem law2_13 {w : World} {loose : List PySem.Str} {mean : ExcName → Option Value} {mg mb m : PySem.Str → Option Value} {g : Heap} {L fa : Nat} {cd : Value} {s : Shared} {Q : Flow → Shared → Prop} {E : Value → Shared → Prop} {R : List (Addr × Obj)} {lf cf q : Nat} {vf : List Value} {F0 : List (Nat × Nat)} {tq : Tok} {ps qs : Array Value}
    (X : (Mine.pre.heap_1 w.params).In g) (T : Top topProg loose mean mg mb g) (XM : Flt.MathXP PySem.Challenge.rw_re0161_02.row.prog mg g) (B : Below callerA g [] g) (F : Fr g L s.heap m) (N : News g L s.heap ((202, tabObj ps) :: (209, tabObj qs) :: R)) (hR : ∀ p ∈ R, p.1 ≠ 202 ∧ p.1 ≠ 209) (hT : TbOk 131 4 (Str.ofString "_int2digits.<locals>.inner") ps R)
    (hm1 : m (Str.ofString "free") = some (.ref lf)) (hm2 : m (Str.ofString "quotient") = some (.int (q : Int) tq)) (hlf : (lf, W.listOf (List.toArray vf) cf) ∈ R) (hdat : DatAll R vf (F0.map tupD)) (hF : F0.length ≤ 100) (hq : q < 2 ^ 60)
    (hd9 : digs 10 q (ndig q 10) = [((classesC (frOf F0) 3 : Nat) : Int), ((classesC (frOf F0) 2 : Nat) : Int), 4, 1]) (ok3 : okC (frOf F0) 3 = true) (ok2 : okC (frOf F0) 2 = true)
    (hret : ∀ h' tk m' ps qs nw, Fr g L h' m' → News g L h' ((202, tabObj ps) :: (209, tabObj qs) :: nw) → Q (.ret (.bool true)) { s with heap := h', toks := tk }) :
    wpAny (model PySem.Challenge.rw_re0161_02.row.prog w) (callerA.deeper (envOfC (Str.ofString "law") lawScope L fa cd)) (execs (lawBody.drop 13) (envOfC (Str.ofString "law") lawScope L fa cd)) Q E s := by
  generalize hsc : lawScope = sc at *
  conv at hsc => lhs; whnf
  subst hsc
  have hch := Hold.mk (chain2 hm1 hm2)
  rw [hch.out] at F
  k_steps
  refine ⟨?_⟩
  refine i2d_con (ps := ps) (n := 10) (x := q) (rest := (209, tabObj qs) :: R) (by k_asm) (by k_asm) (by k_asm) N (by k_asm) (by k_asm) rfl ⟨List.forall_mem_cons.mpr ⟨(by decide : @Ne Nat 209 202), fun p hp => (hR p hp).1⟩, ?_, by omega, by decide, by decide⟩ (by ktr_room) (by ktr_units) ?_
  · exact hT.mono fun p hp => List.mem_cons_of_mem _ hp
  intro r1 nw1 h1 tk1 F1 N1 ⟨ps', add, la, vs, e1, e2, hvs, hT2, hla, hadd⟩
  subst e1 e2
  rw [hd9] at hvs
  k_steps
  refine ⟨?_⟩
  have N1' := news_sub (news := (202, tabObj ps') :: (209, tabObj qs) :: (la, W.listOf (List.toArray vs) 0) :: (add ++ R)) N1 (by walk_at "mine sub")
  clear N1
  have dl : ∀ p ∈ R, p ∈ (202, tabObj ps') :: (209, tabObj qs) :: (la, W.listOf (List.toArray vs) 0) :: (add ++ R) := by walk_at "mine sub"
  refine classes_con (sz := 3) (fl := lf) (nf := cf) (vf := vf) (prs := F0) (by k_asm) (by k_asm) (by k_asm) N1' (by k_asm) (by k_asm) rfl ⟨dl _ hlf, hdat.mono dl, .inr rfl, hF, ok3⟩ (by ktr_room) (by ktr_units) ?_
  intro r2 nw2 h2 tk2 F2 N2 ⟨⟨t2, e1⟩, e2⟩
  subst e1 e2
  k_steps
  refine ⟨?_⟩
  refine classes_con (sz := 2) (fl := lf) (nf := cf) (vf := vf) (prs := F0) (by k_asm) (by k_asm) (by k_asm) N2 (by k_asm) (by k_asm) rfl ⟨dl _ hlf, hdat.mono dl, .inl rfl, hF, ok2⟩ (by ktr_room) (by ktr_units) ?_
  intro r3 nw3 h3 tk3 F3 N3 ⟨⟨t3, e1⟩, e2⟩
  subst e1 e2
  k_steps
  refine ⟨?_⟩
  rename News _ _ _ _ => N4
  refine ke_eq_ints (list_at N4 (by walk_at "mine mem")) (list_at (vs := [_, _, _, _]) N4 (List.mem_cons_self ..)) hvs (.cons _ _ (.cons _ _ (.cons _ _ (.cons _ _ .nil)))) (by ktr_units) ?_
  rw [decide_eq_true rfl]
  k_steps
  exact hret _ _ _ ps' qs _ (by assumption) (news_sub N4 fun p hp => List.mem_cons_of_mem _ hp)
end
section
set_option maxHeartbeats 4000000 in
theorem law2_all {w : World} {loose : List PySem.Str} {mean : ExcName → Option Value} {mg mb m : PySem.Str → Option Value} {g : Heap} {L fa : Nat} {cd : Value} {s : Shared} {Q : Flow → Shared → Prop} {E : Value → Shared → Prop} {oc1 oc2 oc3 oc4 oc5 oc6 oc7 oc8 : Obj} {ls : Nat} {vs : List Value} {ns : List Int}
    (X : (Mine.pre.heap_1 w.params).In g) (T : Top topProg loose mean mg mb g) (XM : Flt.MathXP PySem.Challenge.rw_re0161_02.row.prog mg g) (B : Below callerA g [] g) (F : Fr g L s.heap (fun y => if y = Str.ofString "script" then some (.ref ls) else m y))
    (N : News g L s.heap ((L + 1 + 1 + 1 + 1 + 1 + 1 + 1 + 1, oc8) :: (L + 1 + 1 + 1 + 1 + 1 + 1 + 1, oc7) :: (L + 1 + 1 + 1 + 1 + 1 + 1, oc6) :: (L + 1 + 1 + 1 + 1 + 1, oc5) :: (L + 1 + 1 + 1 + 1, oc4) :: (L + 1 + 1 + 1, oc3) :: (L + 1 + 1, oc2) :: (L + 1, oc1) :: [(209, tabObj #[]), (202, tabObj #[])])) (hls : g.IsList ls vs.toArray) (hi : IntsAre vs ns) (hlen : ns.length ≤ 63) (l0 : 209 < L ∧ 202 < L)
    (dc1 : oc1.data = .cell none) (dc2 : oc2.data = .cell none) (dc3 : oc3.data = .cell none) (dc4 : oc4.data = .cell none) (dc5 : oc5.data = .cell none) (dc6 : oc6.data = .cell none) (dc7 : oc7.data = .cell none) (dc8 : oc8.data = .cell none)
    (hE : PassesOwn (model PySem.Challenge.rw_re0161_02.row.prog w) (callerA.deeper (envOfC (Str.ofString "law") lawScope L fa cd)) (envOfC (Str.ofString "law") lawScope L fa cd) E)
    (hret : ∀ h tk m' ps qs nw, Fr g L h m' → News g L h ((202, tabObj ps) :: (209, tabObj qs) :: nw) → Q (.ret (.bool true)) { s with heap := h, toks := tk }) :
    wpAny (model PySem.Challenge.rw_re0161_02.row.prog w) (callerA.deeper (envOfC (Str.ofString "law") lawScope L fa cd)) (execs (lawBody.drop 0) (envOfC (Str.ofString "law") lawScope L fa cd)) Q E s := by
  refine law2_0 X T B F N hls hi hlen ?_
  intro h1 tk1 ln vn cap nums F1 N1 hin hn5 lln
  have lnlt := ktn_ltOf lln
  have lnL : @LT.lt Nat instLTNat L ln := Nat.lt_of_le_of_lt (Nat.le_add_right L 8) lln.1
  have N1' := news_sub (news := (L + 1, oc1) :: (ln, W.listOf (List.toArray vn) cap) :: (L + 1 + 1 + 1 + 1 + 1 + 1 + 1 + 1, oc8) :: (L + 1 + 1 + 1 + 1 + 1 + 1 + 1, oc7) :: (L + 1 + 1 + 1 + 1 + 1 + 1, oc6) :: (L + 1 + 1 + 1 + 1 + 1, oc5) :: (L + 1 + 1 + 1 + 1, oc4) :: (L + 1 + 1 + 1, oc3) :: (L + 1 + 1, oc2) :: [(209, tabObj #[]), (202, tabObj #[])]) N1 (by walk_at "mine sub")
  clear N1 N F lln
  refine law2_1 X T B F1 rfl N1' hls hi hlen (List.forall_mem_cons.mpr ⟨Nat.ne_of_gt (lnlt (L + 1, oc1) (by walk_at "mine mem")), List.forall_mem_cons.mpr ⟨plus_ne 8 1 (by decide), List.forall_mem_cons.mpr ⟨plus_ne 7 1 (by decide), List.forall_mem_cons.mpr ⟨plus_ne 6 1 (by decide), List.forall_mem_cons.mpr ⟨plus_ne 5 1 (by decide), List.forall_mem_cons.mpr ⟨plus_ne 4 1 (by decide), List.forall_mem_cons.mpr ⟨plus_ne 3 1 (by decide), List.forall_mem_cons.mpr ⟨plus_ne 2 1 (by decide), List.forall_mem_cons.mpr ⟨tab_ne l0.1 1, List.forall_mem_cons.mpr ⟨tab_ne l0.2 1, List.forall_mem_nil _⟩⟩⟩⟩⟩⟩⟩⟩⟩⟩) dc1 ?_
  clear N1' F1
  intro h2 tk2 o1 sh tsh F2 N2 d1 hsh
  have N2' := news_sub (news := (L + 1 + 1 + 1, oc3) :: (L + 1, o1) :: (ln, W.listOf (List.toArray vn) cap) :: (L + 1 + 1 + 1 + 1 + 1 + 1 + 1 + 1, oc8) :: (L + 1 + 1 + 1 + 1 + 1 + 1 + 1, oc7) :: (L + 1 + 1 + 1 + 1 + 1 + 1, oc6) :: (L + 1 + 1 + 1 + 1 + 1, oc5) :: (L + 1 + 1 + 1 + 1, oc4) :: (L + 1 + 1, oc2) :: [(209, tabObj #[]), (202, tabObj #[])]) N2 (by walk_at "mine sub")
  clear N2
  refine law2_2 X T XM B F2 N2' (List.forall_mem_cons.mpr ⟨Nat.ne_of_gt (lnlt (L + 1 + 1 + 1, oc3) (by walk_at "mine mem")), List.forall_mem_cons.mpr ⟨plus_ne 8 3 (by decide), List.forall_mem_cons.mpr ⟨plus_ne 7 3 (by decide), List.forall_mem_cons.mpr ⟨plus_ne 6 3 (by decide), List.forall_mem_cons.mpr ⟨plus_ne 5 3 (by decide), List.forall_mem_cons.mpr ⟨plus_ne 4 3 (by decide), List.forall_mem_cons.mpr ⟨plus_ne 2 3 (by decide), List.forall_mem_cons.mpr ⟨tab_ne l0.1 3, List.forall_mem_cons.mpr ⟨tab_ne l0.2 3, List.forall_mem_nil _⟩⟩⟩⟩⟩⟩⟩⟩⟩) d1 hsh dc3 ?_
  clear N2' F2
  intro h3 tk3 o3 lw vw F3 N3 d3 hvw hlw
  have N3' := news_sub (news := (L + 1 + 1 + 1 + 1, oc4) :: (L + 1 + 1 + 1 + 1 + 1, oc5) :: (lw, W.listOf (List.toArray vw) vw.length) :: (ln, W.listOf (List.toArray vn) cap) :: (L + 1 + 1 + 1 + 1 + 1 + 1 + 1 + 1, oc8) :: (L + 1 + 1 + 1 + 1 + 1 + 1 + 1, oc7) :: (L + 1 + 1 + 1 + 1 + 1 + 1, oc6) :: (L + 1 + 1 + 1, o3) :: (L + 1 + 1, oc2) :: (L + 1, o1) :: [(209, tabObj #[]), (202, tabObj #[])]) N3 (by walk_at "mine sub")
  clear N3
  refine law2_3 X T XM B F3 N3' (List.forall_mem_cons.mpr ⟨Ne.symm (hlw (L + 1 + 1 + 1 + 1, oc4) (by walk_at "mine mem")), List.forall_mem_cons.mpr ⟨Nat.ne_of_gt (lnlt (L + 1 + 1 + 1 + 1, oc4) (by walk_at "mine mem")), List.forall_mem_cons.mpr ⟨plus_ne 8 4 (by decide), List.forall_mem_cons.mpr ⟨plus_ne 7 4 (by decide), List.forall_mem_cons.mpr ⟨plus_ne 6 4 (by decide), List.forall_mem_cons.mpr ⟨plus_ne 3 4 (by decide), List.forall_mem_cons.mpr ⟨plus_ne 2 4 (by decide), List.forall_mem_cons.mpr ⟨plus_ne 1 4 (by decide), List.forall_mem_cons.mpr ⟨tab_ne l0.1 4, List.forall_mem_cons.mpr ⟨tab_ne l0.2 4, List.forall_mem_nil _⟩⟩⟩⟩⟩⟩⟩⟩⟩⟩) (List.forall_mem_cons.mpr ⟨Ne.symm (hlw (L + 1 + 1 + 1 + 1 + 1, oc5) (by walk_at "mine mem")), List.forall_mem_cons.mpr ⟨Nat.ne_of_gt (lnlt (L + 1 + 1 + 1 + 1 + 1, oc5) (by walk_at "mine mem")), List.forall_mem_cons.mpr ⟨plus_ne 8 5 (by decide), List.forall_mem_cons.mpr ⟨plus_ne 7 5 (by decide), List.forall_mem_cons.mpr ⟨plus_ne 6 5 (by decide), List.forall_mem_cons.mpr ⟨plus_ne 3 5 (by decide), List.forall_mem_cons.mpr ⟨plus_ne 2 5 (by decide), List.forall_mem_cons.mpr ⟨plus_ne 1 5 (by decide), List.forall_mem_cons.mpr ⟨tab_ne l0.1 5, List.forall_mem_cons.mpr ⟨tab_ne l0.2 5, List.forall_mem_nil _⟩⟩⟩⟩⟩⟩⟩⟩⟩⟩) dc4 dc5 ?_
  clear N3' F3
  intro h4 tk4 x d tkk hl lp o4 o5 F4 N4 ⟨hb, hb1, hb2⟩ hb4 d4 d5
  have hbm := ktn_ltOf hb
  have hdh := Nat.lt_trans hb1 hb2
  have N4' := news_sub (news := ((hl, W.listOf (List.toArray []) 0) :: (x, instObj 182 d) :: (d, hdrDict w.params tkk hl) :: (lw, W.listOf (List.toArray vw) vw.length) :: (L + 1 + 1 + 1 + 1 + 1 + 1, oc6) :: (L + 1 + 1 + 1 + 1 + 1, o5) :: (L + 1 + 1 + 1 + 1, o4) :: (L + 1 + 1 + 1, o3) :: ((lp, W.listOf #[] 0) :: (ln, W.listOf (List.toArray vn) cap) :: (L + 1 + 1 + 1 + 1 + 1 + 1 + 1 + 1, oc8) :: (L + 1 + 1 + 1 + 1 + 1 + 1 + 1, oc7) :: (L + 1 + 1, oc2) :: (L + 1, o1) :: [(209, tabObj #[]), (202, tabObj #[])]))) N4 (by walk_at "mine sub")
  clear N4
  refine law2_5 (ln := ln) (lp := lp) X T XM B F4 hE N4' (List.mem_cons_self ..) (List.forall_mem_cons.mpr ⟨⟨Nat.ne_of_lt (Nat.lt_trans (hbm (ln, W.listOf (List.toArray vn) cap) (by walk_at "mine mem")) hdh), Nat.ne_of_gt (lnlt (L + 1 + 1 + 1 + 1 + 1, oc5) (by walk_at "mine mem")), Nat.ne_of_gt (lnlt (L + 1 + 1 + 1 + 1 + 1 + 1, oc6) (by walk_at "mine mem"))⟩, List.forall_mem_cons.mpr ⟨⟨Nat.ne_of_lt (Nat.lt_trans (hbm (L + 1 + 1 + 1 + 1 + 1 + 1 + 1 + 1, oc8) (by walk_at "mine mem")) hdh), plus_ne 8 5 (by decide), plus_ne 8 6 (by decide)⟩, List.forall_mem_cons.mpr ⟨⟨Nat.ne_of_lt (Nat.lt_trans (hbm (L + 1 + 1 + 1 + 1 + 1 + 1 + 1, oc7) (by walk_at "mine mem")) hdh), plus_ne 7 5 (by decide), plus_ne 7 6 (by decide)⟩, List.forall_mem_cons.mpr ⟨⟨Nat.ne_of_lt (Nat.lt_trans (hbm (L + 1 + 1, oc2) (by walk_at "mine mem")) hdh), plus_ne 2 5 (by decide), plus_ne 2 6 (by decide)⟩, List.forall_mem_cons.mpr ⟨⟨Nat.ne_of_lt (Nat.lt_trans (hbm (L + 1, o1) (by walk_at "mine mem")) hdh), plus_ne 1 5 (by decide), plus_ne 1 6 (by decide)⟩, List.forall_mem_cons.mpr ⟨⟨Nat.ne_of_lt (Nat.lt_trans (hbm (209, tabObj #[]) (by walk_at "mine mem")) hdh), tab_ne l0.1 5, tab_ne l0.1 6⟩, List.forall_mem_cons.mpr ⟨⟨Nat.ne_of_lt (Nat.lt_trans (hbm (202, tabObj #[]) (by walk_at "mine mem")) hdh), tab_ne l0.2 5, tab_ne l0.2 6⟩, List.forall_mem_nil _⟩⟩⟩⟩⟩⟩⟩) (List.forall_mem_cons.mpr ⟨Nat.ne_of_lt (Nat.lt_trans (Nat.lt_trans (hbm (ln, W.listOf (List.toArray vn) cap) (by walk_at "mine mem")) hdh) hb4), List.forall_mem_cons.mpr ⟨Nat.ne_of_lt (Nat.lt_trans (Nat.lt_trans (hbm (L + 1 + 1 + 1 + 1 + 1 + 1 + 1 + 1, oc8) (by walk_at "mine mem")) hdh) hb4), List.forall_mem_cons.mpr ⟨Nat.ne_of_lt (Nat.lt_trans (Nat.lt_trans (hbm (L + 1 + 1 + 1 + 1 + 1 + 1 + 1, oc7) (by walk_at "mine mem")) hdh) hb4), List.forall_mem_cons.mpr ⟨Nat.ne_of_lt (Nat.lt_trans (Nat.lt_trans (hbm (L + 1 + 1, oc2) (by walk_at "mine mem")) hdh) hb4), List.forall_mem_cons.mpr ⟨Nat.ne_of_lt (Nat.lt_trans (Nat.lt_trans (hbm (L + 1, o1) (by walk_at "mine mem")) hdh) hb4), List.forall_mem_cons.mpr ⟨Nat.ne_of_lt (Nat.lt_trans (Nat.lt_trans (hbm (209, tabObj #[]) (by walk_at "mine mem")) hdh) hb4), List.forall_mem_cons.mpr ⟨Nat.ne_of_lt (Nat.lt_trans (Nat.lt_trans (hbm (202, tabObj #[]) (by walk_at "mine mem")) hdh) hb4), List.forall_mem_nil _⟩⟩⟩⟩⟩⟩⟩) (List.forall_mem_cons.mpr ⟨nt_cls rfl (by decide), List.forall_mem_cons.mpr ⟨nt_cell dc8, List.forall_mem_cons.mpr ⟨nt_cell dc7, List.forall_mem_cons.mpr ⟨nt_cell dc2, List.forall_mem_cons.mpr ⟨nt_cell d1, List.forall_mem_cons.mpr ⟨nt_tab, List.forall_mem_cons.mpr ⟨nt_tab, List.forall_mem_nil _⟩⟩⟩⟩⟩⟩⟩) rfl hin hn5 d3 d4 d5 dc6 hvw hsh ⟨Nat.ne_of_lt hb2, Nat.ne_of_lt hdh, Nat.ne_of_lt (Nat.lt_trans (hbm (lw, W.listOf (List.toArray vw) vw.length) (by walk_at "mine mem")) hdh), Nat.ne_of_lt (Nat.lt_trans (hbm (L + 1 + 1 + 1 + 1 + 1 + 1, oc6) (by walk_at "mine mem")) hdh), Nat.ne_of_lt (Nat.lt_trans (hbm (L + 1 + 1 + 1 + 1 + 1, oc5) (by walk_at "mine mem")) hdh), Nat.ne_of_lt (Nat.lt_trans (hbm (L + 1 + 1 + 1 + 1, oc4) (by walk_at "mine mem")) hdh), Nat.ne_of_lt (Nat.lt_trans (hbm (L + 1 + 1 + 1, o3) (by walk_at "mine mem")) hdh), Nat.ne_of_gt (Nat.lt_trans (hbm (L + 1 + 1 + 1 + 1 + 1, oc5) (by walk_at "mine mem")) hb1), Nat.ne_of_gt (hbm (L + 1 + 1 + 1 + 1 + 1, oc5) (by walk_at "mine mem")), Ne.symm (hlw (L + 1 + 1 + 1 + 1 + 1, oc5) (by walk_at "mine mem")), Nat.ne_of_gt (Nat.lt_trans (hbm (L + 1 + 1 + 1 + 1 + 1 + 1, oc6) (by walk_at "mine mem")) hb1), Nat.ne_of_gt (hbm (L + 1 + 1 + 1 + 1 + 1 + 1, oc6) (by walk_at "mine mem")), Ne.symm (hlw (L + 1 + 1 + 1 + 1 + 1 + 1, oc6) (by walk_at "mine mem"))⟩ ⟨Nat.ne_of_lt hb4, Nat.ne_of_lt (Nat.lt_trans (Nat.lt_trans (hbm (L + 1 + 1 + 1 + 1 + 1 + 1, oc6) (by walk_at "mine mem")) hdh) hb4), Nat.ne_of_lt (Nat.lt_trans (Nat.lt_trans (hbm (L + 1 + 1 + 1 + 1 + 1, oc5) (by walk_at "mine mem")) hdh) hb4)⟩ (Nat.ne_of_gt lnL) ?_
  clear F4 N4'
  intro h5 tk5 m5 vst nl o5 o6 v6 lp np vp tt add F5 N5 d5 d6 hlp hdat hr hT hlen5 hadd
  have N5' := news_sub (news := (L + 1 + 1, oc2) :: (hl, W.listOf (List.toArray vst) nl) :: (L + 1 + 1 + 1, o3) :: (L + 1 + 1 + 1 + 1, o4) :: (L + 1 + 1 + 1 + 1 + 1, o5) :: (x, instObj 182 d) :: (d, hdrDict w.params tkk hl) :: (lw, W.listOf (List.toArray vw) vw.length) :: (L + 1, o1) :: (L + 1 + 1 + 1 + 1 + 1 + 1, o6) :: (L + 1 + 1 + 1 + 1 + 1 + 1 + 1, oc7) :: (L + 1 + 1 + 1 + 1 + 1 + 1 + 1 + 1, oc8) :: (add ++ ((ln, W.listOf (List.toArray vn) cap) :: [(209, tabObj #[]), (202, tabObj #[])]))) N5 (by walk_at "mine sub")
  clear N5
  have s6 : ∀ p ∈ add, p ∈ (x, instObj 182 d) :: (d, hdrDict w.params tkk hl) :: (lw, W.listOf (List.toArray vw) vw.length) :: (L + 1, o1) :: (L + 1 + 1 + 1 + 1 + 1 + 1, o6) :: (L + 1 + 1 + 1 + 1 + 1 + 1 + 1, oc7) :: (L + 1 + 1 + 1 + 1 + 1 + 1 + 1 + 1, oc8) :: (add ++ ((ln, W.listOf (List.toArray vn) cap) :: [(209, tabObj #[]), (202, tabObj #[])])) := fun p hp => by walk_at "mine mem"
  refine law2_6 (lp := lp) (np := np) (vp := vp) (tt := tt) (d := d) X T XM B F5 hE N5' dc2 d3 d4 d5 (by walk_at "mine mem") (by walk_at "mine mem") (by walk_at "mine mem") (s6 _ hlp) (hdat.mono s6) (hr.mono s6) hT hlen5 hvw hsh (List.forall_mem_cons.mpr ⟨⟨Nat.ne_of_lt hb2, Nat.ne_of_gt (Nat.lt_trans (hbm (L + 1 + 1, oc2) (by walk_at "mine mem")) hb1)⟩, List.forall_mem_cons.mpr ⟨⟨Nat.ne_of_lt hdh, Nat.ne_of_gt (hbm (L + 1 + 1, oc2) (by walk_at "mine mem"))⟩, List.forall_mem_cons.mpr ⟨⟨Nat.ne_of_lt (Nat.lt_trans (hbm (lw, W.listOf (List.toArray vw) vw.length) (by walk_at "mine mem")) hdh), Ne.symm (hlw (L + 1 + 1, oc2) (by walk_at "mine mem"))⟩, List.forall_mem_cons.mpr ⟨⟨Nat.ne_of_lt (Nat.lt_trans (hbm (L + 1, o1) (by walk_at "mine mem")) hdh), plus_ne 1 2 (by decide)⟩, List.forall_mem_cons.mpr ⟨⟨Nat.ne_of_lt (Nat.lt_trans (hbm (L + 1 + 1 + 1 + 1 + 1 + 1, oc6) (by walk_at "mine mem")) hdh), plus_ne 6 2 (by decide)⟩, List.forall_mem_cons.mpr ⟨⟨Nat.ne_of_lt (Nat.lt_trans (hbm (L + 1 + 1 + 1 + 1 + 1 + 1 + 1, oc7) (by walk_at "mine mem")) hdh), plus_ne 7 2 (by decide)⟩, List.forall_mem_cons.mpr ⟨⟨Nat.ne_of_lt (Nat.lt_trans (hbm (L + 1 + 1 + 1 + 1 + 1 + 1 + 1 + 1, oc8) (by walk_at "mine mem")) hdh), plus_ne 8 2 (by decide)⟩, List.forall_mem_append.mpr ⟨fun p hp => ⟨(hadd p hp).1, (hadd p hp).2.2.2 (L + 1 + 1, oc2) (by walk_at "mine mem")⟩, List.forall_mem_cons.mpr ⟨⟨Nat.ne_of_lt (Nat.lt_trans (hbm (ln, W.listOf (List.toArray vn) cap) (by walk_at "mine mem")) hdh), Nat.ne_of_gt (lnlt (L + 1 + 1, oc2) (by walk_at "mine mem"))⟩, List.forall_mem_cons.mpr ⟨⟨Nat.ne_of_lt (Nat.lt_trans (hbm (209, tabObj #[]) (by walk_at "mine mem")) hdh), tab_ne l0.1 2⟩, List.forall_mem_cons.mpr ⟨⟨Nat.ne_of_lt (Nat.lt_trans (hbm (202, tabObj #[]) (by walk_at "mine mem")) hdh), tab_ne l0.2 2⟩, List.forall_mem_nil _⟩⟩⟩⟩⟩⟩⟩⟩⟩⟩⟩) ⟨Nat.ne_of_lt (Nat.lt_trans (hbm (L + 1 + 1, oc2) (by walk_at "mine mem")) hdh), Nat.ne_of_lt (Nat.lt_trans (hbm (L + 1 + 1 + 1, o3) (by walk_at "mine mem")) hdh), Nat.ne_of_lt (Nat.lt_trans (hbm (L + 1 + 1 + 1 + 1, oc4) (by walk_at "mine mem")) hdh), Nat.ne_of_lt (Nat.lt_trans (hbm (L + 1 + 1 + 1 + 1 + 1, oc5) (by walk_at "mine mem")) hdh)⟩ ?_
  clear F5 N5'
  intro h6 tk6 m6 o2 v2 F6 N6 d2
  have N6' := news_sub (news := (L + 1 + 1 + 1 + 1 + 1, o5) :: (L + 1 + 1, o2) :: (hl, W.listOf (List.toArray vst) nl) :: (L + 1 + 1 + 1, o3) :: (L + 1 + 1 + 1 + 1, o4) :: (x, instObj 182 d) :: (d, hdrDict w.params tkk hl) :: (lw, W.listOf (List.toArray vw) vw.length) :: (L + 1, o1) :: (L + 1 + 1 + 1 + 1 + 1 + 1, o6) :: (L + 1 + 1 + 1 + 1 + 1 + 1 + 1, oc7) :: (L + 1 + 1 + 1 + 1 + 1 + 1 + 1 + 1, oc8) :: (add ++ ((ln, W.listOf (List.toArray vn) cap) :: [(209, tabObj #[]), (202, tabObj #[])]))) N6 (by walk_at "mine sub")
  clear N6
  have s7 : ∀ p ∈ add, p ∈ (L + 1 + 1, o2) :: (hl, W.listOf (List.toArray vst) nl) :: (L + 1 + 1 + 1, o3) :: (L + 1 + 1 + 1 + 1, o4) :: (x, instObj 182 d) :: (d, hdrDict w.params tkk hl) :: (lw, W.listOf (List.toArray vw) vw.length) :: (L + 1, o1) :: (L + 1 + 1 + 1 + 1 + 1 + 1, o6) :: (L + 1 + 1 + 1 + 1 + 1 + 1 + 1, oc7) :: (L + 1 + 1 + 1 + 1 + 1 + 1 + 1 + 1, oc8) :: (add ++ ((ln, W.listOf (List.toArray vn) cap) :: [(209, tabObj #[]), (202, tabObj #[])])) := fun p hp => by walk_at "mine mem"
  refine law2_7 (lp := lp) (np := np) (vp := vp) (tt := tt) X T XM B F6 N6' d5 (s7 _ hlp) (hdat.mono s7) ?_
  clear F6 N6'
  intro h7 tk7 lf vf add7 F7 N7 hdat7 hlf hadd7
  have N7' := news_sub (news := (L + 1 + 1 + 1 + 1 + 1 + 1 + 1, oc7) :: (L + 1 + 1 + 1 + 1 + 1 + 1 + 1 + 1, oc8) :: (L + 1 + 1 + 1, o3) :: (L + 1, o1) :: (L + 1 + 1 + 1 + 1, o4) :: (hl, W.listOf (List.toArray vst) nl) :: (L + 1 + 1, o2) :: (x, instObj 182 d) :: (d, hdrDict w.params tkk hl) :: (lw, W.listOf (List.toArray vw) vw.length) :: (L + 1 + 1 + 1 + 1 + 1, o5) :: (L + 1 + 1 + 1 + 1 + 1 + 1, o6) :: (lf, W.listOf (List.toArray vf) vf.length) :: (add7 ++ (add ++ ((ln, W.listOf (List.toArray vn) cap) :: [(209, tabObj #[]), (202, tabObj #[])])))) N7 (by walk_at "mine sub")
  clear N7
  have s9 : ∀ p ∈ add, p ∈ (L + 1 + 1, o2) :: (x, instObj 182 d) :: (d, hdrDict w.params tkk hl) :: (lw, W.listOf (List.toArray vw) vw.length) :: (L + 1 + 1 + 1 + 1 + 1, o5) :: (L + 1 + 1 + 1 + 1 + 1 + 1, o6) :: (lf, W.listOf (List.toArray vf) vf.length) :: (add7 ++ (add ++ ((ln, W.listOf (List.toArray vn) cap) :: [(209, tabObj #[]), (202, tabObj #[])]))) := fun p hp => by walk_at "mine mem"
  refine law2_9 (tt := tt) (lf := lf) (d := d) X T XM B F7 hE N7' dc7 dc8 rfl d1 d3 d4 (by walk_at "mine mem") (by walk_at "mine mem") (by walk_at "mine mem") (hr.mono s9) hT hlen5 hvw hsh (List.forall_mem_cons.mpr ⟨⟨Nat.ne_of_lt (Nat.lt_trans (hbm (L + 1 + 1, oc2) (by walk_at "mine mem")) hdh), plus_ne 2 7 (by decide), plus_ne 2 8 (by decide)⟩, List.forall_mem_cons.mpr ⟨⟨Nat.ne_of_lt hb2, Nat.ne_of_gt (Nat.lt_trans (hbm (L + 1 + 1 + 1 + 1 + 1 + 1 + 1, oc7) (by walk_at "mine mem")) hb1), Nat.ne_of_gt (Nat.lt_trans (hbm (L + 1 + 1 + 1 + 1 + 1 + 1 + 1 + 1, oc8) (by walk_at "mine mem")) hb1)⟩, List.forall_mem_cons.mpr ⟨⟨Nat.ne_of_lt hdh, Nat.ne_of_gt (hbm (L + 1 + 1 + 1 + 1 + 1 + 1 + 1, oc7) (by walk_at "mine mem")), Nat.ne_of_gt (hbm (L + 1 + 1 + 1 + 1 + 1 + 1 + 1 + 1, oc8) (by walk_at "mine mem"))⟩, List.forall_mem_cons.mpr ⟨⟨Nat.ne_of_lt (Nat.lt_trans (hbm (lw, W.listOf (List.toArray vw) vw.length) (by walk_at "mine mem")) hdh), Ne.symm (hlw (L + 1 + 1 + 1 + 1 + 1 + 1 + 1, oc7) (by walk_at "mine mem")), Ne.symm (hlw (L + 1 + 1 + 1 + 1 + 1 + 1 + 1 + 1, oc8) (by walk_at "mine mem"))⟩, List.forall_mem_cons.mpr ⟨⟨Nat.ne_of_lt (Nat.lt_trans (hbm (L + 1 + 1 + 1 + 1 + 1, oc5) (by walk_at "mine mem")) hdh), plus_ne 5 7 (by decide), plus_ne 5 8 (by decide)⟩, List.forall_mem_cons.mpr ⟨⟨Nat.ne_of_lt (Nat.lt_trans (hbm (L + 1 + 1 + 1 + 1 + 1 + 1, oc6) (by walk_at "mine mem")) hdh), plus_ne 6 7 (by decide), plus_ne 6 8 (by decide)⟩, List.forall_mem_cons.mpr ⟨⟨Ne.symm (hlf (hl, W.listOf (List.toArray vst) nl) (by walk_at "mine mem")), Ne.symm (hlf (L + 1 + 1 + 1 + 1 + 1 + 1 + 1, oc7) (by walk_at "mine mem")), Ne.symm (hlf (L + 1 + 1 + 1 + 1 + 1 + 1 + 1 + 1, oc8) (by walk_at "mine mem"))⟩, List.forall_mem_append.mpr ⟨fun p hp => ⟨hadd7 p hp (hl, W.listOf (List.toArray vst) nl) (by walk_at "mine mem"), hadd7 p hp (L + 1 + 1 + 1 + 1 + 1 + 1 + 1, oc7) (by walk_at "mine mem"), hadd7 p hp (L + 1 + 1 + 1 + 1 + 1 + 1 + 1 + 1, oc8) (by walk_at "mine mem")⟩, List.forall_mem_append.mpr ⟨fun p hp => ⟨(hadd p hp).1, (hadd p hp).2.2.2 (L + 1 + 1 + 1 + 1 + 1 + 1 + 1, oc7) (by walk_at "mine mem"), (hadd p hp).2.2.2 (L + 1 + 1 + 1 + 1 + 1 + 1 + 1 + 1, oc8) (by walk_at "mine mem")⟩, List.forall_mem_cons.mpr ⟨⟨Nat.ne_of_lt (Nat.lt_trans (hbm (ln, W.listOf (List.toArray vn) cap) (by walk_at "mine mem")) hdh), Nat.ne_of_gt (lnlt (L + 1 + 1 + 1 + 1 + 1 + 1 + 1, oc7) (by walk_at "mine mem")), Nat.ne_of_gt (lnlt (L + 1 + 1 + 1 + 1 + 1 + 1 + 1 + 1, oc8) (by walk_at "mine mem"))⟩, List.forall_mem_cons.mpr ⟨⟨Nat.ne_of_lt (Nat.lt_trans (hbm (209, tabObj #[]) (by walk_at "mine mem")) hdh), tab_ne l0.1 7, tab_ne l0.1 8⟩, List.forall_mem_cons.mpr ⟨⟨Nat.ne_of_lt (Nat.lt_trans (hbm (202, tabObj #[]) (by walk_at "mine mem")) hdh), tab_ne l0.2 7, tab_ne l0.2 8⟩, List.forall_mem_nil _⟩⟩⟩⟩⟩⟩⟩⟩⟩⟩⟩⟩) ⟨Nat.ne_of_lt (Nat.lt_trans (hbm (L + 1 + 1 + 1 + 1 + 1 + 1 + 1, oc7) (by walk_at "mine mem")) hdh), Nat.ne_of_lt (Nat.lt_trans (hbm (L + 1 + 1 + 1 + 1 + 1 + 1 + 1 + 1, oc8) (by walk_at "mine mem")) hdh), Nat.ne_of_lt (Nat.lt_trans (hbm (L + 1 + 1 + 1 + 1, oc4) (by walk_at "mine mem")) hdh), Nat.ne_of_lt (Nat.lt_trans (hbm (L + 1 + 1 + 1, o3) (by walk_at "mine mem")) hdh), Nat.ne_of_lt (Nat.lt_trans (hbm (L + 1, o1) (by walk_at "mine mem")) hdh)⟩ ?_
  clear F7 N7'
  intro h9 tk9 m9 o7 o8 td F9 hmd hmf N9
  obtain ⟨D, q, r, hD, hDq, hr0, hr1, hD6, hq6, hdg, ok3, ok2⟩ := fin_facts (tt.map prT)
  rw [hD] at hmd
  have N9' := news_sub (news := (202, tabObj #[]) :: (209, tabObj #[]) :: ((L + 1 + 1 + 1 + 1 + 1 + 1 + 1, o7) :: (L + 1 + 1 + 1 + 1 + 1 + 1 + 1 + 1, o8) :: (L + 1 + 1 + 1, o3) :: (L + 1, o1) :: (L + 1 + 1 + 1 + 1, o4) :: (hl, W.listOf (List.toArray vst) nl) :: (L + 1 + 1, o2) :: (x, instObj 182 d) :: (d, hdrDict w.params tkk hl) :: (lw, W.listOf (List.toArray vw) vw.length) :: (L + 1 + 1 + 1 + 1 + 1, o5) :: (L + 1 + 1 + 1 + 1 + 1 + 1, o6) :: (lf, W.listOf (List.toArray vf) vf.length) :: (add7 ++ (add ++ [(ln, W.listOf (List.toArray vn) cap)])))) N9 (by walk_at "mine sub")
  clear N9
  have hoff10 : ∀ p ∈ ((L + 1 + 1 + 1 + 1 + 1 + 1 + 1, o7) :: (L + 1 + 1 + 1 + 1 + 1 + 1 + 1 + 1, o8) :: (L + 1 + 1 + 1, o3) :: (L + 1, o1) :: (L + 1 + 1 + 1 + 1, o4) :: (hl, W.listOf (List.toArray vst) nl) :: (L + 1 + 1, o2) :: (x, instObj 182 d) :: (d, hdrDict w.params tkk hl) :: (lw, W.listOf (List.toArray vw) vw.length) :: (L + 1 + 1 + 1 + 1 + 1, o5) :: (L + 1 + 1 + 1 + 1 + 1 + 1, o6) :: (lf, W.listOf (List.toArray vf) vf.length) :: (add7 ++ (add ++ [(ln, W.listOf (List.toArray vn) cap)]))), p.1 ≠ 202 ∧ p.1 ≠ 209 := List.forall_mem_cons.mpr ⟨⟨Ne.symm (tab_ne l0.2 7), Ne.symm (tab_ne l0.1 7)⟩, List.forall_mem_cons.mpr ⟨⟨Ne.symm (tab_ne l0.2 8), Ne.symm (tab_ne l0.1 8)⟩, List.forall_mem_cons.mpr ⟨⟨Ne.symm (tab_ne l0.2 3), Ne.symm (tab_ne l0.1 3)⟩, List.forall_mem_cons.mpr ⟨⟨Ne.symm (tab_ne l0.2 1), Ne.symm (tab_ne l0.1 1)⟩, List.forall_mem_cons.mpr ⟨⟨Ne.symm (tab_ne l0.2 4), Ne.symm (tab_ne l0.1 4)⟩, List.forall_mem_cons.mpr ⟨⟨Nat.ne_of_gt (Nat.lt_trans (hbm (202, tabObj #[]) (by walk_at "mine mem")) hdh), Nat.ne_of_gt (Nat.lt_trans (hbm (209, tabObj #[]) (by walk_at "mine mem")) hdh)⟩, List.forall_mem_cons.mpr ⟨⟨Ne.symm (tab_ne l0.2 2), Ne.symm (tab_ne l0.1 2)⟩, List.forall_mem_cons.mpr ⟨⟨Nat.ne_of_gt (Nat.lt_trans (hbm (202, tabObj #[]) (by walk_at "mine mem")) hb1), Nat.ne_of_gt (Nat.lt_trans (hbm (209, tabObj #[]) (by walk_at "mine mem")) hb1)⟩, List.forall_mem_cons.mpr ⟨⟨Nat.ne_of_gt (hbm (202, tabObj #[]) (by walk_at "mine mem")), Nat.ne_of_gt (hbm (209, tabObj #[]) (by walk_at "mine mem"))⟩, List.forall_mem_cons.mpr ⟨⟨Ne.symm (hlw (202, tabObj #[]) (by walk_at "mine mem")), Ne.symm (hlw (209, tabObj #[]) (by walk_at "mine mem"))⟩, List.forall_mem_cons.mpr ⟨⟨Ne.symm (tab_ne l0.2 5), Ne.symm (tab_ne l0.1 5)⟩, List.forall_mem_cons.mpr ⟨⟨Ne.symm (tab_ne l0.2 6), Ne.symm (tab_ne l0.1 6)⟩, List.forall_mem_cons.mpr ⟨⟨Ne.symm (hlf (202, tabObj #[]) (by walk_at "mine mem")), Ne.symm (hlf (209, tabObj #[]) (by walk_at "mine mem"))⟩, List.forall_mem_append.mpr ⟨fun p hp => ⟨hadd7 p hp (202, tabObj #[]) (by walk_at "mine mem"), hadd7 p hp (209, tabObj #[]) (by walk_at "mine mem")⟩, List.forall_mem_append.mpr ⟨fun p hp => ⟨(hadd p hp).2.2.2 (202, tabObj #[]) (by walk_at "mine mem"), (hadd p hp).2.2.2 (209, tabObj #[]) (by walk_at "mine mem")⟩, List.forall_mem_cons.mpr ⟨⟨Nat.ne_of_gt (lnlt (202, tabObj #[]) (by walk_at "mine mem")), Nat.ne_of_gt (lnlt (209, tabObj #[]) (by walk_at "mine mem"))⟩, List.forall_mem_nil _⟩⟩⟩⟩⟩⟩⟩⟩⟩⟩⟩⟩⟩⟩⟩⟩
  refine law2_10 (R := ((L + 1 + 1 + 1 + 1 + 1 + 1 + 1, o7) :: (L + 1 + 1 + 1 + 1 + 1 + 1 + 1 + 1, o8) :: (L + 1 + 1 + 1, o3) :: (L + 1, o1) :: (L + 1 + 1 + 1 + 1, o4) :: (hl, W.listOf (List.toArray vst) nl) :: (L + 1 + 1, o2) :: (x, instObj 182 d) :: (d, hdrDict w.params tkk hl) :: (lw, W.listOf (List.toArray vw) vw.length) :: (L + 1 + 1 + 1 + 1 + 1, o5) :: (L + 1 + 1 + 1 + 1 + 1 + 1, o6) :: (lf, W.listOf (List.toArray vf) vf.length) :: (add7 ++ (add ++ [(ln, W.listOf (List.toArray vn) cap)])))) (lf := lf) X T XM B F9 N9' hoff10 hmd hmf hDq hr0 hr1 hD6 hq6 ?_
  clear F9 N9'
  intro h10 tk10 m10 ps qs add10 tq F10 hf10 hq10 N10 hT10 hadd10
  have s10 : ∀ p ∈ add7, p ∈ add10 ++ ((L + 1 + 1 + 1 + 1 + 1 + 1 + 1, o7) :: (L + 1 + 1 + 1 + 1 + 1 + 1 + 1 + 1, o8) :: (L + 1 + 1 + 1, o3) :: (L + 1, o1) :: (L + 1 + 1 + 1 + 1, o4) :: (hl, W.listOf (List.toArray vst) nl) :: (L + 1 + 1, o2) :: (x, instObj 182 d) :: (d, hdrDict w.params tkk hl) :: (lw, W.listOf (List.toArray vw) vw.length) :: (L + 1 + 1 + 1 + 1 + 1, o5) :: (L + 1 + 1 + 1 + 1 + 1 + 1, o6) :: (lf, W.listOf (List.toArray vf) vf.length) :: (add7 ++ (add ++ [(ln, W.listOf (List.toArray vn) cap)]))) := fun p hp => by walk_at "mine mem"
  refine law2_13 (lf := lf) (cf := vf.length) (vf := vf) (F0 := frTo (tt.map prT) 4) X T XM B F10 N10 (List.forall_mem_append.mpr ⟨hadd10, hoff10⟩) hT10 hf10 hq10 (by walk_at "mine mem") (hdat7.mono s10) (Nat.le_trans (frTo_len _ 4) (by decide)) hq6 hdg ok3 ok2 hret
end
section
theorem know_list {g : Heap} {ls : Nat} {vs : Array Value} {mE : PySem.Str → Option Value} (_h : g.IsList ls vs) (e : mE (Str.ofString "script") = some (.ref ls)) : mE (Str.ofString "script") = some (.ref ls) := e
theorem math_eq {p q : Program} {mg : PySem.Str → Option Value} {h : Heap} (X : Flt.MathXP p mg h) (e1 : Flt.mathMods p = Flt.mathMods q) (e2 : Flt.mathDrawn p = Flt.mathDrawn q) (e3 : Flt.patsOf p = Flt.patsOf q) : Flt.MathXP q mg h :=
  ⟨e1 ▸ X.mods, e2 ▸ X.drawn, e3 ▸ X.pats⟩
theorem frag_eq {K1 K2 : Frag} {h : Heap} (X : K1.In h) (e : K1 = K2) : K2.In h := e ▸ X
def holds.tw10876536743886354276 : Nat := 0
def holds.tw15654153127513851752 : Nat := 0
def holds.tw8260078842695283502 : Nat := 0
def holds.tw10280545108713110612 : Nat := 0
def holds.tw18145382148040430673 : Nat := 0
def holds.tw14012497318314112844 : Nat := 0
def holds.tw8551410553514715252 : Nat := 0
def holds.tw3529921767576855348 : Nat := 0
def holds.tw4949047195023096438 : Nat := 0
def holds.tw8239031253751857358 : Nat := 0
def holds.tw4876135695594978501 : Nat := 0
def holds.tw6606875086121380550 : Nat := 0
def holds.tw5959074840488112208 : Nat := 0
def holds.tw12160635655254385198 : Nat := 0
def holds.tw4399152324972305773 : Nat := 0
def holds.tw14062913937729191461 : Nat := 0
def holds.tw63030109126827207 : Nat := 0
def holds.tw3381435865837020940 : Nat := 0
def holds.tw11341941285841758863 : Nat := 0
def holds.tw9784731065822230439 : Nat := 0
def holds.tw13373784697917265674 : Nat := 0
def holds.tw8393340031374782525 : Nat := 0
def holds.tw2207817973478938216 : Nat := 0
def holds.tw15493915963290111440 : Nat := 0
def holds.tw13602253286356535353 : Nat := 0
def holds.tw13942211991455542721 : Nat := 0
def holds.tw14040500308302212198 : Nat := 0
def holds.tw9408521175777228426 : Nat := 0
def holds.tw11311999394344832113 : Nat := 0
def holds.tw3117193011312037209 : Nat := 0
def holds.tw3378624336152846145 : Nat := 0
def holds.tw10269081998898121243 : Nat := 0
def holds.tw17822619038779606285 : Nat := 0
def holds.tw12542415522573167287 : Nat := 0
def holds.tw6216033271563703469 : Nat := 0
def holds.tw1508545211966159021 : Nat := 0
def holds.tw14438757958421221462 : Nat := 0
def holds.tw8943767207682116370 : Nat := 0
def holds.tw9569093901706499007 : Nat := 0
def holds.tw2929439407932294337 : Nat := 0
def holds.tw1882270145967814011 : Nat := 0
def holds.tw949623864930693503 : Nat := 0
def holds.tw17779192219718171531 : Nat := 0
def holds.tw150268843892594924 : Nat := 0
def holds.tw15566814792845459997 : Nat := 0
def holds.tw9732041140710341944 : Nat := 0
def holds.tw9930702388719952746 : Nat := 0
def holds.tw8568201214058211784 : Nat := 0
def holds.tw11750193621415288269 : Nat := 0
def holds.tw17254660705983429885 : Nat := 0
def holds.tw5350216910946226995 : Nat := 0
def holds.tw17631178891982236634 : Nat := 0
def holds.tw8163853742193369449 : Nat := 0
def holds.tw4079574721724423606 : Nat := 0
def holds.tw4065146272016792997 : Nat := 0
def holds.tw1446027475299390936 : Nat := 0
def holds.tw8451429660923938374 : Nat := 0
def holds.tw3092724735428445279 : Nat := 0
def holds.tw9160814584890018001 : Nat := 0
def holds.tw9930548314228155742 : Nat := 0
def holds.tw3864012138097595758 : Nat := 0
def holds.tw13334661261001831826 : Nat := 0
def holds.tw15464432741802594518 : Nat := 0
def holds.tw3579776383272448420 : Nat := 0
def holds.tw7798976556582896058 : Nat := 0
def holds.tw11223116819087169764 : Nat := 0
def holds.tw8115153917610635543 : Nat := 0
def holds.tw17142004355817479444 : Nat := 0
def holds.tw2752272122444995253 : Nat := 0
def holds.tw9157471666820141079 : Nat := 0
def holds.tw8323465864499181419 : Nat := 0
def holds.tw15305512045591798990 : Nat := 0
def holds.tw8827755016177155863 : Nat := 0
def holds.tw1569810199879761147 : Nat := 0
def holds.tw10238092577321643331 : Nat := 0
def holds.tw6330134614895140133 : Nat := 0
def holds.tw14064534554856164141 : Nat := 0
def holds.tw15969937429085165904 : Nat := 0
def holds.tw2667925813562934949 : Nat := 0
def holds.tw5588498093969417903 : Nat := 0
def holds.tw14571696787620697854 : Nat := 0
def holds.tw8564859838321607590 : Nat := 0
def holds.tw10973056549479156102 : Nat := 0
def holds.tw9279739060811778729 : Nat := 0
def holds.tw18224010420261798391 : Nat := 0
def holds.tw14947864908287233490 : Nat := 0
def holds.tw12004703523718567385 : Nat := 0
def holds.tw14456359579513077766 : Nat := 0
def holds.tw5031978486770369989 : Nat := 0
def holds.tw3081346186701454755 : Nat := 0
def holds.tw4954732016240277505 : Nat := 0
def holds.tw11413208387583891290 : Nat := 0
def holds.tw13945929957867325323 : Nat := 0
def holds.tw15659084048362614264 : Nat := 0
def holds.tw2296293446034493066 : Nat := 0
def holds.tw15942494369296127945 : Nat := 0
def holds.tw10859938921441162988 : Nat := 0
def holds.tw8868040359437915812 : Nat := 0
def holds.tw16887932952891968693 : Nat := 0
def holds.tw7122917452565745793 : Nat := 0
def holds.tw9188266559522036927 : Nat := 0
def holds.tw6386073049035897794 : Nat := 0
def holds.tw12461706298059298081 : Nat := 0
def holds.tw17294395744611713098 : Nat := 0
def holds.tw7129523546110730894 : Nat := 0
def holds.tw8102643725754146565 : Nat := 0
def holds.tw9250495785965993271 : Nat := 0
def holds.tw4252685499439207924 : Nat := 0
def holds.tw341249449185904685 : Nat := 0
def holds.tw6735552807121987811 : Nat := 0
def holds.tw12629177860411813126 : Nat := 0
def holds.tw9855210162650666830 : Nat := 0
def holds.tw1382383790286775375 : Nat := 0
def holds.tw7944191787301449481 : Nat := 0
def holds.tw2697976716319701033 : Nat := 0
def holds.tw4475622257904601326 : Nat := 0
def holds.tw14786868411472786527 : Nat := 0
def holds.tw4624323801304008105 : Nat := 0
def holds.tw4043779546988386903 : Nat := 0
def holds.tw9061483171383202980 : Nat := 0
def holds.tw14387954076880322906 : Nat := 0
def holds.tw15043986215568586124 : Nat := 0
def holds.tw15228004617427520810 : Nat := 0
def holds.tw13564983018704479910 : Nat := 0
def holds.tw16913335036386964278 : Nat := 0
def holds.tw4374827463496512255 : Nat := 0
def holds.tw17642598502550569490 : Nat := 0
def holds.tw12354433232887552844 : Nat := 0
def holds.tw13384883100587833847 : Nat := 0
def holds.tw9327718836232418737 : Nat := 0
def holds.tw8277820557490507997 : Nat := 0
def holds.tw10531532615022067580 : Nat := 0
def holds.tw10274680400919065884 : Nat := 0
def holds.tw6396523623945614605 : Nat := 0
def holds.tw142377125942736700 : Nat := 0
def holds.tw17591727778206626035 : Nat := 0
def holds.tw6674158366018852832 : Nat := 0
def holds.tw16239030619513480838 : Nat := 0
def holds.tw15216533652830951187 : Nat := 0
def holds.tw5926597645957970899 : Nat := 0
def holds.tw10520202591518659360 : Nat := 0
def holds.tw7877780744568003191 : Nat := 0
def holds.tw13208604148985916543 : Nat := 0
def holds.tw13002855754428957212 : Nat := 0
def holds.tw12306811582311103309 : Nat := 0
def holds.tw8778671856527934898 : Nat := 0
def holds.tw1092734292537931370 : Nat := 0
def holds.tw15383290158734973844 : Nat := 0
def holds.tw4659233104850659043 : Nat := 0
def holds.tw5915465848944024539 : Nat := 0
def holds.tw187104208977503339 : Nat := 0
def holds.tw13416111870119765123 : Nat := 0
def holds.tw13926404443759844560 : Nat := 0
def holds.tw8049511868366338171 : Nat := 0
def holds.tw7516632072315021061 : Nat := 0
def holds.tw12633084752571091873 : Nat := 0
def holds.tw17450472940649059298 : Nat := 0
def holds.tw15067460205963054400 : Nat := 0
def holds.tw3279077582325829838 : Nat := 0
def holds.tw7399101569421298396 : Nat := 0
def holds.tw2520652869183070174 : Nat := 0
def holds.tw8105830805119860317 : Nat := 0
def holds.tw10447927361281507451 : Nat := 0
def holds.tw11111472982789046935 : Nat := 0
def holds.tw14101148630387067604 : Nat := 0
def holds.tw9232459349045140238 : Nat := 0
def holds.tw2041457743892144894 : Nat := 0
def holds.tw16451975095625300501 : Nat := 0
def holds.tw6638098887989474235 : Nat := 0
def holds.tw2946744036017948005 : Nat := 0
def holds.tw10494946348260405530 : Nat := 0
def holds.tw1389151227800987198 : Nat := 0
def holds.tw11379536335273661636 : Nat := 0
def holds.tw13222035019132090745 : Nat := 0
def holds.tw2395109189467087578 : Nat := 0
def holds.tw759334954848157859 : Nat := 0
def holds.tw17856180979147524769 : Nat := 0
def holds.tw13860560629476652642 : Nat := 0
def holds.tw15733542881966949079 : Nat := 0
def holds.tw17647985033660283594 : Nat := 0
def holds.tw15573729904360925794 : Nat := 0
def holds.tw9370115536473471133 : Nat := 0
def holds.tw12971255547343527473 : Nat := 0
def holds.tw4753448620645791293 : Nat := 0
def holds.tw12467034654032377186 : Nat := 0
def holds.tw8575535491628544125 : Nat := 0
def holds.tw16740147826971877517 : Nat := 0
def holds.tw17476224472650253806 : Nat := 0
def holds.tw10684964147190113176 : Nat := 0
def holds.tw12333501511574756481 : Nat := 0
def holds.tw11566098377363298415 : Nat := 0
def holds.tw1639197193820686003 : Nat := 0
def holds.tw8070350036930755802 : Nat := 0
def holds.tw4046193847619289583 : Nat := 0
def holds.tw5282283922864298156 : Nat := 0
def holds.tw7400771686186127474 : Nat := 0
def holds.tw9430090754398894584 : Nat := 0
def holds.tw4921510776622977656 : Nat := 0
def holds.tw14404905868111484630 : Nat := 0
def holds.tw14747351113905286367 : Nat := 0
def holds.tw6099975724469302500 : Nat := 0
def holds.tw10698829266838348154 : Nat := 0
def holds.tw10595842591828190984 : Nat := 0
def holds.tw11569915684508697678 : Nat := 0
def holds.tw9160933379109621080 : Nat := 0
def holds.tw4197124852483764760 : Nat := 0
def holds.tw5015485144833937494 : Nat := 0
def holds.tw12158838097934144204 : Nat := 0
def holds.tw14085268106739128817 : Nat := 0
def holds.tw12553914923479104506 : Nat := 0
def holds.tw3589964763223657672 : Nat := 0
def holds.tw5252246860307943348 : Nat := 0
def holds.tw11938711935819136135 : Nat := 0
def holds.tw4287545629961986380 : Nat := 0
def holds.tw4480811336153992742 : Nat := 0
def holds.tw5747684920607356772 : Nat := 0
def holds.tw8768432154118970496 : Nat := 0
def holds.tw9638990691586225099 : Nat := 0
def holds.tw7442186320969616419 : Nat := 0
def holds.tw9357425287231864809 : Nat := 0
def holds.tw14149781006570564392 : Nat := 0
def holds.tw8006095370074002437 : Nat := 0
def holds.tw1316056555746827224 : Nat := 0
def holds.tw9518972631687950247 : Nat := 0
def holds.tw5078402968320093544 : Nat := 0
def holds.tw11275434479269021171 : Nat := 0
def holds.tw14198269503538366806 : Nat := 0
def holds.tw13980644296350529377 : Nat := 0
def holds.tw7145057240379410032 : Nat := 0
def holds.tw17096001632197288867 : Nat := 0
def holds.tw6816380694822836728 : Nat := 0
def holds.tw10645105620128953169 : Nat := 0
def holds.tw10828986214106111531 : Nat := 0
def holds.tw9816476011544392670 : Nat := 0
def holds.tw2490583276235294983 : Nat := 0
def holds.tw13563289320671947111 : Nat := 0
def holds.tw14057074652324994105 : Nat := 0
def holds.tw9284948610034456067 : Nat := 0
def holds.tw1876284267304334591 : Nat := 0
def holds.tw7058599786907716777 : Nat := 0
def holds.tw5857794014393010482 : Nat := 0
def holds.tw17611067142513779687 : Nat := 0
def holds.tw16866813090170913584 : Nat := 0
def holds.tw16820829685047094797 : Nat := 0
def holds.tw13341946137322399123 : Nat := 0
def holds.tw11502601298335438083 : Nat := 0
def holds.tw4796666493748621973 : Nat := 0
def holds.tw15985840036639034899 : Nat := 0
def holds.tw11612728935029869629 : Nat := 0
def holds.tw9523873602847724419 : Nat := 0
def holds.tw4905061745869718969 : Nat := 0
def holds.tw7873036012977236159 : Nat := 0
def holds.tw2160012875989923789 : Nat := 0
def holds.tw16179787414501680475 : Nat := 0
def holds.tw14691085348537605332 : Nat := 0
def holds.tw5583946556138506119 : Nat := 0
def holds.tw5225467491883748592 : Nat := 0
def holds.tw4839376547571725802 : Nat := 0
def holds.tw6545324650690627985 : Nat := 0
def holds.tw14314133134477209284 : Nat := 0
def holds.tw3811385743445658432 : Nat := 0
def holds.tw11775407622660791982 : Nat := 0
def holds.tw2335221107431800076 : Nat := 0
def holds.tw9140063382869304120 : Nat := 0
def holds.tw3280128972450656526 : Nat := 0
def holds.tw4583756282420477746 : Nat := 0
def holds.tw14856189802965030758 : Nat := 0
def holds.tw2972900019843275892 : Nat := 0
def holds.tw10637851664137882224 : Nat := 0
def holds.tw13758948915013449397 : Nat := 0
def holds.tw820627826665183454 : Nat := 0
def holds.tw8801499457356032720 : Nat := 0
def holds.tw12941468149822085856 : Nat := 0
def holds.tw8870338830035865080 : Nat := 0
def holds.tw15296638952792297585 : Nat := 0
def holds.tw10705761992013847755 : Nat := 0
def holds.tw298297018594106725 : Nat := 0
def holds.tw13306226422529918579 : Nat := 0
def holds.tw5639638838050471541 : Nat := 0
def holds.tw12056596633878991817 : Nat := 0
def holds.tw3969078344035082030 : Nat := 0
def holds.tw10953125311028157021 : Nat := 0
def holds.tw2167384251425162797 : Nat := 0
def holds.tw11822188140940861840 : Nat := 0
def holds.tw7923702915469573346 : Nat := 0
def holds.tw5857869478962280401 : Nat := 0
def holds.tw9458989268892848673 : Nat := 0
def holds.tw2451063411067222376 : Nat := 0
def holds.tw15864543535133235901 : Nat := 0
def holds.tw3232270311777372273 : Nat := 0
def holds.tw14432740918813763817 : Nat := 0
def holds.tw1213666046027356511 : Nat := 0
def holds.tw12788872388335264594 : Nat := 0
def holds.tw13370180491053348 : Nat := 0
def holds.tw12477189527336147732 : Nat := 0
def holds.tw9107170298555381705 : Nat := 0
def holds.tw17180457848445815676 : Nat := 0
def holds.tw10981351503976158137 : Nat := 0
def holds.tw4077311611012620791 : Nat := 0
def holds.tw2781561513384061212 : Nat := 0
def holds.tw10576265454180977796 : Nat := 0
def holds.tw1598465973606307345 : Nat := 0
def holds.tw5619803957841784048 : Nat := 0
def holds.tw13108245259352980691 : Nat := 0
def holds.tw14083834280242248106 : Nat := 0
def holds.tw244668840739839672 : Nat := 0
def holds.tw303617358959260456 : Nat := 0
def holds.tw1692041494862269998 : Nat := 0
def holds.tw8143335708233088440 : Nat := 0
def holds.tw13651502964188933756 : Nat := 0
def holds.tw1032644102275906610 : Nat := 0
def holds.tw4021013208564600997 : Nat := 0
def holds.tw13356387430892511905 : Nat := 0
def holds.tw10894570999934473159 : Nat := 0
def holds.tw4952593789767209597 : Nat := 0
def holds.tw14777700561071354170 : Nat := 0
def holds.tw14205006904943715905 : Nat := 0
def holds.tw15750308709622187472 : Nat := 0
def holds.tw9143120035062812437 : Nat := 0
def holds.tw12733908048491186811 : Nat := 0
def holds.tw9245723823536211039 : Nat := 0
def holds.tw14374762386000251392 : Nat := 0
def holds.tw10853043219271619230 : Nat := 0
def holds.tw945861476033566700 : Nat := 0
def holds.tw8868445881999480663 : Nat := 0
def holds.tw14341210406198164329 : Nat := 0
def holds.tw9321796208036801940 : Nat := 0
def holds.tw15421342739227911939 : Nat := 0
def holds.tw6166532556598395850 : Nat := 0
def holds.tw17858152450515298520 : Nat := 0
def holds.tw5878047611234877577 : Nat := 0
def holds.tw14977296931134136204 : Nat := 0
def holds.tw15326264675407861456 : Nat := 0
def holds.tw9866653766423218390 : Nat := 0
def holds.tw7991519602905016326 : Nat := 0
def holds.tw6460966521098074893 : Nat := 0
def holds.tw2277698456845511444 : Nat := 0
def holds.tw15580662879708500073 : Nat := 0
def holds.tw13150661809386230508 : Nat := 0
def holds.tw5295917329084666069 : Nat := 0
def holds.tw4381757428849502282 : Nat := 0
def holds.tw4532548537324856634 : Nat := 0
def holds.tw16697607604324151607 : Nat := 0
def holds.tw17549760099613038055 : Nat := 0
def holds.tw707885073954110949 : Nat := 0
def holds.tw7366336091430424897 : Nat := 0
def holds.tw17597196502641442581 : Nat := 0
def holds.tw1438057683635843531 : Nat := 0
def holds.tw16497969686579978388 : Nat := 0
def holds.tw7551591917499560916 : Nat := 0
def holds.tw11723004889028688699 : Nat := 0
def holds.tw5082999880386992228 : Nat := 0
def holds.tw16813768487156937676 : Nat := 0
def holds.tw16077201326514603405 : Nat := 0
def holds.tw12808162357026388105 : Nat := 0
def holds.tw5274829272982666545 : Nat := 0
def holds.tw9869501847327858460 : Nat := 0
def holds.tw14054693376921006050 : Nat := 0
def holds.tw16281141667863336784 : Nat := 0
def holds.tw9766128667603022514 : Nat := 0
def holds.tw10817008591213730988 : Nat := 0
def holds.tw12762722769849151566 : Nat := 0
def holds.tw12337024466821633839 : Nat := 0
def holds.tw10406357932506391793 : Nat := 0
def holds.tw12774209864397607762 : Nat := 0
def holds.tw4717937361131159733 : Nat := 0
def holds.tw5323918697378788693 : Nat := 0
def holds.tw655971840912409622 : Nat := 0
def holds.tw12563481999192008768 : Nat := 0
def holds.tw11619669790576578751 : Nat := 0
def holds.tw10009309266167291388 : Nat := 0
def holds.tw13676757877788619591 : Nat := 0
def holds.tw17551835440721493442 : Nat := 0
def holds.tw5763553328388235881 : Nat := 0
def holds.tw10824115321126796680 : Nat := 0
def holds.tw9441326970708011783 : Nat := 0
def holds.tw8903297777125119442 : Nat := 0
def holds.tw11021402016762074336 : Nat := 0
def holds.tw2084331650109322480 : Nat := 0
def holds.tw14786066558164337950 : Nat := 0
def holds.tw12632932662738783937 : Nat := 0
def holds.tw7885888744534978006 : Nat := 0
def holds.tw12528141070781557109 : Nat := 0
def holds.tw9647410926604887880 : Nat := 0
def holds.tw15349486494167490861 : Nat := 0
def holds.tw1357463484097335404 : Nat := 0
def holds.tw5531990279233569197 : Nat := 0
def holds.tw15356600547250028879 : Nat := 0
set_option Elab.async true in
set_option maxHeartbeats 8000000 in
theorem holds : PySem.Challenge.rw_re0161_02.Holds := by
  w_on; o_law; k_head; (case hw => w_witness2)
  k_go0; (all_goals try k_fold)
  dsimp only at *
  rename World => w
  rename List Int => ns
  rename TabsAt _ _ => hT9
  rename Flt.MathXP _ _ _ => XM0
  have XM := math_eq (q := PySem.Challenge.rw_re0161_02.row.prog) (ghost_math hT9 XM0 (by rfl)) (by kernel_rfl) (by kernel_rfl) (by kernel_rfl)
  rename Heap.IsList (ghostOf _ _) _ _ => hls
  rename IntsAre _ _ => hI
  rename Below _ _ _ _ => B
  rename Frag.In _ _ => X0
  have X := frag_eq (K2 := Mine.pre.heap_1 w.params) X0 (by kernel_rfl)
  rename Top topProg _ _ _ _ _ => T
  rename Fr _ _ _ _ => F
  rename News _ _ _ _ => N
  rename ¬ _ => hlen
  rename _ ∧ _ => l9
  obtain ⟨mE, hmE, FE⟩ := fr_gen F
  have hms := know_list (mE := mE) hls (by rw [hmE]; rfl)
  rw [know hms] at FE
  refine law2_all (ns := ns) X T XM B FE N hls hI ?_ l9 ?_ ?_ ?_ ?_ ?_ ?_ ?_ ?_ ?_ ?_
  · omega
  · exact Eq.trans (by assumption) (by rfl)
  · exact Eq.trans (by assumption) (by rfl)
  · exact Eq.trans (by assumption) (by rfl)
  · exact Eq.trans (by assumption) (by rfl)
  · exact Eq.trans (by assumption) (by rfl)
  · exact Eq.trans (by assumption) (by rfl)
  · exact Eq.trans (by assumption) (by rfl)
  · exact Eq.trans (by assumption) (by rfl)
  · passes_own
  · intro h tk m' ps qs nw Fz Nz
    refine ⟨?_, GrownAt.of Nz (List.mem_cons_of_mem _ (List.mem_cons_self ..)), GrownAt.of Nz (List.mem_cons_self ..), True.intro⟩
    clear N F FE
    k_steps
end
end Mine
theorem PySem.Challenge.cw_re0161_02_holds : PySem.Challenge.rw_re0161_02.Holds := by
  exact Mine.holds
