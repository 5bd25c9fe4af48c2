import PyProof.Rows.All
import Wide.All
import OpenK.AllK
import Wide.FinOn
import Lean
import PySem.Challenge.RW_il0017_01
open PySem PySem.W PyProof.Rows
set_option Elab.async false
set_option maxRecDepth 100000
set_option maxHeartbeats 8000000
set_option rowWalk.seconds 0
set_option compiler.extract_closed false
namespace Mine
theorem law_said : OpenLaw.wellSaid PySem.Challenge.rw_il0017_01 = true := by
  rw [PySem.W.Fast.te9446332074065402090]
  kernel_rfl
def view17 : Program := PySem.W.view PySem.Challenge.pw_il0017_01 [0, 2, 3, 4, 5, 7, 8, 9, 14, 15, 16, 17, 18, 20, 21, 22, 23, 24, 25]
section
set_option hygiene false
local macro_rules | `(tactic| o_law) => `(tactic| refine holds_law law_said fun said => ?_)
local macro_rules | `(tactic| o_head $H) => `(tactic| (refine holds_open (q := view17) (loose := [Str.ofString "b2a_base64", Str.ofString "b64encode", Str.ofString "_NodeInfo"]) (Xt := fun s => xlAt view17 [] s && recOk (RowW.records PySem.Challenge.rw_il0017_01.row.toRowW) s) (XP := XL view17 []) (Yf := Hook.obs $H) (Ya := Hook.val $H) (YP := Hook.says $H) (N := 3140) ?hl (Hook.of $H) (Hook.keeps $H) (fun s e => xl_of s (Bool.and_eq_true_iff.mp e).1) XL.keeps (by rfl) (by rfl) (by rfl) (fun s e => recFacts_of (Bool.and_eq_true_iff.mp e).2) (by rfl) (by assumption) (by decide +kernel) ⟨rfl, rfl, rfl, rfl, rfl, by decide +kernel⟩ ?hw ?hc; (case hl => (clear said; intro w; unfold openEnds fencedOpening topFrom; rw [PySem.W.Fast.te14364793385576792824, PySem.W.Fast.te14082659384304107361, PySem.W.Fast.te10274390034422433532, PySem.W.Fast.te14289696077712309145, PySem.W.Fast.te5923862056798008813, PySem.W.Fast.te4187177175401517315]; kernel_rfl)); clear said))
open_top hd17 for PySem.Challenge.rw_il0017_01
end
end Mine
section
namespace Mine
/-- a hidden end: what Q takes, Q' takes -/
def Hid {α : Type} (Q Q' : α → Shared → Prop) : Prop := ∀ a s, Q a s → Q' a s
theorem hideQ {α : Type} {M : Model} {A : Around} {t : Sem α} {Q : α → Shared → Prop} {E : Value → Shared → Prop} {s : Shared}
    (h : ∀ Q' : α → Shared → Prop, Hid Q Q' → wpAny M A t Q' E s) : wpAny M A t Q E s := h Q fun _ _ x => x
theorem unQ {α : Type} {Q Q' : α → Shared → Prop} {a : α} {s : Shared} (h : Hid Q Q') (x : Q a s) : Q' a s := h a s x
/-- a hidden goal: while a fact is taken apart the goal is one letter -/
theorem hideG {P : Prop} (h : ∀ G : Prop, (P → G) → G) : P := h P id
theorem lt_two {i : Nat} (h : i < 2) : i = 0 ∨ i = 1 := by revert i; decide
theorem lt_six {i : Nat} (h : i < 6) : i = 0 ∨ i = 1 ∨ i = 2 ∨ i = 3 ∨ i = 4 ∨ i = 5 := by revert i; decide
theorem lt_eight {i : Nat} (h : i < 8) : i = 0 ∨ i = 1 ∨ i = 2 ∨ i = 3 ∨ i = 4 ∨ i = 5 ∨ i = 6 ∨ i = 7 := by revert i; decide
theorem of_eight {P : Int → Prop} (h : ∀ k : Nat, k < 8 → P (k : Int)) {x : Int} (h0 : 0 ≤ x) (h1 : x < 8) : P x := by
  obtain ⟨k, rfl⟩ := Int.eq_ofNat_of_zero_le h0
  exact h k (Int.ofNat_lt.mp h1)
end Mine
end
section
namespace Mine
section
variable {prog : Program} {w : World} {A : Around} {E : Value → Shared → Prop} {s : Shared} {env : Env} {h₀ : Heap} {x : PySem.Str} {body : List Stmt} {Q : Flow → Shared → Prop}

/-- the end of a turn -/
inductive LpEnd (h₀ : Heap) (L : Addr) (J : (PySem.Str → Option Value) → List (Addr × Obj) → Prop) (I : Addr) (oi : Obj) (s₁ s₂ : Shared) : Prop where
  | mk : ∀ h' tk m' nx, (s₂ = { s₁ with heap := h', toks := tk }) → (Fr h₀ L h' m') → (News h₀ L h' ((I, oi) :: nx)) → ((∀ q ∈ nx, q.1 ≠ I)) → (J m' nx) → LpEnd h₀ L J I oi s₁ s₂
def LpPost (h₀ : Heap) (L : Addr) (J : (PySem.Str → Option Value) → List (Addr × Obj) → Prop) (I : Addr) (oi : Obj) (s₁ : Shared) (Q : Flow → Shared → Prop) (f : Flow) (s₂ : Shared) : Prop :=
  match f with
  | .ret v => Q (.ret v) s₂
  | .brk => Q .next s₂
  | _ => LpEnd h₀ L J I oi s₁ s₂

theorem LpEnd.intro {L : Addr} {J : (PySem.Str → Option Value) → List (Addr × Obj) → Prop} {I : Addr} {oi : Obj} {s₁ : Shared} {h' : Heap} {tk : Nat} {m' : PySem.Str → Option Value} {nx : List (Addr × Obj)}
    (F : Fr h₀ L h' m') (N : News h₀ L h' ((I, oi) :: nx)) (hn : ∀ q ∈ nx, q.1 ≠ I) (hj : J m' nx) : LpEnd h₀ L J I oi s₁ { s₁ with heap := h', toks := tk } := ⟨h', tk, m', nx, rfl, F, N, hn, hj⟩

/-- a loop over a source of the ledger's, the iterator just made -/
theorem lp_core {I : Addr} {fp : List Addr} {n : Nat} {P : Nat → Value → Prop} {St : Nat → Heap → Prop} {m₀ : PySem.Str → Option Value} {news srcs : List (Addr × Obj)} {s₂ : Shared}
    (W : Walks prog w A I fp [I] n P St) (hfp : ∀ b ∈ fp, b = I ∨ ∃ o, (b, o) ∈ srcs) (J : Nat → (PySem.Str → Option Value) → List (Addr × Obj) → Prop)
    (hsrc : ∀ i m nx, J i m nx → ∀ p ∈ srcs, p ∈ nx) (hL : env.locals ≠ I) (hI₀ : h₀.get? I = none)
    (hIt : ∀ i h, St i h → ∃ o, h.get? I = some o) (st : St 0 s₂.heap) (F : Fr h₀ env.locals s₂.heap m₀) (N : News h₀ env.locals s₂.heap news) (hI : ∀ q ∈ news, q.1 ≠ I) (hj : J 0 m₀ news)
    (turn : ∀ i v m₁ nx h tk oi, i < n → P i v → (∀ q ∈ nx, q.1 ≠ I) → J i m₁ nx → Fr h₀ env.locals h (fun y => if y = x then some v else m₁ y) → News h₀ env.locals h ((I, oi) :: nx) →
      wpAny (model prog w) A (execs body env) (LpPost h₀ env.locals (J (i + 1)) I oi { s₂ with heap := h, toks := tk } Q) E { s₂ with heap := h, toks := tk })
    (done : ∀ m₁ nx h tk, J n m₁ nx → Fr h₀ env.locals h m₁ → News h₀ env.locals h nx → Q .next { s₂ with heap := h, toks := tk }) :
    LoopAtV prog w A h₀ env x body Q E (.ref I) s₂ := by
  have hsrcL : ∀ p ∈ srcs, p.1 ≠ env.locals ∧ h₀.get? p.1 = none := fun p hp => (N p (hsrc _ _ _ hj p hp)).2
  refine ⟨I, fp, [I], n, P, St, m₀, news, J, rfl, W, ?_, ?_, ?_, st, F, N, hj, ?_, ?_⟩
  · intro hm
    rcases hfp _ hm with e | ⟨o, ho⟩
    · exact hL e
    · exact (hsrcL _ ho).1 rfl
  · intro b hb
    rw [List.mem_singleton.mp hb]; exact hI₀
  · intro p hp hb
    exact hI p hp (List.mem_singleton.mp hb)
  · rintro i v m₁ nx s₁ own ⟨hh, tk, rfl⟩ hi hP hJ hoff hown hget hall hst F₁ N₁
    have hoff' : ∀ q ∈ nx, q.1 ≠ I := fun q hq e => hoff q hq (List.mem_singleton.mpr e)
    obtain ⟨oi, hoi⟩ := hIt _ _ hst
    have hoi' : hh.get? I = some oi := hoi
    have hIfp : I ∈ fp := W.sub I (List.mem_singleton.mpr rfl)
    have hIown : (I, oi) ∈ own := hall I hIfp hI₀ oi hoi
    have N₂ : News h₀ env.locals hh ((I, oi) :: nx) := by
      intro p hp
      rcases List.mem_cons.mp hp with rfl | hp
      · exact N₁ _ (List.mem_append_left _ hIown)
      · exact N₁ _ (List.mem_append_right _ hp)
    refine wpAny_mono (turn i v m₁ nx hh tk oi hi hP hoff' hJ F₁ N₂) (fun f s₃ p => ?_) fun _ _ e => e
    have fin : LpEnd h₀ env.locals (J (i + 1)) I oi { s₂ with heap := hh, toks := tk } s₃ → LoopStepU h₀ env.locals [I] own (J (i + 1)) { s₂ with heap := hh, toks := tk } .next s₃ := by
      rintro ⟨h', tk', m', nx', e, F', N', hn, hJ'⟩
      refine ⟨rfl, h', tk', m', nx', e, F', ?_, fun p hp hb => hn p hp (List.mem_singleton.mp hb), hJ'⟩
      intro p hp
      rcases List.mem_append.mp hp with hp | hp
      · have hpg : hh.get? p.1 = some p.2 := hget p hp
        rcases hfp _ (hown p hp) with e1 | ⟨o, ho⟩
        · have e2 : p.2 = oi := by rw [e1, hoi'] at hpg; exact (Option.some.inj hpg).symm
          have e3 : p = (I, oi) := by rw [← e1, ← e2]
          rw [e3]; exact N' _ (.head _)
        · have h1 := (N₁ (p.1, o) (List.mem_append_right _ (hsrc _ _ _ hJ _ ho))).1
          have e2 : p.2 = o := by rw [hpg] at h1; exact Option.some.inj h1
          have e3 : p = (p.1, o) := by rw [← e2]
          rw [e3]; exact N' _ (.tail _ (hsrc _ _ _ hJ' _ ho))
      · exact N' _ (.tail _ hp)
    cases f with
    | ret v => exact .ret p
    | brk => exact .brk p
    | next => exact .next (fin p)
    | cont => exact .cont (fin p)
  · rintro h' tk m' nx F' N' _ hJ
    exact done m' nx h' tk hJ F' N'

section
variable {m₀ : PySem.Str → Option Value} {news : List (Addr × Obj)} (J : Nat → (PySem.Str → Option Value) → List (Addr × Obj) → Prop)

theorem it_fresh {h : Heap} {L : Addr} {m : PySem.Str → Option Value} {news : List (Addr × Obj)} (F : Fr h₀ L h m) (N : News h₀ L h news) (o : Obj) :
    L ≠ h.objs.size ∧ h₀.get? h.objs.size = none ∧ Fr h₀ L (h.push o) m ∧ News h₀ L (h.push o) news ∧ ∀ q ∈ news, q.1 ≠ h.objs.size :=
  ⟨Nat.ne_of_lt F.ns.lt, next_is_new F, F.push o, fun p hp => ⟨Heap.get?_push_of_some _ (N p hp).1, (N p hp).2⟩, fun q hq => Nat.ne_of_lt (Heap.lt_size (N q hq).1)⟩

theorem it_list {l : Addr} {vs : List Value} {k : Nat} (hh : A.handled = none) (F : Fr h₀ env.locals s.heap m₀) (N : News h₀ env.locals s.heap news) (hm : (l, listOf vs.toArray k) ∈ news) (hj : J 0 m₀ news)
    (hk : ∀ i m nx, J i m nx → (l, listOf vs.toArray k) ∈ nx)
    (turn : ∀ i v m₁ nx h tk I oi, vs[i]? = some v → (∀ q ∈ news, q.1 < I) → (∀ q ∈ nx, q.1 ≠ I) → J i m₁ nx → Fr h₀ env.locals h (fun y => if y = x then some v else m₁ y) → News h₀ env.locals h ((I, oi) :: nx) →
      wpAny (model prog w) A (execs body env) (LpPost h₀ env.locals (J (i + 1)) I oi { s with heap := h, toks := tk } Q) E { s with heap := h, toks := tk })
    (done : ∀ m₁ nx h tk, J vs.length m₁ nx → Fr h₀ env.locals h m₁ → News h₀ env.locals h nx → Q .next { s with heap := h, toks := tk }) :
    wpAny (model prog w) A (pyIter (.ref l)) (fun it s₂ => LoopAtV prog w A h₀ env x body Q E it s₂) E s := by
  have hls : s.heap.IsList l vs.toArray := ⟨_, (N _ hm).1, rfl, _, rfl⟩
  refine wpAny_pyIter_list hls ?_
  obtain ⟨a1, a2, a3, a4, a5⟩ := it_fresh F N { cls := .type "list_iterator", data := .fields #[.ref l, .int 0 0] }
  have hne : l ≠ s.heap.objs.size := a5 _ hm
  have W := Walks.list (prog := prog) (w := w) hh s.heap.objs.size l hne vs.toArray
  rw [List.size_toArray] at W
  refine lp_core (srcs := [(l, listOf vs.toArray k)]) W ?_ J ?_ a1 a2 ?_ ⟨⟨_, Heap.get?_push_size _ rfl, rfl, rfl⟩, hls.at fun o e => Heap.get?_push_of_some _ e⟩ a3 a4 a5 hj ?_ ?_
  · intro b hb
    rcases List.mem_cons.mp hb with e | hb
    · exact .inl e
    · exact .inr ⟨_, by rw [List.mem_singleton.mp hb]; exact .head _⟩
  · intro i m nx hJ p hp
    rw [List.mem_singleton.mp hp]; exact hk i m nx hJ
  · rintro i h ⟨⟨o, ho, _⟩, _⟩
    exact ⟨o, ho⟩
  · intro i v m₁ nx h tk oi hi hP hoff hJ F₁ N₁
    exact turn i v m₁ nx h tk _ oi (by simpa using hP) (fun q hq => Heap.lt_size (N q hq).1) hoff hJ F₁ N₁
  · exact done

theorem it_tuple {l : Addr} {vs : List Value} {k : Nat} (hh : A.handled = none) (F : Fr h₀ env.locals s.heap m₀) (N : News h₀ env.locals s.heap news) (hm : (l, ({ cls := .type "tuple", data := .seq vs.toArray k } : Obj)) ∈ news) (hj : J 0 m₀ news)
    (hk : ∀ i m nx, J i m nx → (l, ({ cls := .type "tuple", data := .seq vs.toArray k } : Obj)) ∈ nx)
    (turn : ∀ i v m₁ nx h tk I oi, vs[i]? = some v → (∀ q ∈ news, q.1 < I) → (∀ q ∈ nx, q.1 ≠ I) → J i m₁ nx → Fr h₀ env.locals h (fun y => if y = x then some v else m₁ y) → News h₀ env.locals h ((I, oi) :: nx) →
      wpAny (model prog w) A (execs body env) (LpPost h₀ env.locals (J (i + 1)) I oi { s with heap := h, toks := tk } Q) E { s with heap := h, toks := tk })
    (done : ∀ m₁ nx h tk, J vs.length m₁ nx → Fr h₀ env.locals h m₁ → News h₀ env.locals h nx → Q .next { s with heap := h, toks := tk }) :
    wpAny (model prog w) A (pyIter (.ref l)) (fun it s₂ => LoopAtV prog w A h₀ env x body Q E it s₂) E s := by
  have hls : s.heap.IsTuple l vs.toArray := ⟨_, (N _ hm).1, rfl, _, rfl⟩
  refine wpAny_pyIter_tuple hls ?_
  obtain ⟨a1, a2, a3, a4, a5⟩ := it_fresh F N { cls := .type "tuple_iterator", data := .fields #[.ref l, .int 0 0] }
  have hne : l ≠ s.heap.objs.size := a5 _ hm
  have W := Walks.tuple (prog := prog) (w := w) hh s.heap.objs.size l hne vs.toArray
  rw [List.size_toArray] at W
  refine lp_core (srcs := [(l, ({ cls := .type "tuple", data := .seq vs.toArray k } : Obj))]) W ?_ J ?_ a1 a2 ?_ ⟨⟨_, Heap.get?_push_size _ rfl, rfl, rfl⟩, hls.at fun o e => Heap.get?_push_of_some _ e⟩ a3 a4 a5 hj ?_ ?_
  · intro b hb
    rcases List.mem_cons.mp hb with e | hb
    · exact .inl e
    · exact .inr ⟨_, by rw [List.mem_singleton.mp hb]; exact .head _⟩
  · intro i m nx hJ p hp
    rw [List.mem_singleton.mp hp]; exact hk i m nx hJ
  · rintro i h ⟨⟨o, ho, _⟩, _⟩
    exact ⟨o, ho⟩
  · intro i v m₁ nx h tk oi hi hP hoff hJ F₁ N₁
    exact turn i v m₁ nx h tk _ oi (by simpa using hP) (fun q hq => Heap.lt_size (N q hq).1) hoff hJ F₁ N₁
  · exact done

end

inductive WhI (h₀ : Heap) (L : Addr) (J : Nat → (PySem.Str → Option Value) → List (Addr × Obj) → Prop) (s : Shared) (n : Nat) (s' : Shared) : Prop where
  | mk : ∀ h₁ tk₁ m₁ nx, s' = { s with heap := h₁, toks := tk₁ } → Fr h₀ L h₁ m₁ → News h₀ L h₁ nx → J n m₁ nx → WhI h₀ L J s n s'
/-- a while, by an invariant and a measure, any way out -/
inductive WhEnd (h₀ : Heap) (L : Addr) (J : Nat → (PySem.Str → Option Value) → List (Addr × Obj) → Prop) (n : Nat) (s₁ s₂ : Shared) : Prop where
  | mk : ∀ h' tk m' nx n', (s₂ = { s₁ with heap := h', toks := tk }) → (Fr h₀ L h' m') → (News h₀ L h' nx) → (n' < n) → (J n' m' nx) → WhEnd h₀ L J n s₁ s₂
def WhPost (h₀ : Heap) (L : Addr) (J : Nat → (PySem.Str → Option Value) → List (Addr × Obj) → Prop) (n : Nat) (s₁ : Shared) (Q : Flow → Shared → Prop) (f : Flow) (s₂ : Shared) : Prop :=
  match f with
  | .ret v => Q (.ret v) s₂
  | .brk => Q .next s₂
  | _ => WhEnd h₀ L J n s₁ s₂
theorem WhEnd.intro {L : Addr} {J : Nat → (PySem.Str → Option Value) → List (Addr × Obj) → Prop} {n n' : Nat} {s₁ : Shared} {h' : Heap} {tk : Nat} {m' : PySem.Str → Option Value} {nx : List (Addr × Obj)}
    (F : Fr h₀ L h' m') (N : News h₀ L h' nx) (hn : n' < n) (hj : J n' m' nx) : WhEnd h₀ L J n s₁ { s₁ with heap := h', toks := tk } := ⟨h', tk, m', nx, n', rfl, F, N, hn, hj⟩

theorem wh_inv {L : Addr} {test : Expr} {orelse : List Stmt} {pos : Pos} {m : PySem.Str → Option Value} {news : List (Addr × Obj)} (J : Nat → (PySem.Str → Option Value) → List (Addr × Obj) → Prop) {n₀ : Nat}
    (F : Fr h₀ L s.heap m) (N : News h₀ L s.heap news) (hJ : J n₀ m news)
    (turn : ∀ n m₁ nx h tk, Fr h₀ L h m₁ → News h₀ L h nx → J n m₁ nx →
      wpAny (model prog w) A (isTrue test env (eval test env)) (fun b s₂ =>
        if b = true then wpAny (model prog w) A (execs body env) (WhPost h₀ L J n s Q) (fun _ _ => False) s₂ else wpAny (model prog w) A (execs orelse env) Q (fun _ _ => False) s₂) (fun _ _ => False) { s with heap := h, toks := tk }) :
    wpAny (model prog w) A (exec (.While test body orelse pos) env) Q E s := by
  refine wpAny_noRaise ?_
  refine wpAny_While (codeAny_whileLoop (WhI h₀ L J s) ?_ n₀ ⟨s.heap, s.toks, m, news, rfl, F, N, hJ⟩)
  rintro n s' ⟨h₁, tk₁, m₁, nx, rfl, F₁, N₁, J₁⟩
  refine wpAny_mono (turn n m₁ nx h₁ tk₁ F₁ N₁ J₁) (fun b s₂ h₂ => ?_) fun _ _ e => e.elim
  cases b with
  | false =>
    simp only [Bool.false_eq_true, if_false] at h₂ ⊢
    exact wpAny_mono h₂ (fun _ _ q => q) fun _ _ e => e.elim
  | true =>
    simp only [if_true] at h₂ ⊢
    refine wpAny_mono h₂ (fun f s₃ h₃ => ?_) fun _ _ e => e.elim
    have fin : WhEnd h₀ L J n s s₃ → ∃ m, m < n ∧ WhI h₀ L J s m s₃ := by
      rintro ⟨h', tk, m', nx', n', e, F', N', hn, hJ'⟩
      exact ⟨n', hn, h', tk, m', nx', e, F', N', hJ'⟩
    cases f with
    | ret v => exact h₃
    | brk => exact h₃
    | next => exact fin h₃
    | cont => exact fin h₃
end
end Mine
end
section
namespace Mine
/-- a thing on the search's stack: the node, how many of its successors are taken, its iterator and the bound method -/
structure Fm where
  n : Int
  p : Nat
  it : Nat
  q : Nat

section
variable (ss : Int → List Int)
def FinOK : List Int → Prop
  | [] => True
  | x :: r => x ∉ r ∧ (∀ y ∈ ss x, y ∈ r) ∧ FinOK r
def Chain (fin : List Int) : Option Int → List Fm → Prop
  | _, [] => True
  | none, f :: r => f.p ≤ (ss f.n).length ∧ (∀ y ∈ (ss f.n).take f.p, y ∈ fin) ∧ Chain fin (some f.n) r
  | some y, f :: r => f.p ≤ (ss f.n).length ∧ 1 ≤ f.p ∧ (ss f.n)[f.p - 1]? = some y ∧ (∀ z ∈ (ss f.n).take (f.p - 1), z ∈ fin) ∧ Chain fin (some f.n) r

structure DI (order U : List Int) (R : List Fm) (fin : List Int) (nx : Option Int) : Prop where
  perm : order.Perm (U ++ (R.map (·.n) ++ fin))
  nodup : order.Nodup
  finok : FinOK ss fin
  chain : Chain ss fin nx R
  clos : ∀ x ∈ order, ∀ y ∈ ss x, y ∈ order

def mu (U : List Int) (R : List Fm) : Nat := (U.map fun x => (ss x).length).sum + (R.map fun f => (ss f.n).length - f.p).sum
variable {ss}

theorem Chain.mono {fin fin' : List Int} (hs : ∀ x ∈ fin, x ∈ fin') : ∀ {nx : Option Int} {R : List Fm}, Chain ss fin nx R → Chain ss fin' nx R
  | _, [], _ => by unfold Chain; trivial
  | none, f :: r, h => by
    unfold Chain at h ⊢
    exact ⟨h.1, fun y hy => hs y (h.2.1 y hy), h.2.2.mono hs⟩
  | some y, f :: r, h => by
    unfold Chain at h ⊢
    exact ⟨h.1, h.2.1, h.2.2.1, fun z hz => hs z (h.2.2.2.1 z hz), h.2.2.2.2.mono hs⟩

section
variable {order U : List Int} {R : List Fm} {fin : List Int} {nx : Option Int} {y : Int} {f : Fm}

theorem DI.start (hn : order.Nodup) (hc : ∀ x ∈ order, ∀ y ∈ ss x, y ∈ order) : DI ss order order [] [] none :=
  ⟨by simp, hn, by unfold FinOK; trivial, by unfold Chain; trivial, hc⟩
theorem DI.all (D : DI ss order U R fin nx) : (U ++ (R.map (·.n) ++ fin)).Nodup := D.perm.nodup_iff.mp D.nodup
theorem DI.mem_iff (D : DI ss order U R fin nx) {x : Int} : x ∈ order ↔ x ∈ U ∨ x ∈ R.map (·.n) ∨ x ∈ fin := by
  rw [D.perm.mem_iff, List.mem_append, List.mem_append]
theorem DI.offU (D : DI ss order U R fin nx) {x : Int} (h : x ∈ U) : x ∉ R.map (·.n) ∧ x ∉ fin := by
  have := (List.nodup_append.mp D.all).2.2 x h
  exact ⟨fun q => this x (List.mem_append_left _ q) rfl, fun q => this x (List.mem_append_right _ q) rfl⟩
theorem DI.offR (D : DI ss order U R fin nx) {x : Int} (h : x ∈ R.map (·.n)) : x ∉ fin :=
  fun q => (List.nodup_append.mp (List.nodup_append.mp D.all).2.1).2.2 x h x q rfl
theorem DI.Rnodup (D : DI ss order U R fin nx) : (R.map (·.n)).Nodup := (List.nodup_append.mp (List.nodup_append.mp D.all).2.1).1
theorem DI.Unodup (D : DI ss order U R fin nx) : U.Nodup := (List.nodup_append.mp D.all).1
theorem DI.lens (D : DI ss order U R fin nx) : U.length + R.length + fin.length = order.length := by
  rw [D.perm.length_eq, List.length_append, List.length_append, List.length_map]; omega
theorem DI.nil (D : DI ss order U [] fin nx) : DI ss order U [] fin none := ⟨D.perm, D.nodup, D.finok, by unfold Chain; trivial, D.clos⟩
theorem DI.root (D : DI ss order U [] fin nx) : DI ss order U [] fin (some y) := ⟨D.perm, D.nodup, D.finok, by unfold Chain; trivial, D.clos⟩

theorem DI.push (D : DI ss order U R fin (some y)) (h : y ∈ U) (it q : Nat) : DI ss order (U.erase y) (⟨y, 0, it, q⟩ :: R) fin none := by
  refine ⟨?_, D.nodup, D.finok, ?_, D.clos⟩
  · refine D.perm.trans ?_
    have h1 : U.Perm (y :: U.erase y) := List.perm_cons_erase h
    refine (h1.append_right _).trans ?_
    show (y :: U.erase y ++ (R.map (·.n) ++ fin)).Perm (U.erase y ++ (y :: (R.map (·.n) ++ fin)))
    exact List.perm_middle.symm
  · unfold Chain
    exact ⟨Nat.zero_le _, by simp, D.chain⟩
theorem mu_push (h : y ∈ U) (it q : Nat) : mu ss (U.erase y) (⟨y, 0, it, q⟩ :: R) = mu ss U R := by
  unfold mu
  have h1 : U.Perm (y :: U.erase y) := List.perm_cons_erase h
  have h2 := (h1.map fun x => (ss x).length).sum_nat
  simp only [List.map_cons, List.sum_cons] at h2 ⊢
  omega
theorem DI.take (D : DI ss order U (f :: R) fin none) (h : (ss f.n)[f.p]? = some y) : DI ss order U ({ f with p := f.p + 1 } :: R) fin (some y) := by
  have hc := D.chain
  unfold Chain at hc
  have hlt : f.p < (ss f.n).length := (List.getElem?_eq_some_iff.mp h).1
  refine ⟨D.perm, D.nodup, D.finok, ?_, D.clos⟩
  unfold Chain
  refine ⟨hlt, Nat.succ_pos _, ?_, ?_, hc.2.2⟩
  · simpa using h
  · simpa using hc.2.1
theorem mu_take (h : (ss f.n)[f.p]? = some y) : mu ss U ({ f with p := f.p + 1 } :: R) < mu ss U (f :: R) := by
  have hlt : f.p < (ss f.n).length := (List.getElem?_eq_some_iff.mp h).1
  unfold mu
  simp only [List.map_cons, List.sum_cons]
  omega
theorem DI.skip (D : DI ss order U R fin (some y)) (h : y ∈ fin) : DI ss order U R fin none := by
  refine ⟨D.perm, D.nodup, D.finok, ?_, D.clos⟩
  have hc := D.chain
  cases R with
  | nil => unfold Chain; trivial
  | cons f r =>
    unfold Chain at hc ⊢
    refine ⟨hc.1, fun z hz => ?_, hc.2.2.2.2⟩
    have e : f.p = f.p - 1 + 1 := by omega
    rw [e, List.take_add_one, hc.2.2.1] at hz
    rcases List.mem_append.mp hz with hz | hz
    · exact hc.2.2.2.1 z hz
    · simp at hz; rw [hz]; exact h
theorem DI.pop (D : DI ss order U (f :: R) fin none) (h : (ss f.n)[f.p]? = none) : DI ss order U R (f.n :: fin) none := by
  have hc := D.chain
  unfold Chain at hc
  have hlen : (ss f.n).length ≤ f.p := by simpa using h
  have hoff : f.n ∉ fin := D.offR (by simp)
  have D' : DI ss order U R (f.n :: fin) (some f.n) := by
    refine ⟨?_, D.nodup, ?_, hc.2.2.mono fun x hx => List.mem_cons_of_mem _ hx, D.clos⟩
    · refine D.perm.trans (List.Perm.append_left _ ?_)
      show (f.n :: (R.map (·.n) ++ fin)).Perm (R.map (·.n) ++ f.n :: fin)
      exact List.perm_middle.symm
    · unfold FinOK
      refine ⟨hoff, fun y hy => hc.2.1 y ?_, D.finok⟩
      rw [List.take_of_length_le hlen]; exact hy
  exact D'.skip (List.mem_cons_self ..)
theorem mu_pop : mu ss U R ≤ mu ss U (f :: R) := by
  unfold mu
  simp only [List.map_cons, List.sum_cons]
  omega

theorem chain_cycle {k : Int} : ∀ {R : List Fm} {y : Int}, Chain ss fin (some y) R → k ∈ R.map (·.n) → ∃ C : List Int, k ∈ C ∧ (∀ c ∈ C, c ∈ R.map (·.n)) ∧ (∀ c ∈ C, c = k ∨ ∃ i ∈ C, c ∈ ss i) ∧ ∃ i ∈ C, y ∈ ss i
  | [], _, _, h => nomatch h
  | f :: r, y, hc, h => by
    unfold Chain at hc
    have hy : y ∈ ss f.n := List.mem_of_getElem? hc.2.2.1
    by_cases e : k = f.n
    · refine ⟨[k], List.mem_singleton.mpr rfl, ?_, ?_, k, List.mem_singleton.mpr rfl, e ▸ hy⟩
      · intro c hc; rw [List.mem_singleton.mp hc]; exact h
      · intro c hc; exact .inl (List.mem_singleton.mp hc)
    · have h' : k ∈ r.map (·.n) := by
        rcases List.mem_cons.mp h with q | q
        · exact absurd q e
        · exact q
      obtain ⟨C, h1, h2, h3, i, hi, hf⟩ := chain_cycle hc.2.2.2.2 h'
      refine ⟨f.n :: C, List.mem_cons_of_mem _ h1, ?_, ?_, f.n, List.mem_cons_self .., hy⟩
      · intro c hc
        rcases List.mem_cons.mp hc with q | q
        · rw [q]; exact List.mem_cons_self ..
        · exact List.mem_cons_of_mem _ (h2 c q)
      · intro c hc
        rcases List.mem_cons.mp hc with q | q
        · exact .inr ⟨i, List.mem_cons_of_mem _ hi, q ▸ hf⟩
        · rcases h3 c q with z | ⟨j, hj, z⟩
          · exact .inl z
          · exact .inr ⟨j, List.mem_cons_of_mem _ hj, z⟩

/-- a ring: some things, each waiting for one of them -/
def Ring (ss : Int → List Int) (order : List Int) : Prop := ∃ C : List Int, C ≠ [] ∧ (∀ c ∈ C, c ∈ order) ∧ ∀ c ∈ C, ∃ i ∈ C, c ∈ ss i

theorem DI.cycle (D : DI ss order U R fin (some y)) (h : y ∈ R.map (·.n)) : Ring ss order := by
  obtain ⟨C, h1, h2, h3, i, hi, hy⟩ := chain_cycle D.chain h
  refine ⟨C, fun e => (by rw [e] at h1; cases h1), fun c hc => D.mem_iff.mpr (.inr (.inl (h2 c hc))), fun c hc => ?_⟩
  rcases h3 c hc with rfl | q
  · exact ⟨i, hi, hy⟩
  · exact q

theorem FinOK.clos : ∀ {l : List Int}, FinOK ss l → ∀ x ∈ l, ∀ y ∈ ss x, y ∈ l
  | [], _, _, hx, _, _ => nomatch hx
  | z :: r, h, x, hx, y, hy => by
    unfold FinOK at h
    rcases List.mem_cons.mp hx with q | q
    · exact List.mem_cons_of_mem _ (h.2.1 y (q ▸ hy))
    · exact List.mem_cons_of_mem _ (h.2.2.clos x q y hy)
theorem FinOK.noRing {C : List Int} (hC : ∀ c ∈ C, ∃ i ∈ C, c ∈ ss i) : ∀ {l : List Int}, FinOK ss l → (∀ c ∈ C, c ∈ l) → C = []
  | [], _, hl => by
    cases C with
    | nil => rfl
    | cons c r => exact absurd (hl c (List.mem_cons_self ..)) (by simp)
  | z :: r, h, hl => by
    have h' := h
    unfold FinOK at h
    refine FinOK.noRing hC h.2.2 fun c hc => ?_
    rcases List.mem_cons.mp (hl c hc) with q | q
    · exfalso
      obtain ⟨i, hi, hy⟩ := hC c hc
      rw [q] at hy
      rcases List.mem_cons.mp (hl i hi) with q' | q'
      · rw [q'] at hy; exact h.1 (h.2.1 z hy)
      · exact h.1 (h.2.2.clos i q' z hy)
    · exact q
theorem DI.none (D : DI ss order U [] fin nx) (hU : U = []) : ¬ Ring ss order := by
  rintro ⟨C, hne, h1, h2⟩
  refine hne (D.finok.noRing h2 fun c hc => ?_)
  rcases D.mem_iff.mp (h1 c hc) with q | q | q
  · rw [hU] at q; cases q
  · cases q
  · exact q
end
end

/-- the index of a node on the stack (the top stands first) -/
def idx : List Fm → Int → Option Nat
  | [], _ => none
  | f :: r, k => if f.n = k then some r.length else idx r k
theorem idx_none {R : List Fm} {k : Int} : idx R k = none ↔ k ∉ R.map (·.n) := by
  induction R with
  | nil => simp [idx]
  | cons f r ih =>
    unfold idx
    by_cases e : f.n = k
    · simp [e]
    · rw [if_neg e, ih]
      have : ¬ k = f.n := fun q => e q.symm
      simp [this]
theorem idx_lt {R : List Fm} {k : Int} {j : Nat} (h : idx R k = some j) : j < R.length := by
  induction R with
  | nil => cases h
  | cons f r ih =>
    unfold idx at h
    by_cases e : f.n = k
    · rw [if_pos e] at h; cases h; exact Nat.lt_succ_self _
    · rw [if_neg e] at h; exact Nat.lt_succ_of_lt (ih h)
end Mine
end
section
namespace Mine

/-- where a call of the text's stands: the caller's frame L, its facts -/
structure Pt (w : World) (mean : ExcName → Option Value) (mg mb : PySem.Str → Option Value) (L : Addr) (env : Env) (outer : List Env) (A₀ : Around) (base h₀ : Heap) (dp un : Nat) : Prop where
  B : Below A₀ base outer h₀
  X : (hd17.heap_1 w.params).In h₀
  T : Top view17 (looseW view17 [Str.ofString "b2a_base64", Str.ofString "b64encode", Str.ofString "_NodeInfo"]) mean mg mb h₀
  hf : env.frame = some L
  hk : env.scope.kind = .function
  hd : dp < 600
  hu : un < 5000

abbrev Ar (dp un : Nat) (gd : Option (List Code)) (env : Env) (outer : List Env) : Around := { handled := none, depth := dp, frames := some (env :: outer), guards := gd, units := un }

end Mine
end
section
namespace Mine
theorem flush_O17 : (1 : Nat) ≤ 2 := by
  w_top off
  first | walk1 | decide
end Mine
namespace Mine
theorem li_ga : typeLookup (.type "list_iterator") "__getattribute__" = pure (some (.builtin "object.__getattribute__")) := by rw [typeLookup_type, builtinLookup_eq_fast]; kernel_rfl
theorem li_nx : typeLookup (.type "list_iterator") "__next__" = pure (some (.builtin "list_iterator.__next__")) := by rw [typeLookup_type, builtinLookup_eq_fast]; kernel_rfl
theorem li_slot_ga : Slot "list_iterator" "__getattribute__" "object.__getattribute__" := .of (owner := "object") (n := "__getattribute__") (by rw [typeLookup_type, builtinLookup_eq_fast]; kernel_rfl) (by decide +kernel) (by decide +kernel) (by decide +kernel)
    (by first | exact .inl (by decide +kernel) | exact .inr (by decide +kernel)) (by rw [isSubtype_type]; kernel_rfl)
theorem ob_entry_ga : entryFor table "object.__getattribute__" = some Builtin.«object.__getattribute__» := entryFor_of_tree (by kernel_rfl)
theorem ob_args_ga (a b : Value) : argsOk "object.__getattribute__" ⟨[a, b], []⟩ := by unfold argsOk; kernel_rfl
theorem li_tnx : typeOf (.builtin "list_iterator.__next__") = pure (.type "wrapper_descriptor") := by show builtinType _ = _; rw [builtinType_eq_fast]; kernel_rfl
theorem wd_get : Slot "wrapper_descriptor" "__get__" "wrapper_descriptor.__get__" := .of (owner := "wrapper_descriptor") (n := "__get__") (by rw [typeLookup_type, builtinLookup_eq_fast]; kernel_rfl) (by decide +kernel) (by decide +kernel) (by decide +kernel)
    (by first | exact .inl (by decide +kernel) | exact .inr (by decide +kernel)) (by rw [isSubtype_type]; kernel_rfl)
theorem wd_noset : typeLookup (.type "wrapper_descriptor") "__set__" = pure none := by rw [typeLookup_type, builtinLookup_eq_fast]; kernel_rfl
theorem wd_nodel : typeLookup (.type "wrapper_descriptor") "__delete__" = pure none := by rw [typeLookup_type, builtinLookup_eq_fast]; kernel_rfl
theorem wd_entry : entryFor table "wrapper_descriptor.__get__" = some Builtin.«wrapper_descriptor.__get__» := entryFor_of_tree (by kernel_rfl)
theorem wd_args (a b c : Value) : argsOk "wrapper_descriptor.__get__" ⟨[a, b, c], []⟩ := by unfold argsOk; kernel_rfl
theorem nx_owner : (".".intercalate ("list_iterator.__next__".cutAt '.').dropLast) = "list_iterator" := by
  have e0 : "list_iterator.__next__".cutAt '.' = ["list_iterator", "__next__"] := by first | rfl | decide +kernel
  rw [e0]; decide +kernel
theorem li_sub : isSubtype (.type "list_iterator") (.type (".".intercalate ("list_iterator.__next__".cutAt '.').dropLast)) = pure true := by rw [nx_owner, isSubtype_type]; kernel_rfl

abbrev mwObj (it : Addr) : Obj := { cls := .type "method-wrapper", data := .fields #[.builtin "list_iterator.__next__", .ref it] }
abbrev liObj (l : Addr) (i : Int) : Obj := { cls := .type "list_iterator", data := .fields #[.ref l, .int i 0] }

section
variable {prog : Program} {w : World} {A : Around} {E : Value → Shared → Prop} {h : Heap} {g : Array GenState} {d : Drawn} {t : Nat} {os : OsState} {a l : Addr} {i : Int}

theorem nx_get {R : Result → Shared → Prop} (hx : h.get? a = some (liObj l i)) (hq : R (.ok (.ret (.ref h.objs.size))) ⟨h.push (mwObj a), g, d, t, os⟩) :
    codeAny (model prog w) A (.call (.builtin "wrapper_descriptor.__get__") ⟨[.builtin "list_iterator.__next__", .ref a, .type "list_iterator"], []⟩) R ⟨h, g, d, t, os⟩ := by
  have hT : (⟨h, g, d, t, os⟩ : Shared).TypeIs (.ref a) "list_iterator" := ⟨_, hx, rfl⟩
  have hT5 : (⟨h, g, d, t, os⟩ : Shared).TypeIs (.builtin "list_iterator.__next__") "wrapper_descriptor" := li_tnx
  have f8 := li_sub
  have f9 := li_tnx
  refine codeAny_call_builtin wd_get.plain wd_entry (wd_get.check _ _ _ _ _ _ _ _ hT5 (wd_args _ _ _) ?_)
  repeat (any_goals (first | assumption | wp_step))

theorem nx_entry {tk : Tok} {Q : Fin → Shared → Prop} (hx : h.get? a = some (liObj l i)) (hq : Q (.done (.ret (.ref h.objs.size))) ⟨h.push (mwObj a), g, d, t, os⟩) :
    wpAny (model prog w) A (Builtin.«object.__getattribute__» ⟨[.ref a, .str "__next__" tk], []⟩) Q E ⟨h, g, d, t, os⟩ := by
  have hT : (⟨h, g, d, t, os⟩ : Shared).TypeIs (.ref a) "list_iterator" := ⟨_, hx, rfl⟩
  have hT5 : (⟨h, g, d, t, os⟩ : Shared).TypeIs (.builtin "list_iterator.__next__") "wrapper_descriptor" := li_tnx
  have f4 := li_nx
  have f5 := li_tnx
  have f6 := wd_get.lookup
  have f7 := wd_noset
  have f8 := wd_nodel
  repeat (any_goals (first | assumption | wp_step))
  refine nx_get hx ?_
  repeat (any_goals (first | assumption | wp_step))

theorem nx_call {tk : Tok} {R : Result → Shared → Prop} (hx : h.get? a = some (liObj l i)) (hq : R (.ok (.ret (.ref h.objs.size))) ⟨h.push (mwObj a), g, d, t, os⟩) :
    codeAny (model prog w) A (.call (.builtin "object.__getattribute__") ⟨[.ref a, .str "__next__" tk], []⟩) R ⟨h, g, d, t, os⟩ :=
  codeAny_call_builtin li_slot_ga.plain ob_entry_ga (li_slot_ga.check _ _ _ _ _ _ _ _ (show (⟨h, g, d, t, os⟩ : Shared).TypeIs (.ref a) "list_iterator" from ⟨_, hx, rfl⟩) (ob_args_ga _ _) (nx_entry hx hq))

theorem nx_by {tk : Tok} {fill expr : Bool} {Q : Value → Shared → Prop} (hx : h.get? a = some (liObj l i)) (hq : Q (.ref h.objs.size) ⟨h.push (mwObj a), g, d, t, os⟩) : wpAny (model prog w) A (getAttrBy (.ref a) (.str "__next__" tk) fill expr) Q E ⟨h, g, d, t, os⟩ := by
  have hT : (⟨h, g, d, t, os⟩ : Shared).TypeIs (.ref a) "list_iterator" := ⟨_, hx, rfl⟩
  have f2 := li_slot_ga.lookup
  have f3 := li_slot_ga.bind (.ref a)
  cases expr
  all_goals repeat (any_goals (first | assumption | wp_step))
  all_goals refine nx_call hx ?_
  all_goals repeat (any_goals (first | assumption | wp_step))
end

section
variable {prog : Program} {w : World} {A : Around} {E : Value → Shared → Prop} {s : Shared} {h₀ : Heap} {L : Addr} {m : PySem.Str → Option Value} {news news' : List (Addr × Obj)}

theorem get_next {it l : Addr} {i : Int} {expr : Bool} {Q : Value → Shared → Prop} (F : Fr h₀ L s.heap m) (N : News h₀ L s.heap news) (hm : (it, liObj l i) ∈ news)
    (h : ∀ q h', Fr h₀ L h' m → News h₀ L h' ((q, mwObj it) :: news) → (∀ p ∈ news, p.1 < q) → Q (.ref q) { s with heap := h', toks := s.toks + 1 }) :
    wpAny (model prog w) A (getAttr (.ref it) (PySem.Str.ofString "__next__") expr) Q E s := by
  obtain ⟨hh, g, d, t, os⟩ := s
  unfold getAttr
  refine wpAny_bind (wpAny_mkText ?_)
  exact nx_by (N.get hm) (h _ _ (F.push _) (News.push F N _) fun p hp => Heap.lt_size (N p hp).1)

abbrev liDone (i : Int) : Obj := { cls := .type "list_iterator", data := .fields #[.none, .int i 0] }

theorem upd_news {a : Addr} {o o' : Obj} {f : Obj → Obj} (F : Fr h₀ L s.heap m) (N : News h₀ L s.heap news) (U : Upd a o o' news news') (hf : f o = o') (hfr : o'.isFreed = false) :
    Fr h₀ L (s.heap.update a f) m ∧ News h₀ L (s.heap.update a f) news' := by
  obtain ⟨pre, post, rfl, rfl, h1, h2⟩ := U.split
  have z := N (a, o) (List.mem_append.mpr (.inr (.head _)))
  have hs : Heap.SameBut a s.heap (s.heap.update a f) := Heap.SameBut.update ..
  have ho' : (s.heap.update a f).get? a = some o' := by rw [Heap.get?_update_self _ z.1 (by rw [hf]; exact hfr), hf]
  exact ⟨F.change hs z.2.1 z.2.2, news_set N h1 h2 hs ho'⟩

theorem mw_item {q it l : Addr} {i k : Nat} {vs : List Value} {v : Value} {Q : Value → Shared → Prop} (F : Fr h₀ L s.heap m) (N : News h₀ L s.heap news)
    (hq : (q, mwObj it) ∈ news) (hi : (it, liObj l (i : Nat)) ∈ news) (hl : (l, listOf vs.toArray k) ∈ news) (hx : vs[i]? = some v) (U : Upd it (liObj l (i : Nat)) (liObj l ((i + 1 : Nat))) news news')
    (h : ∀ h', Fr h₀ L h' m → News h₀ L h' news' → Q v { s with heap := h' }) : wpAny (model prog w) A (call (.ref q) [] []) Q E s := by
  have hqg := N.get hq
  have hig := N.get hi
  have hlg := N.get hl
  refine wpAny_call (codeAny_of_tree ?_)
  show wpAny _ _ (callAny (.ref q) _) _ _ _
  refine wpAny_bind (wpAny_load hqg ?_)
  have hchk : checkBoundCall "list_iterator.__next__" ⟨[.ref it], []⟩ = pure () := by kernel_rfl
  show wpAny _ _ (checkBoundCall "list_iterator.__next__" ⟨[.ref it], []⟩ >>= fun _ => PySem.again (.builtin "list_iterator.__next__" ⟨[.ref it], []⟩)) _ _ _
  rw [hchk]
  refine wpAny_bind (wpAny_pure ?_)
  show wpAny _ _ (pure _) _ _ _
  refine wpAny_pure ⟨Code.quiet_builtin _ (by decide +kernel), codeAny_builtin entry_listiter_next ?_⟩
  show wpAny _ _ (field (.ref it) 0 >>= _) _ _ s
  refine wpAny_bind (wpAny_field hig rfl (x := .ref l) rfl ?_)
  show wpAny _ _ (if (Value.ref l == Value.none) = true then _ else _) _ _ s
  rw [if_neg (show ¬ ((Value.ref l == Value.none) = true) from Bool.false_ne_true)]
  show wpAny _ _ (field (.ref it) 1 >>= _) _ _ s
  refine wpAny_bind (wpAny_field hig rfl (x := .int i 0) rfl ?_)
  show wpAny _ _ (seqItems? (.ref l) >>= _) _ _ s
  refine wpAny_bind (wpAny_seqItems hlg rfl ?_)
  simp only [Int.toNat_natCast, List.getElem?_toArray, hx]
  refine wpAny_bind (wpAny_setField hig rfl (by simp) ?_)
  obtain ⟨F', N'⟩ := upd_news (f := Obj.mapFields (·.setIfInBounds 1 (rawInt ((i : Int) + 1)))) F N U (by simp [Obj.mapFields, rawInt]) rfl
  exact wpAny_pure (h _ F' N')

theorem mw_end {q it l : Addr} {i k : Nat} {vs : List Value} {Q : Value → Shared → Prop} (hh : A.handled = none) (F : Fr h₀ L s.heap m) (N : News h₀ L s.heap news)
    (hq : (q, mwObj it) ∈ news) (hi : (it, liObj l (i : Nat)) ∈ news) (hl : (l, listOf vs.toArray k) ∈ news) (hx : vs[i]? = none) (U : Upd it (liObj l (i : Nat)) (liDone (i : Nat)) news news')
    (h : ∀ h₁ h' e, Fr h₀ L h₁ m → News h₀ L h₁ news' → Heap.NewExc h₁ h' e "StopIteration" → E (.ref e) { s with heap := h' }) : wpAny (model prog w) A (call (.ref q) [] []) Q E s := by
  have hqg := N.get hq
  have hig := N.get hi
  have hlg := N.get hl
  refine wpAny_call (codeAny_of_tree ?_)
  show wpAny _ _ (callAny (.ref q) _) _ _ _
  refine wpAny_bind (wpAny_load hqg ?_)
  have hchk : checkBoundCall "list_iterator.__next__" ⟨[.ref it], []⟩ = pure () := by kernel_rfl
  show wpAny _ _ (checkBoundCall "list_iterator.__next__" ⟨[.ref it], []⟩ >>= fun _ => PySem.again (.builtin "list_iterator.__next__" ⟨[.ref it], []⟩)) _ _ _
  rw [hchk]
  refine wpAny_bind (wpAny_pure ?_)
  show wpAny _ _ (pure _) _ _ _
  refine wpAny_pure ⟨Code.quiet_builtin _ (by decide +kernel), codeAny_builtin entry_listiter_next ?_⟩
  show wpAny _ _ (field (.ref it) 0 >>= _) _ _ s
  refine wpAny_bind (wpAny_field hig rfl (x := .ref l) rfl ?_)
  show wpAny _ _ (if (Value.ref l == Value.none) = true then _ else _) _ _ s
  rw [if_neg (show ¬ ((Value.ref l == Value.none) = true) from Bool.false_ne_true)]
  show wpAny _ _ (field (.ref it) 1 >>= _) _ _ s
  refine wpAny_bind (wpAny_field hig rfl (x := .int i 0) rfl ?_)
  show wpAny _ _ (seqItems? (.ref l) >>= _) _ _ s
  refine wpAny_bind (wpAny_seqItems hlg rfl ?_)
  simp only [Int.toNat_natCast, List.getElem?_toArray, hx]
  obtain ⟨F', N'⟩ := upd_news (f := Obj.mapFields (·.setIfInBounds 0 .none)) F N U (by simp [Obj.mapFields]) rfl
  refine wpAny_bind (wpAny_rule (wpAny_bind (wpAny_setField hig rfl (by simp) ?_)))
  show wpAny _ _ (newExc (.type "StopIteration") [] >>= _) _ _ _
  refine wpAny_bind ?_
  simp only [newExc, newTuple]
  refine wpAny_bind (wpAny_newObj_type ?_ (by size_fits))
  refine wpAny_bind (m := firstArgMember _ _) (wpAny_of_eq (a := Value.none) (by first | rfl | (simp only [firstArgMember]; rfl)) ?_)
  refine wpAny_newObj_type ?_ (by size_fits)
  simp only [raiseNew]
  refine wpAny_bind (wpAny_handled ?_)
  first
    | rw [show (A.under (Code.builtin "list_iterator.__next__" { pos := [Value.ref it] })).handled = none from hh]
    | rw [hh]
  refine wpAny_bind (wpAny_pure (wpAny_throw ?_))
  refine h _ _ _ F' N' ⟨fun b o hb => Heap.get?_push_of_some _ (Heap.get?_push_of_some _ hb), Heap.get?_none_of_le (by rw [Heap.size_push]; exact Nat.le_succ _), _, _, Heap.get?_push_size _ rfl, rfl, rfl⟩
end
end Mine
namespace Mine
open PySem.Calls
section
variable {prog : Program} {w : World} {A : Around} {E : Value → Shared → Prop} {s : Shared} {h₀ : Heap} {L : Addr} {m : PySem.Str → Option Value} {news news' : List (Addr × Obj)}

theorem iter_list {l : Addr} {vs : List Value} {k : Nat} {Q : Value → Shared → Prop} (F : Fr h₀ L s.heap m) (N : News h₀ L s.heap news) (hm : (l, listOf vs.toArray k) ∈ news)
    (h : ∀ I h', Fr h₀ L h' m → News h₀ L h' ((I, liObj l ((0 : Nat) : Int)) :: news) → (∀ p ∈ news, p.1 < I) → Q (.ref I) { s with heap := h' }) :
    wpAny (model prog w) A (call (.builtin "iter") [.ref l]) Q E s := by
  refine call_function_entry (by decide +kernel) (by decide +kernel) kdk_entry_iter (kdk_args_iter _) ?_
  unfold Builtin.«iter»
  refine wpAny_bind (m := someArgs "iter" 1 2 _) (wpAny_of_eq (a := [Value.ref l]) (by first | rfl | kernel_rfl) ?_)
  show wpAny _ _ (pyIter (.ref l) >>= _) _ _ _
  have hls : s.heap.IsList l vs.toArray := ⟨_, (N _ hm).1, rfl, _, rfl⟩
  refine wpAny_bind (wpAny_pyIter_list hls ?_)
  exact wpAny_pure ⟨_, rfl, h _ _ (F.push _) (News.push F N _ rfl) (fun q hq => Heap.lt_size (N q hq).1)⟩

theorem pop_last {D : Addr} {p : List Value} {y : Value} {n : Nat} {Q : Value → Shared → Prop} (F : Fr h₀ L s.heap m) (N : News h₀ L s.heap news) (U : Upd D (listOf (p ++ [y]).toArray n) (listOf p.toArray (n + 1)) news news')
    (hz : (p ++ [y]).toArray.size ≤ sizeLine) (h : ∀ h', Fr h₀ L h' m → News h₀ L h' news' → Q y { s with heap := h' }) : wpAny (model prog w) A (call (.builtin "list.pop") [.ref D]) Q E s :=
  kl_pop F N (by simpa using kpa_last y p) U (by simpa using hz) h

theorem meets_bool_new_list (l : Addr) (vs : List Value) (k : Nat) (hz : vs.length < 2 ^ 62) : Meets (Builtin.«bool.__new__» ⟨[.type "bool", .ref l], []⟩) (fun _ R s => s.heap.get? l = some (listOf vs.toArray k) ∧ ∀ tk, R (.ok (.ret (.bool (!vs.isEmpty)))) { s with toks := tk }) :=
  Meets.of_wp fun prog w A R s hs => by
    obtain ⟨hp, g, d, tk, os⟩ := s
    obtain ⟨hg, hR⟩ := hs
    have hl : hp.IsList l vs.toArray := ⟨_, hg, rfl, _, rfl⟩
    have f1 := F.conv_sub_bool
    have f2 : ∀ {A : Around} {E : Value → Shared → Prop} {Q : Bool → Shared → Prop} (h : ∀ t, Q (!vs.isEmpty) ⟨hp, g, d, t, os⟩), wpAny (model prog w) A (truthy (.ref l)) Q E ⟨hp, g, d, tk, os⟩ := by
      intro A E Q h
      refine wpAny_truthy_list (s := ⟨hp, g, d, tk, os⟩) (items := vs.toArray) hl (by rw [List.size_toArray]; omega) ?_
      have e : (!vs.toArray.isEmpty) = !vs.isEmpty := by simp
      rw [e]; exact h _
    repeat (any_goals (first | assumption | (refine f2 fun t => ?_) | wp_step))
    all_goals first | exact ⟨_, rfl, hR _⟩ | skip

theorem bool_list {l : Addr} {vs : List Value} {k : Nat} {Q : Value → Shared → Prop} (N : News h₀ L s.heap news) (hm : (l, listOf vs.toArray k) ∈ news) (hz : vs.length < 2 ^ 62) (h : ∀ tk, Q (.bool (!vs.isEmpty)) { s with toks := tk }) :
    wpAny (model prog w) A (call (.type "bool") [.ref l]) Q E s :=
  call_bool_1 (meets_bool_new_list l vs k hz) ⟨N.get hm, fun tk => ⟨rfl, h tk⟩⟩
end
end Mine
namespace Mine
section
variable {prog : Program} {w : World} {A : Around} {E : Value → Shared → Prop} {s : Shared} {h₀ : Heap} {L : Addr} {m : PySem.Str → Option Value} {news news' : List (Addr × Obj)}
theorem append_l {D : Addr} {vs : List Value} {n : Nat} {x : Value} {Q : Value → Shared → Prop} (F : Fr h₀ L s.heap m) (N : News h₀ L s.heap news) (U : Upd D (listOf vs.toArray n) (listOf (vs ++ [x]).toArray (n + 1)) news news')
    (hz : vs.toArray.size ≤ sizeLine) (h : ∀ h', Fr h₀ L h' m → News h₀ L h' news' → Q .none { s with heap := h' }) : wpAny (model prog w) A (call (.builtin "list.append") [.ref D, x]) Q E s :=
  append_K F N (its := vs.toArray) (by rw [List.push_toArray]; exact U) h hz
end
end Mine
namespace Mine
section
variable {prog : Program} {w : World} {A : Around} {E : Value → Shared → Prop} {s : Shared} {h₀ : Heap} {L l : Addr} {m : PySem.Str → Option Value} {news news' : List (Addr × Obj)} {vs ws : List Value} {k k' : Nat} {Q : Value → Shared → Prop}
theorem led_list (N : News h₀ L s.heap news) (hm : (l, listOf vs.toArray k) ∈ news) : s.heap.IsList l vs.toArray := ⟨_, (N _ hm).1, rfl, _, rfl⟩
theorem len_l (N : News h₀ L s.heap news) (hm : (l, listOf vs.toArray k) ∈ news) (hz : vs.toArray.size ≤ sizeLine) (h : ∀ t tk, Q (.int (vs.length : Nat) t) { s with toks := tk }) : wpAny (model prog w) A (call (.builtin "len") [.ref l]) Q E s := by
  refine Calls.call_len_list (led_list N hm) (by rw [sizeLine_eq] at hz; omega) ?_
  rw [List.size_toArray]; exact h _ _
theorem item_last {y : Value} {t : Tok} {value slice : Expr} (N : News h₀ L s.heap news) (hm : (l, listOf (vs ++ [y]).toArray k) ∈ news) (hz : (vs ++ [y]).toArray.size ≤ sizeLine) (h : Q y s)
    (hs : subscripted slice false (.ref l) (.int (-1) t) = operate [.ref l, .int (-1) t] (getItem (.ref l) (.int (-1) t)) := by with_unfolding_all rfl) :
    wpAny (model prog w) A (subscriptTail value slice (.ref l) (.int (-1) t)) Q E s := by
  have hL := led_list N hm
  refine tail_any hL.typeIs slot_list_getitem.lookup (wpAny_getItem_list_neg hL (by decide) (by simp; omega) (by decide) ?_ h) hs
  have e : (-1 + ((vs ++ [y]).toArray.size : Int)).toNat = vs.length := by simp; omega
  rw [e]
  simp
theorem add_l {b : Addr} (F : Fr h₀ L s.heap m) (N : News h₀ L s.heap news) (hm : (l, listOf vs.toArray k) ∈ news) (hb : (b, listOf ws.toArray k') ∈ news) (hz : vs.length + ws.length ≤ sizeLine)
    (h : ∀ D h', Fr h₀ L h' m → News h₀ L h' ((D, listOf (vs ++ ws).toArray 0) :: news) → (∀ p ∈ news, p.1 < D) → Q (.ref D) { s with heap := h' }) : wpAny (model prog w) A (binaryOp .Add (.ref l) (.ref b)) Q E s :=
  add_lists F N (led_list N hm) (led_list N hb) (fun h' F' N' => h _ h' F' N' fun p hp => Heap.lt_size (N p hp).1) hz
theorem slice_l {value slice : Expr} {vl vu : Value} {lo hi : Option Int} (F : Fr h₀ L s.heap m) (N : News h₀ L s.heap news) (hm : (l, listOf vs.toArray k) ∈ news) (hz : vs.toArray.size ≤ sizeLine) (pl : IsPart vl lo) (pu : IsPart vu hi)
    (h : ∀ D us h', us.length ≤ vs.length → us = (slicePick vs.toArray lo hi none).toList → Fr h₀ L h' m → News h₀ L h' ((D, listOf (List.toArray us) 0) :: news) → (∀ p ∈ news, p.1 < D) → Q (.ref D) { s with heap := h' })
    (hs : subscripted slice false (.ref l) (.ref s.heap.objs.size) = operate [.ref s.heap.objs.size, .ref l] (getItem (.ref l) (.ref s.heap.objs.size)) := by with_unfolding_all rfl) (ht : ∀ r, letTemporaryGo value (.ref l) r = pure () := by intro _; with_unfolding_all rfl) :
    wpAny (model prog w) A (subscriptTail value slice (.ref l) (.ref s.heap.objs.size)) Q E { s with heap := s.heap.push { cls := .type "slice", data := .fields #[vl, vu, .none] } } := by
  refine kmk_slice F N (led_list N hm) pl pu (fun D h' F' N' l1 => h D (slicePick vs.toArray lo hi none).toList h' ?_ rfl F' ?_ l1) hs ht hz
  · have q := slicePick_size_le vs.toArray lo hi none
    rw [Array.length_toList]
    simpa using q
  · rw [Array.toArray_toList]
    exact N'
end
end Mine
namespace Mine
section
variable {prog : Program} {w : World} {A : Around} {E : Value → Shared → Prop} {s : Shared} {h₀ : Heap} {L : Addr} {m : PySem.Str → Option Value} {news : List (Addr × Obj)}
theorem callWith_mw {pos : Pos} {q it : Addr} {Q : Value → Shared → Prop} (N : News h₀ L s.heap news) (hq : (q, mwObj it) ∈ news) (h : wpAny (model prog w) A (call (.ref q) [] []) Q E s) :
    wpAny (model prog w) A (callWith pos (.ref q) [] [] []) Q E s := by
  have ho := N.get hq
  unfold callWith
  refine wpAny_bind (wpAny_holding (wpAny_mono (evalArgs_nil3 (Q := fun x s₁ => x = ⟨[], []⟩ ∧ s₁ = s) ⟨rfl, rfl⟩) (fun x s₁ h₁ => ?_) fun _ _ x => x))
  obtain ⟨rfl, rfl⟩ := h₁
  refine wpAny_bind (wpAny_standAt ?_)
  refine wpAny_bind (m := keeperOf (.ref q)) ?_
  unfold keeperOf
  refine wpAny_bind (wpAny_load ho ?_)
  simp only [mwObj, show (Value.type "method-wrapper" != Value.type "method") = true by decide, show (Value.type "method-wrapper" == Value.type "builtin_function_or_method" || Value.type "method-wrapper" == Value.type "method-wrapper") = true by decide, if_true]
  refine wpAny_pure ?_
  exact wpAny_bind (wpAny_mono h (fun r s₂ hr => wpAny_bind (wpAny_holding (wpAny_point (wpAny_pure hr)))) fun _ _ x => x)
theorem truthy_l {a : Addr} {vs : List Value} {n : Nat} {Q : Bool → Shared → Prop} (N : News h₀ L s.heap news) (hm : (a, listOf vs.toArray n) ∈ news) (b : Bool) (hb : (!vs.isEmpty) = b) (hz : vs.toArray.size ≤ sizeLine) (h : ∀ tk, Q b { s with toks := tk }) :
    wpAny (model prog w) A (truthy (.ref a)) Q E s :=
  kgr_truthy N hm rfl rfl (by rw [sizeLine_eq] at hz; simp at hz; omega) (by rw [hb]; exact h _)
end
end Mine
end
section
namespace Mine
section
variable {prog : Program} {w : World} {A₀ : Around} {E : Value → Shared → Prop} {s' : Shared} {base g g₀ h : Heap} {outer : List Env} {L a e : Addr} {m : PySem.Str → Option Value} {name : PySem.Str} {scope : Scope} {cd : Value}
  {b₀ : Stmt} {suite : List Stmt} {pos np : Pos} {rest : List ExceptHandler} {Q : Flow → Shared → Prop} {news : List (Addr × Obj)} {KF : Frag}
  {p : Program} {loose : List PySem.Str} {mean : ExcName → Option Value} {mg mb : PySem.Str → Option Value} {x : PySem.Str} {X T' : String}

/-- the ground of a frame below others -/
structure Gd (KF : Frag) (p : Program) (loose : List PySem.Str) (mean : ExcName → Option Value) (mg mb : PySem.Str → Option Value) (A₀ : Around) (base : Heap) (outer : List Env) (g₀ g : Heap) : Prop where
  B : Below A₀ base outer g
  X : KF.In g
  T : Top p loose mean mg mb g
  XB : KF.In base
  TB : Top p loose mean mg mb base
  D : KtsDicts (outer.filterMap (·.frame)) g
  U : KtsTurn (outer.filterMap (·.frame)) g₀ g

/-- a new exception of the frame's own is caught -/
theorem caught_own (Z : Gd KF p loose mean mg mb A₀ base outer g₀ g) (hx : Heap.NewExc h s'.heap e X) (F : Fr g L h m) (N : News g L h news)
    (ex : nsIn KF mainGlobals x = some none) (hv : bootBuiltins x = some (.type T')) (hn' : x ≠ "__name__")
    (hexc : isSubtype (.type T') (.type "BaseException") = pure true) (hnt : isSubtype (.type ((Manifest.find? T').elim "type" fun y => y.metatype)) (.type "tuple") = pure false) (hsub : isSubtype (.type X) (.type T') = pure true)
    (k : ∀ h' g', Gd KF p loose mean mg mb A₀ base outer g₀ g' → Fr g' L h' m → News g' L h' news →
      wpAny (model prog w) ((A₀.deeper (envOf name scope L a cd)).mark (some (.ref e))) (execs (b₀ :: suite) (envOf name scope L a cd)) Q E { s' with heap := h' })
    (hk : scope.kind = .function := by rfl) (hx' : (envOf name scope L a cd).kindOf x = some .globalImplicit := by rfl) (hd : (x == ("__debug__" : PySem.Str)) = false := by decide)
    (hE : PassesOwnAt (model prog w) ((A₀.deeper (envOf name scope L a cd)).mark (some (.ref e))) (A₀.deeper (envOf name scope L a cd)) (envOf name scope L a cd) E := by passes_own) :
    wpAny (model prog w) (A₀.deeper (envOf name scope L a cd)) (noteFrame (.ref e) (envOf name scope L a cd))
      (fun _ s₂ => wpAny (model prog w) (A₀.deeper (envOf name scope L a cd)) (setFlight (.ref e) none) (fun _ s₃ =>
        wpAny (model prog w) (A₀.deeper (envOf name scope L a cd)) (handleBy (.ref e) (envOf name scope L a cd) (.ExceptHandler (some (.Name x np)) none (b₀ :: suite) pos :: rest)) Q E s₃) E s₂) E s' := by
  obtain ⟨K, X₀, P₀, XB, TB, D, T0⟩ := Z
  have K' := K.push (name := name) (a := a) (cd := cd) F hk
  have hin : ∀ env ∈ (envOf name scope L a cd :: outer), ∀ b, env.frame = some b → b ∈ (envOf name scope L a cd :: outer).filterMap (·.frame) := fun env he b hb => List.mem_filterMap.mpr ⟨env, he, hb⟩
  have st : base.StaysIn (hideAll h ((envOf name scope L a cd :: outer).filterMap (·.frame))) := fun b o q => hideAll_get _ (K'.stays b o q) fun hm => by
    rw [(K'.frames.mem hm).1] at q; cases q
  have hBG : ∀ b o, h.get? b = some o → b ∉ (envOf name scope L a cd :: outer).filterMap (·.frame) → (hideAll h ((envOf name scope L a cd :: outer).filterMap (·.frame))).get? b = some o := fun b o q nm => hideAll_get _ q nm
  have hl : ∀ q ∈ news, (hideAll h ((envOf name scope L a cd :: outer).filterMap (·.frame))).get? q.1 = some q.2 ∧ g.get? q.1 = none := fun q hq => by
    refine ⟨hideAll_get _ (N q hq).1 fun hm => ?_, (N q hq).2.2⟩
    rcases kts_mem hm with z | z
    · exact (N q hq).2.1 z
    · obtain ⟨o, ho, _⟩ := (K.frames.mem z).2
      rw [(N q hq).2.2] at ho; cases ho
  have hL : (hideAll h ((envOf name scope L a cd :: outer).filterMap (·.frame))).get? L = none := hideAll_none _ (List.mem_filterMap.mpr ⟨_, List.mem_cons_self, rfl⟩)
  obtain ⟨ob, tp, he, hcls, hd'⟩ := hx.there
  have hen : (hideAll h ((envOf name scope L a cd :: outer).filterMap (·.frame))).get? e = none := by
    cases q : (hideAll h ((envOf name scope L a cd :: outer).filterMap (·.frame))).get? e with
    | none => rfl
    | some o => have := of_hideAll _ q; rw [hx.new] at this; cases this
  unfold noteFrame
  simp only [show (envOf name scope L a cd).frame = some L from rfl]
  refine wpAny_bind (wpAny_field he hd' (x := .none) rfl ?_)
  rw [if_neg (by decide)]
  refine wpAny_entryW (a0 := tp) K'.stack ((funFrames_hide K'.frames hin).of_keeps fun b o hb _ => ⟨o, hx.keeps b o hb, rfl⟩) rfl he (fun b o hb => hx.keeps b o (of_hideAll _ hb)) hen hd' (by show 1 < 6; decide) rfl fun h₄ hN => ?_
  obtain ⟨k1, k2, k3, k4⟩ := hN
  rw [hcls] at k3
  have hheld₄ : Heap.HeldW (hideAll h ((envOf name scope L a cd :: outer).filterMap (·.frame))) (envOf name scope L a cd :: outer) e (.type X) tp L h₄ := ⟨k1, hen, k2, k3⟩
  have hsm : h.UpToSlots h₄ := (Heap.UpToSlots.of_keeps hx.keeps).trans k4
  refine wpAny_landsW hheld₄ fun h₅ hheld hsm₅ => ?_
  obtain ⟨g₅, T₅, F₅, K₅⟩ := kts_ground K F hBG hheld.1 (hsm.trans hsm₅)
  have X₅ : KF.In g₅ := XB.keeps K₅.stays
  have P₅ : TopRead p loose mg mb g₅ := topRead_of (TB.keeps K₅.stays)
  obtain ⟨ob', hob, hobc⟩ := hheld.there
  refine wpAny_handleBy_builtin (X := X) (T := T') (b := true) hexc hnt hsub (name_B F₅ X₅ P₅ ex hv hn' ⟨rfl, ⟨ob', hob, hobc⟩, ?_⟩ hk hx' hd)
  refine lands_againW hheld fun h₆ hfl₆ hsm₆ => ?_
  obtain ⟨g₆, T₆, F₆, K₆⟩ := kts_ground K F hBG hfl₆.1 ((hsm.trans hsm₅).trans hsm₆)
  have Nl : News g₆ L h₆ news := fun q hq => ⟨hfl₆.1 _ _ (hl q hq).1, (fun z => by have := (hl q hq).1; rw [z, hL] at this; cases this), T₆.none_ _ (hl q hq).2⟩
  exact wpAny_passesOwnAt hE (k h₆ g₆ ⟨K₆, XB.keeps K₆.stays, TB.keeps K₆.stays, XB, TB, D.turn T₆, T0.trans T₆⟩ F₆ Nl)
end

section
variable {prog : Program} {w : World} {A : Around} {E : Value → Shared → Prop} {s : Shared} {env : Env} {h₀ : Heap} {x : PySem.Str} {body : List Stmt} {Q : Flow → Shared → Prop} {Z : Heap → Prop}

/-- the state between the turns -/
inductive LgI (Z : Heap → Prop) (L : Addr) (J : Nat → (PySem.Str → Option Value) → List (Addr × Obj) → Prop) (n : Nat) (St : Nat → Heap → Prop) (I : Addr) (s₂ : Shared) (k : Nat) (s' : Shared) : Prop where
  | mk : ∀ g' h' tk m' nx i, s' = { s₂ with heap := h', toks := tk } → St i h' → Z g' → Fr g' L h' m' → News g' L h' nx → (∀ q ∈ nx, q.1 ≠ I) → g'.get? I = none → J i m' nx → i ≤ n → k = n + 1 - i → LgI Z L J n St I s₂ k s'
inductive WgI (Z : Heap → Prop) (L : Addr) (J : Nat → (PySem.Str → Option Value) → List (Addr × Obj) → Prop) (s : Shared) (n : Nat) (s' : Shared) : Prop where
  | mk : ∀ g₁ h₁ tk₁ m₁ nx, s' = { s with heap := h₁, toks := tk₁ } → Z g₁ → Fr g₁ L h₁ m₁ → News g₁ L h₁ nx → J n m₁ nx → WgI Z L J s n s'
/-- the end of a turn, the ground turned -/
inductive LgEnd (Z : Heap → Prop) (L : Addr) (J : (PySem.Str → Option Value) → List (Addr × Obj) → Prop) (I : Addr) (oi : Obj) (s₁ s₂ : Shared) : Prop where
  | mk : ∀ g' h' tk m' nx, (s₂ = { s₁ with heap := h', toks := tk }) → (Z g') → (Fr g' L h' m') → (News g' L h' ((I, oi) :: nx)) → ((∀ q ∈ nx, q.1 ≠ I)) → (J m' nx) → LgEnd Z L J I oi s₁ s₂
def LgPost (Z : Heap → Prop) (L : Addr) (J : (PySem.Str → Option Value) → List (Addr × Obj) → Prop) (I : Addr) (oi : Obj) (s₁ : Shared) (Q : Flow → Shared → Prop) (f : Flow) (s₂ : Shared) : Prop :=
  match f with
  | .ret v => Q (.ret v) s₂
  | .brk => Q .next s₂
  | _ => LgEnd Z L J I oi s₁ s₂
theorem LgEnd.intro {g' : Heap} {L : Addr} {J : (PySem.Str → Option Value) → List (Addr × Obj) → Prop} {I : Addr} {oi : Obj} {s₁ : Shared} {h' : Heap} {tk : Nat} {m' : PySem.Str → Option Value} {nx : List (Addr × Obj)}
    (hz : Z g') (F : Fr g' L h' m') (N : News g' L h' ((I, oi) :: nx)) (hn : ∀ q ∈ nx, q.1 ≠ I) (hj : J m' nx) : LgEnd Z L J I oi s₁ { s₁ with heap := h', toks := tk } := ⟨g', h', tk, m', nx, rfl, hz, F, N, hn, hj⟩

/-- what a for over a source of the ledger's asks -/
inductive LoopG (prog : Program) (w : World) (A : Around) (Z : Heap → Prop) (env : Env) (x : PySem.Str) (body : List Stmt) (Q : Flow → Shared → Prop) (E : Value → Shared → Prop) (it : Value) (s₂ : Shared) : Prop where
  | mk : ∀ (I : Addr) (fp : List Addr) (n : Nat) (P : Nat → Value → Prop) (St : Nat → Heap → Prop) (m : PySem.Str → Option Value) (g : Heap) (news srcs : List (Addr × Obj)) (J : Nat → (PySem.Str → Option Value) → List (Addr × Obj) → Prop), (it = .ref I) → (Walks prog w A I fp [I] n P St) → ((∀ b ∈ fp, b = I ∨ ∃ o, (b, o) ∈ srcs)) → ((∀ i m nx, J i m nx → ∀ p ∈ srcs, p ∈ nx)) → (env.locals ≠ I) → (g.get? I = none) → ((∀ i h, St i h → ∃ o, h.get? I = some o)) → (St 0 s₂.heap) → (Z g) → (Fr g env.locals s₂.heap m) → (News g env.locals s₂.heap news) → ((∀ q ∈ news, q.1 ≠ I)) → (J 0 m news) → ((∀ i v g₁ m₁ nx h tk oi, i < n → P i v → (∀ q ∈ nx, q.1 ≠ I) → J i m₁ nx → Z g₁ → Fr g₁ env.locals h (fun y => if y = x then some v else m₁ y) → News g₁ env.locals h ((I, oi) :: nx) → wpAny (model prog w) A (execs body env) (LgPost Z env.locals (J (i + 1)) I oi { s₂ with heap := h, toks := tk } Q) E { s₂ with heap := h, toks := tk })) → ((∀ g₁ m₁ nx h tk, J n m₁ nx → Z g₁ → Fr g₁ env.locals h m₁ → News g₁ env.locals h nx → Q .next { s₂ with heap := h, toks := tk })) → LoopG prog w A Z env x body Q E it s₂

theorem For_G {px pos : Pos} {iter : Expr} (Z : Heap → Prop) (hx : env.kindOf x = some .local)
    (hp : (env.scope.kind == .class || (env.scope.kind == .module && env.locals != env.globals)) = false)
    (h : wpAny (model prog w) A (eval iter env) (fun xv s₁ => wpAny (model prog w) A (pyIter xv) (fun it s₂ => LoopG prog w A Z env x body Q E it s₂) E s₁) E s)
    (hs : ∀ x, foldedSetIterable iter env x = pure x := by intro _; rfl)
    (hE : PassesOwn (model prog w) A env E := by passes_own) :
    wpAny (model prog w) A (exec (.For (.Name x px) iter body [] pos) env) Q E s := by
  refine wpAny_For (wpAny_mono h (fun xv s₁ h₁ => wpAny_mono h₁ (fun it s₂ h₂ => ?_) fun _ _ e => e) fun _ _ e => e) hs
  obtain ⟨I, fp, n, P, St, m, g, news, srcs, J, rfl, W, hfp, hsrc, hL, hI₀, hIt, hst, hz, F, N, hoff, h0, step, hQ⟩ := h₂
  refine codeAny_forLoop (R := fun r s' => match r with | .ok f => Q f s' | .error e => cameBackBy (model prog w) A env E e s')
    (LgI Z env.locals J n St I s₂) ?_ (n + 1)
    ⟨g, s₂.heap, s₂.toks, m, news, 0, rfl, hst, hz, F, N, hoff, hI₀, h0, Nat.zero_le _, rfl⟩
  rintro k s' ⟨g', h', tk, m', nx, i, rfl, hst', hz', F', N', hoff', hI', hJ, hi, rfl⟩
  have hLf : env.locals ∉ fp := fun hm => by
    rcases hfp _ hm with e | ⟨o, ho⟩
    · exact hL e
    · exact (N' _ (hsrc _ _ _ hJ _ ho)).2.1 rfl
  have next : ∀ h₁ : Heap, (∀ b o, b ∉ [I] → h'.get? b = some o → h₁.get? b = some o) → Fr g' env.locals h₁ m' ∧ News g' env.locals h₁ nx := fun h₁ hk₁ =>
    ⟨⟨F'.ns.at' fun o e => hk₁ _ o (fun q => hL (List.mem_singleton.mp q)) e, fun b o e => hk₁ b o (fun q => by rw [List.mem_singleton.mp q, hI'] at e; cases e) (F'.keep b o e), F'.above⟩,
     fun p hp => ⟨hk₁ _ _ (fun q => hoff' p hp (List.mem_singleton.mp q)) (N' p hp).1, (N' p hp).2⟩⟩
  by_cases hlt : i < n
  · refine W.item i _ _ _ hlt hst' fun v h₁ tk₁ hP hst₁ hk₁ => ?_
    obtain ⟨F₁, N₁⟩ := next h₁ hk₁
    refine wpAny_assign_Name (wpAny_storeName_local hx F₁.ns (fun h₂ hn₂ hs₂ => ?_) hp)
    have F₂ := F₁.set hn₂ hs₂
    have N₂ := N₁.set hs₂
    have hst₂ : St (i + 1) h₂ := W.frame _ _ _ hst₁ fun b hb o e => (hs₂.2 b fun q => hLf (q ▸ hb)).trans e
    obtain ⟨oi, hoi⟩ := hIt _ _ hst₂
    have N₃ : News g' env.locals h₂ ((I, oi) :: nx) := by
      intro p hp
      rcases List.mem_cons.mp hp with rfl | hp
      · exact ⟨hoi, fun q => hL q.symm, hI'⟩
      · exact N₂ p hp
    refine wpAny_passesOwn hE (wpAny_mono (step i v g' m' nx h₂ _ oi hlt hP hoff' hJ hz' F₂ N₃) (fun f s₃ h₃ => ?_) fun _ _ e => e)
    have fin : LgEnd Z env.locals (J (i + 1)) I oi { s₂ with heap := h₂, toks := tk₁ + 1 } s₃ → ∃ m, m < n + 1 - i ∧ LgI Z env.locals J n St I s₂ m s₃ := by
      rintro ⟨g₄, h₄, tk₄, m₄, nx₄, rfl, hz₄, F₄, N₄, ho₄, hJ₄⟩
      refine ⟨n + 1 - (i + 1), by omega, g₄, h₄, tk₄, m₄, nx₄, i + 1, rfl, ?_, hz₄, F₄, fun p hp => N₄ p (.tail _ hp), ho₄, (N₄ _ (.head _)).2.2, hJ₄, hlt, rfl⟩
      refine W.frame _ _ _ hst₂ fun b hb o e => ?_
      rcases hfp b hb with rfl | ⟨o', ho'⟩
      · rw [hoi] at e
        cases e
        exact (N₄ _ (.head _)).1
      · have e1 := (N₂ _ (hsrc _ _ _ hJ _ ho')).1
        rw [show ((b, o') : Addr × Obj).1 = b from rfl, e] at e1
        cases e1
        exact (N₄ _ (.tail _ (hsrc _ _ _ hJ₄ _ ho'))).1
    cases f with
    | ret v => exact h₃
    | brk => exact h₃
    | next => exact fin h₃
    | cont => exact fin h₃
  · have hin : i = n := by omega
    subst hin
    refine W.done _ _ _ hst' fun h₁ tk₁ hk₁ => wpAny_execs_nil ?_
    obtain ⟨F₁, N₁⟩ := next h₁ hk₁
    exact hQ g' m' nx h₁ tk₁ hJ hz' F₁ N₁

theorem itG_keys {m₀ : PySem.Str → Option Value} {news : List (Addr × Obj)} (J : Nat → (PySem.Str → Option Value) → List (Addr × Obj) → Prop) {K : Type} [DecidableEq K] {knd : KeyKind prog w K} {d : Addr} {o : Obj} {kvs : List (K × Value)} (lo : (d == sysModules) = false) (hd : o.IsDictOf knd kvs) (hh : A.handled = none) (hz : Z h₀) (F : Fr h₀ env.locals s.heap m₀) (N : News h₀ env.locals s.heap news) (hm : (d, o) ∈ news) (hj : J 0 m₀ news)
    (hk : ∀ i m nx, J i m nx → (d, o) ∈ nx)
    (turn : ∀ i v kk xx g₁ m₁ nx h tk I oi, kvs[i]? = some (kk, xx) → knd.is kk v = true → (∀ q ∈ news, q.1 < I) → (∀ q ∈ nx, q.1 ≠ I) → J i m₁ nx → Z g₁ → Fr g₁ env.locals h (fun y => if y = x then some v else m₁ y) → News g₁ env.locals h ((I, oi) :: nx) →
      wpAny (model prog w) A (execs body env) (LgPost Z env.locals (J (i + 1)) I oi { s with heap := h, toks := tk } Q) E { s with heap := h, toks := tk })
    (done : ∀ g₁ m₁ nx h tk, J kvs.length m₁ nx → Z g₁ → Fr g₁ env.locals h m₁ → News g₁ env.locals h nx → Q .next { s with heap := h, toks := tk }) :
    wpAny (model prog w) A (pyIter (.ref d)) (fun it s₂ => LoopG prog w A Z env x body Q E it s₂) E s := by
  obtain ⟨ep, hls⟩ := (kda_dict N hm hd).dictAt
  refine wpAny_pyIter_dict lo hls ?_
  obtain ⟨a1, a2, a3, a4, a5⟩ := it_fresh F N { cls := .type "dict_keyiterator", data := .fields #[.ref d, .int 0 0, .int kvs.length 0, .int ep 0] }
  have hne : d ≠ s.heap.objs.size := a5 _ hm
  have W := Walks.dictKeys (prog := prog) (w := w) (knd := knd) hh s.heap.objs.size d hne kvs ep
  refine ⟨s.heap.objs.size, _, _, _, _, m₀, h₀, news, [(d, o)], J, rfl, W, ?_, ?_, a1, a2, ?_, ⟨⟨_, Heap.get?_push_size _ rfl, rfl, rfl⟩, hls.at' fun o e => Heap.get?_push_of_some _ e⟩, hz, a3, a4, a5, hj, ?_, ?_⟩
  · intro b hb
    rcases List.mem_cons.mp hb with e | hb
    · exact .inl e
    · exact .inr ⟨_, by rw [List.mem_singleton.mp hb]; exact .head _⟩
  · intro i m nx hJ p hp
    rw [List.mem_singleton.mp hp]; exact hk i m nx hJ
  · rintro i h ⟨⟨o, ho, _⟩, _⟩
    exact ⟨o, ho⟩
  · rintro i v g₁ m₁ nx h tk oi hi ⟨kk, xx, hx, hkk⟩ hoff hJ hz F₁ N₁
    exact turn i v kk xx g₁ m₁ nx h tk _ oi hx hkk (fun q hq => Heap.lt_size (N q hq).1) hoff hJ hz F₁ N₁
  · exact done

/-- a while whose ground may turn -/
inductive WgEnd (Z : Heap → Prop) (L : Addr) (J : Nat → (PySem.Str → Option Value) → List (Addr × Obj) → Prop) (n : Nat) (s₁ s₂ : Shared) : Prop where
  | mk : ∀ g' h' tk m' nx n', (s₂ = { s₁ with heap := h', toks := tk }) → (Z g') → (Fr g' L h' m') → (News g' L h' nx) → (n' < n) → (J n' m' nx) → WgEnd Z L J n s₁ s₂
def WgPost (Z : Heap → Prop) (L : Addr) (J : Nat → (PySem.Str → Option Value) → List (Addr × Obj) → Prop) (n : Nat) (s₁ : Shared) (Q : Flow → Shared → Prop) (f : Flow) (s₂ : Shared) : Prop :=
  match f with
  | .ret v => Q (.ret v) s₂
  | .brk => Q .next s₂
  | _ => WgEnd Z L J n s₁ s₂
theorem WgEnd.intro {g' : Heap} {L : Addr} {J : Nat → (PySem.Str → Option Value) → List (Addr × Obj) → Prop} {n n' : Nat} {s₁ : Shared} {h' : Heap} {tk : Nat} {m' : PySem.Str → Option Value} {nx : List (Addr × Obj)}
    (hz : Z g') (F : Fr g' L h' m') (N : News g' L h' nx) (hn : n' < n) (hj : J n' m' nx) : WgEnd Z L J n s₁ { s₁ with heap := h', toks := tk } := ⟨g', h', tk, m', nx, n', rfl, hz, F, N, hn, hj⟩

theorem whG_inv {L : Addr} {test : Expr} {orelse : List Stmt} {pos : Pos} {m : PySem.Str → Option Value} {news : List (Addr × Obj)} (J : Nat → (PySem.Str → Option Value) → List (Addr × Obj) → Prop) {n₀ : Nat}
    (hz : Z h₀) (F : Fr h₀ L s.heap m) (N : News h₀ L s.heap news) (hJ : J n₀ m news)
    (turn : ∀ n g₁ m₁ nx h tk, Z g₁ → Fr g₁ L h m₁ → News g₁ L h nx → J n m₁ nx →
      wpAny (model prog w) A (isTrue test env (eval test env)) (fun b s₂ =>
        if b = true then wpAny (model prog w) A (execs body env) (WgPost Z L J n s Q) (fun _ _ => False) s₂ else wpAny (model prog w) A (execs orelse env) Q (fun _ _ => False) s₂) (fun _ _ => False) { s with heap := h, toks := tk }) :
    wpAny (model prog w) A (exec (.While test body orelse pos) env) Q E s := by
  refine wpAny_noRaise ?_
  refine wpAny_While (codeAny_whileLoop (WgI Z L J s) ?_ n₀ ⟨h₀, s.heap, s.toks, m, news, rfl, hz, F, N, hJ⟩)
  rintro n s' ⟨g₁, h₁, tk₁, m₁, nx, rfl, hz₁, F₁, N₁, J₁⟩
  refine wpAny_mono (turn n g₁ m₁ nx h₁ tk₁ hz₁ F₁ N₁ J₁) (fun b s₂ h₂ => ?_) fun _ _ e => e.elim
  cases b with
  | false =>
    simp only [Bool.false_eq_true, if_false] at h₂ ⊢
    exact wpAny_mono h₂ (fun _ _ q => q) fun _ _ e => e.elim
  | true =>
    simp only [if_true] at h₂ ⊢
    refine wpAny_mono h₂ (fun f s₃ h₃ => ?_) fun _ _ e => e.elim
    have fin : WgEnd Z L J n s s₃ → ∃ m, m < n ∧ WgI Z L J s m s₃ := by
      rintro ⟨g', h', tk, m', nx', n', e, hz', F', N', hn, hJ'⟩
      exact ⟨n', hn, g', h', tk, m', nx', e, hz', F', N', hJ'⟩
    cases f with
    | ret v => exact h₃
    | brk => exact h₃
    | next => exact fin h₃
    | cont => exact fin h₃
end
/-- the end of a part of a body -/
def PartPost (P : Shared → Prop) (Q : Flow → Shared → Prop) (f : Flow) (s₂ : Shared) : Prop := match f with
  | .next => P s₂
  | .ret v => Q (.ret v) s₂
  | .brk => Q .brk s₂
  | .cont => Q .cont s₂
end Mine
end
section
namespace Mine

theorem news_sub {h₀ h : Heap} {L : Addr} {a b : List (Addr × Obj)} (N : News h₀ L h a) (hs : ∀ p ∈ b, p ∈ a) : News h₀ L h b := fun p hp => N p (hs p hp)

theorem valueAt_stored (kvs : List (Int × Value)) (k j : Int) (v : Value) : valueAt (stored kvs k v) j = if j = k then some v else valueAt kvs j := by
  unfold stored
  by_cases hc : kvs.any (fun kv => kv.1 = k) = true
  · rw [if_pos hc]
    induction kvs with
    | nil => simp at hc
    | cons kv r ih =>
      unfold valueAt at ih ⊢
      rw [List.map_cons, List.find?_cons, List.find?_cons]
      by_cases h1 : kv.1 = k
      · rw [if_pos h1]
        by_cases h2 : j = k
        · subst h2; simp [h1]
        · have h3 : ¬ kv.1 = j := fun e => h2 (by rw [← e, h1])
          simp only [h3, decide_false, if_neg h2]
          have hf : ∀ r : List (Int × Value), (List.find? (fun kv => decide (kv.1 = j)) (r.map fun kv => if kv.1 = k then (kv.1, v) else kv)).map (·.2) = (List.find? (fun kv => decide (kv.1 = j)) r).map (·.2) := by
            intro r
            induction r with
            | nil => rfl
            | cons a r ih2 =>
              rw [List.map_cons, List.find?_cons, List.find?_cons]
              by_cases h4 : a.1 = k
              · have h5 : ¬ a.1 = j := fun e => h2 (by rw [← e, h4])
                simp only [h4, if_true] at h5 ⊢
                have h6 : ¬ k = j := fun e => h2 e.symm
                simp only [h6, decide_false]
                exact ih2
              · simp only [h4, if_false]
                by_cases h5 : a.1 = j
                · simp [h5]
                · simp only [h5, decide_false]; exact ih2
          exact hf r
      · rw [if_neg h1]
        have hc' : r.any (fun kv => decide (kv.1 = k)) = true := by
          simpa [h1] using hc
        by_cases h2 : kv.1 = j
        · have : ¬ j = k := fun e => h1 (by rw [h2, e])
          simp [h2, this]
        · simp only [h2, decide_false]
          exact ih hc'
  · rw [if_neg hc]
    unfold valueAt
    rw [List.find?_append]
    by_cases h2 : j = k
    · subst h2
      have : List.find? (fun kv : Int × Value => decide (kv.1 = j)) kvs = none := by
        rw [List.find?_eq_none]
        intro x hx e
        exact hc (List.any_eq_true.mpr ⟨x, hx, e⟩)
      rw [this]
      simp
    · rw [if_neg h2]
      have h3 : ¬ k = j := fun e => h2 e.symm
      cases List.find? (fun kv : Int × Value => decide (kv.1 = j)) kvs <;> simp [h3]

theorem valueAt_without (kvs : List (Int × Value)) (k j : Int) : valueAt (without kvs k) j = if j = k then none else valueAt kvs j := by
  unfold without valueAt
  induction kvs with
  | nil => simp
  | cons a r ih =>
    rw [List.filter_cons]
    by_cases h1 : a.1 = k
    · simp only [h1, ne_eq, not_true, decide_false, Bool.false_eq_true, if_false]
      rw [ih, List.find?_cons]
      by_cases h2 : j = k
      · simp [h2]
      · have h3 : ¬ a.1 = j := fun e => h2 (by rw [← e, h1])
        simp [h2, h3]
    · simp only [h1, ne_eq, not_false_iff, decide_true, if_true, List.find?_cons]
      by_cases h2 : a.1 = j
      · have : ¬ j = k := fun e => h1 (by rw [h2, e])
        simp [h2, this]
      · simp only [h2, decide_false]
        exact ih
theorem without_len (kvs : List (Int × Value)) (k : Int) : (without kvs k).length ≤ kvs.length := List.length_filter_le _ _
theorem stored_len {kvs : List (Int × Value)} {k : Int} {v : Value} : (stored kvs k v).length ≤ kvs.length + 1 := by
  unfold stored
  split <;> simp

theorem ints_snoc {vs : List Value} {ns : List Int} {n : Int} {t : Tok} (h : IntsAre vs ns) : IntsAre (vs ++ [.int n t]) (ns ++ [n]) := by
  induction h with
  | nil => exact .cons n t .nil
  | cons k u _ ih => exact .cons k u ih
theorem ints_unsnoc : ∀ {ns : List Int} {vs : List Value} {n : Int}, IntsAre vs (ns ++ [n]) → ∃ us t, vs = us ++ [.int n t] ∧ IntsAre us ns
  | [], _, _, h => by cases h with | cons k t h' => cases h'; exact ⟨[], t, rfl, .nil⟩
  | m :: ns, _, _, h => by
    cases h with
    | cons k t h' =>
      obtain ⟨us, u, e, hu⟩ := ints_unsnoc (ns := ns) h'
      exact ⟨.int m t :: us, u, by rw [e]; rfl, .cons m t hu⟩

/-- the search's own ledger -/
abbrev infoObj (dx sa : Addr) (p : Int) (tp : Tok) (n : Int) (tn : Tok) : Obj := { cls := .ref 98, dict := some dx, data := .plain, slots := #[some (.int n tn), some (.int p tp), some (.ref sa)] }

def frL (sa : Int → Addr) (R : List Fm) : List (Addr × Obj) := R.flatMap fun f => [(f.q, mwObj f.it), (f.it, liObj (sa f.n) (f.p : Nat))]
def itV (R : List Fm) : List Value := R.reverse.map fun f => .ref f.q
def FrOK (sa : Int → Addr) (lo : Nat) : List Fm → Prop
  | [] => True
  | f :: r => lo < f.it ∧ f.it < f.q ∧ (∀ p ∈ frL sa r, p.1 < f.it) ∧ FrOK sa lo r
theorem frL_cons {sa : Int → Addr} {f : Fm} {r : List Fm} : frL sa (f :: r) = (f.q, mwObj f.it) :: (f.it, liObj (sa f.n) (f.p : Nat)) :: frL sa r := rfl
theorem FrOK.low {sa : Int → Addr} {lo : Nat} : ∀ {R : List Fm}, FrOK sa lo R → ∀ p ∈ frL sa R, lo < p.1
  | [], _, _, hp => nomatch hp
  | f :: r, h, p, hp => by
    unfold FrOK at h
    rw [frL_cons] at hp
    rcases List.mem_cons.mp hp with rfl | hp
    · exact Nat.lt_trans h.1 h.2.1
    · rcases List.mem_cons.mp hp with rfl | hp
      · exact h.1
      · exact h.2.2.2.low p hp
theorem itV_cons (f : Fm) (r : List Fm) : itV (f :: r) = itV r ++ [.ref f.q] := by simp [itV]
theorem itV_len (R : List Fm) : (itV R).length = R.length := by simp [itV]

section
variable {prog : Program} {w : World}
structure FS (prog : Program) (w : World) (ss : Int → List Int) (order U : List Int) (sa : Int → Addr) (lo : Nat) (R : List Fm) (fin : List Int) (nx : Option Int) (kvs : List (Int × Value)) (on os : Obj) (S : Int → Bool) (c : Nat) (stk : List Value) : Prop where
  D : DI ss order U R fin nx
  on_ : on.IsDictOf (PySem.intKind prog w) kvs
  kv : ∀ k, (idx R k = none → valueAt kvs k = none) ∧ ∀ j, idx R k = some j → ∃ t, valueAt kvs k = some (.int (j : Nat) t)
  kl : kvs.length + U.length ≤ order.length
  os_ : os.SetObjOf (PySem.intKind prog w) S c
  sv : ∀ k, S k = true ↔ k ∈ R.map (·.n) ∨ k ∈ fin
  sc : c + U.length ≤ order.length
  stk_ : IntsAre stk (R.reverse.map (·.n))
  fr : FrOK sa lo R

variable {ss : Int → List Int} {order U : List Int} {sa : Int → Addr} {lo : Nat} {R : List Fm} {fin : List Int} {nx : Option Int} {kvs : List (Int × Value)} {on os : Obj} {S : Int → Bool} {c : Nat} {stk : List Value} {y : Int} {f : Fm}
theorem FS.stklen (H : FS prog w ss order U sa lo R fin nx kvs on os S c stk) : stk.length = R.length := by
  rw [H.stk_.length]; simp
theorem FS.unseen (H : FS prog w ss order U sa lo R fin nx kvs on os S c stk) (h : y ∈ U) : S y = false := by
  have := H.D.offU h
  cases e : S y with
  | false => rfl
  | true => rcases (H.sv y).mp e with q | q
            · exact absurd q this.1
            · exact absurd q this.2
theorem FS.push (H : FS prog w ss order U sa lo R fin (some y) kvs on os S c stk) (h : y ∈ U) {it q : Nat} {on' os' : Obj} {t t' : Tok} {v : Value}
    (hv : v = .int (R.length : Nat) t) (hon : on'.IsDictOf (PySem.intKind prog w) (stored kvs y v)) (hos : os'.SetObjOf (PySem.intKind prog w) (fun k => S k || decide (k = y)) (if S y then c else c + 1))
    (h1 : lo < it) (h2 : it < q) (h3 : ∀ p ∈ frL sa R, p.1 < it) :
    FS prog w ss order (U.erase y) sa lo (⟨y, 0, it, q⟩ :: R) fin none (stored kvs y v) on' os' (fun k => S k || decide (k = y)) (c + 1) (stk ++ [.int y t']) := by
  have hoff := H.D.offU h
  have hlen : (U.erase y).length + 1 = U.length := by
    have := List.length_erase_of_mem h
    have := List.length_pos_of_mem h
    omega
  refine ⟨H.D.push h it q, hon, ?_, ?_, ?_, ?_, ?_, ?_, ?_⟩
  · intro k
    rw [valueAt_stored]
    have hk := H.kv k
    unfold idx
    dsimp only
    by_cases e : k = y
    · subst e
      refine ⟨fun q => ?_, fun j q => ?_⟩
      · rw [if_pos rfl] at q; cases q
      · rw [if_pos rfl] at q; cases q
        exact ⟨t, by rw [if_pos rfl, hv]⟩
    · have e' : ¬ y = k := fun q => e q.symm
      rw [if_neg e, if_neg e']
      exact hk
  · have := H.kl
    have := stored_len (kvs := kvs) (k := y) (v := v)
    omega
  · rw [if_neg (by rw [H.unseen h]; exact Bool.false_ne_true)] at hos
    exact hos
  · intro k
    rw [Bool.or_eq_true, decide_eq_true_iff, H.sv k]
    simp only [List.map_cons, List.mem_cons]
    constructor
    · rintro ((q | q) | q)
      · exact .inl (.inr q)
      · exact .inr q
      · exact .inl (.inl q)
    · rintro ((q | q) | q)
      · exact .inr q
      · exact .inl (.inl q)
      · exact .inl (.inr q)
  · have := H.sc; omega
  · have e : (Fm.mk y 0 it q :: R).reverse.map (·.n) = R.reverse.map (·.n) ++ [y] := by simp
    rw [e]
    exact ints_snoc H.stk_
  · unfold FrOK
    exact ⟨h1, h2, h3, H.fr⟩
theorem FS.take (H : FS prog w ss order U sa lo (f :: R) fin none kvs on os S c stk) (h : (ss f.n)[f.p]? = some y) : FS prog w ss order U sa lo ({ f with p := f.p + 1 } :: R) fin (some y) kvs on os S c stk := by
  refine ⟨H.D.take h, H.on_, fun k => ?_, H.kl, H.os_, H.sv, H.sc, ?_, ?_⟩
  · exact H.kv k
  · have := H.stk_
    simpa using this
  · have := H.fr
    unfold FrOK at this ⊢
    exact this
theorem FS.skip (H : FS prog w ss order U sa lo R fin (some y) kvs on os S c stk) (h : y ∈ fin) : FS prog w ss order U sa lo R fin none kvs on os S c stk :=
  ⟨H.D.skip h, H.on_, H.kv, H.kl, H.os_, H.sv, H.sc, H.stk_, H.fr⟩
theorem FS.pop (H : FS prog w ss order U sa lo (f :: R) fin none kvs on os S c (stk ++ [.int f.n t])) (h : (ss f.n)[f.p]? = none) {on' : Obj} (hon : on'.IsDictOf (PySem.intKind prog w) (without kvs f.n)) :
    FS prog w ss order U sa lo R (f.n :: fin) none (without kvs f.n) on' os S c stk := by
  have hnd := H.D.Rnodup
  refine ⟨H.D.pop h, hon, fun k => ?_, ?_, H.os_, ?_, H.sc, ?_, ?_⟩
  · rw [valueAt_without]
    have hk := H.kv k
    unfold idx at hk
    by_cases e : f.n = k
    · subst e
      have hn : idx R f.n = none := idx_none.mpr (List.nodup_cons.mp hnd).1
      rw [if_pos rfl]
      exact ⟨fun _ => rfl, fun j q => by rw [hn] at q; cases q⟩
    · have e' : ¬ k = f.n := fun q => e q.symm
      rw [if_neg e] at hk
      rw [if_neg e']
      exact hk
  · have := H.kl
    have := without_len kvs f.n
    omega
  · intro k
    rw [H.sv k]
    simp only [List.map_cons, List.mem_cons]
    constructor
    · rintro ((q | q) | q)
      · exact .inr (.inl q)
      · exact .inl q
      · exact .inr (.inr q)
    · rintro (q | (q | q))
      · exact .inl (.inr q)
      · exact .inl (.inl q)
      · exact .inr q
  · have e : (f :: R).reverse.map (·.n) = R.reverse.map (·.n) ++ [f.n] := by simp
    have := H.stk_
    rw [e] at this
    obtain ⟨us, t', e2, hu⟩ := ints_unsnoc this
    have e3 := List.append_inj' e2 rfl
    rw [e3.1]; exact hu
  · have := H.fr
    unfold FrOK at this
    exact this.2.2.2
end
end Mine
namespace Mine
theorem mform {m m0 : PySem.Str → Option Value} {x : PySem.Str} (h : ∀ y, y ≠ x → m y = m0 y) (v : Option Value) : (fun y => if y = x then v else m y) = fun y => if y = x then v else m0 y := by
  funext y
  by_cases e : y = x
  · simp [e]
  · simp only [if_neg e]; exact h y e
theorem mform' {m m0 : PySem.Str → Option Value} {x : PySem.Str} (h : ∀ y, y ≠ x → m y = m0 y) : m = fun y => if y = x then m x else m0 y := by
  funext y
  by_cases e : y = x
  · simp [e]
  · simp only [if_neg e]; exact h y e
section
variable {prog : Program} {w : World} {A : Around} {E : Value → Shared → Prop} {s : Shared} {h₀ : Heap} {L sa d : Addr} {m : PySem.Str → Option Value} {news : List (Addr × Obj)} {g : Obj → List (Addr × Obj)} {so o : Obj} {kvs : List (Int × Value)}
theorem set_in_b {S : Int → Bool} {n : Nat} {k : Int} {t : Tok} {Q : Value → Shared → Prop} (N : News h₀ L s.heap news) (U : UpdF sa so news g) (hso : so.SetObjOf (PySem.intKind prog w) S n) (b : Bool) (hb : S k = b) (hz : n < scanBound) (h : Q (.bool b) { s with toks := s.toks + 1 }) :
    wpAny (model prog w) A (compareOp .In (.int k t) (.ref sa)) Q E s := kse_in N U hso hz (intKind_is _ _ _ _) rfl (by rw [hb]; exact h)
theorem set_add_i {S : Int → Bool} {n : Nat} {k : Int} {t : Tok} {Q : Value → Shared → Prop} (F : Fr h₀ L s.heap m) (N : News h₀ L s.heap news) (U : UpdF sa so news g) (hso : so.SetObjOf (PySem.intKind prog w) S n) (hb : n + 1 < scanBound)
    (h : ∀ h' so', Fr h₀ L h' m → News h₀ L h' (g so') → so'.SetObjOf (PySem.intKind prog w) (fun k' => S k' || decide (k' = k)) (if S k then n else n + 1) → Q .none { s with heap := h', toks := s.toks + 1 }) :
    wpAny (model prog w) A (call (.builtin "set.add") [.ref sa, .int k t]) Q E s := kse_add F N U hso hb (intKind_is _ _ _ _) rfl h
theorem dict_in_b {k : Int} {t : Tok} {Q : Value → Shared → Prop} (N : News h₀ L s.heap news) (hp : (d, o) ∈ news) (hd : o.IsDictOf (PySem.intKind prog w) kvs) (lo : (d == sysModules) = false) (b : Bool) (hb : (valueAt kvs k).isSome = b) (h : Q (.bool b) { s with toks := s.toks + 1 }) :
    wpAny (model prog w) A (compareOp .In (.int k t) (.ref d)) Q E s := kda_in N hp hd lo (intKind_is _ _ _ _) b hb h
end
end Mine
namespace Mine
section
variable (prog : Program) (w : World) (ss : Int → List Int) (order : List Int) (sa : Int → Addr) (dn ds li ls I : Addr) (oi : Obj) (news : List (Addr × Obj)) (m0 : PySem.Str → Option Value)
inductive FcAt (U : List Int) (R : List Fm) (fin : List Int) (nx : Option Int) (m : PySem.Str → Option Value) (led : List (Addr × Obj)) : Prop where
  | mk : ∀ kvs on os S c ti ts stk, (led = (I, oi) :: (dn, on) :: (ds, os) :: (li, listOf (itV R).toArray ti) :: (ls, listOf (List.toArray stk) ts) :: (frL sa R ++ news)) → (FS prog w ss order U sa I R fin nx kvs on os S c stk) → (∀ y, y ≠ PySem.Str.ofString "node" → m y = m0 y) → FcAt U R fin nx m led
/-- the searching loop -/
inductive FcJ (kk : Int) (i : Nat) (n : Nat) (m : PySem.Str → Option Value) (led : List (Addr × Obj)) : Prop where
  | mk : ∀ U R fin y, (n = mu ss U R) → (y ∈ order) → ((∃ t, m (PySem.Str.ofString "node") = some (.int y t))) → (FcAt prog w ss order sa dn ds li ls I oi news m0 U R fin (some y) m led) → ((kk ∉ U ∨ y = kk)) → (∀ j x, j < i → order[j]? = some x → x ∉ U) → FcJ kk i n m led
/-- the popping loop -/
inductive FcK (U : List Int) (M : Nat) (n : Nat) (m : PySem.Str → Option Value) (led : List (Addr × Obj)) : Prop where
  | mk : ∀ R fin, (n = R.length) → (mu ss U R ≤ M) → (FcAt prog w ss order sa dn ds li ls I oi news m0 U R fin none m led) → FcK U M n m led
end
end Mine
namespace Mine
theorem fr_off {sa : Int → Addr} {I x : Nat} {R : List Fm} {news : List (Addr × Obj)} (H : FrOK sa I R) (hx : x < I) (hn : ∀ p ∈ news, p.1 ≠ x) : ∀ p ∈ frL sa R ++ news, p.1 ≠ x := fun p hp e => by
  rcases List.mem_append.mp hp with q | q
  · have := H.low p q
    have e' : @Eq Nat p.1 x := e
    omega
  · exact hn p q e
theorem fr_top {sa : Int → Addr} {I x : Nat} {R : List Fm} {news : List (Addr × Obj)} (h : ∀ p ∈ frL sa R, p.1 < x) (hI : I < x) (hn : ∀ p ∈ news, p.1 < I) : ∀ p ∈ frL sa R ++ news, p.1 ≠ x := fun p hp e => by
  have e' : @Eq Nat p.1 x := e
  rcases List.mem_append.mp hp with q | q
  · have : @LT.lt Nat _ p.1 x := h p q
    omega
  · have : @LT.lt Nat _ p.1 I := hn p q
    omega
theorem small_size {vs : List Value} (h : vs.length ≤ 100) : vs.toArray.size ≤ sizeLine := by rw [sizeLine_eq]; simp; omega
theorem small_kvs {kvs : List (Int × Value)} (h : kvs.length ≤ 100) : kvs.length ≤ sizeLine := by rw [sizeLine_eq]; omega
end Mine
end
section
namespace Mine
theorem isExc_Stop : isSubtype (.type "StopIteration") (.type "BaseException") = pure true := by rw [isSubtype_type]; kernel_rfl
theorem notTuple_Stop : isSubtype (.type ((Manifest.find? "StopIteration").elim "type" fun x => x.metatype)) (.type "tuple") = pure false := by
  rw [show (Manifest.find? "StopIteration").elim "type" (fun x => x.metatype) = "type" from by kernel_rfl, isSubtype_type]; kernel_rfl
theorem boot_Stop : bootBuiltins "StopIteration" = some (.type "StopIteration") := by kernel_rfl
end Mine
namespace Mine
theorem mem_rot7 {α : Type} {p a b c d e f g : α} {l : List α} (h : p ∈ c :: d :: e :: f :: g :: a :: b :: l) : p ∈ a :: b :: c :: d :: e :: f :: g :: l := by
  simp only [List.mem_cons] at h ⊢
  rcases h with h | h | h | h | h | h | h | h <;> simp [h]
end Mine
namespace Mine
theorem and_r1 {a0 b : Prop} (h : a0 ∧ b) : b := h.2
theorem and_r2 {a0 a1 b : Prop} (h : a0 ∧ a1 ∧ b) : b := h.2.2
theorem and_r3 {a0 a1 a2 b : Prop} (h : a0 ∧ a1 ∧ a2 ∧ b) : b := h.2.2.2
theorem and_r4 {a0 a1 a2 a3 b : Prop} (h : a0 ∧ a1 ∧ a2 ∧ a3 ∧ b) : b := h.2.2.2.2
theorem and_r5 {a0 a1 a2 a3 a4 b : Prop} (h : a0 ∧ a1 ∧ a2 ∧ a3 ∧ a4 ∧ b) : b := h.2.2.2.2.2
theorem and_r6 {a0 a1 a2 a3 a4 a5 b : Prop} (h : a0 ∧ a1 ∧ a2 ∧ a3 ∧ a4 ∧ a5 ∧ b) : b := h.2.2.2.2.2.2
theorem and_r7 {a0 a1 a2 a3 a4 a5 a6 b : Prop} (h : a0 ∧ a1 ∧ a2 ∧ a3 ∧ a4 ∧ a5 ∧ a6 ∧ b) : b := h.2.2.2.2.2.2.2
theorem and_r8 {a0 a1 a2 a3 a4 a5 a6 a7 b : Prop} (h : a0 ∧ a1 ∧ a2 ∧ a3 ∧ a4 ∧ a5 ∧ a6 ∧ a7 ∧ b) : b := h.2.2.2.2.2.2.2.2
theorem and_r9 {a0 a1 a2 a3 a4 a5 a6 a7 a8 b : Prop} (h : a0 ∧ a1 ∧ a2 ∧ a3 ∧ a4 ∧ a5 ∧ a6 ∧ a7 ∧ a8 ∧ b) : b := h.2.2.2.2.2.2.2.2.2
theorem and_r10 {a0 a1 a2 a3 a4 a5 a6 a7 a8 a9 b : Prop} (h : a0 ∧ a1 ∧ a2 ∧ a3 ∧ a4 ∧ a5 ∧ a6 ∧ a7 ∧ a8 ∧ a9 ∧ b) : b := h.2.2.2.2.2.2.2.2.2.2
theorem and_r11 {a0 a1 a2 a3 a4 a5 a6 a7 a8 a9 a10 b : Prop} (h : a0 ∧ a1 ∧ a2 ∧ a3 ∧ a4 ∧ a5 ∧ a6 ∧ a7 ∧ a8 ∧ a9 ∧ a10 ∧ b) : b := h.2.2.2.2.2.2.2.2.2.2.2
theorem and_r12 {a0 a1 a2 a3 a4 a5 a6 a7 a8 a9 a10 a11 b : Prop} (h : a0 ∧ a1 ∧ a2 ∧ a3 ∧ a4 ∧ a5 ∧ a6 ∧ a7 ∧ a8 ∧ a9 ∧ a10 ∧ a11 ∧ b) : b := h.2.2.2.2.2.2.2.2.2.2.2.2
theorem and_r13 {a0 a1 a2 a3 a4 a5 a6 a7 a8 a9 a10 a11 a12 b : Prop} (h : a0 ∧ a1 ∧ a2 ∧ a3 ∧ a4 ∧ a5 ∧ a6 ∧ a7 ∧ a8 ∧ a9 ∧ a10 ∧ a11 ∧ a12 ∧ b) : b := h.2.2.2.2.2.2.2.2.2.2.2.2.2
theorem and_r14 {a0 a1 a2 a3 a4 a5 a6 a7 a8 a9 a10 a11 a12 a13 b : Prop} (h : a0 ∧ a1 ∧ a2 ∧ a3 ∧ a4 ∧ a5 ∧ a6 ∧ a7 ∧ a8 ∧ a9 ∧ a10 ∧ a11 ∧ a12 ∧ a13 ∧ b) : b := h.2.2.2.2.2.2.2.2.2.2.2.2.2.2
end Mine
namespace Mine
section
variable {prog : Program} {w : World} {A : Around} {E : Value → Shared → Prop} {s : Shared} {h₀ : Heap} {L l : Addr} {m : PySem.Str → Option Value} {news : List (Addr × Obj)} {vs : List Value} {k : Nat} {Q : Value → Shared → Prop}
theorem len_t (N : News h₀ L s.heap news) (hm : (l, ({ cls := .type "tuple", data := .seq vs.toArray k } : Obj)) ∈ news) (hz : vs.length ≤ 100) (h : ∀ t tk, Q (.int (vs.length : Nat) t) { s with toks := tk }) : wpAny (model prog w) A (call (.builtin "len") [.ref l]) Q E s := by
  refine PyProof.Rows.len_tuple (items := vs.toArray) ⟨_, (N _ hm).1, rfl, _, rfl⟩ (by simp; omega) ?_
  rw [List.size_toArray]; exact h _ _
end
end Mine
namespace Mine
theorem mform2 {m m0 : PySem.Str → Option Value} {a b : PySem.Str} (h : ∀ y, y ≠ a → y ≠ b → m y = m0 y) (v : Option Value) : (fun y => if y = a then v else m y) = fun y => if y = a then v else if y = b then m b else m0 y := by
  funext y
  by_cases e : y = a
  · simp [e]
  · by_cases e2 : y = b
    · simp [e2]
    · simp only [if_neg e, if_neg e2]; exact h y e e2
end Mine
namespace Mine
theorem mform2' {m m0 : PySem.Str → Option Value} {a b : PySem.Str} (h : ∀ y, y ≠ a → y ≠ b → m y = m0 y) : m = fun y => if y = a then m a else if y = b then m b else m0 y := by
  funext y
  by_cases e : y = a
  · simp [e]
  · by_cases e2 : y = b
    · simp only [if_neg e, if_pos e2]; rw [e2]
    · simp only [if_neg e, if_neg e2]; exact h y e e2
end Mine
end
section
namespace Mine

def upd {α : Type} (f : Int → α) (x : Int) (v : α) : Int → α := fun y => if y = x then v else f y
theorem upd_self {α : Type} {f : Int → α} {x : Int} {v : α} : upd f x v x = v := if_pos rfl
theorem upd_ne {α : Type} {f : Int → α} {x y : Int} {v : α} (h : y ≠ x) : upd f x v y = f y := if_neg h

structure SV where
  ia : Int → Addr
  ida : Int → Addr
  sa : Int → Addr
  np : Int → Int
  tp : Int → Tok
  tn : Int → Tok
  sv : Int → List Value
  ep : Int → Nat
def nodeL (V : SV) (x : Int) : List (Addr × Obj) := [(V.ia x, infoObj (V.ida x) (V.sa x) (V.np x) (V.tp x) x (V.tn x)), (V.ida x, dictOf [] 0), (V.sa x, listOf (V.sv x).toArray (V.ep x))]
def nodesL (V : SV) (l : List Int) : List (Addr × Obj) := l.flatMap (nodeL V)
theorem nodesL_congr {V V' : SV} : ∀ {l : List Int}, (∀ x ∈ l, nodeL V x = nodeL V' x) → nodesL V l = nodesL V' l
  | [], _ => rfl
  | x :: r, h => by
    show nodeL V x ++ nodesL V r = nodeL V' x ++ nodesL V' r
    rw [h x (List.mem_cons_self ..), nodesL_congr fun y hy => h y (List.mem_cons_of_mem _ hy)]
theorem nodesL_append (V : SV) (a b : List Int) : nodesL V (a ++ b) = nodesL V a ++ nodesL V b := List.flatMap_append
theorem nodesL_perm {V : SV} {l : List Int} {x : Int} (h : x ∈ l) : (nodesL V l).Perm (nodeL V x ++ nodesL V (l.erase x)) :=
  (List.perm_cons_erase h).flatMap_right (nodeL V)

structure Ab where
  order : List Int
  np : Int → Int
  ss : Int → List Int
def Ab.get (st : Ab) (x : Int) : Ab := if x ∈ st.order then st else ⟨st.order ++ [x], upd st.np x 0, upd st.ss x []⟩
theorem Ab.mem_get (st : Ab) (x : Int) : x ∈ (st.get x).order := by
  unfold Ab.get
  split
  · assumption
  · simp

def Dis (l : List (Addr × Obj)) : Prop := (l.map (·.1)).Nodup
theorem Dis.perm {a b : List (Addr × Obj)} (h : Dis a) (p : a.Perm b) : Dis b := by
  unfold Dis at h ⊢
  exact (p.map (fun q : Addr × Obj => q.1)).nodup_iff.mp h
theorem Dis.ne {p : Addr × Obj} {l : List (Addr × Obj)} (h : Dis (p :: l)) : ∀ q ∈ l, q.1 ≠ p.1 := fun q hq e => by
  have := (List.nodup_cons.mp h).1
  exact this (List.mem_map.mpr ⟨q, hq, e⟩)
theorem Dis.tl {p : Addr × Obj} {l : List (Addr × Obj)} (h : Dis (p :: l)) : Dis l := (List.nodup_cons.mp h).2
theorem Dis.cons {a : Addr} {o : Obj} {l : List (Addr × Obj)} (h : Dis l) (hn : ∀ q ∈ l, q.1 ≠ a) : Dis ((a, o) :: l) :=
  List.nodup_cons.mpr ⟨fun hm => by
    obtain ⟨q, hq, e⟩ := List.mem_map.mp hm
    exact hn q hq e, h⟩
theorem Dis.lt {a : Nat} {o : Obj} {l : List (Addr × Obj)} (h : Dis l) (hn : ∀ q ∈ l, q.1 < a) : Dis ((a, o) :: l) := h.cons fun q hq => Nat.ne_of_lt (hn q hq)
theorem Dis.addr {a b : List (Addr × Obj)} (h : Dis a) (e : a.map (·.1) = b.map (·.1)) : Dis b := by unfold Dis; rw [← e]; exact h

section
variable (prog : Program) (w : World)
structure SAt (hd2 : List (Addr × Obj)) (d : Addr) (st : Ab) (V : SV) (od : Obj) (kv : List (Int × Value)) (led : List (Addr × Obj)) : Prop where
  led_ : led = hd2 ++ (d, od) :: nodesL V st.order
  od_ : od.IsDictOf (PySem.intKind prog w) kv
  keys : kv.map (·.1) = st.order
  val : ∀ x ∈ st.order, valueAt kv x = some (.ref (V.ia x))
  np : ∀ x ∈ st.order, V.np x = st.np x
  ss : ∀ x ∈ st.order, IntsAre (V.sv x) (st.ss x)
  nd : st.order.Nodup
end
section
variable {prog : Program} {w : World} {hd2 : List (Addr × Obj)} {d : Addr} {st : Ab} {V : SV} {od : Obj} {kv : List (Int × Value)} {led rest : List (Addr × Obj)} {x : Int}

theorem SAt.perm (H : SAt prog w hd2 d st V od kv led) (hx : x ∈ st.order) : (led ++ rest).Perm (hd2 ++ (d, od) :: (nodeL V x ++ (nodesL V (st.order.erase x) ++ rest))) := by
  rw [H.led_, List.append_assoc]
  refine List.Perm.append_left _ ?_
  rw [List.cons_append]
  refine List.Perm.cons _ ?_
  rw [← List.append_assoc]
  exact (nodesL_perm hx).append_right _

/-- the node's own things changed -/
def SV.chg (V : SV) (x p : Int) (tp : Tok) (sv : List Value) (ep : Nat) : SV := { V with np := upd V.np x p, tp := upd V.tp x tp, sv := upd V.sv x sv, ep := upd V.ep x ep }
theorem nodeL_chg (V : SV) (x p : Int) (tp : Tok) (sv : List Value) (ep : Nat) : nodeL (V.chg x p tp sv ep) x = [(V.ia x, infoObj (V.ida x) (V.sa x) p tp x (V.tn x)), (V.ida x, dictOf [] 0), (V.sa x, listOf sv.toArray ep)] := by
  unfold nodeL SV.chg
  simp only [upd_self]
theorem nodeL_chg_ne (V : SV) {x y p : Int} {tp : Tok} {sv : List Value} {ep : Nat} (h : y ≠ x) : nodeL (V.chg x p tp sv ep) y = nodeL V y := by
  unfold nodeL SV.chg
  simp only [upd_ne h]
theorem nodesL_chg_erase (V : SV) {x p : Int} {tp : Tok} {sv : List Value} {ep : Nat} {l : List Int} (hn : l.Nodup) : nodesL (V.chg x p tp sv ep) (l.erase x) = nodesL V (l.erase x) :=
  nodesL_congr fun y hy => nodeL_chg_ne V fun e => by rw [e] at hy; exact hn.not_mem_erase hy
theorem addr_chg (V : SV) (x p : Int) (tp : Tok) (sv : List Value) (ep : Nat) (y : Int) : (nodeL (V.chg x p tp sv ep) y).map (·.1) = (nodeL V y).map (·.1) := rfl
theorem addrs_chg (V : SV) (x p : Int) (tp : Tok) (sv : List Value) (ep : Nat) : ∀ l : List Int, (nodesL (V.chg x p tp sv ep) l).map (·.1) = (nodesL V l).map (·.1)
  | [] => rfl
  | y :: r => by
    show (nodeL _ y ++ nodesL _ r).map (·.1) = (nodeL V y ++ nodesL V r).map (·.1)
    rw [List.map_append, List.map_append, addr_chg, addrs_chg V x p tp sv ep r]

/-- closing: the changed node put back -/
theorem SAt.close (H : SAt prog w hd2 d st V od kv led) (hx : x ∈ st.order) (hD : Dis (led ++ rest)) (p : Int) (tp : Tok) {sv : List Value} {ns : List Int} (ep : Nat) (hi : IntsAre sv ns) :
    SAt prog w hd2 d ⟨st.order, upd st.np x p, upd st.ss x ns⟩ (V.chg x p tp sv ep) od kv (hd2 ++ (d, od) :: nodesL (V.chg x p tp sv ep) st.order) ∧ Dis ((hd2 ++ (d, od) :: nodesL (V.chg x p tp sv ep) st.order) ++ rest) ∧
    ∀ q, q ∈ (hd2 ++ (d, od) :: nodesL (V.chg x p tp sv ep) st.order) ++ rest → q ∈ hd2 ++ (d, od) :: ([(V.ia x, infoObj (V.ida x) (V.sa x) p tp x (V.tn x)), (V.ida x, dictOf [] 0), (V.sa x, listOf sv.toArray ep)] ++ (nodesL V (st.order.erase x) ++ rest)) := by
  have S : SAt prog w hd2 d ⟨st.order, upd st.np x p, upd st.ss x ns⟩ (V.chg x p tp sv ep) od kv (hd2 ++ (d, od) :: nodesL (V.chg x p tp sv ep) st.order) := by
    refine ⟨rfl, H.od_, H.keys, H.val, fun y hy => ?_, fun y hy => ?_, H.nd⟩
    · by_cases e : y = x
      · subst e; show upd _ _ _ _ = upd _ _ _ _; rw [upd_self, upd_self]
      · show upd _ _ _ _ = upd _ _ _ _; rw [upd_ne e, upd_ne e]; exact H.np y hy
    · by_cases e : y = x
      · subst e; show IntsAre (upd _ _ _ _) (upd _ _ _ _); rw [upd_self, upd_self]; exact hi
      · show IntsAre (upd _ _ _ _) (upd _ _ _ _); rw [upd_ne e, upd_ne e]; exact H.ss y hy
  refine ⟨S, hD.addr ?_, fun q hq => ?_⟩
  · rw [H.led_, List.map_append, List.map_append, List.map_append, List.map_append, List.map_cons, List.map_cons, addrs_chg]
  · have := (S.perm (rest := rest) hx).mem_iff.mp hq
    rw [nodeL_chg, nodesL_chg_erase V H.nd] at this
    exact this

/-- a new node -/
def SV.new (V : SV) (x : Int) (ia ida sa : Addr) (tp tn : Tok) : SV := ⟨upd V.ia x ia, upd V.ida x ida, upd V.sa x sa, upd V.np x 0, upd V.tp x tp, upd V.tn x tn, upd V.sv x [], upd V.ep x 0⟩
theorem nodeL_new (V : SV) (x : Int) (ia ida sa : Addr) (tp tn : Tok) : nodeL (V.new x ia ida sa tp tn) x = [(ia, infoObj ida sa 0 tp x tn), (ida, dictOf [] 0), (sa, listOf #[] 0)] := by
  unfold nodeL SV.new
  simp only [upd_self]
theorem nodeL_new_ne (V : SV) {x y : Int} {ia ida sa : Addr} {tp tn : Tok} (h : y ≠ x) : nodeL (V.new x ia ida sa tp tn) y = nodeL V y := by
  unfold nodeL SV.new
  simp only [upd_ne h]
theorem stored_keys {kv : List (Int × Value)} {x : Int} {v : Value} (h : x ∉ kv.map (·.1)) : (stored kv x v).map (·.1) = kv.map (·.1) ++ [x] := by
  unfold stored
  rw [if_neg]
  · simp
  · intro hc
    obtain ⟨p, hp, e⟩ := List.any_eq_true.mp hc
    exact h (List.mem_map.mpr ⟨p, hp, of_decide_eq_true e⟩)
theorem valueAt_none {kv : List (Int × Value)} {x : Int} (h : x ∉ kv.map (·.1)) : valueAt kv x = none := by
  unfold valueAt
  have : List.find? (fun kv : Int × Value => decide (kv.1 = x)) kv = none := by
    rw [List.find?_eq_none]
    intro p hp e
    exact h (List.mem_map.mpr ⟨p, hp, of_decide_eq_true e⟩)
  rw [this]; rfl
theorem SAt.new (H : SAt prog w hd2 d st V od kv led) (hx : x ∉ st.order) {ia ida sa : Addr} {tp tn : Tok} {od' : Obj} (ho : od'.IsDictOf (PySem.intKind prog w) (stored kv x (.ref ia))) :
    SAt prog w hd2 d (st.get x) (V.new x ia ida sa tp tn) od' (stored kv x (.ref ia)) (hd2 ++ (d, od') :: nodesL (V.new x ia ida sa tp tn) (st.get x).order) ∧
    nodesL (V.new x ia ida sa tp tn) (st.get x).order = nodesL V st.order ++ [(ia, infoObj ida sa 0 tp x tn), (ida, dictOf [] 0), (sa, listOf #[] 0)] := by
  have e : st.get x = ⟨st.order ++ [x], upd st.np x 0, upd st.ss x []⟩ := if_neg hx
  have hk : x ∉ kv.map (·.1) := by rw [H.keys]; exact hx
  rw [e]
  refine ⟨⟨rfl, ho, by rw [stored_keys hk, H.keys], fun y hy => ?_, fun y hy => ?_, fun y hy => ?_, ?_⟩, ?_⟩
  · rw [valueAt_stored]
    by_cases e : y = x
    · subst e; rw [if_pos rfl]; show _ = some (Value.ref (upd _ _ _ _)); rw [upd_self]
    · rw [if_neg e]; show _ = some (Value.ref (upd _ _ _ _)); rw [upd_ne e]
      refine H.val y ?_
      rcases List.mem_append.mp hy with q | q
      · exact q
      · exact absurd (List.mem_singleton.mp q) e
  · show upd _ _ _ _ = upd _ _ _ _
    by_cases e : y = x
    · subst e; rw [upd_self, upd_self]
    · rw [upd_ne e, upd_ne e]
      refine H.np y ?_
      rcases List.mem_append.mp hy with q | q
      · exact q
      · exact absurd (List.mem_singleton.mp q) e
  · show IntsAre (upd _ _ _ _) (upd _ _ _ _)
    by_cases e : y = x
    · subst e; rw [upd_self, upd_self]; exact .nil
    · rw [upd_ne e, upd_ne e]
      refine H.ss y ?_
      rcases List.mem_append.mp hy with q | q
      · exact q
      · exact absurd (List.mem_singleton.mp q) e
  · rw [List.nodup_append]
    exact ⟨H.nd, by simp, fun a ha b hb q => hx (by rw [← List.mem_singleton.mp hb, ← q]; exact ha)⟩
  · show nodesL _ (st.order ++ [x]) = _
    rw [nodesL_append]
    congr 1
    · exact nodesL_congr fun y hy => nodeL_new_ne V fun e => hx (by rw [← e]; exact hy)
    · show nodeL _ x ++ [] = _
      rw [nodeL_new]; rfl
end
inductive Ne6 (a b c x y z : Addr) : Prop where
  | mk : (@Ne Nat a b) → (@Ne Nat a c) → (@Ne Nat a x) → (@Ne Nat a y) → (@Ne Nat a z) → (@Ne Nat b c) → (@Ne Nat b x) → (@Ne Nat b y) → (@Ne Nat b z) → (@Ne Nat c x) → (@Ne Nat c y) → (@Ne Nat c z) → (@Ne Nat x y) → (@Ne Nat x z) → (@Ne Nat y z) → Ne6 a b c x y z
inductive OffNe6 (b c x z : Addr) (R : List (Addr × Obj)) : Prop where
  | mk : (∀ p ∈ R, p.1 ≠ b) → (∀ p ∈ R, p.1 ≠ c) → (∀ p ∈ R, p.1 ≠ x) → (∀ p ∈ R, p.1 ≠ z) → OffNe6 b c x z R
theorem six {a b c x y z : Addr} {oa ob oc ox oy oz : Obj} {R : List (Addr × Obj)} (D : Dis ((a, oa) :: (b, ob) :: (c, oc) :: (x, ox) :: (y, oy) :: (z, oz) :: R)) :
    Ne6 a b c x y z ∧ OffNe6 b c x z R := by
  have d1 := D.ne
  have d2 := D.tl.ne
  have d3 := D.tl.tl.ne
  have d4 := D.tl.tl.tl.ne
  have d5 := D.tl.tl.tl.tl.ne
  have d6 := D.tl.tl.tl.tl.tl.ne
  refine ⟨⟨?_, ?_, ?_, ?_, ?_, ?_, ?_, ?_, ?_, ?_, ?_, ?_, ?_, ?_, ?_⟩, fun p hp => d2 p (.tail _ (.tail _ (.tail _ (.tail _ hp)))), fun p hp => d3 p (.tail _ (.tail _ (.tail _ hp))), fun p hp => d4 p (.tail _ (.tail _ hp)), fun p hp => d6 p hp⟩
  · exact fun e => d1 _ (.head _) e.symm
  · exact fun e => d1 _ (.tail _ (.head _)) e.symm
  · exact fun e => d1 _ (.tail _ (.tail _ (.head _))) e.symm
  · exact fun e => d1 _ (.tail _ (.tail _ (.tail _ (.head _)))) e.symm
  · exact fun e => d1 _ (.tail _ (.tail _ (.tail _ (.tail _ (.head _))))) e.symm
  · exact fun e => d2 _ (.head _) e.symm
  · exact fun e => d2 _ (.tail _ (.head _)) e.symm
  · exact fun e => d2 _ (.tail _ (.tail _ (.head _))) e.symm
  · exact fun e => d2 _ (.tail _ (.tail _ (.tail _ (.head _)))) e.symm
  · exact fun e => d3 _ (.head _) e.symm
  · exact fun e => d3 _ (.tail _ (.head _)) e.symm
  · exact fun e => d3 _ (.tail _ (.tail _ (.head _))) e.symm
  · exact fun e => d4 _ (.head _) e.symm
  · exact fun e => d4 _ (.tail _ (.head _)) e.symm
  · exact fun e => d5 _ (.head _) e.symm
end Mine
namespace Mine
theorem upd_id {α : Type} {f : Int → α} {x : Int} : upd f x (f x) = f := by
  funext y
  unfold upd
  by_cases e : y = x
  · rw [if_pos e, e]
  · rw [if_neg e]
theorem Ab.get_len (st : Ab) (x : Int) : (st.get x).order.length ≤ st.order.length + 1 := by
  unfold Ab.get
  split <;> simp
theorem Ab.get_ss (st : Ab) (x y : Int) : ((st.get x).ss y).length ≤ (st.ss y).length := by
  unfold Ab.get
  split
  · exact Nat.le_refl _
  · show (upd st.ss x [] y).length ≤ _
    unfold upd
    split <;> simp
end Mine
namespace Mine
inductive Ne7 (a b r c x y z : Addr) : Prop where
  | mk : (@Ne Nat a b) → (@Ne Nat a r) → (@Ne Nat a c) → (@Ne Nat a x) → (@Ne Nat a y) → (@Ne Nat a z) → (@Ne Nat b r) → (@Ne Nat b c) → (@Ne Nat b x) → (@Ne Nat b y) → (@Ne Nat b z) → (@Ne Nat r c) → (@Ne Nat r x) → (@Ne Nat r y) → (@Ne Nat r z) → (@Ne Nat c x) → (@Ne Nat c y) → (@Ne Nat c z) → (@Ne Nat x y) → (@Ne Nat x z) → (@Ne Nat y z) → Ne7 a b r c x y z
inductive OffNe7 (b r c x z : Addr) (R : List (Addr × Obj)) : Prop where
  | mk : (∀ p ∈ R, p.1 ≠ b) → (∀ p ∈ R, p.1 ≠ r) → (∀ p ∈ R, p.1 ≠ c) → (∀ p ∈ R, p.1 ≠ x) → (∀ p ∈ R, p.1 ≠ z) → OffNe7 b r c x z R
theorem seven {a b r c x y z : Addr} {oa ob or_ oc ox oy oz : Obj} {R : List (Addr × Obj)} (D : Dis ((a, oa) :: (b, ob) :: (r, or_) :: (c, oc) :: (x, ox) :: (y, oy) :: (z, oz) :: R)) :
    Ne7 a b r c x y z ∧ OffNe7 b r c x z R := by
  have d0 := D.ne
  have d1 := D.tl.ne
  have d2 := D.tl.tl.ne
  have d3 := D.tl.tl.tl.ne
  have d4 := D.tl.tl.tl.tl.ne
  have d5 := D.tl.tl.tl.tl.tl.ne
  have d6 := D.tl.tl.tl.tl.tl.tl.ne
  refine ⟨⟨?_, ?_, ?_, ?_, ?_, ?_, ?_, ?_, ?_, ?_, ?_, ?_, ?_, ?_, ?_, ?_, ?_, ?_, ?_, ?_, ?_⟩, fun p hp => d1 p (.tail _ (.tail _ (.tail _ (.tail _ (.tail _ hp))))), fun p hp => d2 p (.tail _ (.tail _ (.tail _ (.tail _ hp)))), fun p hp => d3 p (.tail _ (.tail _ (.tail _ hp))), fun p hp => d4 p (.tail _ (.tail _ hp)), fun p hp => d6 p hp⟩
  · exact fun e => d0 _ (.head _) e.symm
  · exact fun e => d0 _ (.tail _ (.head _)) e.symm
  · exact fun e => d0 _ (.tail _ (.tail _ (.head _))) e.symm
  · exact fun e => d0 _ (.tail _ (.tail _ (.tail _ (.head _)))) e.symm
  · exact fun e => d0 _ (.tail _ (.tail _ (.tail _ (.tail _ (.head _))))) e.symm
  · exact fun e => d0 _ (.tail _ (.tail _ (.tail _ (.tail _ (.tail _ (.head _)))))) e.symm
  · exact fun e => d1 _ (.head _) e.symm
  · exact fun e => d1 _ (.tail _ (.head _)) e.symm
  · exact fun e => d1 _ (.tail _ (.tail _ (.head _))) e.symm
  · exact fun e => d1 _ (.tail _ (.tail _ (.tail _ (.head _)))) e.symm
  · exact fun e => d1 _ (.tail _ (.tail _ (.tail _ (.tail _ (.head _))))) e.symm
  · exact fun e => d2 _ (.head _) e.symm
  · exact fun e => d2 _ (.tail _ (.head _)) e.symm
  · exact fun e => d2 _ (.tail _ (.tail _ (.head _))) e.symm
  · exact fun e => d2 _ (.tail _ (.tail _ (.tail _ (.head _)))) e.symm
  · exact fun e => d3 _ (.head _) e.symm
  · exact fun e => d3 _ (.tail _ (.head _)) e.symm
  · exact fun e => d3 _ (.tail _ (.tail _ (.head _))) e.symm
  · exact fun e => d4 _ (.head _) e.symm
  · exact fun e => d4 _ (.tail _ (.head _)) e.symm
  · exact fun e => d5 _ (.head _) e.symm
end Mine
namespace Mine
theorem four {a b r c : Addr} {oa ob or_ oc : Obj} {R : List (Addr × Obj)} (D : Dis ((a, oa) :: (b, ob) :: (r, or_) :: (c, oc) :: R)) :
    (@Ne Nat a b ∧ @Ne Nat a r ∧ @Ne Nat a c ∧ @Ne Nat b r ∧ @Ne Nat b c ∧ @Ne Nat r c) ∧ (∀ p ∈ R, p.1 ≠ b) ∧ (∀ p ∈ R, p.1 ≠ r) ∧ (∀ p ∈ R, p.1 ≠ c) := by
  have d0 := D.ne
  have d1 := D.tl.ne
  have d2 := D.tl.tl.ne
  have d3 := D.tl.tl.tl.ne
  refine ⟨⟨?_, ?_, ?_, ?_, ?_, ?_⟩, fun p hp => d1 p (.tail _ (.tail _ hp)), fun p hp => d2 p (.tail _ hp), fun p hp => d3 p hp⟩
  · exact fun e => d0 _ (.head _) e.symm
  · exact fun e => d0 _ (.tail _ (.head _)) e.symm
  · exact fun e => d0 _ (.tail _ (.tail _ (.head _))) e.symm
  · exact fun e => d1 _ (.head _) e.symm
  · exact fun e => d1 _ (.tail _ (.head _)) e.symm
  · exact fun e => d2 _ (.head _) e.symm
end Mine
namespace Mine
section
variable {prog : Program} {w : World} {hd2 : List (Addr × Obj)} {d : Addr} {st : Ab} {V : SV} {od : Obj} {kv : List (Int × Value)} {led : List (Addr × Obj)}
theorem SAt.hd (H : SAt prog w hd2 d st V od kv led) (hd' : List (Addr × Obj)) : SAt prog w hd' d st V od kv (hd' ++ (d, od) :: nodesL V st.order) := ⟨rfl, H.od_, H.keys, H.val, H.np, H.ss, H.nd⟩
end
end Mine
namespace Mine
def dec (a : (Int → Int) × List Int) (y : Int) : (Int → Int) × List Int := (upd a.1 y (a.1 y - 1), if a.1 y - 1 = 0 then a.2 ++ [y] else a.2)
def doneOne (ss : Int → List Int) (a : (Int → Int) × List Int) (x : Int) : (Int → Int) × List Int := (ss x).foldl dec (upd a.1 x (-2), a.2)
theorem upd_upd {α : Type} {f : Int → α} {x : Int} {a b : α} : upd (upd f x a) x b = upd f x b := by
  funext y
  unfold upd
  split <;> rfl
end Mine
namespace Mine
def Keep (p : Prop) : Prop := p
end Mine
namespace Mine
theorem mform5 {m m0 : PySem.Str → Option Value} {a b c d e : PySem.Str} (h : ∀ y, y ≠ a → y ≠ b → y ≠ c → y ≠ d → y ≠ e → m y = m0 y) :
    m = fun y => if y = a then m a else if y = b then m b else if y = c then m c else if y = d then m d else if y = e then m e else m0 y := by
  funext y
  by_cases h1 : y = a
  · rw [if_pos h1, h1]
  by_cases h2 : y = b
  · rw [if_neg h1, if_pos h2, h2]
  by_cases h3 : y = c
  · rw [if_neg h1, if_neg h2, if_pos h3, h3]
  by_cases h4 : y = d
  · rw [if_neg h1, if_neg h2, if_neg h3, if_pos h4, h4]
  by_cases h5 : y = e
  · rw [if_neg h1, if_neg h2, if_neg h3, if_neg h4, if_pos h5, h5]
  rw [if_neg h1, if_neg h2, if_neg h3, if_neg h4, if_neg h5]
  exact h y h1 h2 h3 h4 h5
end Mine
namespace Mine
section
variable {prog : Program} {w : World} {hd2 : List (Addr × Obj)} {d : Addr} {st : Ab} {V : SV} {od : Obj} {kv : List (Int × Value)} {led : List (Addr × Obj)} {x : Int}
theorem SAt.mem_sa (H : SAt prog w hd2 d st V od kv led) (hx : x ∈ st.order) : (V.sa x, listOf (V.sv x).toArray (V.ep x)) ∈ led := by
  rw [H.led_]
  refine List.mem_append_right _ (.tail _ ?_)
  exact List.mem_flatMap.mpr ⟨x, hx, .tail _ (.tail _ (.head _))⟩
theorem SV.chg_same (V : SV) (x p : Int) (tp : Tok) : (V.chg x p tp (V.sv x) (V.ep x)).sa = V.sa ∧ (V.chg x p tp (V.sv x) (V.ep x)).sv = V.sv ∧ (V.chg x p tp (V.sv x) (V.ep x)).ep = V.ep := ⟨rfl, upd_id, upd_id⟩
end
end Mine
end
section
namespace Mine
section
variable {A₀ : Around} {base g g₀ h₀ g6 : Heap} {outer : List Env} {L a : Addr} {m : PySem.Str → Option Value} {name : PySem.Str} {scope : Scope} {cd : Value} {KF : Frag}
  {p : Program} {loose : List PySem.Str} {mean : ExcName → Option Value} {mg mb : PySem.Str → Option Value}
/-- the caller's ground, where the callee has turned its own -/
theorem turn_ground (Z : Gd KF p loose mean mg mb A₀ base outer g₀ h₀) (F : Fr h₀ L g m) (U : KtsTurn ((envOf name scope L a cd :: outer).filterMap (·.frame)) g g6) :
    ∃ h₀', Gd KF p loose mean mg mb A₀ base outer g₀ h₀' ∧ Fr h₀' L g6 m := by
  obtain ⟨K, X, T, XB, TB, D, T0⟩ := Z
  obtain ⟨g₅, T₅, F₅, K₅⟩ := kts_ground (name := name) (scope := scope) (a := a) (cd := cd) (B := hideAll g ((envOf name scope L a cd :: outer).filterMap (·.frame))) (h₅ := g6) K F (fun b o q nm => hideAll_get _ q nm)
    (fun b o e => U.other b o (of_hideAll _ e) fun hm => by rw [hideAll_none _ hm] at e; cases e) (fun b o e _ => U.up e)
  exact ⟨g₅, ⟨K₅, XB.keeps K₅.stays, TB.keeps K₅.stays, XB, TB, D.turn T₅, T0.trans T₅⟩, F₅⟩
end
end Mine
namespace Mine
section
variable {M : Model} {A : Around} {E : Value → Shared → Prop} {s : Shared}
/-- the count of tokens by a letter, with what is known of it -/
theorem tok_gen {α : Type} {t : Sem α} {Q : α → Shared → Prop} {n : Nat} (hn : n ≤ s.toks) (h : ∀ tk : Nat, n ≤ tk → wpAny M A t Q E { s with toks := tk }) : wpAny M A t Q E s := h s.toks hn
end
end Mine
end
section
namespace Mine
theorem valueAt_get {kv : List (Int × Value)} : ∀ {i : Nat} {k : Int} {v : Value}, (kv.map (·.1)).Nodup → kv[i]? = some (k, v) → valueAt kv k = some v := by
  induction kv with
  | nil => intro i k v _ h; simp at h
  | cons p r ih =>
    intro i k v hn h
    rw [List.map_cons, List.nodup_cons] at hn
    cases i with
    | zero =>
      have e : p = (k, v) := by simpa using h
      subst e
      unfold valueAt
      rw [List.find?_cons]
      simp
    | succ i =>
      have h' : r[i]? = some (k, v) := by simpa using h
      have hne : ¬ p.1 = k := fun e => hn.1 (by rw [e]; exact List.mem_map.mpr ⟨_, List.mem_of_getElem? h', rfl⟩)
      have := ih hn.2 h'
      unfold valueAt at this ⊢
      rw [List.find?_cons]
      simp only [hne, decide_false]
      exact this
theorem SAt.item {prog : Program} {w : World} {hd2 : List (Addr × Obj)} {d : Addr} {st : Ab} {V : SV} {od : Obj} {kv : List (Int × Value)} {led : List (Addr × Obj)} (H : SAt prog w hd2 d st V od kv led) {i : Nat} {x : Int} {v : Value} (h : kv[i]? = some (x, v)) :
    st.order[i]? = some x ∧ x ∈ st.order ∧ v = .ref (V.ia x) := by
  have h1 : st.order[i]? = some x := by rw [← H.keys, List.getElem?_map, h]; rfl
  have h2 := List.mem_of_getElem? h1
  have h3 := valueAt_get (by rw [H.keys]; exact H.nd) h
  rw [H.val x h2] at h3
  exact ⟨h1, h2, (Option.some.inj h3).symm⟩
theorem dis3 {a1 a2 a3 : Addr} {o1 o2 o3 : Obj} {R : List (Addr × Obj)} (D : Dis ((a1, o1) :: (a2, o2) :: (a3, o3) :: R)) : (@Ne Nat a1 a2 ∧ @Ne Nat a1 a3 ∧ @Ne Nat a2 a3) ∧ ((∀ p ∈ R, p.1 ≠ a1) ∧ (∀ p ∈ R, p.1 ≠ a2) ∧ (∀ p ∈ R, p.1 ≠ a3)) := by
  have d1 := D.ne
  have d2 := D.tl.ne
  have d3 := D.tl.tl.ne
  exact ⟨⟨fun e => d1 _ (.head _) e.symm, fun e => d1 _ (.tail _ (.head _)) e.symm, fun e => d2 _ (.head _) e.symm⟩, fun p hp => d1 p (.tail _ (.tail _ hp)), fun p hp => d2 p (.tail _ hp), fun p hp => d3 p (hp)⟩
theorem dis5 {a1 a2 a3 a4 a5 : Addr} {o1 o2 o3 o4 o5 : Obj} {R : List (Addr × Obj)} (D : Dis ((a1, o1) :: (a2, o2) :: (a3, o3) :: (a4, o4) :: (a5, o5) :: R)) : (@Ne Nat a1 a2 ∧ @Ne Nat a1 a3 ∧ @Ne Nat a1 a4 ∧ @Ne Nat a1 a5 ∧ @Ne Nat a2 a3 ∧ @Ne Nat a2 a4 ∧ @Ne Nat a2 a5 ∧ @Ne Nat a3 a4 ∧ @Ne Nat a3 a5 ∧ @Ne Nat a4 a5) ∧ ((∀ p ∈ R, p.1 ≠ a1) ∧ (∀ p ∈ R, p.1 ≠ a2) ∧ (∀ p ∈ R, p.1 ≠ a3) ∧ (∀ p ∈ R, p.1 ≠ a4) ∧ (∀ p ∈ R, p.1 ≠ a5)) := by
  have d1 := D.ne
  have d2 := D.tl.ne
  have d3 := D.tl.tl.ne
  have d4 := D.tl.tl.tl.ne
  have d5 := D.tl.tl.tl.tl.ne
  exact ⟨⟨fun e => d1 _ (.head _) e.symm, fun e => d1 _ (.tail _ (.head _)) e.symm, fun e => d1 _ (.tail _ (.tail _ (.head _))) e.symm, fun e => d1 _ (.tail _ (.tail _ (.tail _ (.head _)))) e.symm, fun e => d2 _ (.head _) e.symm, fun e => d2 _ (.tail _ (.head _)) e.symm, fun e => d2 _ (.tail _ (.tail _ (.head _))) e.symm, fun e => d3 _ (.head _) e.symm, fun e => d3 _ (.tail _ (.head _)) e.symm, fun e => d4 _ (.head _) e.symm⟩, fun p hp => d1 p (.tail _ (.tail _ (.tail _ (.tail _ hp)))), fun p hp => d2 p (.tail _ (.tail _ (.tail _ hp))), fun p hp => d3 p (.tail _ (.tail _ hp)), fun p hp => d4 p (.tail _ hp), fun p hp => d5 p (hp)⟩
theorem dis6 {a1 a2 a3 a4 a5 a6 : Addr} {o1 o2 o3 o4 o5 o6 : Obj} {R : List (Addr × Obj)} (D : Dis ((a1, o1) :: (a2, o2) :: (a3, o3) :: (a4, o4) :: (a5, o5) :: (a6, o6) :: R)) : (@Ne Nat a1 a2 ∧ @Ne Nat a1 a3 ∧ @Ne Nat a1 a4 ∧ @Ne Nat a1 a5 ∧ @Ne Nat a1 a6 ∧ @Ne Nat a2 a3 ∧ @Ne Nat a2 a4 ∧ @Ne Nat a2 a5 ∧ @Ne Nat a2 a6 ∧ @Ne Nat a3 a4 ∧ @Ne Nat a3 a5 ∧ @Ne Nat a3 a6 ∧ @Ne Nat a4 a5 ∧ @Ne Nat a4 a6 ∧ @Ne Nat a5 a6) ∧ ((∀ p ∈ R, p.1 ≠ a1) ∧ (∀ p ∈ R, p.1 ≠ a2) ∧ (∀ p ∈ R, p.1 ≠ a3) ∧ (∀ p ∈ R, p.1 ≠ a4) ∧ (∀ p ∈ R, p.1 ≠ a5) ∧ (∀ p ∈ R, p.1 ≠ a6)) := by
  have d1 := D.ne
  have d2 := D.tl.ne
  have d3 := D.tl.tl.ne
  have d4 := D.tl.tl.tl.ne
  have d5 := D.tl.tl.tl.tl.ne
  have d6 := D.tl.tl.tl.tl.tl.ne
  exact ⟨⟨fun e => d1 _ (.head _) e.symm, fun e => d1 _ (.tail _ (.head _)) e.symm, fun e => d1 _ (.tail _ (.tail _ (.head _))) e.symm, fun e => d1 _ (.tail _ (.tail _ (.tail _ (.head _)))) e.symm, fun e => d1 _ (.tail _ (.tail _ (.tail _ (.tail _ (.head _))))) e.symm, fun e => d2 _ (.head _) e.symm, fun e => d2 _ (.tail _ (.head _)) e.symm, fun e => d2 _ (.tail _ (.tail _ (.head _))) e.symm, fun e => d2 _ (.tail _ (.tail _ (.tail _ (.head _)))) e.symm, fun e => d3 _ (.head _) e.symm, fun e => d3 _ (.tail _ (.head _)) e.symm, fun e => d3 _ (.tail _ (.tail _ (.head _))) e.symm, fun e => d4 _ (.head _) e.symm, fun e => d4 _ (.tail _ (.head _)) e.symm, fun e => d5 _ (.head _) e.symm⟩, fun p hp => d1 p (.tail _ (.tail _ (.tail _ (.tail _ (.tail _ hp))))), fun p hp => d2 p (.tail _ (.tail _ (.tail _ (.tail _ hp)))), fun p hp => d3 p (.tail _ (.tail _ (.tail _ hp))), fun p hp => d4 p (.tail _ (.tail _ hp)), fun p hp => d5 p (.tail _ hp), fun p hp => d6 p (hp)⟩
theorem dis7 {a1 a2 a3 a4 a5 a6 a7 : Addr} {o1 o2 o3 o4 o5 o6 o7 : Obj} {R : List (Addr × Obj)} (D : Dis ((a1, o1) :: (a2, o2) :: (a3, o3) :: (a4, o4) :: (a5, o5) :: (a6, o6) :: (a7, o7) :: R)) : (@Ne Nat a1 a2 ∧ @Ne Nat a1 a3 ∧ @Ne Nat a1 a4 ∧ @Ne Nat a1 a5 ∧ @Ne Nat a1 a6 ∧ @Ne Nat a1 a7 ∧ @Ne Nat a2 a3 ∧ @Ne Nat a2 a4 ∧ @Ne Nat a2 a5 ∧ @Ne Nat a2 a6 ∧ @Ne Nat a2 a7 ∧ @Ne Nat a3 a4 ∧ @Ne Nat a3 a5 ∧ @Ne Nat a3 a6 ∧ @Ne Nat a3 a7 ∧ @Ne Nat a4 a5 ∧ @Ne Nat a4 a6 ∧ @Ne Nat a4 a7 ∧ @Ne Nat a5 a6 ∧ @Ne Nat a5 a7 ∧ @Ne Nat a6 a7) ∧ ((∀ p ∈ R, p.1 ≠ a1) ∧ (∀ p ∈ R, p.1 ≠ a2) ∧ (∀ p ∈ R, p.1 ≠ a3) ∧ (∀ p ∈ R, p.1 ≠ a4) ∧ (∀ p ∈ R, p.1 ≠ a5) ∧ (∀ p ∈ R, p.1 ≠ a6) ∧ (∀ p ∈ R, p.1 ≠ a7)) := by
  have d1 := D.ne
  have d2 := D.tl.ne
  have d3 := D.tl.tl.ne
  have d4 := D.tl.tl.tl.ne
  have d5 := D.tl.tl.tl.tl.ne
  have d6 := D.tl.tl.tl.tl.tl.ne
  have d7 := D.tl.tl.tl.tl.tl.tl.ne
  exact ⟨⟨fun e => d1 _ (.head _) e.symm, fun e => d1 _ (.tail _ (.head _)) e.symm, fun e => d1 _ (.tail _ (.tail _ (.head _))) e.symm, fun e => d1 _ (.tail _ (.tail _ (.tail _ (.head _)))) e.symm, fun e => d1 _ (.tail _ (.tail _ (.tail _ (.tail _ (.head _))))) e.symm, fun e => d1 _ (.tail _ (.tail _ (.tail _ (.tail _ (.tail _ (.head _)))))) e.symm, fun e => d2 _ (.head _) e.symm, fun e => d2 _ (.tail _ (.head _)) e.symm, fun e => d2 _ (.tail _ (.tail _ (.head _))) e.symm, fun e => d2 _ (.tail _ (.tail _ (.tail _ (.head _)))) e.symm, fun e => d2 _ (.tail _ (.tail _ (.tail _ (.tail _ (.head _))))) e.symm, fun e => d3 _ (.head _) e.symm, fun e => d3 _ (.tail _ (.head _)) e.symm, fun e => d3 _ (.tail _ (.tail _ (.head _))) e.symm, fun e => d3 _ (.tail _ (.tail _ (.tail _ (.head _)))) e.symm, fun e => d4 _ (.head _) e.symm, fun e => d4 _ (.tail _ (.head _)) e.symm, fun e => d4 _ (.tail _ (.tail _ (.head _))) e.symm, fun e => d5 _ (.head _) e.symm, fun e => d5 _ (.tail _ (.head _)) e.symm, fun e => d6 _ (.head _) e.symm⟩, fun p hp => d1 p (.tail _ (.tail _ (.tail _ (.tail _ (.tail _ (.tail _ hp)))))), fun p hp => d2 p (.tail _ (.tail _ (.tail _ (.tail _ (.tail _ hp))))), fun p hp => d3 p (.tail _ (.tail _ (.tail _ (.tail _ hp)))), fun p hp => d4 p (.tail _ (.tail _ (.tail _ hp))), fun p hp => d5 p (.tail _ (.tail _ hp)), fun p hp => d6 p (.tail _ hp), fun p hp => d7 p (hp)⟩
theorem dis8 {a1 a2 a3 a4 a5 a6 a7 a8 : Addr} {o1 o2 o3 o4 o5 o6 o7 o8 : Obj} {R : List (Addr × Obj)} (D : Dis ((a1, o1) :: (a2, o2) :: (a3, o3) :: (a4, o4) :: (a5, o5) :: (a6, o6) :: (a7, o7) :: (a8, o8) :: R)) : (@Ne Nat a1 a2 ∧ @Ne Nat a1 a3 ∧ @Ne Nat a1 a4 ∧ @Ne Nat a1 a5 ∧ @Ne Nat a1 a6 ∧ @Ne Nat a1 a7 ∧ @Ne Nat a1 a8 ∧ @Ne Nat a2 a3 ∧ @Ne Nat a2 a4 ∧ @Ne Nat a2 a5 ∧ @Ne Nat a2 a6 ∧ @Ne Nat a2 a7 ∧ @Ne Nat a2 a8 ∧ @Ne Nat a3 a4 ∧ @Ne Nat a3 a5 ∧ @Ne Nat a3 a6 ∧ @Ne Nat a3 a7 ∧ @Ne Nat a3 a8 ∧ @Ne Nat a4 a5 ∧ @Ne Nat a4 a6 ∧ @Ne Nat a4 a7 ∧ @Ne Nat a4 a8 ∧ @Ne Nat a5 a6 ∧ @Ne Nat a5 a7 ∧ @Ne Nat a5 a8 ∧ @Ne Nat a6 a7 ∧ @Ne Nat a6 a8 ∧ @Ne Nat a7 a8) ∧ ((∀ p ∈ R, p.1 ≠ a1) ∧ (∀ p ∈ R, p.1 ≠ a2) ∧ (∀ p ∈ R, p.1 ≠ a3) ∧ (∀ p ∈ R, p.1 ≠ a4) ∧ (∀ p ∈ R, p.1 ≠ a5) ∧ (∀ p ∈ R, p.1 ≠ a6) ∧ (∀ p ∈ R, p.1 ≠ a7) ∧ (∀ p ∈ R, p.1 ≠ a8)) := by
  have d1 := D.ne
  have d2 := D.tl.ne
  have d3 := D.tl.tl.ne
  have d4 := D.tl.tl.tl.ne
  have d5 := D.tl.tl.tl.tl.ne
  have d6 := D.tl.tl.tl.tl.tl.ne
  have d7 := D.tl.tl.tl.tl.tl.tl.ne
  have d8 := D.tl.tl.tl.tl.tl.tl.tl.ne
  exact ⟨⟨fun e => d1 _ (.head _) e.symm, fun e => d1 _ (.tail _ (.head _)) e.symm, fun e => d1 _ (.tail _ (.tail _ (.head _))) e.symm, fun e => d1 _ (.tail _ (.tail _ (.tail _ (.head _)))) e.symm, fun e => d1 _ (.tail _ (.tail _ (.tail _ (.tail _ (.head _))))) e.symm, fun e => d1 _ (.tail _ (.tail _ (.tail _ (.tail _ (.tail _ (.head _)))))) e.symm, fun e => d1 _ (.tail _ (.tail _ (.tail _ (.tail _ (.tail _ (.tail _ (.head _))))))) e.symm, fun e => d2 _ (.head _) e.symm, fun e => d2 _ (.tail _ (.head _)) e.symm, fun e => d2 _ (.tail _ (.tail _ (.head _))) e.symm, fun e => d2 _ (.tail _ (.tail _ (.tail _ (.head _)))) e.symm, fun e => d2 _ (.tail _ (.tail _ (.tail _ (.tail _ (.head _))))) e.symm, fun e => d2 _ (.tail _ (.tail _ (.tail _ (.tail _ (.tail _ (.head _)))))) e.symm, fun e => d3 _ (.head _) e.symm, fun e => d3 _ (.tail _ (.head _)) e.symm, fun e => d3 _ (.tail _ (.tail _ (.head _))) e.symm, fun e => d3 _ (.tail _ (.tail _ (.tail _ (.head _)))) e.symm, fun e => d3 _ (.tail _ (.tail _ (.tail _ (.tail _ (.head _))))) e.symm, fun e => d4 _ (.head _) e.symm, fun e => d4 _ (.tail _ (.head _)) e.symm, fun e => d4 _ (.tail _ (.tail _ (.head _))) e.symm, fun e => d4 _ (.tail _ (.tail _ (.tail _ (.head _)))) e.symm, fun e => d5 _ (.head _) e.symm, fun e => d5 _ (.tail _ (.head _)) e.symm, fun e => d5 _ (.tail _ (.tail _ (.head _))) e.symm, fun e => d6 _ (.head _) e.symm, fun e => d6 _ (.tail _ (.head _)) e.symm, fun e => d7 _ (.head _) e.symm⟩, fun p hp => d1 p (.tail _ (.tail _ (.tail _ (.tail _ (.tail _ (.tail _ (.tail _ hp))))))), fun p hp => d2 p (.tail _ (.tail _ (.tail _ (.tail _ (.tail _ (.tail _ hp)))))), fun p hp => d3 p (.tail _ (.tail _ (.tail _ (.tail _ (.tail _ hp))))), fun p hp => d4 p (.tail _ (.tail _ (.tail _ (.tail _ hp)))), fun p hp => d5 p (.tail _ (.tail _ (.tail _ hp))), fun p hp => d6 p (.tail _ (.tail _ hp)), fun p hp => d7 p (.tail _ hp), fun p hp => d8 p (hp)⟩
theorem dis9 {a1 a2 a3 a4 a5 a6 a7 a8 a9 : Addr} {o1 o2 o3 o4 o5 o6 o7 o8 o9 : Obj} {R : List (Addr × Obj)} (D : Dis ((a1, o1) :: (a2, o2) :: (a3, o3) :: (a4, o4) :: (a5, o5) :: (a6, o6) :: (a7, o7) :: (a8, o8) :: (a9, o9) :: R)) : (@Ne Nat a1 a2 ∧ @Ne Nat a1 a3 ∧ @Ne Nat a1 a4 ∧ @Ne Nat a1 a5 ∧ @Ne Nat a1 a6 ∧ @Ne Nat a1 a7 ∧ @Ne Nat a1 a8 ∧ @Ne Nat a1 a9 ∧ @Ne Nat a2 a3 ∧ @Ne Nat a2 a4 ∧ @Ne Nat a2 a5 ∧ @Ne Nat a2 a6 ∧ @Ne Nat a2 a7 ∧ @Ne Nat a2 a8 ∧ @Ne Nat a2 a9 ∧ @Ne Nat a3 a4 ∧ @Ne Nat a3 a5 ∧ @Ne Nat a3 a6 ∧ @Ne Nat a3 a7 ∧ @Ne Nat a3 a8 ∧ @Ne Nat a3 a9 ∧ @Ne Nat a4 a5 ∧ @Ne Nat a4 a6 ∧ @Ne Nat a4 a7 ∧ @Ne Nat a4 a8 ∧ @Ne Nat a4 a9 ∧ @Ne Nat a5 a6 ∧ @Ne Nat a5 a7 ∧ @Ne Nat a5 a8 ∧ @Ne Nat a5 a9 ∧ @Ne Nat a6 a7 ∧ @Ne Nat a6 a8 ∧ @Ne Nat a6 a9 ∧ @Ne Nat a7 a8 ∧ @Ne Nat a7 a9 ∧ @Ne Nat a8 a9) ∧ ((∀ p ∈ R, p.1 ≠ a1) ∧ (∀ p ∈ R, p.1 ≠ a2) ∧ (∀ p ∈ R, p.1 ≠ a3) ∧ (∀ p ∈ R, p.1 ≠ a4) ∧ (∀ p ∈ R, p.1 ≠ a5) ∧ (∀ p ∈ R, p.1 ≠ a6) ∧ (∀ p ∈ R, p.1 ≠ a7) ∧ (∀ p ∈ R, p.1 ≠ a8) ∧ (∀ p ∈ R, p.1 ≠ a9)) := by
  have d1 := D.ne
  have d2 := D.tl.ne
  have d3 := D.tl.tl.ne
  have d4 := D.tl.tl.tl.ne
  have d5 := D.tl.tl.tl.tl.ne
  have d6 := D.tl.tl.tl.tl.tl.ne
  have d7 := D.tl.tl.tl.tl.tl.tl.ne
  have d8 := D.tl.tl.tl.tl.tl.tl.tl.ne
  have d9 := D.tl.tl.tl.tl.tl.tl.tl.tl.ne
  exact ⟨⟨fun e => d1 _ (.head _) e.symm, fun e => d1 _ (.tail _ (.head _)) e.symm, fun e => d1 _ (.tail _ (.tail _ (.head _))) e.symm, fun e => d1 _ (.tail _ (.tail _ (.tail _ (.head _)))) e.symm, fun e => d1 _ (.tail _ (.tail _ (.tail _ (.tail _ (.head _))))) e.symm, fun e => d1 _ (.tail _ (.tail _ (.tail _ (.tail _ (.tail _ (.head _)))))) e.symm, fun e => d1 _ (.tail _ (.tail _ (.tail _ (.tail _ (.tail _ (.tail _ (.head _))))))) e.symm, fun e => d1 _ (.tail _ (.tail _ (.tail _ (.tail _ (.tail _ (.tail _ (.tail _ (.head _)))))))) e.symm, fun e => d2 _ (.head _) e.symm, fun e => d2 _ (.tail _ (.head _)) e.symm, fun e => d2 _ (.tail _ (.tail _ (.head _))) e.symm, fun e => d2 _ (.tail _ (.tail _ (.tail _ (.head _)))) e.symm, fun e => d2 _ (.tail _ (.tail _ (.tail _ (.tail _ (.head _))))) e.symm, fun e => d2 _ (.tail _ (.tail _ (.tail _ (.tail _ (.tail _ (.head _)))))) e.symm, fun e => d2 _ (.tail _ (.tail _ (.tail _ (.tail _ (.tail _ (.tail _ (.head _))))))) e.symm, fun e => d3 _ (.head _) e.symm, fun e => d3 _ (.tail _ (.head _)) e.symm, fun e => d3 _ (.tail _ (.tail _ (.head _))) e.symm, fun e => d3 _ (.tail _ (.tail _ (.tail _ (.head _)))) e.symm, fun e => d3 _ (.tail _ (.tail _ (.tail _ (.tail _ (.head _))))) e.symm, fun e => d3 _ (.tail _ (.tail _ (.tail _ (.tail _ (.tail _ (.head _)))))) e.symm, fun e => d4 _ (.head _) e.symm, fun e => d4 _ (.tail _ (.head _)) e.symm, fun e => d4 _ (.tail _ (.tail _ (.head _))) e.symm, fun e => d4 _ (.tail _ (.tail _ (.tail _ (.head _)))) e.symm, fun e => d4 _ (.tail _ (.tail _ (.tail _ (.tail _ (.head _))))) e.symm, fun e => d5 _ (.head _) e.symm, fun e => d5 _ (.tail _ (.head _)) e.symm, fun e => d5 _ (.tail _ (.tail _ (.head _))) e.symm, fun e => d5 _ (.tail _ (.tail _ (.tail _ (.head _)))) e.symm, fun e => d6 _ (.head _) e.symm, fun e => d6 _ (.tail _ (.head _)) e.symm, fun e => d6 _ (.tail _ (.tail _ (.head _))) e.symm, fun e => d7 _ (.head _) e.symm, fun e => d7 _ (.tail _ (.head _)) e.symm, fun e => d8 _ (.head _) e.symm⟩, fun p hp => d1 p (.tail _ (.tail _ (.tail _ (.tail _ (.tail _ (.tail _ (.tail _ (.tail _ hp)))))))), fun p hp => d2 p (.tail _ (.tail _ (.tail _ (.tail _ (.tail _ (.tail _ (.tail _ hp))))))), fun p hp => d3 p (.tail _ (.tail _ (.tail _ (.tail _ (.tail _ (.tail _ hp)))))), fun p hp => d4 p (.tail _ (.tail _ (.tail _ (.tail _ (.tail _ hp))))), fun p hp => d5 p (.tail _ (.tail _ (.tail _ (.tail _ hp)))), fun p hp => d6 p (.tail _ (.tail _ (.tail _ hp))), fun p hp => d7 p (.tail _ (.tail _ hp)), fun p hp => d8 p (.tail _ hp), fun p hp => d9 p (hp)⟩
theorem dis10 {a1 a2 a3 a4 a5 a6 a7 a8 a9 a10 : Addr} {o1 o2 o3 o4 o5 o6 o7 o8 o9 o10 : Obj} {R : List (Addr × Obj)} (D : Dis ((a1, o1) :: (a2, o2) :: (a3, o3) :: (a4, o4) :: (a5, o5) :: (a6, o6) :: (a7, o7) :: (a8, o8) :: (a9, o9) :: (a10, o10) :: R)) : (@Ne Nat a1 a2 ∧ @Ne Nat a1 a3 ∧ @Ne Nat a1 a4 ∧ @Ne Nat a1 a5 ∧ @Ne Nat a1 a6 ∧ @Ne Nat a1 a7 ∧ @Ne Nat a1 a8 ∧ @Ne Nat a1 a9 ∧ @Ne Nat a1 a10 ∧ @Ne Nat a2 a3 ∧ @Ne Nat a2 a4 ∧ @Ne Nat a2 a5 ∧ @Ne Nat a2 a6 ∧ @Ne Nat a2 a7 ∧ @Ne Nat a2 a8 ∧ @Ne Nat a2 a9 ∧ @Ne Nat a2 a10 ∧ @Ne Nat a3 a4 ∧ @Ne Nat a3 a5 ∧ @Ne Nat a3 a6 ∧ @Ne Nat a3 a7 ∧ @Ne Nat a3 a8 ∧ @Ne Nat a3 a9 ∧ @Ne Nat a3 a10 ∧ @Ne Nat a4 a5 ∧ @Ne Nat a4 a6 ∧ @Ne Nat a4 a7 ∧ @Ne Nat a4 a8 ∧ @Ne Nat a4 a9 ∧ @Ne Nat a4 a10 ∧ @Ne Nat a5 a6 ∧ @Ne Nat a5 a7 ∧ @Ne Nat a5 a8 ∧ @Ne Nat a5 a9 ∧ @Ne Nat a5 a10 ∧ @Ne Nat a6 a7 ∧ @Ne Nat a6 a8 ∧ @Ne Nat a6 a9 ∧ @Ne Nat a6 a10 ∧ @Ne Nat a7 a8 ∧ @Ne Nat a7 a9 ∧ @Ne Nat a7 a10 ∧ @Ne Nat a8 a9 ∧ @Ne Nat a8 a10 ∧ @Ne Nat a9 a10) ∧ ((∀ p ∈ R, p.1 ≠ a1) ∧ (∀ p ∈ R, p.1 ≠ a2) ∧ (∀ p ∈ R, p.1 ≠ a3) ∧ (∀ p ∈ R, p.1 ≠ a4) ∧ (∀ p ∈ R, p.1 ≠ a5) ∧ (∀ p ∈ R, p.1 ≠ a6) ∧ (∀ p ∈ R, p.1 ≠ a7) ∧ (∀ p ∈ R, p.1 ≠ a8) ∧ (∀ p ∈ R, p.1 ≠ a9) ∧ (∀ p ∈ R, p.1 ≠ a10)) := by
  have d1 := D.ne
  have d2 := D.tl.ne
  have d3 := D.tl.tl.ne
  have d4 := D.tl.tl.tl.ne
  have d5 := D.tl.tl.tl.tl.ne
  have d6 := D.tl.tl.tl.tl.tl.ne
  have d7 := D.tl.tl.tl.tl.tl.tl.ne
  have d8 := D.tl.tl.tl.tl.tl.tl.tl.ne
  have d9 := D.tl.tl.tl.tl.tl.tl.tl.tl.ne
  have d10 := D.tl.tl.tl.tl.tl.tl.tl.tl.tl.ne
  exact ⟨⟨fun e => d1 _ (.head _) e.symm, fun e => d1 _ (.tail _ (.head _)) e.symm, fun e => d1 _ (.tail _ (.tail _ (.head _))) e.symm, fun e => d1 _ (.tail _ (.tail _ (.tail _ (.head _)))) e.symm, fun e => d1 _ (.tail _ (.tail _ (.tail _ (.tail _ (.head _))))) e.symm, fun e => d1 _ (.tail _ (.tail _ (.tail _ (.tail _ (.tail _ (.head _)))))) e.symm, fun e => d1 _ (.tail _ (.tail _ (.tail _ (.tail _ (.tail _ (.tail _ (.head _))))))) e.symm, fun e => d1 _ (.tail _ (.tail _ (.tail _ (.tail _ (.tail _ (.tail _ (.tail _ (.head _)))))))) e.symm, fun e => d1 _ (.tail _ (.tail _ (.tail _ (.tail _ (.tail _ (.tail _ (.tail _ (.tail _ (.head _))))))))) e.symm, fun e => d2 _ (.head _) e.symm, fun e => d2 _ (.tail _ (.head _)) e.symm, fun e => d2 _ (.tail _ (.tail _ (.head _))) e.symm, fun e => d2 _ (.tail _ (.tail _ (.tail _ (.head _)))) e.symm, fun e => d2 _ (.tail _ (.tail _ (.tail _ (.tail _ (.head _))))) e.symm, fun e => d2 _ (.tail _ (.tail _ (.tail _ (.tail _ (.tail _ (.head _)))))) e.symm, fun e => d2 _ (.tail _ (.tail _ (.tail _ (.tail _ (.tail _ (.tail _ (.head _))))))) e.symm, fun e => d2 _ (.tail _ (.tail _ (.tail _ (.tail _ (.tail _ (.tail _ (.tail _ (.head _)))))))) e.symm, fun e => d3 _ (.head _) e.symm, fun e => d3 _ (.tail _ (.head _)) e.symm, fun e => d3 _ (.tail _ (.tail _ (.head _))) e.symm, fun e => d3 _ (.tail _ (.tail _ (.tail _ (.head _)))) e.symm, fun e => d3 _ (.tail _ (.tail _ (.tail _ (.tail _ (.head _))))) e.symm, fun e => d3 _ (.tail _ (.tail _ (.tail _ (.tail _ (.tail _ (.head _)))))) e.symm, fun e => d3 _ (.tail _ (.tail _ (.tail _ (.tail _ (.tail _ (.tail _ (.head _))))))) e.symm, fun e => d4 _ (.head _) e.symm, fun e => d4 _ (.tail _ (.head _)) e.symm, fun e => d4 _ (.tail _ (.tail _ (.head _))) e.symm, fun e => d4 _ (.tail _ (.tail _ (.tail _ (.head _)))) e.symm, fun e => d4 _ (.tail _ (.tail _ (.tail _ (.tail _ (.head _))))) e.symm, fun e => d4 _ (.tail _ (.tail _ (.tail _ (.tail _ (.tail _ (.head _)))))) e.symm, fun e => d5 _ (.head _) e.symm, fun e => d5 _ (.tail _ (.head _)) e.symm, fun e => d5 _ (.tail _ (.tail _ (.head _))) e.symm, fun e => d5 _ (.tail _ (.tail _ (.tail _ (.head _)))) e.symm, fun e => d5 _ (.tail _ (.tail _ (.tail _ (.tail _ (.head _))))) e.symm, fun e => d6 _ (.head _) e.symm, fun e => d6 _ (.tail _ (.head _)) e.symm, fun e => d6 _ (.tail _ (.tail _ (.head _))) e.symm, fun e => d6 _ (.tail _ (.tail _ (.tail _ (.head _)))) e.symm, fun e => d7 _ (.head _) e.symm, fun e => d7 _ (.tail _ (.head _)) e.symm, fun e => d7 _ (.tail _ (.tail _ (.head _))) e.symm, fun e => d8 _ (.head _) e.symm, fun e => d8 _ (.tail _ (.head _)) e.symm, fun e => d9 _ (.head _) e.symm⟩, fun p hp => d1 p (.tail _ (.tail _ (.tail _ (.tail _ (.tail _ (.tail _ (.tail _ (.tail _ (.tail _ hp))))))))), fun p hp => d2 p (.tail _ (.tail _ (.tail _ (.tail _ (.tail _ (.tail _ (.tail _ (.tail _ hp)))))))), fun p hp => d3 p (.tail _ (.tail _ (.tail _ (.tail _ (.tail _ (.tail _ (.tail _ hp))))))), fun p hp => d4 p (.tail _ (.tail _ (.tail _ (.tail _ (.tail _ (.tail _ hp)))))), fun p hp => d5 p (.tail _ (.tail _ (.tail _ (.tail _ (.tail _ hp))))), fun p hp => d6 p (.tail _ (.tail _ (.tail _ (.tail _ hp)))), fun p hp => d7 p (.tail _ (.tail _ (.tail _ hp))), fun p hp => d8 p (.tail _ (.tail _ hp)), fun p hp => d9 p (.tail _ hp), fun p hp => d10 p (hp)⟩
end Mine
end
section
namespace Mine
theorem flush_O18 : (1 : Nat) ≤ 2 := by
  w_top off
  first | walk1 | decide
end Mine
namespace Mine
section
variable {prog : Program} {w : World} {A : Around} {E : Value → Shared → Prop} {s : Shared} {b : Array UInt8} {t : Tok}
theorem nextOf_bytes_item {it : Addr} {i : Nat} {c : UInt8} {Q : Value → Shared → Prop} (hit : KBw.IsBytesIter s.heap it b t i) (hx : b[i]? = some c)
    (hQ : ∀ h', KBw.IsBytesIter h' it b t (i + 1) → Heap.SameBut it s.heap h' → Q (.int (c.toNat : Int) s.toks) { s with heap := h', toks := s.toks + 1 }) :
    wpAny (model prog w) A (Builtin.SmallTypes.nextOf (.ref it)) Q E s := by
  obtain ⟨o, ho, hc, hd⟩ := id hit
  unfold Builtin.SmallTypes.nextOf
  refine wpAny_bind (wpAny_callSpecial?_slot (name := PySem.Str.ofString "__next__") (KBw.iter_typeIs hit) KBw.slot_next
    (wpAny_call_entry KBw.slot_next (KBw.iter_typeIs hit) KBw.entry_next ?_ (KBw.args_next _)))
  show wpAny _ _ (field (.ref it) 0 >>= _) _ _ s
  refine wpAny_bind (wpAny_field ho hd (x := .bytes b t) rfl ?_)
  show wpAny _ _ (if (Value.bytes b t == Value.none) = true then _ else _) _ _ s
  rw [if_neg (show ¬ ((Value.bytes b t == Value.none) = true) from Bool.false_ne_true)]
  show wpAny _ _ (field (.ref it) 1 >>= _) _ _ s
  refine wpAny_bind (wpAny_field ho hd (x := .int i 0) rfl ?_)
  refine wpAny_bind (wpAny_of_eq (a := b) rfl ?_)
  simp only [Int.toNat_natCast, hx]
  refine wpAny_bind (wpAny_setField ho hd (by simp) (wpAny_bind (wpAny_mkInt (wpAny_pure ⟨_, rfl, wpAny_pure (hQ _ ?_ (Heap.SameBut.update ..))⟩))))
  exact ⟨_, Heap.get?_update_self _ ho (Obj.isFreed_of_fields (Obj.data_mapFields hd _)), (Obj.cls_mapFields ..).trans hc, by
    rw [Obj.data_mapFields hd]; simp [rawInt]⟩
theorem nextOf_bytes_end {it : Addr} {i : Nat} {Q : Value → Shared → Prop} (hh : A.handled = none) (hit : KBw.IsBytesIter s.heap it b t i) (hx : b[i]? = none)
    (hE : ∀ h' e, Heap.ExtBut it s.heap h' → (∃ o, h'.get? e = some o ∧ o.cls = .type "StopIteration") → E (.ref e) { s with heap := h' }) :
    wpAny (model prog w) A (Builtin.SmallTypes.nextOf (.ref it)) Q E s := by
  obtain ⟨o, ho, hc, hd⟩ := id hit
  unfold Builtin.SmallTypes.nextOf
  refine wpAny_bind (wpAny_callSpecial?_slot (name := PySem.Str.ofString "__next__") (KBw.iter_typeIs hit) KBw.slot_next
    (wpAny_call_entry KBw.slot_next (KBw.iter_typeIs hit) KBw.entry_next ?_ (KBw.args_next _)))
  show wpAny _ _ (field (.ref it) 0 >>= _) _ _ s
  refine wpAny_bind (wpAny_field ho hd (x := .bytes b t) rfl ?_)
  show wpAny _ _ (if (Value.bytes b t == Value.none) = true then _ else _) _ _ s
  rw [if_neg (show ¬ ((Value.bytes b t == Value.none) = true) from Bool.false_ne_true)]
  show wpAny _ _ (field (.ref it) 1 >>= _) _ _ s
  refine wpAny_bind (wpAny_field ho hd (x := .int i 0) rfl ?_)
  refine wpAny_bind (wpAny_of_eq (a := b) rfl ?_)
  simp only [Int.toNat_natCast, hx]
  refine wpAny_bind (wpAny_rule (wpAny_bind (wpAny_setField ho hd (by simp) ?_)))
  show wpAny _ _ (newExc (.type "StopIteration") [] >>= _) _ _ _
  refine wpAny_bind ?_
  simp only [newExc, newTuple]
  refine wpAny_bind (wpAny_newObj_type ?_ (by size_fits))
  refine wpAny_bind (m := firstArgMember _ _) (wpAny_of_eq (a := Value.none) (by first | rfl | (simp only [firstArgMember]; rfl)) ?_)
  refine wpAny_newObj_type ?_ (by size_fits)
  simp only [raiseNew]
  refine wpAny_bind (wpAny_handled ?_)
  first | rw [show A.in1.handled = none from hh] | rw [hh]
  refine wpAny_bind (wpAny_pure (wpAny_throw ?_))
  exact hE _ _ (((Heap.SameBut.update ..).extBut.push _).push _) ⟨_, Heap.get?_push_size _ rfl, rfl⟩
end
theorem draws_bytes {prog : Program} {w : World} {A : Around} (hh : A.handled = none) (it : Addr) (b : Array UInt8) (t : Tok) :
    Draws prog w A it [it] b.size (fun i v => ∃ c u, b[i]? = some c ∧ v = .int (c.toNat : Int) u) (fun i h => KBw.IsBytesIter h it b t i) where
  live := fun _ _ st => let ⟨o, ho, _⟩ := st; ⟨o, ho⟩
  frame := fun _ _ _ st hk => let ⟨o, ho, r⟩ := st; ⟨o, hk it (by simp) o ho, r⟩
  item := fun i s Q E hi st hQ => by
    refine nextOf_bytes_item st (c := b[i]) (by simp [hi]) fun h' hit' hs' => ?_
    exact hQ _ h' (s.toks + 1) ⟨_, _, by simp [hi], rfl⟩ hit' hs'
  done := fun s Q E st hE => nextOf_bytes_end hh st (by simp) hE

theorem meets_enumerate_newB (b : Array UInt8) (t : Tok) :
    Meets (Builtin.«enumerate.__new__» ⟨[.type "enumerate", .bytes b t], []⟩) (fun _ R s =>
      R (.ok (.ret (.ref (s.heap.push { cls := .type "bytes_iterator", data := .fields #[.bytes b t, .int 0 0] }).objs.size)))
        { s with heap := (s.heap.push { cls := .type "bytes_iterator", data := .fields #[.bytes b t, .int 0 0] }).push { cls := .type "enumerate", data := .fields #[.none, .bool false, .ref s.heap.objs.size, rawInt 0, .none, .none] } }) :=
  .of_wp fun prog w A R s h => by
    obtain ⟨hp, g, d, tk, os⟩ := s
    have hsub := sub_enumerate
    wp_walk
    refine wpAny_stack_any fun st => wpAny_pure ?_
    split
    · rename_i c _ _ _ _ _
      cases (c == Value.type "enumerate")
      · wp_walk using KBw.pyIter_bytes
        exact ⟨_, rfl, h⟩
      · wp_walk using KBw.pyIter_bytes
        exact ⟨_, rfl, h⟩
    · wp_walk using KBw.pyIter_bytes
      exact ⟨_, rfl, h⟩
section
variable {prog : Program} {w : World} {A : Around} {E : Value → Shared → Prop} {s : Shared}
theorem call_enumerate_bytes {b : Array UInt8} {t : Tok} {Q : Value → Shared → Prop}
    (h : ∀ h', IsEnum h' (s.heap.objs.size + 1) s.heap.objs.size 0 .none → KBw.IsBytesIter h' s.heap.objs.size b t 0 →
      (∀ b o, s.heap.get? b = some o → h'.get? b = some o) → Q (.ref (s.heap.objs.size + 1)) { s with heap := h' }) :
    wpAny (model prog w) A (call (.type "enumerate") [.bytes b t]) Q E s := by
  refine callType_new F.called_enumerate (by decide) (F.typeCall_enumerate_1 _) (F.newCall_enumerate_1 _) (fun obj => F.args_object_init_2 obj _) F.entry_enumerate_new
    (meets_enumerate_newB b t) ?_
  have hz : (s.heap.push { cls := .type "bytes_iterator", data := .fields #[.bytes b t, .int 0 0] }).objs.size = s.heap.objs.size + 1 := Heap.size_push ..
  show _ ∧ _
  rw [hz]
  have he : IsEnum ((s.heap.push { cls := .type "bytes_iterator", data := .fields #[.bytes b t, .int 0 0] }).push
      { cls := .type "enumerate", data := .fields #[.none, .bool false, .ref s.heap.objs.size, rawInt 0, .none, .none] }) (s.heap.objs.size + 1) s.heap.objs.size 0 .none := by
    have := Heap.get?_push_size (s.heap.push { cls := .type "bytes_iterator", data := .fields #[.bytes b t, .int 0 0] })
      (o := { cls := .type "enumerate", data := .fields #[.none, .bool false, .ref s.heap.objs.size, rawInt 0, .none, .none] }) rfl
    rw [hz] at this; exact this
  refine ⟨⟨_, he, rfl⟩, h _ he ⟨_, Heap.get?_push_of_some _ (Heap.get?_push_size _ rfl), rfl, rfl⟩ fun b o x => Heap.get?_push_of_some _ (Heap.get?_push_of_some _ x)⟩
end
end Mine
end
section
namespace Mine
theorem flush_O20 : (1 : Nat) ≤ 2 := by
  w_top off
  first | walk1 | decide
end Mine
namespace Mine
section
variable {prog : Program} {w : World} {A : Around} {E : Value → Shared → Prop}

/-- a small int is or is not another -/
theorem is_ints {M : Model} {s : Shared} {p q : Int} {t u : Tok} {Q : Value → Shared → Prop} (ht : @Ne Nat t 0) (hu : @Ne Nat u 0) (hs : -5 ≤ p ∧ p ≤ 256) (hd : p ≠ q → @Ne Nat t u) (h : Q (.bool (decide (p = q))) s) :
    wpAny M A (compareOp .Is (.int p t) (.int q u)) Q E s := by
  show wpAny M A (isSame (.int p t) (.int q u) >>= fun b => pure (Value.bool b)) Q E s
  refine wpAny_bind ?_
  have ht' : t ≠ (0 : Tok) := ht
  have hu' : u ≠ (0 : Tok) := hu
  have hd' : p ≠ q → t ≠ u := hd
  have h0 : (t == 0 || u == 0) = false := by simp [ht', hu']
  show wpAny M A (if (p == q && smallInt p) = true then isSame.cachedInt t u else isSame.created (p == q) t u) _ _ _
  by_cases e : p = q
  · subst e
    rw [if_pos (by simp [smallInt, hs.1, hs.2])]
    unfold isSame.cachedInt
    rw [h0]
    rw [decide_eq_true (rfl : p = p)] at h
    exact wpAny_bind (wpAny_rule (wpAny_pure (wpAny_pure h)))
  · have e' : (p == q) = false := by simpa using e
    rw [e', Bool.false_and, if_neg Bool.false_ne_true]
    unfold isSame.created
    have htu : (t == u) = false := by simpa using hd' e
    rw [decide_eq_false e] at h
    simp only [h0, htu, Bool.false_eq_true, if_false, Bool.not_false, if_true]
    repeat (first | exact h | refine wpAny_pure ?_ | refine wpAny_bind ?_)

/-- a field of the enumerate's own set; all else that stood at the start stands -/
theorem enum_set {s : Shared} {e : Addr} {vs : Array Value} {k : Nat} {x : Value} {h₁ : Heap} {Q : Unit → Shared → Prop} (ho : s.heap.get? e = some { cls := .type "enumerate", dict := none, data := .fields vs, slots := #[] }) (hk : k < vs.size)
    (kp : ∀ a o, a ≠ e → h₁.get? a = some o → s.heap.get? a = some o)
    (h : ∀ h', h'.get? e = some { cls := .type "enumerate", dict := none, data := .fields (vs.setIfInBounds k x), slots := #[] } → (∀ a o, a ≠ e → h₁.get? a = some o → h'.get? a = some o) → Heap.SameBut e s.heap h' → Q () { s with heap := h' }) :
    wpAny (model prog w) A (setField (.ref e) k x) Q E s :=
  wpAny_setField_rec ho hk fun h' q1 q2 => h h' q1 (fun a o n q => q2.extBut a o n (kp a o n q)) q2

theorem enumB_next {s : Shared} {e it : Addr} {b : Array UInt8} {tb : Tok} {i : Nat} {c : UInt8} {old : Value} {Q : Value → Shared → Prop}
    (he : IsEnum s.heap e it (i : Nat) old) (hit : KBw.IsBytesIter s.heap it b tb i) (hc : b[i]? = some c) (hne : e ≠ it)
    (hQ : ∀ h', IsEnumOut h' e it ((i : Int) + 1) (.int (c.toNat : Int) s.toks) s.heap.objs.size → KBw.IsBytesIter h' it b tb (i + 1) →
      h'.get? s.heap.objs.size = some { cls := .type "tuple", data := .seq #[.int (i : Nat) (s.toks + 1), .int (c.toNat : Int) s.toks] } →
      (∀ b o, b ≠ e → b ≠ it → s.heap.get? b = some o → h'.get? b = some o) → Q (.ref s.heap.objs.size) { s with heap := h', toks := s.toks + 1 + 1 }) :
    wpAny (model prog w) A (Builtin.«enumerate.__next__» ⟨[.ref e], []⟩) (fun fin s' => ∃ v, fin = .done (.ret v) ∧ Q v s') E s := by
  obtain ⟨hp, g, d, tk, os⟩ := s
  have hlt : e < hp.objs.size := Heap.lt_size he
  have nx : ∀ {E : Value → Shared → Prop} {R : Value → Shared → Prop}, (∀ h', KBw.IsBytesIter h' it b tb (i + 1) → Heap.SameBut it hp h' → R (.int (c.toNat : Int) tk) ⟨h', g, d, tk + 1, os⟩) → wpAny (model prog w) A (Builtin.SmallTypes.nextOf (.ref it)) R E ⟨hp, g, d, tk, os⟩ :=
    fun h => nextOf_bytes_item hit hc h
  show wpAny _ _ (field (.ref e) 2 >>= _) _ _ _
  refine wpAny_bind (wpAny_field he rfl (x := .ref it) rfl (wpAny_bind (nx fun h₁ hit₁ hs₁ => ?_)))
  have he₁ : IsEnum h₁ e it (i : Nat) old := (hs₁.2 e hne).trans he
  show wpAny _ _ (field (.ref e) 3 >>= _) _ _ _
  refine wpAny_bind (wpAny_field he₁ rfl (x := rawInt (i : Nat)) rfl ?_)
  show wpAny _ _ (field (.ref e) 4 >>= _) _ _ _
  refine wpAny_bind (wpAny_field he₁ rfl (x := .none) rfl ?_)
  show wpAny _ _ (mkInt (i : Nat) >>= _) _ _ _
  refine wpAny_bind (wpAny_mkInt ?_)
  show wpAny _ _ (setField (.ref e) 3 (rawInt ((i : Int) + 1)) >>= _) _ _ _
  have hz₁ : h₁.objs.size = hp.objs.size := hs₁.1
  refine wpAny_bind (enum_set (h₁ := h₁) he₁ (by simp) (fun _ _ _ q => q) fun h₂ e₂ k₂ z₂ => ?_)
  refine wpAny_bind (enum_set (h₁ := h₁) e₂ (by simp) k₂ fun h₃ e₃ k₃ z₃ => ?_)
  refine wpAny_bind (wpAny_newTuple ?_)
  have hz₃ : h₃.objs.size = hp.objs.size := by
    have a1 : h₃.objs.size = h₂.objs.size := z₃.1
    have a2 : h₂.objs.size = h₁.objs.size := z₂.1
    rw [a1, a2, hz₁]
  dsimp only
  rw [hz₃]
  have t₄ : (h₃.push { cls := .type "tuple", data := .seq [Value.int (i : Nat) (tk + 1), Value.int (c.toNat : Int) tk].toArray }).get? hp.objs.size = some { cls := .type "tuple", data := .seq [Value.int (i : Nat) (tk + 1), Value.int (c.toNat : Int) tk].toArray } := by
    rw [← hz₃]; exact Heap.get?_push_size _ rfl
  have e₄ := Heap.get?_push_of_some { cls := .type "tuple", data := .seq [Value.int (i : Nat) (tk + 1), Value.int (c.toNat : Int) tk].toArray } e₃
  have k₄ : ∀ a o, a ≠ e → h₁.get? a = some o → (h₃.push { cls := .type "tuple", data := .seq [Value.int (i : Nat) (tk + 1), Value.int (c.toNat : Int) tk].toArray }).get? a = some o := fun a o n q => Heap.get?_push_of_some _ (k₃ a o n q)
  generalize (h₃.push { cls := .type "tuple", data := .seq [Value.int (i : Nat) (tk + 1), Value.int (c.toNat : Int) tk].toArray }) = h₄ at t₄ e₄ k₄
  have t₅ : ∀ h' : Heap, Heap.SameBut e h₄ h' → h'.get? hp.objs.size = some { cls := .type "tuple", data := .seq [Value.int (i : Nat) (tk + 1), Value.int (c.toNat : Int) tk].toArray } := fun h' q => q.extBut _ _ (Nat.ne_of_gt hlt) t₄
  unfold Builtin.SmallTypes.ownedTupleIsFree
  refine wpAny_bind (wpAny_bind (wpAny_field e₄ rfl (x := .none) (by simp) (wpAny_pure ?_)))
  simp only [if_true]
  refine wpAny_bind (wpAny_rule ?_)
  refine wpAny_bind (wpAny_field e₄ rfl (x := old) (by simp) ?_)
  refine wpAny_bind (enum_set (h₁ := h₁) e₄ (by simp) k₄ fun h₅ e₅ k₅ z₅ => ?_)
  unfold Builtin.SmallTypes.ownedTupleHandOut
  refine wpAny_bind (wpAny_bind (enum_set (h₁ := h₁) e₅ (by simp) k₅ fun h₆ e₆ k₆ z₆ => ?_))
  refine enum_set (h₁ := h₁) e₆ (by simp) k₆ fun h₇ e₇ k₇ z₇ => ?_
  refine wpAny_bind (wpAny_letGo (wpAny_pure ⟨_, rfl, hQ h₇ ?_ ?_ ?_ ?_⟩))
  · simpa using e₇
  · obtain ⟨o, q1, q2⟩ := hit₁
    exact ⟨o, k₇ _ _ (Ne.symm hne) q1, q2⟩
  · exact z₇.extBut _ _ (Nat.ne_of_gt hlt) (z₆.extBut _ _ (Nat.ne_of_gt hlt) (z₅.extBut _ _ (Nat.ne_of_gt hlt) t₄))
  · exact fun a o n1 n2 q => k₇ a o n1 (hs₁.extBut a o n2 q)

theorem pyNext_enumB {s : Shared} {e it : Addr} {b : Array UInt8} {tb : Tok} {i : Nat} {c : UInt8} {old : Value} {Q : Option Value → Shared → Prop}
    (he : IsEnum s.heap e it (i : Nat) old) (hit : KBw.IsBytesIter s.heap it b tb i) (hc : b[i]? = some c) (hne : e ≠ it)
    (hQ : ∀ h', IsEnumOut h' e it ((i : Int) + 1) (.int (c.toNat : Int) s.toks) s.heap.objs.size → KBw.IsBytesIter h' it b tb (i + 1) →
      h'.get? s.heap.objs.size = some { cls := .type "tuple", data := .seq #[.int (i : Nat) (s.toks + 1), .int (c.toNat : Int) s.toks] } →
      (∀ b o, b ≠ e → b ≠ it → s.heap.get? b = some o → h'.get? b = some o) → Q (some (.ref s.heap.objs.size)) { s with heap := h', toks := s.toks + 1 + 1 }) :
    wpAny (model prog w) A (pyNext (.ref e)) Q E s := by
  have hT : s.TypeIs (.ref e) "enumerate" := ⟨_, he, rfl⟩
  unfold pyNext
  refine wpAny_bind (wpAny_attempt (wpAny_callSpecial?_slot (name := PySem.Str.ofString "__next__") hT F.slot_enumerate_next (wpAny_call_entry F.slot_enumerate_next hT F.entry_enumerate_next ?_ (F.args_enumerate_next_1 _))))
  exact enumB_next he hit hc hne fun h' q1 q2 q3 q4 => wpAny_pure (hQ h' q1 q2 q3 q4)
end

inductive EnP (h₀ : Heap) (L : Addr) (s : Shared) (m : PySem.Str → Option Value) (news : List (Addr × Obj)) (b : Array UInt8) (tb : Tok) (v : Value) (s' : Shared) : Prop where
  | mk : ∀ h' tk, s' = { s with heap := h', toks := tk } → Fr h₀ L h' m → News h₀ L h' news → ∀ e it, v = .ref e → IsEnum h' e it 0 .none → KBw.IsBytesIter h' it b tb 0 → e ≠ it → h₀.get? e = none → h₀.get? it = none → e ≠ L → it ≠ L → (∀ p ∈ news, p.1 ≠ e ∧ p.1 ≠ it) → EnP h₀ L s m news b tb v s'
inductive EnI (J : Nat → Prop) (h₀ : Heap) (L : Addr) (xi xv : PySem.Str) (m : PySem.Str → Option Value) (news : List (Addr × Obj)) (b : Array UInt8) (tb : Tok) (n₀ : Nat) (e it : Addr) (s : Shared) (k : Nat) (s' : Shared) : Prop where
  | mk : ∀ h' tk m' i, s' = { s with heap := h', toks := tk } → ((∃ old, IsEnum h' e it ((i : Nat) : Int) old) ∧ KBw.IsBytesIter h' it b tb i) → Fr h₀ L h' m' → News h₀ L h' news → (∀ y, y ≠ xi → y ≠ xv → m' y = m y) → J i → n₀ ≤ tk → i ≤ b.size → k = b.size + 1 - i → EnI J h₀ L xi xv m news b tb n₀ e it s k s'
inductive KeepEnd (J : Prop) (h₀ : Heap) (L : Addr) (xi xv : PySem.Str) (m : PySem.Str → Option Value) (led : List (Addr × Obj)) (s₁ s₂ : Shared) : Prop where
  | mk : J → ∀ h' tk m₁, s₂ = { s₁ with heap := h', toks := tk } → (∀ y, y ≠ xi → y ≠ xv → m₁ y = m y) → Fr h₀ L h' m₁ → News h₀ L h' led → KeepEnd J h₀ L xi xv m led s₁ s₂
section
variable {prog : Program} {w : World} {A : Around} {E : Value → Shared → Prop} {s : Shared} {env : Env} {h₀ : Heap} {body orelse : List Stmt} {Q : Flow → Shared → Prop} {xi xv : PySem.Str} {pi pv pt pos : Pos} {kt : Nat}

/-- a turn of a loop that keeps all but its two names -/
def KeepPost (J : Prop) (h₀ : Heap) (L : Addr) (xi xv : PySem.Str) (m : PySem.Str → Option Value) (led : List (Addr × Obj)) (s₁ : Shared) (Q : Flow → Shared → Prop) (f : Flow) (s₂ : Shared) : Prop :=
  match f with
  | .ret v => Q (.ret v) s₂
  | .brk => Q .next s₂
  | _ => KeepEnd J h₀ L xi xv m led s₁ s₂

theorem For_enumB {iter : Expr} {m : PySem.Str → Option Value} {news : List (Addr × Obj)} {b : Array UInt8} {tb : Tok} (n₀ : Nat) (J : Nat → Prop) (hJ : J 0) (hh : A.handled = none)
    (hxi : env.kindOf xi = some .local) (hxv : env.kindOf xv = some .local) (hp : (env.scope.kind == .class || (env.scope.kind == .module && env.locals != env.globals)) = false) (hn₀ : n₀ ≤ s.toks)
    (hev : wpAny (model prog w) A (eval iter env) (EnP h₀ env.locals s m news b tb) E s)
    (turn : ∀ i c u t h tk own, b[i]? = some c → J i → n₀ ≤ u → u < t → t < tk → Fr h₀ env.locals h (fun y => if y = xv then some (.int (c.toNat : Int) u) else if y = xi then some (.int (i : Nat) t) else m y) → News h₀ env.locals h (own ++ news) →
      wpAny (model prog w) A (execs body env) (KeepPost (J (i + 1)) h₀ env.locals xi xv m (own ++ news) s Q) E { s with heap := h, toks := tk })
    (done : ∀ h tk (m₁ : PySem.Str → Option Value), J b.size → n₀ ≤ tk → (∀ y, y ≠ xi → y ≠ xv → m₁ y = m y) → Fr h₀ env.locals h m₁ → News h₀ env.locals h news → wpAny (model prog w) A (execs orelse env) Q E { s with heap := h, toks := tk })
    (hs : ∀ x, foldedSetIterable iter env x = pure x := by intro _; rfl)
    (hE : PassesOwn (model prog w) A env E := by passes_own) :
    wpAny (model prog w) A (exec (.For (.Tuple [.Name xi pi, .Name xv pv] kt pt) iter body orelse pos) env) Q E s := by
  refine wpAny_For (wpAny_mono (wpAny_toks_of hn₀ hev) (fun v s₁ h₁ => ?_) fun _ _ e => e.2) hs
  obtain ⟨hn₁, hp1, tk1, rfl, F, N, e, it, rfl, he, hit, hei, he0, hi0, heL, hiL, hoff⟩ := h₁
  refine wpAny_pyIter_enum he ?_
  have D := draws_bytes (prog := prog) (w := w) (A := A.in1) (by exact hh) it b tb
  refine codeAny_forLoop_any (R := fun r s' => match r with | .ok f => Q f s' | .error e => cameBackBy (model prog w) A env E e s')
    (EnI J h₀ env.locals xi xv m news b tb n₀ e it s) ?_ (b.size + 1)
    ⟨hp1, tk1, m, 0, rfl, ⟨⟨_, he⟩, hit⟩, F, N, fun _ _ _ => rfl, hJ, hn₁, Nat.zero_le _, rfl⟩
  rintro k s' ⟨h', tk, m', i, rfl, ⟨⟨old, he'⟩, hit'⟩, F', N', hm, hj, hntk, hi, rfl⟩
  have held : ∀ b o, h₀.get? b = some o → b ≠ e ∧ b ≠ it := fun b o q => ⟨fun z => (by rw [z, he0] at q; cases q), fun z => (by rw [z, hi0] at q; cases q)⟩
  have next : ∀ h₁ : Heap, (∀ b o, b ≠ e → b ≠ it → h'.get? b = some o → h₁.get? b = some o) → Fr h₀ env.locals h₁ m' ∧ News h₀ env.locals h₁ news := fun h₁ hk₁ =>
    ⟨⟨F'.ns.at' fun o q => hk₁ _ o heL.symm hiL.symm q, fun b o q => hk₁ b o (held b o q).1 (held b o q).2 (F'.keep b o q), F'.above⟩, fun p hp => ⟨hk₁ _ _ (hoff p hp).1 (hoff p hp).2 (N' p hp).1, (N' p hp).2⟩⟩
  by_cases hlt : i < b.size
  · have hc : b[i]? = some b[i] := Array.getElem?_eq_getElem hlt
    have hel : e < h'.objs.size := Heap.lt_size he'
    have hil : it < h'.objs.size := by obtain ⟨o, ho, _⟩ := hit'; exact Heap.lt_size ho
    refine pyNext_enumB he' hit' hc hei fun h₁ q1 q2 q3 hk₁ => ?_
    obtain ⟨F₁, N₁⟩ := next h₁ hk₁
    refine wpAny_letOwnedTupleGo_enum q1 fun h₂ he₂ hs₂ => ?_
    replace hs₂ : Heap.SameBut e h₁ h₂ := hs₂
    have F₂ := F₁.change hs₂ heL he0
    have N₂ : News h₀ env.locals h₂ news := fun p hp => ⟨hs₂.extBut _ _ (hoff p hp).1 (N₁ p hp).1, (N₁ p hp).2⟩
    have hT₂ : h₂.IsTuple h'.objs.size #[.int (i : Nat) (tk + 1), .int (b[i].toNat : Int) tk] := ⟨_, hs₂.extBut _ _ (Nat.ne_of_gt hel) q3, rfl, _, rfl⟩
    obtain ⟨oi, i1, i2⟩ := q2
    have i₂ := hs₂.extBut _ _ hei.symm i1
    refine wpAny_assign_Tuple hh hT₂ rfl rfl fun h₃ hx₃ => ?_
    replace hx₃ : Heap.ExtBut h₂.objs.size h₂ h₃ := hx₃
    have hXnone : h₀.get? h₂.objs.size = none := next_is_new F₂
    have lowT : ∀ {a : Addr} {o : Obj}, h₂.get? a = some o → a ≠ h₂.objs.size := fun q => Nat.ne_of_lt (Heap.lt_size q)
    have F₃ : Fr h₀ env.locals h₃ m' := ⟨F₂.ns.at' fun o q => hx₃ _ o (lowT q) q, fun b o q => hx₃ b o (fun z => by rw [z, hXnone] at q; cases q) (F₂.keep b o q), F'.above⟩
    have N₃ : News h₀ env.locals h₃ news := fun p hp => ⟨hx₃ _ _ (lowT (N₂ p hp).1) (N₂ p hp).1, (N₂ p hp).2⟩
    have e₃ := hx₃ _ _ (lowT he₂) he₂
    have i₃ := hx₃ _ _ (lowT i₂) i₂
    show wpAny _ A (do holding [.int (b[i].toNat : Int) tk] (assign (.Name xi pi) env (.int (i : Nat) (tk + 1))); do holding [] (assign (.Name xv pv) env (.int (b[i].toNat : Int) tk)); pure ()) _ _ _
    refine wpAny_bind (wpAny_holding (wpAny_assign_Name (wpAny_storeName_local hxi F₃.ns (fun h₄ hn₄ hs₄ => ?_) hp)))
    have F₄ := F₃.set hn₄ hs₄
    have N₄ := N₃.set hs₄
    refine wpAny_bind (wpAny_holding (wpAny_assign_Name (wpAny_storeName_local hxv F₄.ns (fun h₅ hn₅ hs₅ => wpAny_pure ?_) hp)))
    have F₅ := F₄.set hn₅ hs₅
    have N₅ := N₄.set hs₅
    rw [show (fun y => if y = xv then some (Value.int (b[i].toNat : Int) tk) else if y = xi then some (Value.int (i : Nat) (tk + 1)) else m' y) = fun y => if y = xv then some (Value.int (b[i].toNat : Int) tk) else if y = xi then some (Value.int (i : Nat) (tk + 1)) else m y from by
      funext y
      by_cases z1 : y = xv
      · rw [if_pos z1, if_pos z1]
      by_cases z2 : y = xi
      · rw [if_neg z1, if_pos z2, if_neg z1, if_pos z2]
      rw [if_neg z1, if_neg z2, if_neg z1, if_neg z2, hm y z2 z1]] at F₅
    obtain ⟨oe, e₃', back⟩ : ∃ oe, h₃.get? e = some oe ∧ ∀ h : Heap, h.get? e = some oe → IsEnum h e it ((i : Int) + 1) _ := ⟨_, e₃, fun _ q => q⟩
    have p1 := hs₅.extBut e _ heL (hs₄.extBut e _ heL e₃')
    have p2 := hs₅.extBut it _ hiL (hs₄.extBut it _ hiL i₃)
    have N₆ : News h₀ env.locals h₅ ([(e, oe), (it, oi)] ++ news) := by
      intro p hp
      rcases List.mem_cons.mp hp with rfl | hp
      · exact ⟨p1, heL, he0⟩
      rcases List.mem_cons.mp hp with rfl | hp
      · exact ⟨p2, hiL, hi0⟩
      · exact N₅ p hp
    refine wpAny_passesOwn hE (wpAny_mono (wpAny_toks_of (n := n₀) ?_ (turn i b[i] tk (tk + 1) h₅ _ _ hc hj hntk (Nat.lt_succ_self _) ?_ F₅ N₆)) (fun f s₃ h₆ => ?_) fun _ _ x => x.2)
    · show n₀ ≤ tk + 1 + 1 + 1 + 1
      omega
    · show tk + 1 < tk + 1 + 1 + 1 + 1
      omega
    obtain ⟨hn₆, h₆⟩ := h₆
    have fin : KeepEnd (J (i + 1)) h₀ env.locals xi xv m ([(e, oe), (it, oi)] ++ news) s s₃ →
        ∃ k, k < b.size + 1 - i ∧ EnI J h₀ env.locals xi xv m news b tb n₀ e it s k s₃ := by
      rintro ⟨hj7, h7, tk7, m7, rfl, hm7, F7, N7⟩
      exact ⟨b.size + 1 - (i + 1), by omega, h7, tk7, m7, i + 1, rfl, ⟨⟨_, back _ (N7 _ (.head _)).1⟩, ⟨oi, (N7 _ (.tail _ (.head _))).1, i2⟩⟩, F7, fun p hp => N7 p (.tail _ (.tail _ hp)), hm7, hj7, hn₆, hlt, rfl⟩
    cases f with
    | ret v => exact h₆
    | brk => exact h₆
    | next => exact fin h₆
    | cont => exact fin h₆
  · have hin : i = b.size := by omega
    subst hin
    refine wpAny_pyNext_enum_endD D he' hit' fun h₁ hx => ?_
    obtain ⟨F₁, N₁⟩ := next h₁ fun b o _ hbi q => hx b o hbi q
    exact wpAny_passesOwn hE (done h₁ tk m' hj hntk hm F₁ N₁)
end
end Mine
end
section
namespace Mine
theorem flush_C20 : (1 : Nat) ≤ 2 := by
  w_top off
  first | walk1 | decide
end Mine
open PySem PySem.W PyProof.Rows PyProof.Rows.LCg
namespace Mine
/-- an iterator's walk, with what is known of the tokens -/
structure WalkK (prog : Program) (w : World) (A : Around) (I : Addr) (fp : List Addr) (n : Nat) (P : Nat → Value → Nat → Nat → Prop) (St : Nat → Heap → Prop) : Prop where
  sub : I ∈ fp
  frame : ∀ i h h', St i h → (∀ b ∈ fp, ∀ o, h.get? b = some o → h'.get? b = some o) → St i h'
  item : ∀ i (s : Shared) (Q : Option Value → Shared → Prop) (E : Value → Shared → Prop), i < n → St i s.heap →
    (∀ v h' tk, P i v s.toks tk → s.toks ≤ tk → St (i + 1) h' → (∀ b o, b ≠ I → s.heap.get? b = some o → h'.get? b = some o) → Q (some v) { s with heap := h', toks := tk }) → wpAny (model prog w) A (pyNext (.ref I)) Q E s
  done : ∀ (s : Shared) (Q : Option Value → Shared → Prop) (E : Value → Shared → Prop), St n s.heap →
    (∀ h' tk, s.toks ≤ tk → (∀ b o, b ≠ I → s.heap.get? b = some o → h'.get? b = some o) → Q none { s with heap := h', toks := tk }) → wpAny (model prog w) A (pyNext (.ref I)) Q E s
  self : ∀ i (s : Shared) (Q : Value → Shared → Prop) (E : Value → Shared → Prop), St i s.heap → Q (.ref I) s → wpAny (model prog w) A (pyIter (.ref I)) Q E s
theorem WalkK.of {prog : Program} {w : World} {A : Around} {I : Addr} {fp : List Addr} {n : Nat} {P : Nat → Value → Prop} {St : Nat → Heap → Prop} (W : Walks prog w A I fp [I] n P St) : WalkK prog w A I fp n (fun i v _ _ => P i v) St where
  sub := W.sub I (List.mem_singleton.mpr rfl)
  frame := W.frame
  item := fun i s Q E hi hst hQ => wpAny_mono (wpAny_toks (E := E) (W.item i s (fun r s' => ∃ v h' tk, r = some v ∧ s' = { s with heap := h', toks := tk } ∧ P i v ∧ St (i + 1) h' ∧ ∀ b o, b ≠ I → s.heap.get? b = some o → h'.get? b = some o) E hi hst
    fun v h' tk hP hst' hk => ⟨v, h', tk, rfl, rfl, hP, hst', fun b o n e => hk b o (fun q => n (List.mem_singleton.mp q)) e⟩)) (fun r s' hh => by
      obtain ⟨hle, v, h', tk, rfl, rfl, hP, hst', hk⟩ := hh
      exact hQ v h' tk hP hle hst' hk) fun _ _ e => e.2
  done := fun s Q E hst hQ => wpAny_mono (wpAny_toks (E := E) (W.done s (fun r s' => ∃ h' tk, r = none ∧ s' = { s with heap := h', toks := tk } ∧ ∀ b o, b ≠ I → s.heap.get? b = some o → h'.get? b = some o) E hst
    fun h' tk hk => ⟨h', tk, rfl, rfl, fun b o n e => hk b o (fun q => n (List.mem_singleton.mp q)) e⟩)) (fun r s' hh => by
      obtain ⟨hle, h', tk, rfl, rfl, hk⟩ := hh
      exact hQ h' tk hle hk) fun _ _ e => e.2
  self := W.self
theorem walkK_bytes {prog : Program} {w : World} {A : Around} (hh : A.handled = none) (I : Addr) (b : Array UInt8) (t : Tok) :
    WalkK prog w A I [I] b.size (fun i v t0 t1 => ∃ c u, b[i]? = some c ∧ v = .int (c.toNat : Int) u ∧ @LE.le Nat _ t0 u ∧ @LT.lt Nat _ u t1) (fun i h => KBw.IsBytesIter h I b t i) where
  sub := List.mem_singleton.mpr rfl
  frame := fun _ _ _ st hk => let ⟨o, ho, r⟩ := st; ⟨o, hk I (by simp) o ho, r⟩
  item := fun i s Q E hi st hQ => by
    refine KBw.next_item st (c := b[i]) (by simp [hi]) fun h' hit' hs' => ?_
    exact hQ _ h' (s.toks + 1) ⟨_, s.toks, by simp [hi], rfl, Nat.le_refl _, Nat.lt_succ_self _⟩ (Nat.le_succ _) hit' fun b o hb e => hs'.extBut b o hb e
  done := fun s Q E st hQ => KBw.next_end hh st (by simp) fun h' he' => hQ h' s.toks (Nat.le_refl _) fun b o hb e => he' b o hb e
  self := fun _ _ _ _ st hQ => KBw.pyIter_self st hQ
theorem walkK_range {prog : Program} {w : World} {A : Around} (hh : A.handled = none) (I : Addr) (a : Int) (n : Nat) :
    WalkK prog w A I [I] n (fun i v t0 t1 => ∃ u, v = .int (a + (i : Int)) u ∧ @LE.le Nat _ t0 u ∧ @LT.lt Nat _ u t1) (fun i h => IsRangeIter h I (a + (i : Nat) * 1) ((n : Int) - (i : Nat)) 1) where
  sub := List.mem_singleton.mpr rfl
  frame := fun i _ _ st hk => hk I (by simp) _ st
  item := fun i s Q E hi st hQ => by
    refine wpAny_pyNext_range_item st (by omega) fun h₁ hit₁ hs₁ => ?_
    refine hQ _ h₁ (s.toks + 1) ⟨s.toks, by rw [Int.mul_one], Nat.le_refl _, Nat.lt_succ_self _⟩ (Nat.le_succ _) ?_ fun b o hb e => hs₁.extBut b o hb e
    have e1 : a + ((i : Nat) : Int) * 1 + 1 = a + ((i + 1 : Nat) : Int) * 1 := by omega
    have e2 : (n : Int) - (i : Nat) - 1 = (n : Int) - ((i + 1 : Nat) : Int) := by omega
    rw [e1, e2] at hit₁
    exact hit₁
  done := fun s Q E st hQ => wpAny_pyNext_range_end hh st (by omega) fun h' he' => hQ h' s.toks (Nat.le_refl _) fun b o hb e => he' b o hb e
  self := (range_walks (prog := prog) (w := w) (A := A) (I := I) hh a n).self

section
variable {M : Model} {A : Around} {E : Value → Shared → Prop} {s : Shared}
/-- a block's frame whose own name is a cell -/
theorem newEnv_cell {scope : Scope} {globals : Addr} {cl : List (PySem.Str × Addr)} {qual : PySem.Str} {x : PySem.Str} {outer : Env} {Q : Env → Shared → Prop}
    (hcf : ∀ k, cellsFrom k scope.names cl = (x, k) :: cl) (hpc : ∀ h : Heap, pushCells h scope.names = h.push { cls := .type "cell", data := .cell none })
    (hQ : Q (newEnv scope s.heap.objs.size globals ((x, s.heap.objs.size + 1) :: cl) qual none .none (some outer) builtinsNs)
      { s with heap := (s.heap.push { cls := .type "dict", data := .dict #[] }).push { cls := .type "cell", data := .cell none } }) :
    wpAny M A (newFunctionEnv scope globals cl [] qual none .none (some outer)) Q E s := by
  simp only [newFunctionEnv, Option.isSome_some, if_true]
  refine wpAny_bind (wpAny_alloc ?_)
  refine wpAny_bind (wpAny_layCells _ (fun name kind cells => by cases hkc : kind == NameKind.cell <;> simp [hkc]) _ _ _ _ ?_)
  have hz : (s.heap.push { cls := .type "dict", data := .dict #[] }).objs.size = s.heap.objs.size + 1 := Heap.size_push ..
  rw [hcf, hpc, hz]
  rw [List.forIn_nil]
  exact wpAny_bind (wpAny_pure (wpAny_pure hQ))
end

/-- the end of a turn of a block -/
inductive EndM (h₀ : Heap) (L : Addr) (m : PySem.Str → Option Value) (s₁ : Shared) (pre : List (Addr × Obj)) (S : List (Addr × Obj) → Prop) (rest : List (Addr × Obj) → Nat → Prop) (s₂ : Shared) : Prop where
  | mk : ∀ h' tk news' N', (s₂ = { s₁ with heap := h', toks := tk }) → (@LE.le Nat _ N' tk) → (Fr h₀ L h' m) → (News h₀ L h' (pre ++ news')) → ((∀ p ∈ news', ∀ q ∈ pre, p.1 ≠ q.1)) → (S news') → (rest news' N') → EndM h₀ L m s₁ pre S rest s₂
theorem EndM.intro {h₀ : Heap} {L : Addr} {m : PySem.Str → Option Value} {s₁ : Shared} {pre : List (Addr × Obj)} {S : List (Addr × Obj) → Prop} {rest : List (Addr × Obj) → Nat → Prop} {h' : Heap} {tk : Nat} (news' : List (Addr × Obj)) (N' : Nat)
    (hN : @LE.le Nat _ N' tk) (F : Fr h₀ L h' m) (N : News h₀ L h' (pre ++ news')) (off : ∀ p ∈ news', ∀ q ∈ pre, p.1 ≠ q.1) (hS : S news') (hr : rest news' N') : EndM h₀ L m s₁ pre S rest { s₁ with heap := h', toks := tk } := ⟨h', tk, news', N', rfl, hN, F, N, off, hS, hr⟩
def FinEM (h₀ : Heap) (L : Addr) (m : PySem.Str → Option Value) (s : Shared) (Q : Value → Shared → Prop) (ys : List Value) (news : List (Addr × Obj)) (N : Nat) : Prop :=
  ∀ D h tk, @LE.le Nat _ N tk → Fr h₀ L h m → News h₀ L h ((D, lst ys) :: news) → (∀ p ∈ news, p.1 ≠ D) → Q (.ref D) { s with heap := h, toks := tk }
def FinAM (h₀ : Heap) (L : Addr) (m : PySem.Str → Option Value) (s : Shared) (y : PySem.Str) (Q : Flow → Shared → Prop) (ys : List Value) (news : List (Addr × Obj)) (N : Nat) : Prop :=
  ∀ D h tk, @LE.le Nat _ N tk → Fr h₀ L h (fun z => if z = y then some (.ref D) else m z) → News h₀ L h ((D, lst ys) :: news) → (∀ p ∈ news, p.1 ≠ D) → Q .next { s with heap := h, toks := tk }

/-- the state between the turns of a block -/
inductive BIv (s₂ : Shared) (h₀ : Heap) (L : Addr) (m : PySem.Str → Option Value) (n : Nat) (St : Nat → Heap → Prop) (S : List (Addr × Obj) → Prop) (J : Nat → List Value → List (Addr × Obj) → Nat → Prop) (D C I : Addr) (k : Nat) (s' : Shared) : Prop where
  | mk : ∀ h' tk i ys m' nx N', s' = { s₂ with heap := h', toks := tk } → i ≤ n → k = n + 1 - i → ys.length ≤ i → St i h' → Fr h₀ L h' m → h'.Ns C m' → News h₀ L h' ((D, lst ys) :: nx) → (∀ p ∈ nx, p.1 ≠ I ∧ p.1 ≠ C ∧ p.1 ≠ D) → S nx → J i ys nx N' → @LE.le Nat _ N' tk → BIv s₂ h₀ L m n St S J D C I k s'
inductive BIvC (s₂ : Shared) (h₀ : Heap) (L : Addr) (m : PySem.Str → Option Value) (n : Nat) (St : Nat → Heap → Prop) (S : List (Addr × Obj) → Prop) (J : Nat → List Value → List (Addr × Obj) → Nat → Prop) (D C c I : Addr) (k : Nat) (s' : Shared) : Prop where
  | mk : ∀ h' tk i ys m' nx N', s' = { s₂ with heap := h', toks := tk } → i ≤ n → k = n + 1 - i → ys.length ≤ i → St i h' → Fr h₀ L h' m → h'.Ns C m' → (∃ cv, h'.IsCell c cv) → News h₀ L h' ((D, lst ys) :: nx) → (∀ p ∈ nx, p.1 ≠ I ∧ p.1 ≠ C ∧ p.1 ≠ c ∧ p.1 ≠ D) → S nx → J i ys nx N' → @LE.le Nat _ N' tk → BIvC s₂ h₀ L m n St S J D C c I k s'
/-- what the turns of a block are to show -/
inductive Obl (prog : Program) (w : World) (A : Around) (h₀ : Heap) (L : Addr) (m : PySem.Str → Option Value) (env : Env) (elt : Expr) (x : PySem.Str) (scope : Scope) (cl : List (PySem.Str × Addr)) (Fin : Shared → List Value → List (Addr × Obj) → Nat → Prop) (s : Shared) (S : List (Addr × Obj) → Prop) (P : Nat → Value → Nat → Nat → Prop) (n : Nat) (news : List (Addr × Obj)) : Prop where
  | mk : ∀ (J : Nat → List Value → List (Addr × Obj) → Nat → Prop) (N₀ : Nat), (@LE.le Nat _ N₀ s.toks) → (J 0 [] news N₀) → ((∀ ys nx N, J n ys nx N → Fin s ys nx N)) → (∀ i ys nx (N : Nat) v I oI C oC D (m₂ : PySem.Str → Option Value) h (t0 t1 tk : Nat) (E' : Value → Shared → Prop), i < n → J i ys nx N → N ≤ t0 → P i v t0 t1 → t0 ≤ t1 → t1 ≤ tk → NsObj oC m₂ → m₂ x = some v → Fr h₀ L h m → News h₀ L h ([(I, oI), (C, oC), (D, lst ys)] ++ nx) → (∀ p ∈ nx, ∀ q ∈ [(I, oI), (C, oC), (D, lst ys)], p.1 ≠ q.1) → ([(I, oI), (C, oC), (D, lst ys)].map (·.1)).Nodup → wpAny (model prog w) A (eval elt (compEnvC scope cl C env)) (fun y => EndM h₀ L m { s with heap := h, toks := tk } [(I, oI), (C, oC), (D, lst ys)] S (fun nx N' => J (i + 1) (ys ++ [y]) nx N')) E' { s with heap := h, toks := tk }) → Obl prog w A h₀ L m env elt x scope cl Fin s S P n news

section
variable {prog : Program} {w : World} {A : Around} {E : Value → Shared → Prop} {s : Shared} {h₀ : Heap} {L : Addr} {m : PySem.Str → Option Value} {env : Env} {elt iter : Expr} {x : PySem.Str} {px : Pos} {scope : Scope} {cl : List (PySem.Str × Addr)} {pos : Pos}
  {Fin : Shared → List Value → List (Addr × Obj) → Nat → Prop}
theorem block {s₂ : Shared} {I : Addr} {fp : List Addr} {n : Nat} {P : Nat → Value → Nat → Nat → Prop} {St : Nat → Heap → Prop} {S : List (Addr × Obj) → Prop} {news : List (Addr × Obj)} {RR : Value → Addr → Result → Shared → Prop}
    (W : WalkK prog w A I fp n P St) (hsz : n ≤ sizeLine) (hIo : ∀ i h, St i h → ∃ o, h.get? I = some o)
    (hSt : ∀ i h h' o nw, St i h → h.get? I = some o → h'.get? I = some o → (∀ b o, h₀.get? b = some o → h'.get? b = some o) → News h₀ L h' nw → S nw → St i h')
    (hcell : ∀ y ∈ scope.names, y.2 ≠ .cell) (hx : scope.names.lookup x = some .local) (hkind : scope.kind = .function) (hst : St 0 s₂.heap) (hfp : ∀ b ∈ fp, b < s₂.heap.objs.size)
    (F : Fr h₀ L s₂.heap m) (N : News h₀ L s₂.heap news) (hIL : L ≠ I) (hI₀ : h₀.get? I = none) (off : ∀ p ∈ news, p.1 ≠ I) (hS : S news)
    (R : Obl prog w A h₀ L m env elt x scope cl Fin s₂ S P n news)
    (hRR : ∀ D C h tk m' ys nx N, @LE.le Nat _ N tk → Fr h₀ L h m → News h₀ L h ((D, lst ys) :: nx) → (∀ p ∈ nx, p.1 ≠ D) → h.Ns C m' → h₀.get? C = none → h₀.get? D = none → C ≠ L → D ≠ L → C ≠ D → (∀ p ∈ nx, p.1 ≠ C) → Fin s₂ ys nx N → RR (.ref D) C (.ok .next) { s₂ with heap := h, toks := tk }) :
    wpAny (model prog w) A (newList []) (fun acc s₃ => wpAny (model prog w) A (newFunctionEnv scope env.globals cl [] env.qual none .none (some env)) (fun cenv s₄ =>
      codeAny (model prog w) A (.compStart (.ListComp elt [⟨.Name x px, iter, [], 0⟩] scope pos) 0 (.ref I) acc { cenv with scope := relabel scope env }) (RR acc cenv.locals) s₄) E s₃) E s₂ := by
  obtain ⟨J, N₀, hN₀, hJ₀, hFin, turn⟩ := R
  refine wpAny_newObj_type (wpAny_newFunctionEnv hcell (by intro y hy; simp at hy) (fun h₁ hns₁ hsb₁ => ?_) hkind)
  dsimp only at hns₁ hsb₁ ⊢
  generalize hH2 : s₂.heap.push { cls := .type "list", dict := none, data := .seq ([] : List Value).toArray } = H2 at hns₁ hsb₁ ⊢
  have hC : H2.objs.size = s₂.heap.objs.size + 1 := by rw [← hH2, Heap.size_push]
  have old : ∀ b o, s₂.heap.get? b = some o → h₁.get? b = some o := fun b o e => hsb₁.extBut b o (by rw [hC]; exact Nat.ne_of_lt (Nat.lt_succ_of_lt (Heap.lt_size e))) (Heap.get?_push_of_some _ (hH2 ▸ Heap.get?_push_of_some _ e))
  have hacc : h₁.get? s₂.heap.objs.size = some (lst []) := hsb₁.extBut _ _ (by rw [hC]; exact Nat.ne_of_lt (Nat.lt_succ_self _)) (Heap.get?_push_of_some _ (hH2 ▸ Heap.get?_push_size _ rfl))
  rw [hC] at hns₁ ⊢
  clear hsb₁ hH2
  obtain ⟨D, hDd⟩ : ∃ D, D = s₂.heap.objs.size := ⟨_, rfl⟩
  rw [← hDd] at hacc ⊢
  obtain ⟨C, hCd⟩ : ∃ C, C = s₂.heap.objs.size + 1 := ⟨_, rfl⟩
  rw [← hCd] at hns₁
  have hlow : ∀ a : Addr, a < D → a ≠ C ∧ a ≠ D := fun a ha => ⟨Nat.ne_of_lt (by rw [hCd, ← hDd]; exact Nat.lt_succ_of_lt ha), Nat.ne_of_lt ha⟩
  have hDC : D ≠ C := Nat.ne_of_lt (by rw [hCd, ← hDd]; exact Nat.lt_succ_self _)
  have hfp' : ∀ b ∈ fp, b < D := fun b hb => by rw [hDd]; exact hfp b hb
  have fresh₀ : ∀ a : Addr, s₂.heap.objs.size ≤ a → h₀.get? a = none := fun a ha => by
    cases e : h₀.get? a with
    | none => rfl
    | some o' => exact absurd (Heap.lt_size (F.keep a o' e)) (Nat.not_lt.mpr ha)
  have hD₀ : h₀.get? D = none := fresh₀ _ (by rw [hDd]; exact Nat.le_refl _)
  have hC₀ : h₀.get? C = none := fresh₀ _ (by rw [hCd]; exact Nat.le_succ _)
  skip
  have hLlt : L < D := by rw [hDd]; exact F.ns.lt
  have hIlt : I < D := hfp' I W.sub
  have hst₁ : St 0 h₁ := W.frame _ _ _ hst fun b _ o e => old b o e
  have offD : ∀ p ∈ news, p.1 < D := fun p hp => by rw [hDd]; exact Heap.lt_size (N p hp).1
  have N₁ : News h₀ L h₁ ((D, lst []) :: news) := fun p hp => by
    rcases List.mem_cons.mp hp with rfl | hp
    · exact ⟨hacc, Ne.symm (hlow L hLlt).2, hD₀⟩
    · exact ⟨old _ _ (N p hp).1, (N p hp).2⟩
  have off₁ : ∀ p ∈ news, p.1 ≠ I ∧ p.1 ≠ C ∧ p.1 ≠ D := fun p hp => ⟨off p hp, hlow _ (offD p hp)⟩
  obtain ⟨hIC, hID⟩ := hlow I hIlt
  obtain ⟨hLC, hLD⟩ := hlow L hLlt
  have F₁ : Fr h₀ L h₁ m := F.keeps old
  have loop : ∀ s₃ : Shared, (∃ tk, s₃ = { s₂ with heap := h₁, toks := tk } ∧ @LE.le Nat _ N₀ tk) →
      codeAny (model prog w) A (.compLoop (.ListComp elt [⟨.Name x px, iter, [], 0⟩] scope pos) 0 (.ref I) (.ref D) (compEnvC scope cl C env)) (RR (.ref D) C) s₃ := by
    rintro s₃ ⟨tk₃, rfl, hN₃⟩
    refine codeAny_compLoop_tests
      (BIv s₂ h₀ L m n St S J D C I) ?_ (n + 1)
      ⟨h₁, tk₃, 0, [], _, news, N₀, rfl, Nat.zero_le _, rfl, Nat.le_refl _, hst₁, F₁, hns₁, N₁, off₁, hS, hJ₀, hN₃⟩
    rintro k s' ⟨h', tk, i, ys, m', nx, NN, rfl, hi, rfl, hyl, hst', F', hn', N', off', hS', hJ', hN'⟩
    by_cases hlt : i < n
    · refine W.item i _ _ _ hlt hst' fun v h₂ tk₂ hPv hle hst₂ hk₂ => ?_
      refine wpAny_assign_Name (wpAny_storeName_local (lookup_relabel_local hx) (hn'.at' fun o e => hk₂ _ o (Ne.symm hIC) e) (fun h₃ hn₃ hs₃ => ?_) (by simp [compEnvC, relabel, hkind]))
      replace hs₃ : Heap.SameBut C h₂ h₃ := hs₃
      refine wpAny_tests_nil ?_
      simp only [if_true]
      have keep₃ : ∀ b o, b ≠ I → b ≠ C → h'.get? b = some o → h₃.get? b = some o := fun b o n1 n2 e => hs₃.extBut b o n2 (hk₂ b o n1 e)
      have hst₃ : St (i + 1) h₃ := W.frame _ _ _ hst₂ fun b hb o e => hs₃.extBut b o ((hlow b (hfp' b hb)).1) e
      obtain ⟨oI, heI⟩ := hIo _ _ hst₃
      have held : ∀ b o, h₀.get? b = some o → b ≠ I ∧ b ≠ C := fun b o q => ⟨fun z => (by rw [z, hI₀] at q; cases q), fun z => (by rw [z, hC₀] at q; cases q)⟩
      have F₃ : Fr h₀ L h₃ m := ⟨F'.ns.at' fun o e => keep₃ _ o hIL hLC e, fun b o e => keep₃ b o (held b o e).1 (held b o e).2 (F'.keep b o e), F'.above⟩
      obtain ⟨oC, heC, hoC⟩ := ns_obj hn₃
      have N₃ : News h₀ L h₃ ([(I, oI), (C, oC), (D, lst ys)] ++ nx) := fun p hp => by
        rcases List.mem_cons.mp hp with rfl | hp
        · exact ⟨heI, Ne.symm hIL, hI₀⟩
        rcases List.mem_cons.mp hp with rfl | hp
        · exact ⟨heC, Ne.symm hLC, hC₀⟩
        rcases List.mem_cons.mp hp with rfl | hp
        · have z := N' _ (.head _)
          exact ⟨keep₃ _ _ (Ne.symm hID) hDC z.1, z.2⟩
        · have z := N' _ (.tail _ hp)
          exact ⟨keep₃ _ _ (off' p hp).1 (off' p hp).2.1 z.1, z.2⟩
      have offp : ∀ p ∈ nx, ∀ q ∈ [(I, oI), (C, oC), (D, lst ys)], p.1 ≠ q.1 := fun p hp q hq => by
        obtain ⟨o1, o2, o4⟩ := off' p hp
        rcases List.mem_cons.mp hq with rfl | hq
        · exact o1
        rcases List.mem_cons.mp hq with rfl | hq
        · exact o2
        rw [List.mem_singleton.mp hq]; exact o4
      have nod : ([(I, oI), (C, oC), (D, lst ys)].map (·.1)).Nodup := by
        simp only [List.map_cons, List.map_nil, List.nodup_cons, List.mem_cons, List.not_mem_nil, or_false, not_or, not_false_iff, List.nodup_nil, and_true]
        exact ⟨⟨hIC, hID⟩, Ne.symm hDC⟩
      have after : ∀ (ys' : List Value) s₄, EndM h₀ L m { s₂ with heap := h₃, toks := tk₂ + 1 } [(I, oI), (C, oC), (D, lst ys)] S (fun nx N' => J (i + 1) ys' nx N') s₄ → ∃ h₄ tk₄ nx₄ N₄, s₄ = { s₂ with heap := h₄, toks := tk₄ } ∧ @LE.le Nat _ N₄ tk₄ ∧ Fr h₀ L h₄ m ∧ (∃ m₄, h₄.Ns C m₄) ∧ h₄.get? D = some (lst ys) ∧ News h₀ L h₄ nx₄ ∧ (∀ p ∈ nx₄, p.1 ≠ I ∧ p.1 ≠ C ∧ p.1 ≠ D) ∧ S nx₄ ∧ St (i + 1) h₄ ∧ J (i + 1) ys' nx₄ N₄ := by
        rintro ys' s₄ ⟨h₄, tk₄, nx₄, N₄, rfl, hN₄, F₄, Nw₄, off₄, hS₄, R₄⟩
        have zI := (Nw₄ (I, oI) (List.mem_append_left _ (.head _))).1
        have zC := (Nw₄ (C, oC) (List.mem_append_left _ (.tail _ (.head _)))).1
        skip
        have zD := (Nw₄ (D, lst ys) (List.mem_append_left _ (.tail _ (.tail _ (.head _))))).1
        have Nw₄' : News h₀ L h₄ nx₄ := fun p hp => Nw₄ p (List.mem_append_right _ hp)
        have hst₄ : St (i + 1) h₄ := hSt _ _ _ _ _ hst₃ heI zI F₄.keep Nw₄' hS₄
        exact ⟨h₄, tk₄, nx₄, N₄, rfl, hN₄, F₄, ⟨_, hoC.ns zC⟩, zD, Nw₄', fun p hp => ⟨off₄ p hp (I, oI) (.head _), off₄ p hp (C, oC) (.tail _ (.head _)), off₄ p hp (D, lst ys) (.tail _ (.tail _ (.head _)))⟩, hS₄, hst₄, R₄⟩
      have put : ∀ y s₄, EndM h₀ L m { s₂ with heap := h₃, toks := tk₂ + 1 } [(I, oI), (C, oC), (D, lst ys)] S (fun nx N' => J (i + 1) (ys ++ [y]) nx N') s₄ → wpAny (model prog w) A (call (.builtin "list.append") [.ref D, y])
          (fun _ s₅ => ∃ k, k < n + 1 - i ∧ BIv s₂ h₀ L m n St S J D C I k s₅) (notedBy (model prog w) A (compEnvC scope cl C env) fun e s' => RR (.ref D) C (.error e) s') s₄ := by
        intro y s₄ he
        obtain ⟨h₄, tk₄, nx₄, N₄, rfl, hN₄, F₄, ⟨m₄, nC₄⟩, zD, Nw₄, off₄, hS₄, hst₄, R₄⟩ := after _ _ he
        refine append_at (hsz := by show ys.toArray.size ≤ sizeLine; rw [List.size_toArray]; exact Nat.le_trans (Nat.le_trans hyl hi) hsz) zD fun h₅ hs₅ hD₅ => ?_
        refine ⟨n + 1 - (i + 1), by omega, h₅, tk₄, i + 1, ys ++ [y], _, nx₄, N₄, rfl, hlt, rfl, by rw [List.length_append, List.length_singleton]; exact Nat.succ_le_succ hyl, W.frame _ _ _ hst₄ fun b hb o e => hs₅.extBut b o (hlow b (hfp' b hb)).2 e, F₄.change hs₅ (Ne.symm hLD) hD₀,
          nC₄.sameBut hs₅ (Ne.symm hDC), fun p hp => ?_, off₄, hS₄, R₄, hN₄⟩
        rcases List.mem_cons.mp hp with rfl | hp
        · exact ⟨hD₅.trans (congrArg some (lst_snoc ys y)), Ne.symm hLD, hD₀⟩
        · exact ⟨hs₅.extBut _ _ (off₄ p hp).2.2 (Nw₄ p hp).1, (Nw₄ p hp).2⟩
      exact wpAny_mono (turn i ys nx NN v I oI C oC D _ h₃ tk tk₂ (tk₂ + 1) _ hlt hJ' hN' hPv hle (Nat.le_succ _) hoC (by simp) F₃ N₃ offp nod) (fun y s₄ he => put y s₄ he) fun _ _ e => e
    · obtain rfl : i = n := Nat.le_antisymm hi (Nat.not_lt.mp hlt)
      refine W.done _ _ _ hst' fun h₂ tk₂ hle hk₂ => ?_
      have held : ∀ b o, h₀.get? b = some o → b ≠ I := fun b o q z => (by rw [z, hI₀] at q; cases q)
      exact hRR _ _ h₂ tk₂ _ ys nx NN (Nat.le_trans hN' hle) ⟨F'.ns.at' fun o e => hk₂ _ o hIL e, fun b o e => hk₂ b o (held b o e) (F'.keep b o e), F'.above⟩ (fun p hp => by
          rcases List.mem_cons.mp hp with rfl | hp
          · exact ⟨hk₂ _ _ (Ne.symm hID) (N' _ (.head _)).1, (N' _ (.head _)).2⟩
          · exact ⟨hk₂ _ _ (off' p hp).1 (N' _ (.tail _ hp)).1, (N' _ (.tail _ hp)).2⟩) (fun p hp => (off' p hp).2.2) (hn'.at' fun o e => hk₂ _ o (Ne.symm hIC) e) hC₀ hD₀ (Ne.symm hLC) (Ne.symm hLD) (Ne.symm hDC) (fun p hp => (off' p hp).2.1) (hFin _ _ _ hJ')
  have hCd' : C = D + 1 := by rw [hCd, hDd]
  skip
  rw [← hCd']
  refine codeAny_compStart_list (loop _ ⟨_, rfl, Nat.le_trans hN₀ (Nat.le_add_right _ _)⟩) (W.self 0 _ _ _ hst₁ (loop _ ⟨_, rfl, Nat.le_trans hN₀ (Nat.le_add_right _ _)⟩))
end

/-- what the turns of a block are to show -/
inductive OblT (prog : Program) (w : World) (A : Around) (h₀ : Heap) (L : Addr) (m : PySem.Str → Option Value) (env : Env) (ct : Expr) (elt : Expr) (x : PySem.Str) (scope : Scope) (cl : List (PySem.Str × Addr)) (Fin : Shared → List Value → List (Addr × Obj) → Nat → Prop) (s : Shared) (S : List (Addr × Obj) → Prop) (P : Nat → Value → Nat → Nat → Prop) (n : Nat) (news : List (Addr × Obj)) : Prop where
  | mk : ∀ (J : Nat → List Value → List (Addr × Obj) → Nat → Prop) (N₀ : Nat), (@LE.le Nat _ N₀ s.toks) → (J 0 [] news N₀) → ((∀ ys nx N, J n ys nx N → Fin s ys nx N)) → (∀ i ys nx (N : Nat) v I oI C oC D (m₂ : PySem.Str → Option Value) h (t0 t1 tk : Nat) (E' : Value → Shared → Prop), i < n → J i ys nx N → N ≤ t0 → P i v t0 t1 → t0 ≤ t1 → t1 ≤ tk → NsObj oC m₂ → m₂ x = some v → Fr h₀ L h m → News h₀ L h ([(I, oI), (C, oC), (D, lst ys)] ++ nx) → (∀ p ∈ nx, ∀ q ∈ [(I, oI), (C, oC), (D, lst ys)], p.1 ≠ q.1) → ([(I, oI), (C, oC), (D, lst ys)].map (·.1)).Nodup → wpAny (model prog w) A (isTrue ct (compEnvC scope cl C env) (eval ct (compEnvC scope cl C env))) (fun ok s' => if ok = true then wpAny (model prog w) A (eval elt (compEnvC scope cl C env)) (fun y => EndM h₀ L m { s with heap := h, toks := tk } [(I, oI), (C, oC), (D, lst ys)] S (fun nx N' => J (i + 1) (ys ++ [y]) nx N')) E' s' else EndM h₀ L m { s with heap := h, toks := tk } [(I, oI), (C, oC), (D, lst ys)] S (fun nx N' => J (i + 1) ys nx N') s') E' { s with heap := h, toks := tk }) → OblT prog w A h₀ L m env ct elt x scope cl Fin s S P n news

section
variable {prog : Program} {w : World} {A : Around} {E : Value → Shared → Prop} {s : Shared} {h₀ : Heap} {L : Addr} {m : PySem.Str → Option Value} {env : Env} {ct : Expr} {elt iter : Expr} {x : PySem.Str} {px : Pos} {scope : Scope} {cl : List (PySem.Str × Addr)} {pos : Pos}
  {Fin : Shared → List Value → List (Addr × Obj) → Nat → Prop}
theorem blockT {s₂ : Shared} {I : Addr} {fp : List Addr} {n : Nat} {P : Nat → Value → Nat → Nat → Prop} {St : Nat → Heap → Prop} {S : List (Addr × Obj) → Prop} {news : List (Addr × Obj)} {RR : Value → Addr → Result → Shared → Prop}
    (W : WalkK prog w A I fp n P St) (hsz : n ≤ sizeLine) (hIo : ∀ i h, St i h → ∃ o, h.get? I = some o)
    (hSt : ∀ i h h' o nw, St i h → h.get? I = some o → h'.get? I = some o → (∀ b o, h₀.get? b = some o → h'.get? b = some o) → News h₀ L h' nw → S nw → St i h')
    (hcell : ∀ y ∈ scope.names, y.2 ≠ .cell) (hx : scope.names.lookup x = some .local) (hkind : scope.kind = .function) (hst : St 0 s₂.heap) (hfp : ∀ b ∈ fp, b < s₂.heap.objs.size)
    (F : Fr h₀ L s₂.heap m) (N : News h₀ L s₂.heap news) (hIL : L ≠ I) (hI₀ : h₀.get? I = none) (off : ∀ p ∈ news, p.1 ≠ I) (hS : S news)
    (R : OblT prog w A h₀ L m env ct elt x scope cl Fin s₂ S P n news)
    (hRR : ∀ D C h tk m' ys nx N, @LE.le Nat _ N tk → Fr h₀ L h m → News h₀ L h ((D, lst ys) :: nx) → (∀ p ∈ nx, p.1 ≠ D) → h.Ns C m' → h₀.get? C = none → h₀.get? D = none → C ≠ L → D ≠ L → C ≠ D → (∀ p ∈ nx, p.1 ≠ C) → Fin s₂ ys nx N → RR (.ref D) C (.ok .next) { s₂ with heap := h, toks := tk }) :
    wpAny (model prog w) A (newList []) (fun acc s₃ => wpAny (model prog w) A (newFunctionEnv scope env.globals cl [] env.qual none .none (some env)) (fun cenv s₄ =>
      codeAny (model prog w) A (.compStart (.ListComp elt [⟨.Name x px, iter, [ct], 0⟩] scope pos) 0 (.ref I) acc { cenv with scope := relabel scope env }) (RR acc cenv.locals) s₄) E s₃) E s₂ := by
  obtain ⟨J, N₀, hN₀, hJ₀, hFin, turn⟩ := R
  refine wpAny_newObj_type (wpAny_newFunctionEnv hcell (by intro y hy; simp at hy) (fun h₁ hns₁ hsb₁ => ?_) hkind)
  dsimp only at hns₁ hsb₁ ⊢
  generalize hH2 : s₂.heap.push { cls := .type "list", dict := none, data := .seq ([] : List Value).toArray } = H2 at hns₁ hsb₁ ⊢
  have hC : H2.objs.size = s₂.heap.objs.size + 1 := by rw [← hH2, Heap.size_push]
  have old : ∀ b o, s₂.heap.get? b = some o → h₁.get? b = some o := fun b o e => hsb₁.extBut b o (by rw [hC]; exact Nat.ne_of_lt (Nat.lt_succ_of_lt (Heap.lt_size e))) (Heap.get?_push_of_some _ (hH2 ▸ Heap.get?_push_of_some _ e))
  have hacc : h₁.get? s₂.heap.objs.size = some (lst []) := hsb₁.extBut _ _ (by rw [hC]; exact Nat.ne_of_lt (Nat.lt_succ_self _)) (Heap.get?_push_of_some _ (hH2 ▸ Heap.get?_push_size _ rfl))
  rw [hC] at hns₁ ⊢
  clear hsb₁ hH2
  obtain ⟨D, hDd⟩ : ∃ D, D = s₂.heap.objs.size := ⟨_, rfl⟩
  rw [← hDd] at hacc ⊢
  obtain ⟨C, hCd⟩ : ∃ C, C = s₂.heap.objs.size + 1 := ⟨_, rfl⟩
  rw [← hCd] at hns₁
  have hlow : ∀ a : Addr, a < D → a ≠ C ∧ a ≠ D := fun a ha => ⟨Nat.ne_of_lt (by rw [hCd, ← hDd]; exact Nat.lt_succ_of_lt ha), Nat.ne_of_lt ha⟩
  have hDC : D ≠ C := Nat.ne_of_lt (by rw [hCd, ← hDd]; exact Nat.lt_succ_self _)
  have hfp' : ∀ b ∈ fp, b < D := fun b hb => by rw [hDd]; exact hfp b hb
  have fresh₀ : ∀ a : Addr, s₂.heap.objs.size ≤ a → h₀.get? a = none := fun a ha => by
    cases e : h₀.get? a with
    | none => rfl
    | some o' => exact absurd (Heap.lt_size (F.keep a o' e)) (Nat.not_lt.mpr ha)
  have hD₀ : h₀.get? D = none := fresh₀ _ (by rw [hDd]; exact Nat.le_refl _)
  have hC₀ : h₀.get? C = none := fresh₀ _ (by rw [hCd]; exact Nat.le_succ _)
  skip
  have hLlt : L < D := by rw [hDd]; exact F.ns.lt
  have hIlt : I < D := hfp' I W.sub
  have hst₁ : St 0 h₁ := W.frame _ _ _ hst fun b _ o e => old b o e
  have offD : ∀ p ∈ news, p.1 < D := fun p hp => by rw [hDd]; exact Heap.lt_size (N p hp).1
  have N₁ : News h₀ L h₁ ((D, lst []) :: news) := fun p hp => by
    rcases List.mem_cons.mp hp with rfl | hp
    · exact ⟨hacc, Ne.symm (hlow L hLlt).2, hD₀⟩
    · exact ⟨old _ _ (N p hp).1, (N p hp).2⟩
  have off₁ : ∀ p ∈ news, p.1 ≠ I ∧ p.1 ≠ C ∧ p.1 ≠ D := fun p hp => ⟨off p hp, hlow _ (offD p hp)⟩
  obtain ⟨hIC, hID⟩ := hlow I hIlt
  obtain ⟨hLC, hLD⟩ := hlow L hLlt
  have F₁ : Fr h₀ L h₁ m := F.keeps old
  have loop : ∀ s₃ : Shared, (∃ tk, s₃ = { s₂ with heap := h₁, toks := tk } ∧ @LE.le Nat _ N₀ tk) →
      codeAny (model prog w) A (.compLoop (.ListComp elt [⟨.Name x px, iter, [ct], 0⟩] scope pos) 0 (.ref I) (.ref D) (compEnvC scope cl C env)) (RR (.ref D) C) s₃ := by
    rintro s₃ ⟨tk₃, rfl, hN₃⟩
    refine codeAny_compLoop_tests
      (BIv s₂ h₀ L m n St S J D C I) ?_ (n + 1)
      ⟨h₁, tk₃, 0, [], _, news, N₀, rfl, Nat.zero_le _, rfl, Nat.le_refl _, hst₁, F₁, hns₁, N₁, off₁, hS, hJ₀, hN₃⟩
    rintro k s' ⟨h', tk, i, ys, m', nx, NN, rfl, hi, rfl, hyl, hst', F', hn', N', off', hS', hJ', hN'⟩
    by_cases hlt : i < n
    · refine W.item i _ _ _ hlt hst' fun v h₂ tk₂ hPv hle hst₂ hk₂ => ?_
      refine wpAny_assign_Name (wpAny_storeName_local (lookup_relabel_local hx) (hn'.at' fun o e => hk₂ _ o (Ne.symm hIC) e) (fun h₃ hn₃ hs₃ => ?_) (by simp [compEnvC, relabel, hkind]))
      replace hs₃ : Heap.SameBut C h₂ h₃ := hs₃
      refine wpAny_tests_one ?_
      have keep₃ : ∀ b o, b ≠ I → b ≠ C → h'.get? b = some o → h₃.get? b = some o := fun b o n1 n2 e => hs₃.extBut b o n2 (hk₂ b o n1 e)
      have hst₃ : St (i + 1) h₃ := W.frame _ _ _ hst₂ fun b hb o e => hs₃.extBut b o ((hlow b (hfp' b hb)).1) e
      obtain ⟨oI, heI⟩ := hIo _ _ hst₃
      have held : ∀ b o, h₀.get? b = some o → b ≠ I ∧ b ≠ C := fun b o q => ⟨fun z => (by rw [z, hI₀] at q; cases q), fun z => (by rw [z, hC₀] at q; cases q)⟩
      have F₃ : Fr h₀ L h₃ m := ⟨F'.ns.at' fun o e => keep₃ _ o hIL hLC e, fun b o e => keep₃ b o (held b o e).1 (held b o e).2 (F'.keep b o e), F'.above⟩
      obtain ⟨oC, heC, hoC⟩ := ns_obj hn₃
      have N₃ : News h₀ L h₃ ([(I, oI), (C, oC), (D, lst ys)] ++ nx) := fun p hp => by
        rcases List.mem_cons.mp hp with rfl | hp
        · exact ⟨heI, Ne.symm hIL, hI₀⟩
        rcases List.mem_cons.mp hp with rfl | hp
        · exact ⟨heC, Ne.symm hLC, hC₀⟩
        rcases List.mem_cons.mp hp with rfl | hp
        · have z := N' _ (.head _)
          exact ⟨keep₃ _ _ (Ne.symm hID) hDC z.1, z.2⟩
        · have z := N' _ (.tail _ hp)
          exact ⟨keep₃ _ _ (off' p hp).1 (off' p hp).2.1 z.1, z.2⟩
      have offp : ∀ p ∈ nx, ∀ q ∈ [(I, oI), (C, oC), (D, lst ys)], p.1 ≠ q.1 := fun p hp q hq => by
        obtain ⟨o1, o2, o4⟩ := off' p hp
        rcases List.mem_cons.mp hq with rfl | hq
        · exact o1
        rcases List.mem_cons.mp hq with rfl | hq
        · exact o2
        rw [List.mem_singleton.mp hq]; exact o4
      have nod : ([(I, oI), (C, oC), (D, lst ys)].map (·.1)).Nodup := by
        simp only [List.map_cons, List.map_nil, List.nodup_cons, List.mem_cons, List.not_mem_nil, or_false, not_or, not_false_iff, List.nodup_nil, and_true]
        exact ⟨⟨hIC, hID⟩, Ne.symm hDC⟩
      have after : ∀ (ys' : List Value) s₄, EndM h₀ L m { s₂ with heap := h₃, toks := tk₂ + 1 } [(I, oI), (C, oC), (D, lst ys)] S (fun nx N' => J (i + 1) ys' nx N') s₄ → ∃ h₄ tk₄ nx₄ N₄, s₄ = { s₂ with heap := h₄, toks := tk₄ } ∧ @LE.le Nat _ N₄ tk₄ ∧ Fr h₀ L h₄ m ∧ (∃ m₄, h₄.Ns C m₄) ∧ h₄.get? D = some (lst ys) ∧ News h₀ L h₄ nx₄ ∧ (∀ p ∈ nx₄, p.1 ≠ I ∧ p.1 ≠ C ∧ p.1 ≠ D) ∧ S nx₄ ∧ St (i + 1) h₄ ∧ J (i + 1) ys' nx₄ N₄ := by
        rintro ys' s₄ ⟨h₄, tk₄, nx₄, N₄, rfl, hN₄, F₄, Nw₄, off₄, hS₄, R₄⟩
        have zI := (Nw₄ (I, oI) (List.mem_append_left _ (.head _))).1
        have zC := (Nw₄ (C, oC) (List.mem_append_left _ (.tail _ (.head _)))).1
        skip
        have zD := (Nw₄ (D, lst ys) (List.mem_append_left _ (.tail _ (.tail _ (.head _))))).1
        have Nw₄' : News h₀ L h₄ nx₄ := fun p hp => Nw₄ p (List.mem_append_right _ hp)
        have hst₄ : St (i + 1) h₄ := hSt _ _ _ _ _ hst₃ heI zI F₄.keep Nw₄' hS₄
        exact ⟨h₄, tk₄, nx₄, N₄, rfl, hN₄, F₄, ⟨_, hoC.ns zC⟩, zD, Nw₄', fun p hp => ⟨off₄ p hp (I, oI) (.head _), off₄ p hp (C, oC) (.tail _ (.head _)), off₄ p hp (D, lst ys) (.tail _ (.tail _ (.head _)))⟩, hS₄, hst₄, R₄⟩
      have put : ∀ y s₄, EndM h₀ L m { s₂ with heap := h₃, toks := tk₂ + 1 } [(I, oI), (C, oC), (D, lst ys)] S (fun nx N' => J (i + 1) (ys ++ [y]) nx N') s₄ → wpAny (model prog w) A (call (.builtin "list.append") [.ref D, y])
          (fun _ s₅ => ∃ k, k < n + 1 - i ∧ BIv s₂ h₀ L m n St S J D C I k s₅) (notedBy (model prog w) A (compEnvC scope cl C env) fun e s' => RR (.ref D) C (.error e) s') s₄ := by
        intro y s₄ he
        obtain ⟨h₄, tk₄, nx₄, N₄, rfl, hN₄, F₄, ⟨m₄, nC₄⟩, zD, Nw₄, off₄, hS₄, hst₄, R₄⟩ := after _ _ he
        refine append_at (hsz := by show ys.toArray.size ≤ sizeLine; rw [List.size_toArray]; exact Nat.le_trans (Nat.le_trans hyl hi) hsz) zD fun h₅ hs₅ hD₅ => ?_
        refine ⟨n + 1 - (i + 1), by omega, h₅, tk₄, i + 1, ys ++ [y], _, nx₄, N₄, rfl, hlt, rfl, by rw [List.length_append, List.length_singleton]; exact Nat.succ_le_succ hyl, W.frame _ _ _ hst₄ fun b hb o e => hs₅.extBut b o (hlow b (hfp' b hb)).2 e, F₄.change hs₅ (Ne.symm hLD) hD₀,
          nC₄.sameBut hs₅ (Ne.symm hDC), fun p hp => ?_, off₄, hS₄, R₄, hN₄⟩
        rcases List.mem_cons.mp hp with rfl | hp
        · exact ⟨hD₅.trans (congrArg some (lst_snoc ys y)), Ne.symm hLD, hD₀⟩
        · exact ⟨hs₅.extBut _ _ (off₄ p hp).2.2 (Nw₄ p hp).1, (Nw₄ p hp).2⟩
      refine wpAny_mono (turn i ys nx NN v I oI C oC D _ h₃ tk tk₂ (tk₂ + 1) _ hlt hJ' hN' hPv hle (Nat.le_succ _) hoC (by simp) F₃ N₃ offp nod) (fun ok s₄ he => ?_) fun _ _ e => e
      cases ok with
      | true =>
        simp only [if_true] at he ⊢
        exact wpAny_mono he (fun y s₅ he => put y s₅ he) fun _ _ e => e
      | false =>
        simp only [Bool.false_eq_true, if_false] at he ⊢
        obtain ⟨h₄, tk₄, nx₄, N₄, rfl, hN₄, F₄, ⟨m₄, nC₄⟩, zD, Nw₄, off₄, hS₄, hst₄, R₄⟩ := after _ _ he
        refine ⟨n + 1 - (i + 1), by omega, h₄, tk₄, i + 1, ys, _, nx₄, N₄, rfl, hlt, rfl, Nat.le_succ_of_le hyl, hst₄, F₄, nC₄, fun p hp => ?_, off₄, hS₄, R₄, hN₄⟩
        rcases List.mem_cons.mp hp with rfl | hp
        · exact ⟨zD, Ne.symm hLD, hD₀⟩
        · exact Nw₄ p hp
    · obtain rfl : i = n := Nat.le_antisymm hi (Nat.not_lt.mp hlt)
      refine W.done _ _ _ hst' fun h₂ tk₂ hle hk₂ => ?_
      have held : ∀ b o, h₀.get? b = some o → b ≠ I := fun b o q z => (by rw [z, hI₀] at q; cases q)
      exact hRR _ _ h₂ tk₂ _ ys nx NN (Nat.le_trans hN' hle) ⟨F'.ns.at' fun o e => hk₂ _ o hIL e, fun b o e => hk₂ b o (held b o e) (F'.keep b o e), F'.above⟩ (fun p hp => by
          rcases List.mem_cons.mp hp with rfl | hp
          · exact ⟨hk₂ _ _ (Ne.symm hID) (N' _ (.head _)).1, (N' _ (.head _)).2⟩
          · exact ⟨hk₂ _ _ (off' p hp).1 (N' _ (.tail _ hp)).1, (N' _ (.tail _ hp)).2⟩) (fun p hp => (off' p hp).2.2) (hn'.at' fun o e => hk₂ _ o (Ne.symm hIC) e) hC₀ hD₀ (Ne.symm hLC) (Ne.symm hLD) (Ne.symm hDC) (fun p hp => (off' p hp).2.1) (hFin _ _ _ hJ')
  have hCd' : C = D + 1 := by rw [hCd, hDd]
  skip
  rw [← hCd']
  refine codeAny_compStart_list (loop _ ⟨_, rfl, Nat.le_trans hN₀ (Nat.le_add_right _ _)⟩) (W.self 0 _ _ _ hst₁ (loop _ ⟨_, rfl, Nat.le_trans hN₀ (Nat.le_add_right _ _)⟩))
end

/-- what the turns of a block are to show -/
inductive OblC (prog : Program) (w : World) (A : Around) (h₀ : Heap) (L : Addr) (m : PySem.Str → Option Value) (env : Env) (elt : Expr) (x : PySem.Str) (scope : Scope) (cl : List (PySem.Str × Addr)) (Fin : Shared → List Value → List (Addr × Obj) → Nat → Prop) (s : Shared) (S : List (Addr × Obj) → Prop) (P : Nat → Value → Nat → Nat → Prop) (n : Nat) (news : List (Addr × Obj)) : Prop where
  | mk : ∀ (J : Nat → List Value → List (Addr × Obj) → Nat → Prop) (N₀ : Nat), (@LE.le Nat _ N₀ s.toks) → (J 0 [] news N₀) → ((∀ ys nx N, J n ys nx N → Fin s ys nx N)) → (∀ i ys nx (N : Nat) v I oI C oC (c : Addr) (oc : Obj) D h (t0 t1 tk : Nat) (E' : Value → Shared → Prop), i < n → J i ys nx N → N ≤ t0 → P i v t0 t1 → t0 ≤ t1 → t1 ≤ tk → oc.data = .cell (some v) → Fr h₀ L h m → News h₀ L h ([(I, oI), (C, oC), (c, oc), (D, lst ys)] ++ nx) → (∀ p ∈ nx, ∀ q ∈ [(I, oI), (C, oC), (c, oc), (D, lst ys)], p.1 ≠ q.1) → ([(I, oI), (C, oC), (c, oc), (D, lst ys)].map (·.1)).Nodup → wpAny (model prog w) A (eval elt (compEnvC scope ((x, c) :: cl) C env)) (fun y => EndM h₀ L m { s with heap := h, toks := tk } [(I, oI), (C, oC), (c, oc), (D, lst ys)] S (fun nx N' => J (i + 1) (ys ++ [y]) nx N')) E' { s with heap := h, toks := tk }) → OblC prog w A h₀ L m env elt x scope cl Fin s S P n news

section
variable {prog : Program} {w : World} {A : Around} {E : Value → Shared → Prop} {s : Shared} {h₀ : Heap} {L : Addr} {m : PySem.Str → Option Value} {env : Env} {elt iter : Expr} {x : PySem.Str} {px : Pos} {scope : Scope} {cl : List (PySem.Str × Addr)} {pos : Pos}
  {Fin : Shared → List Value → List (Addr × Obj) → Nat → Prop}
theorem blockC {s₂ : Shared} {I : Addr} {fp : List Addr} {n : Nat} {P : Nat → Value → Nat → Nat → Prop} {St : Nat → Heap → Prop} {S : List (Addr × Obj) → Prop} {news : List (Addr × Obj)} {RR : Value → Addr → Result → Shared → Prop}
    (W : WalkK prog w A I fp n P St) (hsz : n ≤ sizeLine) (hIo : ∀ i h, St i h → ∃ o, h.get? I = some o)
    (hSt : ∀ i h h' o nw, St i h → h.get? I = some o → h'.get? I = some o → (∀ b o, h₀.get? b = some o → h'.get? b = some o) → News h₀ L h' nw → S nw → St i h')
    (hcf : ∀ k, cellsFrom k scope.names cl = (x, k) :: cl) (hpc : ∀ h : Heap, pushCells h scope.names = h.push { cls := .type "cell", data := .cell none }) (hxk : ∀ C c, (compEnvC scope ((x, c) :: cl) C env).kindOf x = some .cell) (hkind : scope.kind = .function) (hst : St 0 s₂.heap) (hfp : ∀ b ∈ fp, b < s₂.heap.objs.size)
    (F : Fr h₀ L s₂.heap m) (N : News h₀ L s₂.heap news) (hIL : L ≠ I) (hI₀ : h₀.get? I = none) (off : ∀ p ∈ news, p.1 ≠ I) (hS : S news)
    (R : OblC prog w A h₀ L m env elt x scope cl Fin s₂ S P n news)
    (hRR : ∀ D C h tk m' ys nx N, @LE.le Nat _ N tk → Fr h₀ L h m → News h₀ L h ((D, lst ys) :: nx) → (∀ p ∈ nx, p.1 ≠ D) → h.Ns C m' → h₀.get? C = none → h₀.get? D = none → C ≠ L → D ≠ L → C ≠ D → (∀ p ∈ nx, p.1 ≠ C) → Fin s₂ ys nx N → RR (.ref D) C (.ok .next) { s₂ with heap := h, toks := tk }) :
    wpAny (model prog w) A (newList []) (fun acc s₃ => wpAny (model prog w) A (newFunctionEnv scope env.globals cl [] env.qual none .none (some env)) (fun cenv s₄ =>
      codeAny (model prog w) A (.compStart (.ListComp elt [⟨.Name x px, iter, [], 0⟩] scope pos) 0 (.ref I) acc { cenv with scope := relabel scope env }) (RR acc cenv.locals) s₄) E s₃) E s₂ := by
  obtain ⟨J, N₀, hN₀, hJ₀, hFin, turn⟩ := R
  refine wpAny_newObj_type (newEnv_cell hcf hpc ?_)
  dsimp only
  have hC : (s₂.heap.push { cls := .type "list", dict := none, data := .seq ([] : List Value).toArray }).objs.size = s₂.heap.objs.size + 1 := Heap.size_push ..
  rw [hC]
  generalize hH1 : ((s₂.heap.push { cls := .type "list", dict := none, data := .seq ([] : List Value).toArray }).push { cls := .type "dict", data := .dict #[] }).push { cls := .type "cell", data := .cell none } = h₁
  have old : ∀ b o, s₂.heap.get? b = some o → h₁.get? b = some o := fun b o e => by rw [← hH1]; exact Heap.get?_push_of_some _ (Heap.get?_push_of_some _ (Heap.get?_push_of_some _ e))
  have hacc : h₁.get? s₂.heap.objs.size = some (lst []) := by rw [← hH1]; exact Heap.get?_push_of_some _ (Heap.get?_push_of_some _ (Heap.get?_push_size _ rfl))
  have hns₁ : h₁.Ns (s₂.heap.objs.size + 1) (fun _ => none) := by
    rw [← hH1, ← hC]
    exact ⟨_, #[], 0, Heap.get?_push_of_some _ (Heap.get?_push_size _ rfl), rfl, by intro e he; simp at he, fun _ => rfl⟩
  have hcl₁ : h₁.IsCell (s₂.heap.objs.size + 1 + 1) none := by
    have hz : ((s₂.heap.push { cls := .type "list", dict := none, data := .seq ([] : List Value).toArray }).push { cls := .type "dict", data := .dict #[] }).objs.size = s₂.heap.objs.size + 1 + 1 := by rw [Heap.size_push, hC]
    rw [← hH1, ← hz]
    exact ⟨_, Heap.get?_push_size _ rfl, rfl⟩
  clear hH1
  obtain ⟨D, hDd⟩ : ∃ D, D = s₂.heap.objs.size := ⟨_, rfl⟩
  rw [← hDd] at hacc ⊢
  obtain ⟨C, hCd⟩ : ∃ C, C = s₂.heap.objs.size + 1 := ⟨_, rfl⟩
  obtain ⟨c, hcd⟩ : ∃ c, c = s₂.heap.objs.size + 1 + 1 := ⟨_, rfl⟩
  rw [← hcd] at hcl₁
  rw [← hCd] at hns₁
  have hlow : ∀ a : Addr, a < D → a ≠ C ∧ a ≠ c ∧ a ≠ D := fun a ha => ⟨Nat.ne_of_lt (by rw [hCd, ← hDd]; exact Nat.lt_succ_of_lt ha), Nat.ne_of_lt (by rw [hcd, ← hDd]; exact Nat.lt_succ_of_lt (Nat.lt_succ_of_lt ha)), Nat.ne_of_lt ha⟩
  have hDC : D ≠ C := Nat.ne_of_lt (by rw [hCd, ← hDd]; exact Nat.lt_succ_self _)
  have hCc : C ≠ c := Nat.ne_of_lt (by rw [hCd, hcd]; exact Nat.lt_succ_self _)
  have hDc : D ≠ c := Nat.ne_of_lt (by rw [hcd, ← hDd]; exact Nat.lt_succ_of_lt (Nat.lt_succ_self _))
  have hfp' : ∀ b ∈ fp, b < D := fun b hb => by rw [hDd]; exact hfp b hb
  have fresh₀ : ∀ a : Addr, s₂.heap.objs.size ≤ a → h₀.get? a = none := fun a ha => by
    cases e : h₀.get? a with
    | none => rfl
    | some o' => exact absurd (Heap.lt_size (F.keep a o' e)) (Nat.not_lt.mpr ha)
  have hD₀ : h₀.get? D = none := fresh₀ _ (by rw [hDd]; exact Nat.le_refl _)
  have hC₀ : h₀.get? C = none := fresh₀ _ (by rw [hCd]; exact Nat.le_succ _)
  have hc₀ : h₀.get? c = none := fresh₀ _ (by rw [hcd]; exact Nat.le_succ_of_le (Nat.le_succ _))
  have hLlt : L < D := by rw [hDd]; exact F.ns.lt
  have hIlt : I < D := hfp' I W.sub
  have hst₁ : St 0 h₁ := W.frame _ _ _ hst fun b _ o e => old b o e
  have offD : ∀ p ∈ news, p.1 < D := fun p hp => by rw [hDd]; exact Heap.lt_size (N p hp).1
  have N₁ : News h₀ L h₁ ((D, lst []) :: news) := fun p hp => by
    rcases List.mem_cons.mp hp with rfl | hp
    · exact ⟨hacc, Ne.symm (hlow L hLlt).2.2, hD₀⟩
    · exact ⟨old _ _ (N p hp).1, (N p hp).2⟩
  have off₁ : ∀ p ∈ news, p.1 ≠ I ∧ p.1 ≠ C ∧ p.1 ≠ c ∧ p.1 ≠ D := fun p hp => ⟨off p hp, hlow _ (offD p hp)⟩
  obtain ⟨hIC, hIc, hID⟩ := hlow I hIlt
  obtain ⟨hLC, hLc, hLD⟩ := hlow L hLlt
  have F₁ : Fr h₀ L h₁ m := F.keeps old
  have loop : ∀ s₃ : Shared, (∃ tk, s₃ = { s₂ with heap := h₁, toks := tk } ∧ @LE.le Nat _ N₀ tk) →
      codeAny (model prog w) A (.compLoop (.ListComp elt [⟨.Name x px, iter, [], 0⟩] scope pos) 0 (.ref I) (.ref D) (compEnvC scope ((x, c) :: cl) C env)) (RR (.ref D) C) s₃ := by
    rintro s₃ ⟨tk₃, rfl, hN₃⟩
    refine codeAny_compLoop_tests
      (BIvC s₂ h₀ L m n St S J D C c I) ?_ (n + 1)
      ⟨h₁, tk₃, 0, [], _, news, N₀, rfl, Nat.zero_le _, rfl, Nat.le_refl _, hst₁, F₁, hns₁, ⟨_, hcl₁⟩, N₁, off₁, hS, hJ₀, hN₃⟩
    rintro k s' ⟨h', tk, i, ys, m', nx, NN, rfl, hi, rfl, hyl, hst', F', hn', ⟨cv, hcv⟩, N', off', hS', hJ', hN'⟩
    by_cases hlt : i < n
    · refine W.item i _ _ _ hlt hst' fun v h₂ tk₂ hPv hle hst₂ hk₂ => ?_
      obtain ⟨oc0, hoc0, hdc0⟩ := hcv
      refine wpAny_assign_Name (wpAny_storeName_cell (c := c) (v₀ := cv) hkind (hxk C c) (by simp [compEnvC]) ⟨oc0, hk₂ _ _ (Ne.symm hIc) hoc0, hdc0⟩ fun h₃ hcv₃ hs₃ => ?_)
      replace hs₃ : Heap.SameBut c h₂ h₃ := hs₃
      refine wpAny_tests_nil ?_
      simp only [if_true]
      have keep₃ : ∀ b o, b ≠ I → b ≠ c → h'.get? b = some o → h₃.get? b = some o := fun b o n1 n2 e => hs₃.extBut b o n2 (hk₂ b o n1 e)
      have hst₃ : St (i + 1) h₃ := W.frame _ _ _ hst₂ fun b hb o e => hs₃.extBut b o ((hlow b (hfp' b hb)).2.1) e
      obtain ⟨oI, heI⟩ := hIo _ _ hst₃
      have held : ∀ b o, h₀.get? b = some o → b ≠ I ∧ b ≠ c := fun b o q => ⟨fun z => (by rw [z, hI₀] at q; cases q), fun z => (by rw [z, hc₀] at q; cases q)⟩
      have F₃ : Fr h₀ L h₃ m := ⟨F'.ns.at' fun o e => keep₃ _ o hIL hLc e, fun b o e => keep₃ b o (held b o e).1 (held b o e).2 (F'.keep b o e), F'.above⟩
      have hn₃ : h₃.Ns C m' := hn'.at' fun o e => keep₃ _ o (Ne.symm hIC) hCc e
      obtain ⟨oc, heo, hdo⟩ := hcv₃
      obtain ⟨oC, heC, hoC⟩ := ns_obj hn₃
      have N₃ : News h₀ L h₃ ([(I, oI), (C, oC), (c, oc), (D, lst ys)] ++ nx) := fun p hp => by
        rcases List.mem_cons.mp hp with rfl | hp
        · exact ⟨heI, Ne.symm hIL, hI₀⟩
        rcases List.mem_cons.mp hp with rfl | hp
        · exact ⟨heC, Ne.symm hLC, hC₀⟩
        rcases List.mem_cons.mp hp with rfl | hp
        · exact ⟨heo, Ne.symm hLc, hc₀⟩
        rcases List.mem_cons.mp hp with rfl | hp
        · have z := N' _ (.head _)
          exact ⟨keep₃ _ _ (Ne.symm hID) hDc z.1, z.2⟩
        · have z := N' _ (.tail _ hp)
          exact ⟨keep₃ _ _ (off' p hp).1 (off' p hp).2.2.1 z.1, z.2⟩
      have offp : ∀ p ∈ nx, ∀ q ∈ [(I, oI), (C, oC), (c, oc), (D, lst ys)], p.1 ≠ q.1 := fun p hp q hq => by
        obtain ⟨o1, o2, o3, o4⟩ := off' p hp
        rcases List.mem_cons.mp hq with rfl | hq
        · exact o1
        rcases List.mem_cons.mp hq with rfl | hq
        · exact o2
        rcases List.mem_cons.mp hq with rfl | hq
        · exact o3
        rw [List.mem_singleton.mp hq]; exact o4
      have nod : ([(I, oI), (C, oC), (c, oc), (D, lst ys)].map (·.1)).Nodup := by
        simp only [List.map_cons, List.map_nil, List.nodup_cons, List.mem_cons, List.not_mem_nil, or_false, not_or, not_false_iff, List.nodup_nil, and_true]
        exact ⟨⟨hIC, hIc, hID⟩, ⟨hCc, Ne.symm hDC⟩, Ne.symm hDc⟩
      have after : ∀ (ys' : List Value) s₄, EndM h₀ L m { s₂ with heap := h₃, toks := tk₂ } [(I, oI), (C, oC), (c, oc), (D, lst ys)] S (fun nx N' => J (i + 1) ys' nx N') s₄ → ∃ h₄ tk₄ nx₄ N₄, s₄ = { s₂ with heap := h₄, toks := tk₄ } ∧ @LE.le Nat _ N₄ tk₄ ∧ Fr h₀ L h₄ m ∧ (∃ m₄, h₄.Ns C m₄) ∧ (∃ cv, h₄.IsCell c cv) ∧ h₄.get? D = some (lst ys) ∧ News h₀ L h₄ nx₄ ∧ (∀ p ∈ nx₄, p.1 ≠ I ∧ p.1 ≠ C ∧ p.1 ≠ c ∧ p.1 ≠ D) ∧ S nx₄ ∧ St (i + 1) h₄ ∧ J (i + 1) ys' nx₄ N₄ := by
        rintro ys' s₄ ⟨h₄, tk₄, nx₄, N₄, rfl, hN₄, F₄, Nw₄, off₄, hS₄, R₄⟩
        have zI := (Nw₄ (I, oI) (List.mem_append_left _ (.head _))).1
        have zC := (Nw₄ (C, oC) (List.mem_append_left _ (.tail _ (.head _)))).1
        have zc := (Nw₄ (c, oc) (List.mem_append_left _ (.tail _ (.tail _ (.head _))))).1
        have zD := (Nw₄ (D, lst ys) (List.mem_append_left _ (.tail _ (.tail _ (.tail _ (.head _)))))).1
        have Nw₄' : News h₀ L h₄ nx₄ := fun p hp => Nw₄ p (List.mem_append_right _ hp)
        have hst₄ : St (i + 1) h₄ := hSt _ _ _ _ _ hst₃ heI zI F₄.keep Nw₄' hS₄
        exact ⟨h₄, tk₄, nx₄, N₄, rfl, hN₄, F₄, ⟨_, hoC.ns zC⟩, ⟨_, oc, zc, hdo⟩, zD, Nw₄', fun p hp => ⟨off₄ p hp (I, oI) (.head _), off₄ p hp (C, oC) (.tail _ (.head _)), off₄ p hp (c, oc) (.tail _ (.tail _ (.head _))), off₄ p hp (D, lst ys) (.tail _ (.tail _ (.tail _ (.head _))))⟩, hS₄, hst₄, R₄⟩
      have put : ∀ y s₄, EndM h₀ L m { s₂ with heap := h₃, toks := tk₂ } [(I, oI), (C, oC), (c, oc), (D, lst ys)] S (fun nx N' => J (i + 1) (ys ++ [y]) nx N') s₄ → wpAny (model prog w) A (call (.builtin "list.append") [.ref D, y])
          (fun _ s₅ => ∃ k, k < n + 1 - i ∧ BIvC s₂ h₀ L m n St S J D C c I k s₅) (notedBy (model prog w) A (compEnvC scope ((x, c) :: cl) C env) fun e s' => RR (.ref D) C (.error e) s') s₄ := by
        intro y s₄ he
        obtain ⟨h₄, tk₄, nx₄, N₄, rfl, hN₄, F₄, ⟨m₄, nC₄⟩, ⟨cv₄, oc4, hc4, hd4⟩, zD, Nw₄, off₄, hS₄, hst₄, R₄⟩ := after _ _ he
        refine append_at (hsz := by show ys.toArray.size ≤ sizeLine; rw [List.size_toArray]; exact Nat.le_trans (Nat.le_trans hyl hi) hsz) zD fun h₅ hs₅ hD₅ => ?_
        refine ⟨n + 1 - (i + 1), by omega, h₅, tk₄, i + 1, ys ++ [y], _, nx₄, N₄, rfl, hlt, rfl, by rw [List.length_append, List.length_singleton]; exact Nat.succ_le_succ hyl, W.frame _ _ _ hst₄ fun b hb o e => hs₅.extBut b o (hlow b (hfp' b hb)).2.2 e, F₄.change hs₅ (Ne.symm hLD) hD₀,
          nC₄.sameBut hs₅ (Ne.symm hDC), ⟨cv₄, oc4, hs₅.extBut _ _ (Ne.symm hDc) hc4, hd4⟩, fun p hp => ?_, off₄, hS₄, R₄, hN₄⟩
        rcases List.mem_cons.mp hp with rfl | hp
        · exact ⟨hD₅.trans (congrArg some (lst_snoc ys y)), Ne.symm hLD, hD₀⟩
        · exact ⟨hs₅.extBut _ _ (off₄ p hp).2.2.2 (Nw₄ p hp).1, (Nw₄ p hp).2⟩
      exact wpAny_mono (turn i ys nx NN v I oI C oC c oc D h₃ tk tk₂ tk₂ _ hlt hJ' hN' hPv hle (Nat.le_refl _) hdo F₃ N₃ offp nod) (fun y s₄ he => put y s₄ he) fun _ _ e => e
    · obtain rfl : i = n := Nat.le_antisymm hi (Nat.not_lt.mp hlt)
      refine W.done _ _ _ hst' fun h₂ tk₂ hle hk₂ => ?_
      have held : ∀ b o, h₀.get? b = some o → b ≠ I := fun b o q z => (by rw [z, hI₀] at q; cases q)
      exact hRR _ _ h₂ tk₂ _ ys nx NN (Nat.le_trans hN' hle) ⟨F'.ns.at' fun o e => hk₂ _ o hIL e, fun b o e => hk₂ b o (held b o e) (F'.keep b o e), F'.above⟩ (fun p hp => by
          rcases List.mem_cons.mp hp with rfl | hp
          · exact ⟨hk₂ _ _ (Ne.symm hID) (N' _ (.head _)).1, (N' _ (.head _)).2⟩
          · exact ⟨hk₂ _ _ (off' p hp).1 (N' _ (.tail _ hp)).1, (N' _ (.tail _ hp)).2⟩) (fun p hp => (off' p hp).2.2.2) (hn'.at' fun o e => hk₂ _ o (Ne.symm hIC) e) hC₀ hD₀ (Ne.symm hLC) (Ne.symm hLD) (Ne.symm hDC) (fun p hp => (off' p hp).2.1) (hFin _ _ _ hJ')
  have hCd' : C = D + 1 := by rw [hCd, hDd]
  have hcd' : c = C + 1 := by rw [hcd, hCd]
  rw [← hCd', ← hcd']
  refine codeAny_compStart_list (loop _ ⟨_, rfl, hN₀⟩) (W.self 0 _ _ _ hst₁ (loop _ ⟨_, rfl, hN₀⟩))
end

/-- what the turns of a block are to show -/
inductive OblTC (prog : Program) (w : World) (A : Around) (h₀ : Heap) (L : Addr) (m : PySem.Str → Option Value) (env : Env) (ct : Expr) (elt : Expr) (x : PySem.Str) (scope : Scope) (cl : List (PySem.Str × Addr)) (Fin : Shared → List Value → List (Addr × Obj) → Nat → Prop) (s : Shared) (S : List (Addr × Obj) → Prop) (P : Nat → Value → Nat → Nat → Prop) (n : Nat) (news : List (Addr × Obj)) : Prop where
  | mk : ∀ (J : Nat → List Value → List (Addr × Obj) → Nat → Prop) (N₀ : Nat), (@LE.le Nat _ N₀ s.toks) → (J 0 [] news N₀) → ((∀ ys nx N, J n ys nx N → Fin s ys nx N)) → (∀ i ys nx (N : Nat) v I oI C oC (c : Addr) (oc : Obj) D h (t0 t1 tk : Nat) (E' : Value → Shared → Prop), i < n → J i ys nx N → N ≤ t0 → P i v t0 t1 → t0 ≤ t1 → t1 ≤ tk → oc.data = .cell (some v) → Fr h₀ L h m → News h₀ L h ([(I, oI), (C, oC), (c, oc), (D, lst ys)] ++ nx) → (∀ p ∈ nx, ∀ q ∈ [(I, oI), (C, oC), (c, oc), (D, lst ys)], p.1 ≠ q.1) → ([(I, oI), (C, oC), (c, oc), (D, lst ys)].map (·.1)).Nodup → wpAny (model prog w) A (isTrue ct (compEnvC scope ((x, c) :: cl) C env) (eval ct (compEnvC scope ((x, c) :: cl) C env))) (fun ok s' => if ok = true then wpAny (model prog w) A (eval elt (compEnvC scope ((x, c) :: cl) C env)) (fun y => EndM h₀ L m { s with heap := h, toks := tk } [(I, oI), (C, oC), (c, oc), (D, lst ys)] S (fun nx N' => J (i + 1) (ys ++ [y]) nx N')) E' s' else EndM h₀ L m { s with heap := h, toks := tk } [(I, oI), (C, oC), (c, oc), (D, lst ys)] S (fun nx N' => J (i + 1) ys nx N') s') E' { s with heap := h, toks := tk }) → OblTC prog w A h₀ L m env ct elt x scope cl Fin s S P n news

section
variable {prog : Program} {w : World} {A : Around} {E : Value → Shared → Prop} {s : Shared} {h₀ : Heap} {L : Addr} {m : PySem.Str → Option Value} {env : Env} {ct : Expr} {elt iter : Expr} {x : PySem.Str} {px : Pos} {scope : Scope} {cl : List (PySem.Str × Addr)} {pos : Pos}
  {Fin : Shared → List Value → List (Addr × Obj) → Nat → Prop}
theorem blockTC {s₂ : Shared} {I : Addr} {fp : List Addr} {n : Nat} {P : Nat → Value → Nat → Nat → Prop} {St : Nat → Heap → Prop} {S : List (Addr × Obj) → Prop} {news : List (Addr × Obj)} {RR : Value → Addr → Result → Shared → Prop}
    (W : WalkK prog w A I fp n P St) (hsz : n ≤ sizeLine) (hIo : ∀ i h, St i h → ∃ o, h.get? I = some o)
    (hSt : ∀ i h h' o nw, St i h → h.get? I = some o → h'.get? I = some o → (∀ b o, h₀.get? b = some o → h'.get? b = some o) → News h₀ L h' nw → S nw → St i h')
    (hcf : ∀ k, cellsFrom k scope.names cl = (x, k) :: cl) (hpc : ∀ h : Heap, pushCells h scope.names = h.push { cls := .type "cell", data := .cell none }) (hxk : ∀ C c, (compEnvC scope ((x, c) :: cl) C env).kindOf x = some .cell) (hkind : scope.kind = .function) (hst : St 0 s₂.heap) (hfp : ∀ b ∈ fp, b < s₂.heap.objs.size)
    (F : Fr h₀ L s₂.heap m) (N : News h₀ L s₂.heap news) (hIL : L ≠ I) (hI₀ : h₀.get? I = none) (off : ∀ p ∈ news, p.1 ≠ I) (hS : S news)
    (R : OblTC prog w A h₀ L m env ct elt x scope cl Fin s₂ S P n news)
    (hRR : ∀ D C h tk m' ys nx N, @LE.le Nat _ N tk → Fr h₀ L h m → News h₀ L h ((D, lst ys) :: nx) → (∀ p ∈ nx, p.1 ≠ D) → h.Ns C m' → h₀.get? C = none → h₀.get? D = none → C ≠ L → D ≠ L → C ≠ D → (∀ p ∈ nx, p.1 ≠ C) → Fin s₂ ys nx N → RR (.ref D) C (.ok .next) { s₂ with heap := h, toks := tk }) :
    wpAny (model prog w) A (newList []) (fun acc s₃ => wpAny (model prog w) A (newFunctionEnv scope env.globals cl [] env.qual none .none (some env)) (fun cenv s₄ =>
      codeAny (model prog w) A (.compStart (.ListComp elt [⟨.Name x px, iter, [ct], 0⟩] scope pos) 0 (.ref I) acc { cenv with scope := relabel scope env }) (RR acc cenv.locals) s₄) E s₃) E s₂ := by
  obtain ⟨J, N₀, hN₀, hJ₀, hFin, turn⟩ := R
  refine wpAny_newObj_type (newEnv_cell hcf hpc ?_)
  dsimp only
  have hC : (s₂.heap.push { cls := .type "list", dict := none, data := .seq ([] : List Value).toArray }).objs.size = s₂.heap.objs.size + 1 := Heap.size_push ..
  rw [hC]
  generalize hH1 : ((s₂.heap.push { cls := .type "list", dict := none, data := .seq ([] : List Value).toArray }).push { cls := .type "dict", data := .dict #[] }).push { cls := .type "cell", data := .cell none } = h₁
  have old : ∀ b o, s₂.heap.get? b = some o → h₁.get? b = some o := fun b o e => by rw [← hH1]; exact Heap.get?_push_of_some _ (Heap.get?_push_of_some _ (Heap.get?_push_of_some _ e))
  have hacc : h₁.get? s₂.heap.objs.size = some (lst []) := by rw [← hH1]; exact Heap.get?_push_of_some _ (Heap.get?_push_of_some _ (Heap.get?_push_size _ rfl))
  have hns₁ : h₁.Ns (s₂.heap.objs.size + 1) (fun _ => none) := by
    rw [← hH1, ← hC]
    exact ⟨_, #[], 0, Heap.get?_push_of_some _ (Heap.get?_push_size _ rfl), rfl, by intro e he; simp at he, fun _ => rfl⟩
  have hcl₁ : h₁.IsCell (s₂.heap.objs.size + 1 + 1) none := by
    have hz : ((s₂.heap.push { cls := .type "list", dict := none, data := .seq ([] : List Value).toArray }).push { cls := .type "dict", data := .dict #[] }).objs.size = s₂.heap.objs.size + 1 + 1 := by rw [Heap.size_push, hC]
    rw [← hH1, ← hz]
    exact ⟨_, Heap.get?_push_size _ rfl, rfl⟩
  clear hH1
  obtain ⟨D, hDd⟩ : ∃ D, D = s₂.heap.objs.size := ⟨_, rfl⟩
  rw [← hDd] at hacc ⊢
  obtain ⟨C, hCd⟩ : ∃ C, C = s₂.heap.objs.size + 1 := ⟨_, rfl⟩
  obtain ⟨c, hcd⟩ : ∃ c, c = s₂.heap.objs.size + 1 + 1 := ⟨_, rfl⟩
  rw [← hcd] at hcl₁
  rw [← hCd] at hns₁
  have hlow : ∀ a : Addr, a < D → a ≠ C ∧ a ≠ c ∧ a ≠ D := fun a ha => ⟨Nat.ne_of_lt (by rw [hCd, ← hDd]; exact Nat.lt_succ_of_lt ha), Nat.ne_of_lt (by rw [hcd, ← hDd]; exact Nat.lt_succ_of_lt (Nat.lt_succ_of_lt ha)), Nat.ne_of_lt ha⟩
  have hDC : D ≠ C := Nat.ne_of_lt (by rw [hCd, ← hDd]; exact Nat.lt_succ_self _)
  have hCc : C ≠ c := Nat.ne_of_lt (by rw [hCd, hcd]; exact Nat.lt_succ_self _)
  have hDc : D ≠ c := Nat.ne_of_lt (by rw [hcd, ← hDd]; exact Nat.lt_succ_of_lt (Nat.lt_succ_self _))
  have hfp' : ∀ b ∈ fp, b < D := fun b hb => by rw [hDd]; exact hfp b hb
  have fresh₀ : ∀ a : Addr, s₂.heap.objs.size ≤ a → h₀.get? a = none := fun a ha => by
    cases e : h₀.get? a with
    | none => rfl
    | some o' => exact absurd (Heap.lt_size (F.keep a o' e)) (Nat.not_lt.mpr ha)
  have hD₀ : h₀.get? D = none := fresh₀ _ (by rw [hDd]; exact Nat.le_refl _)
  have hC₀ : h₀.get? C = none := fresh₀ _ (by rw [hCd]; exact Nat.le_succ _)
  have hc₀ : h₀.get? c = none := fresh₀ _ (by rw [hcd]; exact Nat.le_succ_of_le (Nat.le_succ _))
  have hLlt : L < D := by rw [hDd]; exact F.ns.lt
  have hIlt : I < D := hfp' I W.sub
  have hst₁ : St 0 h₁ := W.frame _ _ _ hst fun b _ o e => old b o e
  have offD : ∀ p ∈ news, p.1 < D := fun p hp => by rw [hDd]; exact Heap.lt_size (N p hp).1
  have N₁ : News h₀ L h₁ ((D, lst []) :: news) := fun p hp => by
    rcases List.mem_cons.mp hp with rfl | hp
    · exact ⟨hacc, Ne.symm (hlow L hLlt).2.2, hD₀⟩
    · exact ⟨old _ _ (N p hp).1, (N p hp).2⟩
  have off₁ : ∀ p ∈ news, p.1 ≠ I ∧ p.1 ≠ C ∧ p.1 ≠ c ∧ p.1 ≠ D := fun p hp => ⟨off p hp, hlow _ (offD p hp)⟩
  obtain ⟨hIC, hIc, hID⟩ := hlow I hIlt
  obtain ⟨hLC, hLc, hLD⟩ := hlow L hLlt
  have F₁ : Fr h₀ L h₁ m := F.keeps old
  have loop : ∀ s₃ : Shared, (∃ tk, s₃ = { s₂ with heap := h₁, toks := tk } ∧ @LE.le Nat _ N₀ tk) →
      codeAny (model prog w) A (.compLoop (.ListComp elt [⟨.Name x px, iter, [ct], 0⟩] scope pos) 0 (.ref I) (.ref D) (compEnvC scope ((x, c) :: cl) C env)) (RR (.ref D) C) s₃ := by
    rintro s₃ ⟨tk₃, rfl, hN₃⟩
    refine codeAny_compLoop_tests
      (BIvC s₂ h₀ L m n St S J D C c I) ?_ (n + 1)
      ⟨h₁, tk₃, 0, [], _, news, N₀, rfl, Nat.zero_le _, rfl, Nat.le_refl _, hst₁, F₁, hns₁, ⟨_, hcl₁⟩, N₁, off₁, hS, hJ₀, hN₃⟩
    rintro k s' ⟨h', tk, i, ys, m', nx, NN, rfl, hi, rfl, hyl, hst', F', hn', ⟨cv, hcv⟩, N', off', hS', hJ', hN'⟩
    by_cases hlt : i < n
    · refine W.item i _ _ _ hlt hst' fun v h₂ tk₂ hPv hle hst₂ hk₂ => ?_
      obtain ⟨oc0, hoc0, hdc0⟩ := hcv
      refine wpAny_assign_Name (wpAny_storeName_cell (c := c) (v₀ := cv) hkind (hxk C c) (by simp [compEnvC]) ⟨oc0, hk₂ _ _ (Ne.symm hIc) hoc0, hdc0⟩ fun h₃ hcv₃ hs₃ => ?_)
      replace hs₃ : Heap.SameBut c h₂ h₃ := hs₃
      refine wpAny_tests_one ?_
      have keep₃ : ∀ b o, b ≠ I → b ≠ c → h'.get? b = some o → h₃.get? b = some o := fun b o n1 n2 e => hs₃.extBut b o n2 (hk₂ b o n1 e)
      have hst₃ : St (i + 1) h₃ := W.frame _ _ _ hst₂ fun b hb o e => hs₃.extBut b o ((hlow b (hfp' b hb)).2.1) e
      obtain ⟨oI, heI⟩ := hIo _ _ hst₃
      have held : ∀ b o, h₀.get? b = some o → b ≠ I ∧ b ≠ c := fun b o q => ⟨fun z => (by rw [z, hI₀] at q; cases q), fun z => (by rw [z, hc₀] at q; cases q)⟩
      have F₃ : Fr h₀ L h₃ m := ⟨F'.ns.at' fun o e => keep₃ _ o hIL hLc e, fun b o e => keep₃ b o (held b o e).1 (held b o e).2 (F'.keep b o e), F'.above⟩
      have hn₃ : h₃.Ns C m' := hn'.at' fun o e => keep₃ _ o (Ne.symm hIC) hCc e
      obtain ⟨oc, heo, hdo⟩ := hcv₃
      obtain ⟨oC, heC, hoC⟩ := ns_obj hn₃
      have N₃ : News h₀ L h₃ ([(I, oI), (C, oC), (c, oc), (D, lst ys)] ++ nx) := fun p hp => by
        rcases List.mem_cons.mp hp with rfl | hp
        · exact ⟨heI, Ne.symm hIL, hI₀⟩
        rcases List.mem_cons.mp hp with rfl | hp
        · exact ⟨heC, Ne.symm hLC, hC₀⟩
        rcases List.mem_cons.mp hp with rfl | hp
        · exact ⟨heo, Ne.symm hLc, hc₀⟩
        rcases List.mem_cons.mp hp with rfl | hp
        · have z := N' _ (.head _)
          exact ⟨keep₃ _ _ (Ne.symm hID) hDc z.1, z.2⟩
        · have z := N' _ (.tail _ hp)
          exact ⟨keep₃ _ _ (off' p hp).1 (off' p hp).2.2.1 z.1, z.2⟩
      have offp : ∀ p ∈ nx, ∀ q ∈ [(I, oI), (C, oC), (c, oc), (D, lst ys)], p.1 ≠ q.1 := fun p hp q hq => by
        obtain ⟨o1, o2, o3, o4⟩ := off' p hp
        rcases List.mem_cons.mp hq with rfl | hq
        · exact o1
        rcases List.mem_cons.mp hq with rfl | hq
        · exact o2
        rcases List.mem_cons.mp hq with rfl | hq
        · exact o3
        rw [List.mem_singleton.mp hq]; exact o4
      have nod : ([(I, oI), (C, oC), (c, oc), (D, lst ys)].map (·.1)).Nodup := by
        simp only [List.map_cons, List.map_nil, List.nodup_cons, List.mem_cons, List.not_mem_nil, or_false, not_or, not_false_iff, List.nodup_nil, and_true]
        exact ⟨⟨hIC, hIc, hID⟩, ⟨hCc, Ne.symm hDC⟩, Ne.symm hDc⟩
      have after : ∀ (ys' : List Value) s₄, EndM h₀ L m { s₂ with heap := h₃, toks := tk₂ } [(I, oI), (C, oC), (c, oc), (D, lst ys)] S (fun nx N' => J (i + 1) ys' nx N') s₄ → ∃ h₄ tk₄ nx₄ N₄, s₄ = { s₂ with heap := h₄, toks := tk₄ } ∧ @LE.le Nat _ N₄ tk₄ ∧ Fr h₀ L h₄ m ∧ (∃ m₄, h₄.Ns C m₄) ∧ (∃ cv, h₄.IsCell c cv) ∧ h₄.get? D = some (lst ys) ∧ News h₀ L h₄ nx₄ ∧ (∀ p ∈ nx₄, p.1 ≠ I ∧ p.1 ≠ C ∧ p.1 ≠ c ∧ p.1 ≠ D) ∧ S nx₄ ∧ St (i + 1) h₄ ∧ J (i + 1) ys' nx₄ N₄ := by
        rintro ys' s₄ ⟨h₄, tk₄, nx₄, N₄, rfl, hN₄, F₄, Nw₄, off₄, hS₄, R₄⟩
        have zI := (Nw₄ (I, oI) (List.mem_append_left _ (.head _))).1
        have zC := (Nw₄ (C, oC) (List.mem_append_left _ (.tail _ (.head _)))).1
        have zc := (Nw₄ (c, oc) (List.mem_append_left _ (.tail _ (.tail _ (.head _))))).1
        have zD := (Nw₄ (D, lst ys) (List.mem_append_left _ (.tail _ (.tail _ (.tail _ (.head _)))))).1
        have Nw₄' : News h₀ L h₄ nx₄ := fun p hp => Nw₄ p (List.mem_append_right _ hp)
        have hst₄ : St (i + 1) h₄ := hSt _ _ _ _ _ hst₃ heI zI F₄.keep Nw₄' hS₄
        exact ⟨h₄, tk₄, nx₄, N₄, rfl, hN₄, F₄, ⟨_, hoC.ns zC⟩, ⟨_, oc, zc, hdo⟩, zD, Nw₄', fun p hp => ⟨off₄ p hp (I, oI) (.head _), off₄ p hp (C, oC) (.tail _ (.head _)), off₄ p hp (c, oc) (.tail _ (.tail _ (.head _))), off₄ p hp (D, lst ys) (.tail _ (.tail _ (.tail _ (.head _))))⟩, hS₄, hst₄, R₄⟩
      have put : ∀ y s₄, EndM h₀ L m { s₂ with heap := h₃, toks := tk₂ } [(I, oI), (C, oC), (c, oc), (D, lst ys)] S (fun nx N' => J (i + 1) (ys ++ [y]) nx N') s₄ → wpAny (model prog w) A (call (.builtin "list.append") [.ref D, y])
          (fun _ s₅ => ∃ k, k < n + 1 - i ∧ BIvC s₂ h₀ L m n St S J D C c I k s₅) (notedBy (model prog w) A (compEnvC scope ((x, c) :: cl) C env) fun e s' => RR (.ref D) C (.error e) s') s₄ := by
        intro y s₄ he
        obtain ⟨h₄, tk₄, nx₄, N₄, rfl, hN₄, F₄, ⟨m₄, nC₄⟩, ⟨cv₄, oc4, hc4, hd4⟩, zD, Nw₄, off₄, hS₄, hst₄, R₄⟩ := after _ _ he
        refine append_at (hsz := by show ys.toArray.size ≤ sizeLine; rw [List.size_toArray]; exact Nat.le_trans (Nat.le_trans hyl hi) hsz) zD fun h₅ hs₅ hD₅ => ?_
        refine ⟨n + 1 - (i + 1), by omega, h₅, tk₄, i + 1, ys ++ [y], _, nx₄, N₄, rfl, hlt, rfl, by rw [List.length_append, List.length_singleton]; exact Nat.succ_le_succ hyl, W.frame _ _ _ hst₄ fun b hb o e => hs₅.extBut b o (hlow b (hfp' b hb)).2.2 e, F₄.change hs₅ (Ne.symm hLD) hD₀,
          nC₄.sameBut hs₅ (Ne.symm hDC), ⟨cv₄, oc4, hs₅.extBut _ _ (Ne.symm hDc) hc4, hd4⟩, fun p hp => ?_, off₄, hS₄, R₄, hN₄⟩
        rcases List.mem_cons.mp hp with rfl | hp
        · exact ⟨hD₅.trans (congrArg some (lst_snoc ys y)), Ne.symm hLD, hD₀⟩
        · exact ⟨hs₅.extBut _ _ (off₄ p hp).2.2.2 (Nw₄ p hp).1, (Nw₄ p hp).2⟩
      refine wpAny_mono (turn i ys nx NN v I oI C oC c oc D h₃ tk tk₂ tk₂ _ hlt hJ' hN' hPv hle (Nat.le_refl _) hdo F₃ N₃ offp nod) (fun ok s₄ he => ?_) fun _ _ e => e
      cases ok with
      | true =>
        simp only [if_true] at he ⊢
        exact wpAny_mono he (fun y s₅ he => put y s₅ he) fun _ _ e => e
      | false =>
        simp only [Bool.false_eq_true, if_false] at he ⊢
        obtain ⟨h₄, tk₄, nx₄, N₄, rfl, hN₄, F₄, ⟨m₄, nC₄⟩, hcv₄, zD, Nw₄, off₄, hS₄, hst₄, R₄⟩ := after _ _ he
        refine ⟨n + 1 - (i + 1), by omega, h₄, tk₄, i + 1, ys, _, nx₄, N₄, rfl, hlt, rfl, Nat.le_succ_of_le hyl, hst₄, F₄, nC₄, hcv₄, fun p hp => ?_, off₄, hS₄, R₄, hN₄⟩
        rcases List.mem_cons.mp hp with rfl | hp
        · exact ⟨zD, Ne.symm hLD, hD₀⟩
        · exact Nw₄ p hp
    · obtain rfl : i = n := Nat.le_antisymm hi (Nat.not_lt.mp hlt)
      refine W.done _ _ _ hst' fun h₂ tk₂ hle hk₂ => ?_
      have held : ∀ b o, h₀.get? b = some o → b ≠ I := fun b o q z => (by rw [z, hI₀] at q; cases q)
      exact hRR _ _ h₂ tk₂ _ ys nx NN (Nat.le_trans hN' hle) ⟨F'.ns.at' fun o e => hk₂ _ o hIL e, fun b o e => hk₂ b o (held b o e) (F'.keep b o e), F'.above⟩ (fun p hp => by
          rcases List.mem_cons.mp hp with rfl | hp
          · exact ⟨hk₂ _ _ (Ne.symm hID) (N' _ (.head _)).1, (N' _ (.head _)).2⟩
          · exact ⟨hk₂ _ _ (off' p hp).1 (N' _ (.tail _ hp)).1, (N' _ (.tail _ hp)).2⟩) (fun p hp => (off' p hp).2.2.2) (hn'.at' fun o e => hk₂ _ o (Ne.symm hIC) e) hC₀ hD₀ (Ne.symm hLC) (Ne.symm hLD) (Ne.symm hDC) (fun p hp => (off' p hp).2.1) (hFin _ _ _ hJ')
  have hCd' : C = D + 1 := by rw [hCd, hDd]
  have hcd' : c = C + 1 := by rw [hcd, hCd]
  rw [← hCd', ← hcd']
  refine codeAny_compStart_list (loop _ ⟨_, rfl, hN₀⟩) (W.self 0 _ _ _ hst₁ (loop _ ⟨_, rfl, hN₀⟩))
end

/-- any source of a block -/
inductive SrcP (prog : Program) (w : World) (A : Around) (h₀ : Heap) (L : Addr) (m : PySem.Str → Option Value) (Ob : Shared → (List (Addr × Obj) → Prop) → (Nat → Value → Nat → Nat → Prop) → Nat → List (Addr × Obj) → Prop) (it : Value) (s₂ : Shared) : Prop where
  | mk : ∀ (I : Addr) (fp : List Addr) (n : Nat) (P : Nat → Value → Nat → Nat → Prop) (St : Nat → Heap → Prop) (S : List (Addr × Obj) → Prop) (news : List (Addr × Obj)),
    it = .ref I → WalkK prog w A I fp n P St → n ≤ sizeLine → (∀ i h, St i h → ∃ o, h.get? I = some o) →
    (∀ i h h' o nw, St i h → h.get? I = some o → h'.get? I = some o → (∀ b o, h₀.get? b = some o → h'.get? b = some o) → News h₀ L h' nw → S nw → St i h') → St 0 s₂.heap → (∀ b ∈ fp, b < s₂.heap.objs.size) →
    Fr h₀ L s₂.heap m → News h₀ L s₂.heap news → L ≠ I → h₀.get? I = none → (∀ p ∈ news, p.1 ≠ I) → S news → Ob s₂ S P n news → SrcP prog w A h₀ L m Ob it s₂
def SrcM (prog : Program) (w : World) (A : Around) (h₀ : Heap) (L : Addr) (m : PySem.Str → Option Value) (Ob : Shared → (List (Addr × Obj) → Prop) → (Nat → Value → Nat → Nat → Prop) → Nat → List (Addr × Obj) → Prop) (E : Value → Shared → Prop) (xv : Value) (s₁ : Shared) : Prop :=
  wpAny (model prog w) A (pyIter xv) (fun it s₂ => SrcP prog w A h₀ L m Ob it s₂) E s₁
section
variable {prog : Program} {w : World} {A : Around} {E : Value → Shared → Prop} {s : Shared} {h₀ : Heap} {L : Addr} {m : PySem.Str → Option Value} {news : List (Addr × Obj)} {Ob : Shared → (List (Addr × Obj) → Prop) → (Nat → Value → Nat → Nat → Prop) → Nat → List (Addr × Obj) → Prop}
theorem srcM_list {l : Addr} {vs : List Value} {k : Nat} (hh : A.handled = none) (F : Fr h₀ L s.heap m) (N : News h₀ L s.heap news) (hm : (l, listOf vs.toArray k) ∈ news) (hsz : vs.length ≤ sizeLine)
    (h : ∀ g, Fr h₀ L g m → News h₀ L g news → Ob { s with heap := g } (fun nx => (l, listOf vs.toArray k) ∈ nx) (fun i v _ _ => vs[i]? = some v) vs.length news) : SrcM prog w A h₀ L m Ob E (.ref l) s := by
  have hls : s.heap.IsList l vs.toArray := ⟨_, (N _ hm).1, rfl, _, rfl⟩
  refine wpAny_pyIter_list hls ?_
  have hlt : l < s.heap.objs.size := Heap.lt_size (N _ hm).1
  have up : ∀ b o, s.heap.get? b = some o → (s.heap.push { cls := .type "list_iterator", data := .fields #[.ref l, .int 0 0] }).get? b = some o := fun b o e => Heap.get?_push_of_some _ e
  have W := Walks.list (prog := prog) (w := w) hh s.heap.objs.size l (Nat.ne_of_lt hlt) vs.toArray
  have hsz' : vs.toArray.size = vs.length := List.size_toArray ..
  rw [hsz'] at W
  refine ⟨_, _, _, _, _, fun nx => (l, listOf vs.toArray k) ∈ nx, news, rfl, .of W, hsz, fun i h st => by obtain ⟨o, e, _⟩ := st.1; exact ⟨o, e⟩, ?_, ⟨⟨_, Heap.get?_push_size _ rfl, rfl, rfl⟩, hls.push _⟩, ?_, F.keeps up, N.grown up, Nat.ne_of_lt F.ns.lt, next_is_new F, fun p hp => Nat.ne_of_lt (Heap.lt_size (N p hp).1), hm, ?_⟩
  · intro i h h' o nw st e e' _ N' hm'
    exact ⟨by obtain ⟨o', q, r⟩ := st.1; rw [e] at q; cases q; exact ⟨o, e', r⟩, ⟨_, (N' _ hm').1, rfl, _, rfl⟩⟩
  · intro b hb
    show b < (s.heap.push _).objs.size
    rw [Heap.size_push]
    rcases List.mem_cons.mp hb with rfl | hb
    · exact Nat.lt_succ_self _
    · rw [List.mem_singleton.mp hb]; exact Nat.lt_succ_of_lt hlt
  · have := h _ (F.keeps up) (N.grown up)
    simpa using this
theorem srcM_range {r : Addr} {a b : Int} {t u v : Tok} {n : Nat} (hh : A.handled = none) (F : Fr h₀ L s.heap m) (N : News h₀ L s.heap news) (hr : IsRange s.heap r a b 1 t u v) (hsm : Builtin.Range.small a b 1 = true) (hn : Builtin.Range.rangeSize a b 1 = ((n : Nat) : Int)) (hsz : n ≤ sizeLine)
    (h : ∀ g, Fr h₀ L g m → News h₀ L g news → Ob { s with heap := g } (fun _ => True) (fun i v t0 t1 => ∃ u, v = .int (a + (i : Int)) u ∧ @LE.le Nat _ t0 u ∧ @LT.lt Nat _ u t1) n news) : SrcM prog w A h₀ L m Ob E (.ref r) s := by
  refine wpAny_pyIter_range hr hsm ?_
  have up : ∀ b' o, s.heap.get? b' = some o → (s.heap.push { cls := .type "range_iterator", data := .fields #[rawInt a, rawInt (Builtin.Range.rangeSize a b 1), rawInt 1] }).get? b' = some o := fun b o e => Heap.get?_push_of_some _ e
  refine ⟨_, _, _, _, _, fun _ => True, news, rfl, walkK_range hh _ a n, hsz, fun i h st => ⟨_, st⟩, range_st, by show IsRangeIter _ _ _ _ _; rw [hn]; simpa using Heap.get?_push_size _ rfl, ?_, F.keeps up, N.grown up, Nat.ne_of_lt F.ns.lt, next_is_new F, fun p hp => Nat.ne_of_lt (Heap.lt_size (N p hp).1), trivial, h _ (F.keeps up) (N.grown up)⟩
  intro b hb
  rw [List.mem_singleton.mp hb]
  show s.heap.objs.size < (s.heap.push _).objs.size
  rw [Heap.size_push]; exact Nat.lt_succ_self _
theorem srcM_bytes {b : Array UInt8} {t : Tok} (hh : A.handled = none) (F : Fr h₀ L s.heap m) (N : News h₀ L s.heap news) (hsz : b.size ≤ sizeLine)
    (h : ∀ g, Fr h₀ L g m → News h₀ L g news → Ob { s with heap := g } (fun _ => True) (fun i v t0 t1 => ∃ c u, b[i]? = some c ∧ v = .int (c.toNat : Int) u ∧ @LE.le Nat _ t0 u ∧ @LT.lt Nat _ u t1) b.size news) : SrcM prog w A h₀ L m Ob E (.bytes b t) s := by
  refine KBw.pyIter_bytes ?_
  have up : ∀ b' o, s.heap.get? b' = some o → (s.heap.push { cls := .type "bytes_iterator", data := .fields #[.bytes b t, .int 0 0] }).get? b' = some o := fun b o e => Heap.get?_push_of_some _ e
  refine ⟨_, _, _, _, _, fun _ => True, news, rfl, walkK_bytes hh _ b t, hsz, fun i h st => let ⟨o, ho, _⟩ := st; ⟨o, ho⟩, ?_, ⟨_, Heap.get?_push_size _ rfl, rfl, rfl⟩, ?_, F.keeps up, N.grown up, Nat.ne_of_lt F.ns.lt, next_is_new F, fun p hp => Nat.ne_of_lt (Heap.lt_size (N p hp).1), trivial, h _ (F.keeps up) (N.grown up)⟩
  · intro i h h' o nw st e e' _ _ _
    obtain ⟨o', q, r⟩ := st
    rw [e] at q; cases q; exact ⟨o, e', r⟩
  · intro b' hb
    rw [List.mem_singleton.mp hb]
    show s.heap.objs.size < (s.heap.push _).objs.size
    rw [Heap.size_push]; exact Nat.lt_succ_self _
abbrev valsObj (d : Addr) : Obj := { cls := .type "dict_values", data := .fields #[.ref d] }
theorem srcM_values {K : Type} [DecidableEq K] {knd : KeyKind prog w K} {v d : Addr} {o : Obj} {kvs : List (K × Value)}
    (hh : A.handled = none) (F : Fr h₀ L s.heap m) (N : News h₀ L s.heap news) (hv : (v, valsObj d) ∈ news) (hm : (d, o) ∈ news) (hd : o.IsDictOf knd kvs) (hsz : kvs.length ≤ sizeLine)
    (h : ∀ g, Fr h₀ L g m → News h₀ L g news → Ob { s with heap := g } (fun nx => (d, o) ∈ nx) (fun i v _ _ => ∃ k, kvs[i]? = some (k, v)) kvs.length news) : SrcM prog w A h₀ L m Ob E (.ref v) s := by
  obtain ⟨ep, hls⟩ := (kda_dict N hm hd).dictAt
  refine wpAny_pyIter_values ⟨_, (N _ hv).1, rfl, rfl⟩ hls ?_
  have hlt : d < s.heap.objs.size := Heap.lt_size (N _ hm).1
  have up : ∀ b o, s.heap.get? b = some o → (s.heap.push { cls := .type "dict_valueiterator", data := .fields #[.ref d, .int 0 0, .int kvs.length 0, .int ep 0] }).get? b = some o := fun b o e => Heap.get?_push_of_some _ e
  have back : ∀ h : Heap, h.get? d = some o → h.DictAt knd d kvs ep := by
    obtain ⟨o', es, q1, q2⟩ := hls
    rw [(N _ hm).1] at q1
    cases q1
    exact fun h q => ⟨_, es, q, q2⟩
  have W := Walks.dictValues (prog := prog) (w := w) (knd := knd) hh s.heap.objs.size d (Nat.ne_of_lt hlt) kvs ep
  refine ⟨_, _, _, _, _, fun nx => (d, o) ∈ nx, news, rfl, .of W, hsz, fun i h st => by obtain ⟨o, e, _⟩ := st.1; exact ⟨o, e⟩, ?_, ⟨⟨_, Heap.get?_push_size _ rfl, rfl, rfl⟩, back _ (up _ _ (N _ hm).1)⟩, ?_, F.keeps up, N.grown up, Nat.ne_of_lt F.ns.lt, next_is_new F, fun p hp => Nat.ne_of_lt (Heap.lt_size (N p hp).1), hm, h _ (F.keeps up) (N.grown up)⟩
  · intro i h h' o nw st e e' _ N' hm'
    exact ⟨by obtain ⟨o', q, r⟩ := st.1; rw [e] at q; cases q; exact ⟨o, e', r⟩, back _ (N' _ hm').1⟩
  · intro b hb
    show b < (s.heap.push _).objs.size
    rw [Heap.size_push]
    rcases List.mem_cons.mp hb with rfl | hb
    · exact Nat.lt_succ_self _
    · rw [List.mem_singleton.mp hb]; exact Nat.lt_succ_of_lt hlt
end

section
variable {prog : Program} {w : World} {A : Around} {E : Value → Shared → Prop} {s : Shared} {h₀ : Heap} {L : Addr} {m : PySem.Str → Option Value} {env : Env} {elt iter : Expr} {x : PySem.Str} {px : Pos} {scope : Scope} {cl : List (PySem.Str × Addr)} {pos : Pos}
theorem ListComp_M {Q : Value → Shared → Prop} (hclos : closureFor scope env = pure cl) (hcell : ∀ y ∈ scope.names, y.2 ≠ .cell) (hx : scope.names.lookup x = some .local) (hkind : scope.kind = .function)
    (hnames : ∀ y ∈ scope.names, y.2 = .local → scope.names.lookup y.1 = some .local)
    (h : wpAny (model prog w) A (eval iter env) (SrcM prog w A h₀ L m (Obl prog w A h₀ L m env elt x scope cl (fun s₂ => FinEM h₀ L m s₂ Q)) E) E s)
    (hs : ∀ x, foldedSetIterable iter env x = pure x := by intro _; rfl) :
    wpAny (model prog w) A (eval (.ListComp elt [⟨.Name x px, iter, [], 0⟩] scope pos) env) Q E s := by
  rw [eval_ListComp]
  refine wpAny_comprehension_free (use := none) rfl hs hclos hkind hnames (wpAny_mono h (fun xv s₁ h₁ => ?_) fun _ _ e => e)
  refine wpAny_mono h₁ (fun it s₂ h₂ => ?_) fun _ _ e => e
  obtain ⟨I, fp, n, P, St, S, news, rfl, W, hsz, hIo, hSt, hst, hfp, F, N, hIL, hI₀, off, hS, R⟩ := h₂
  refine block W hsz hIo hSt hcell hx hkind hst hfp F N hIL hI₀ off hS R ?_
  intro D C h tk m' ys nx NN hN F' N' o1 hn hC₀ hD₀ hCL hDL hCD offC fin
  refine ⟨m', hn, fun h'' hs'' => fin D h'' tk hN (F'.change hs'' hCL hC₀) (fun p hp => ?_) o1⟩
  refine ⟨hs''.extBut _ _ ?_ (N' p hp).1, (N' p hp).2⟩
  rcases List.mem_cons.mp hp with rfl | hp
  · exact Ne.symm hCD
  · exact offC p hp
end

section
variable {prog : Program} {w : World} {A : Around} {E : Value → Shared → Prop} {s : Shared} {h₀ : Heap} {L : Addr} {m : PySem.Str → Option Value} {env : Env} {ct : Expr} {elt iter : Expr} {x : PySem.Str} {px : Pos} {scope : Scope} {cl : List (PySem.Str × Addr)} {pos : Pos}
theorem ListComp_MT {Q : Value → Shared → Prop} (hclos : closureFor scope env = pure cl) (hcell : ∀ y ∈ scope.names, y.2 ≠ .cell) (hx : scope.names.lookup x = some .local) (hkind : scope.kind = .function)
    (hnames : ∀ y ∈ scope.names, y.2 = .local → scope.names.lookup y.1 = some .local)
    (h : wpAny (model prog w) A (eval iter env) (SrcM prog w A h₀ L m (OblT prog w A h₀ L m env ct elt x scope cl (fun s₂ => FinEM h₀ L m s₂ Q)) E) E s)
    (hs : ∀ x, foldedSetIterable iter env x = pure x := by intro _; rfl) :
    wpAny (model prog w) A (eval (.ListComp elt [⟨.Name x px, iter, [ct], 0⟩] scope pos) env) Q E s := by
  rw [eval_ListComp]
  refine wpAny_comprehension_free (use := none) rfl hs hclos hkind hnames (wpAny_mono h (fun xv s₁ h₁ => ?_) fun _ _ e => e)
  refine wpAny_mono h₁ (fun it s₂ h₂ => ?_) fun _ _ e => e
  obtain ⟨I, fp, n, P, St, S, news, rfl, W, hsz, hIo, hSt, hst, hfp, F, N, hIL, hI₀, off, hS, R⟩ := h₂
  refine blockT W hsz hIo hSt hcell hx hkind hst hfp F N hIL hI₀ off hS R ?_
  intro D C h tk m' ys nx NN hN F' N' o1 hn hC₀ hD₀ hCL hDL hCD offC fin
  refine ⟨m', hn, fun h'' hs'' => fin D h'' tk hN (F'.change hs'' hCL hC₀) (fun p hp => ?_) o1⟩
  refine ⟨hs''.extBut _ _ ?_ (N' p hp).1, (N' p hp).2⟩
  rcases List.mem_cons.mp hp with rfl | hp
  · exact Ne.symm hCD
  · exact offC p hp
theorem Assign_MT {y : PySem.Str} {py : Pos} {spos : Pos} {Q : Flow → Shared → Prop} (hLe : env.locals = L)
    (hsw : swapsWith (.ListComp elt [⟨.Name x px, iter, [ct], 0⟩] scope pos) (some (.Name y py)) spos.line env = pure true)
    (hclos : closureFor scope env = pure cl) (hcell : ∀ y ∈ scope.names, y.2 ≠ .cell) (hx : scope.names.lookup x = some .local) (hkind : scope.kind = .function)
    (hnames : ∀ z ∈ scope.names, z.2 = .local → scope.names.lookup z.1 = some .local)
    (hy : env.kindOf y = some .local) (hp : (env.scope.kind == .class || (env.scope.kind == .module && env.locals != env.globals)) = false)
    (h : wpAny (model prog w) A (eval iter env) (SrcM prog w A h₀ L m (OblT prog w A h₀ L m env ct elt x scope cl (fun s₂ => FinAM h₀ L m s₂ y Q)) E) E s)
    (hs : ∀ x, foldedSetIterable iter env x = pure x := by intro _; rfl) :
    wpAny (model prog w) A (exec (.Assign [.Name y py] (.ListComp elt [⟨.Name x px, iter, [ct], 0⟩] scope pos) spos) env) Q E s := by
  subst hLe
  rw [exec_Assign_Name_used _ _ _ _ hsw]
  refine wpAny_bind (wpAny_standAt (wpAny_bind ?_))
  show wpAny _ A (do let _ ← comprehension (.ListComp elt [⟨.Name x px, iter, [ct], 0⟩] scope pos) scope env _ (newList []) false (eval iter env) (some (assign (.Name y py) env))) _ _ s
  refine wpAny_bind (wpAny_mono (wpAny_comprehension_free (use := some (assign (.Name y py) env)) (Q := fun _ s' => Q .next s') rfl hs hclos hkind hnames
    (wpAny_mono h (fun xv s₁ h₁ => ?_) fun _ _ e => e)) (fun _ s' hq => wpAny_pure (wpAny_pure hq)) fun _ _ e => e)
  refine wpAny_mono h₁ (fun it s₂ h₂ => ?_) fun _ _ e => e
  obtain ⟨I, fp, n, P, St, S, news, rfl, W, hsz, hIo, hSt, hst, hfp, F, N, hIL, hI₀, off, hS, R⟩ := h₂
  refine blockT W hsz hIo hSt hcell hx hkind hst hfp F N hIL hI₀ off hS R ?_
  intro D C h' tk m' ys nx NN hN F' N' o1 hn hC₀ hD₀ hCL hDL hCD offC fin
  show wpAny _ A (assign (.Name y py) env (.ref D)) _ _ _
  refine wpAny_assign_Name (wpAny_storeName_local hy F'.ns (fun h₂ hn₂ hs₂ => ?_) hp)
  have hL₀ : h₀.get? env.locals = none := Heap.get?_none_of_le F'.above
  have F₂ : Fr h₀ env.locals h₂ (fun z => if z = y then some (.ref D) else m z) := ⟨hn₂, fun b o e => hs₂.extBut b o (fun q => by rw [q, hL₀] at e; cases e) (F'.keep b o e), F'.above⟩
  refine ⟨m', hn.sameBut hs₂ hCL, fun h'' hs'' => fin D h'' _ (Nat.le_succ_of_le hN) (F₂.change hs'' hCL hC₀) (fun p hp => ?_) o1⟩
  have z : h₂.get? p.1 = some p.2 := hs₂.extBut _ _ (N' p hp).2.1 (N' p hp).1
  refine ⟨hs''.extBut _ _ ?_ z, (N' p hp).2⟩
  rcases List.mem_cons.mp hp with rfl | hp
  · exact Ne.symm hCD
  · exact offC p hp
end

section
variable {prog : Program} {w : World} {A : Around} {E : Value → Shared → Prop} {s : Shared} {h₀ : Heap} {L : Addr} {m : PySem.Str → Option Value} {env : Env} {elt iter : Expr} {x : PySem.Str} {px : Pos} {scope : Scope} {cl : List (PySem.Str × Addr)} {pos : Pos}
theorem Assign_MC {y : PySem.Str} {py : Pos} {spos : Pos} {Q : Flow → Shared → Prop} (hLe : env.locals = L)
    (hsw : swapsWith (.ListComp elt [⟨.Name x px, iter, [], 0⟩] scope pos) (some (.Name y py)) spos.line env = pure true)
    (hclos : closureFor scope env = pure cl) (hcf : ∀ k, cellsFrom k scope.names cl = (x, k) :: cl) (hpc : ∀ h : Heap, pushCells h scope.names = h.push { cls := .type "cell", data := .cell none }) (hxk : ∀ C c, (compEnvC scope ((x, c) :: cl) C env).kindOf x = some .cell) (hkind : scope.kind = .function)
    (hnames : ∀ z ∈ scope.names, z.2 = .local → scope.names.lookup z.1 = some .local)
    (hy : env.kindOf y = some .local) (hp : (env.scope.kind == .class || (env.scope.kind == .module && env.locals != env.globals)) = false)
    (h : wpAny (model prog w) A (eval iter env) (SrcM prog w A h₀ L m (OblC prog w A h₀ L m env elt x scope cl (fun s₂ => FinAM h₀ L m s₂ y Q)) E) E s)
    (hs : ∀ x, foldedSetIterable iter env x = pure x := by intro _; rfl) :
    wpAny (model prog w) A (exec (.Assign [.Name y py] (.ListComp elt [⟨.Name x px, iter, [], 0⟩] scope pos) spos) env) Q E s := by
  subst hLe
  rw [exec_Assign_Name_used _ _ _ _ hsw]
  refine wpAny_bind (wpAny_standAt (wpAny_bind ?_))
  show wpAny _ A (do let _ ← comprehension (.ListComp elt [⟨.Name x px, iter, [], 0⟩] scope pos) scope env _ (newList []) false (eval iter env) (some (assign (.Name y py) env))) _ _ s
  refine wpAny_bind (wpAny_mono (wpAny_comprehension_free (use := some (assign (.Name y py) env)) (Q := fun _ s' => Q .next s') rfl hs hclos hkind hnames
    (wpAny_mono h (fun xv s₁ h₁ => ?_) fun _ _ e => e)) (fun _ s' hq => wpAny_pure (wpAny_pure hq)) fun _ _ e => e)
  refine wpAny_mono h₁ (fun it s₂ h₂ => ?_) fun _ _ e => e
  obtain ⟨I, fp, n, P, St, S, news, rfl, W, hsz, hIo, hSt, hst, hfp, F, N, hIL, hI₀, off, hS, R⟩ := h₂
  refine blockC W hsz hIo hSt hcf hpc hxk hkind hst hfp F N hIL hI₀ off hS R ?_
  intro D C h' tk m' ys nx NN hN F' N' o1 hn hC₀ hD₀ hCL hDL hCD offC fin
  show wpAny _ A (assign (.Name y py) env (.ref D)) _ _ _
  refine wpAny_assign_Name (wpAny_storeName_local hy F'.ns (fun h₂ hn₂ hs₂ => ?_) hp)
  have hL₀ : h₀.get? env.locals = none := Heap.get?_none_of_le F'.above
  have F₂ : Fr h₀ env.locals h₂ (fun z => if z = y then some (.ref D) else m z) := ⟨hn₂, fun b o e => hs₂.extBut b o (fun q => by rw [q, hL₀] at e; cases e) (F'.keep b o e), F'.above⟩
  refine ⟨m', hn.sameBut hs₂ hCL, fun h'' hs'' => fin D h'' _ (Nat.le_succ_of_le hN) (F₂.change hs'' hCL hC₀) (fun p hp => ?_) o1⟩
  have z : h₂.get? p.1 = some p.2 := hs₂.extBut _ _ (N' p hp).2.1 (N' p hp).1
  refine ⟨hs''.extBut _ _ ?_ z, (N' p hp).2⟩
  rcases List.mem_cons.mp hp with rfl | hp
  · exact Ne.symm hCD
  · exact offC p hp
end

section
variable {prog : Program} {w : World} {A : Around} {E : Value → Shared → Prop} {s : Shared} {h₀ : Heap} {L : Addr} {m : PySem.Str → Option Value} {env : Env} {ct : Expr} {elt iter : Expr} {x : PySem.Str} {px : Pos} {scope : Scope} {cl : List (PySem.Str × Addr)} {pos : Pos}
theorem ListComp_MTC {Q : Value → Shared → Prop} (hclos : closureFor scope env = pure cl) (hcf : ∀ k, cellsFrom k scope.names cl = (x, k) :: cl) (hpc : ∀ h : Heap, pushCells h scope.names = h.push { cls := .type "cell", data := .cell none }) (hxk : ∀ C c, (compEnvC scope ((x, c) :: cl) C env).kindOf x = some .cell) (hkind : scope.kind = .function)
    (hnames : ∀ y ∈ scope.names, y.2 = .local → scope.names.lookup y.1 = some .local)
    (h : wpAny (model prog w) A (eval iter env) (SrcM prog w A h₀ L m (OblTC prog w A h₀ L m env ct elt x scope cl (fun s₂ => FinEM h₀ L m s₂ Q)) E) E s)
    (hs : ∀ x, foldedSetIterable iter env x = pure x := by intro _; rfl) :
    wpAny (model prog w) A (eval (.ListComp elt [⟨.Name x px, iter, [ct], 0⟩] scope pos) env) Q E s := by
  rw [eval_ListComp]
  refine wpAny_comprehension_free (use := none) rfl hs hclos hkind hnames (wpAny_mono h (fun xv s₁ h₁ => ?_) fun _ _ e => e)
  refine wpAny_mono h₁ (fun it s₂ h₂ => ?_) fun _ _ e => e
  obtain ⟨I, fp, n, P, St, S, news, rfl, W, hsz, hIo, hSt, hst, hfp, F, N, hIL, hI₀, off, hS, R⟩ := h₂
  refine blockTC W hsz hIo hSt hcf hpc hxk hkind hst hfp F N hIL hI₀ off hS R ?_
  intro D C h tk m' ys nx NN hN F' N' o1 hn hC₀ hD₀ hCL hDL hCD offC fin
  refine ⟨m', hn, fun h'' hs'' => fin D h'' tk hN (F'.change hs'' hCL hC₀) (fun p hp => ?_) o1⟩
  refine ⟨hs''.extBut _ _ ?_ (N' p hp).1, (N' p hp).2⟩
  rcases List.mem_cons.mp hp with rfl | hp
  · exact Ne.symm hCD
  · exact offC p hp
end
end Mine
end
section
namespace Mine
section
variable {prog : Program} {w : World} {A : Around} {E : Value → Shared → Prop} {s : Shared} {env : Env} {h₀ : Heap} {x : PySem.Str} {body : List Stmt} {Q : Flow → Shared → Prop}
  {m₀ : PySem.Str → Option Value} {news : List (Addr × Obj)} (J : Nat → (PySem.Str → Option Value) → List (Addr × Obj) → Prop)
theorem it_bytes {b : Array UInt8} {t : Tok} (hh : A.handled = none) (F : Fr h₀ env.locals s.heap m₀) (N : News h₀ env.locals s.heap news) (hj : J 0 m₀ news)
    (turn : ∀ i (c : UInt8) u m₁ nx h tk I oi, b[i]? = some c → (∀ q ∈ news, q.1 < I) → (∀ q ∈ nx, q.1 ≠ I) → J i m₁ nx → Fr h₀ env.locals h (fun y => if y = x then some (.int (c.toNat : Int) u) else m₁ y) → News h₀ env.locals h ((I, oi) :: nx) →
      wpAny (model prog w) A (execs body env) (LpPost h₀ env.locals (J (i + 1)) I oi { s with heap := h, toks := tk } Q) E { s with heap := h, toks := tk })
    (done : ∀ m₁ nx h tk, J b.size m₁ nx → Fr h₀ env.locals h m₁ → News h₀ env.locals h nx → Q .next { s with heap := h, toks := tk }) :
    wpAny (model prog w) A (pyIter (.bytes b t)) (fun it s₂ => LoopAtV prog w A h₀ env x body Q E it s₂) E s := by
  refine KBw.pyIter_bytes ?_
  obtain ⟨a1, a2, a3, a4, a5⟩ := it_fresh F N { cls := .type "bytes_iterator", data := .fields #[.bytes b t, .int 0 0] }
  have W := KBw.walks (prog := prog) (w := w) hh s.heap.objs.size b t
  refine lp_core (srcs := []) W ?_ J ?_ a1 a2 ?_ ⟨_, Heap.get?_push_size _ rfl, rfl, rfl⟩ a3 a4 a5 hj ?_ ?_
  · intro b hb
    exact .inl (List.mem_singleton.mp hb)
  · intro i m nx hJ p hp
    cases hp
  · rintro i h ⟨o, ho, _⟩
    exact ⟨o, ho⟩
  · rintro i v m₁ nx h tk oi hi ⟨c, u, hc, rfl⟩ hoff hJ F₁ N₁
    exact turn i c u m₁ nx h tk _ oi hc (fun q hq => Heap.lt_size (N q hq).1) hoff hJ F₁ N₁
  · exact done
end
end Mine
end
section
namespace Mine
section
variable {prog : Program} {w : World} {A : Around} {E : Value → Shared → Prop} {s : Shared}
theorem item_b {l : List UInt8} {k : Int} {t u : Tok} {value slice : Expr} {Q : Value → Shared → Prop} (h0 : 0 ≤ k) (h1 : k < l.length) (hfit : l.length ≤ 1000) (h : Q (.int (l.getD k.toNat 0).toNat s.toks) { s with toks := s.toks + 1 })
    (hs : subscripted slice false (.bytes l.toArray t) (.int k u) = operate [.bytes l.toArray t, .int k u] (getItem (.bytes l.toArray t) (.int k u)) := by with_unfolding_all rfl) :
    wpAny (model prog w) A (subscriptTail value slice (.bytes l.toArray t) (.int k u)) Q E s :=
  tail_any (typeIs_bytes s _ t) FB.slot_bytes_getitem.lookup (getItem_bytes (by omega) h0 h1 h) hs
end
theorem and63 (x : Int) : Builtin.bitAnd x 63 = x % 64 := kbt_mask x 6
theorem b63 (x : Int) : 0 ≤ Builtin.bitAnd x 63 ∧ Builtin.bitAnd x 63 < 64 := by
  rw [and63]; omega
theorem and65535 (x : Int) : Builtin.bitAnd x 65535 = x % 65536 := kbt_mask x 16
theorem or_pp {x y : Int} (hx : 0 ≤ x) (hy : 0 ≤ y) : Builtin.bitOr x y = ((x.toNat ||| y.toNat : Nat) : Int) := by
  have h1 : decide (0 ≤ Builtin.bitNot x) = false := by
    apply decide_eq_false
    show ¬ 0 ≤ -x - 1
    omega
  have h2 : decide (0 ≤ Builtin.bitNot y) = false := by
    apply decide_eq_false
    show ¬ 0 ≤ -y - 1
    omega
  have nn : ∀ z : Int, Builtin.bitNot (Builtin.bitNot z) = z := fun z => by
    show -(-z - 1) - 1 = z
    omega
  unfold Builtin.bitOr Builtin.bitAnd
  rw [h1, h2]
  simp only [nn]
theorem or_low {a c : Int} (ha : 0 ≤ a) (hc : 0 ≤ c) (hc2 : c < 256) : Builtin.bitOr (a * 2 ^ Int.toNat 8) c = a * 256 + c := by
  have e : a * 2 ^ Int.toNat 8 = a * 256 := rfl
  rw [e]
  obtain ⟨n, rfl⟩ := Int.eq_ofNat_of_zero_le ha
  obtain ⟨k, rfl⟩ := Int.eq_ofNat_of_zero_le hc
  have hk : k < 2 ^ 8 := by omega
  have h := Nat.shiftLeft_add_eq_or_of_lt hk n
  rw [Nat.shiftLeft_eq] at h
  rw [or_pp (by omega) (by omega)]
  have e1 : ((n : Int) * 256).toNat = n * 2 ^ 8 := by omega
  have e2 : ((k : Int)).toNat = k := by omega
  rw [e1, e2, ← h]
  omega
theorem lc_val {a c : Int} (ha : 0 ≤ a) (hc : 0 ≤ c) (hc2 : c < 256) : Builtin.bitAnd (Builtin.bitOr (a * 2 ^ Int.toNat 8) c) 65535 = (a * 256 + c) % 65536 := by rw [and65535, or_low ha hc hc2]
end Mine
end
section
open PySem PySem.W PySem.Calls PyProof.Rows
namespace Mine
section
variable {prog : Program} {w : World} {A₀ A : Around} {s : Shared} {base h₀ g₀ : Heap} {outer : List Env} {L a : Addr} {env : Env} {m : PySem.Str → Option Value} {cn : PySem.Str} {cs : Scope} {ccd : Value} {news : List (Addr × Obj)} {K : Frag} {p : Program} {loose : List PySem.Str} {mean : ExcName → Option Value} {mg mb : PySem.Str → Option Value}
    {R : Result → Shared → Prop} {name qual : PySem.Str} {params : Arguments} {body : List Stmt} {scope : Scope} {dV kV doc pm cdv ct oc : Value} {an od : Option Addr} {osl : Array (Option Value)} {f : Addr} {args : Args} {binds : List (PySem.Str × Value)}

/-- the ground of a call, the caller's own things hidden -/
theorem ground_at (B : Below A₀ base outer h₀) (F : Fr h₀ L s.heap m) (N : News h₀ L s.heap news) (hA : A.frames = some (env :: outer)) (hf : env.frame = some L) (hke : env.scope.kind = .function) :
    ∃ oL es ep, (hideAll s.heap (news.map (·.1))).get? L = some oL ∧ oL.data = .dict es ep ∧ (∀ h', h'.get? L = some oL → Heap.Ns h' L m) ∧ (∀ (sl : Array (Option Value)) h', h'.get? L = some { oL with slots := sl } → Heap.Ns h' L m) ∧
      Fr h₀ L (hideAll s.heap (news.map (·.1))) m ∧ h₀.StaysIn (hideAll s.heap (news.map (·.1))) ∧ Below A base (env :: outer) (hideAll s.heap (news.map (·.1))) := by
  obtain ⟨FG, BG, st, _⟩ := groundX (R := fun _ _ => True) B F N hA hf hke
  obtain ⟨oL, es, ep, hL, hLd, hLk, hLf⟩ := FG.ns
  exact ⟨oL, es, ep, hL, hLd, fun h' e => ⟨oL, es, ep, e, hLd, hLk, hLf⟩, fun sl h' e => ⟨_, es, ep, e, hLd, hLk, hLf⟩, FG, st, BG⟩

theorem mem_frames {b : Addr} (hf : env.frame = some L) (h : b ∈ (env :: outer).filterMap (·.frame)) : b = L ∨ b ∈ outer.filterMap (·.frame) := by
  rw [List.filterMap_cons, hf] at h
  exact List.mem_cons.mp h

/-- a call of the text's own, the caller any function's frame; the callee may turn the ground -/
theorem code_defSE (B : Below A₀ base outer h₀) (F : Fr h₀ L s.heap m) (X₀ : K.In h₀) (N : News h₀ L s.heap news) (T : Top p loose mean mg mb h₀) (XB : K.In base) (TB : Top p loose mean mg mb base) (D : KtsDicts (outer.filterMap (·.frame)) h₀)
    (T0 : KtsTurn (outer.filterMap (·.frame)) g₀ h₀) (hA : A.frames = some (env :: outer)) (hf : env.frame = some L) (hke : env.scope.kind = .function)
    (ho : K.lookup f = some ⟨oc, od, .func (fnOf name qual params body scope dV kV doc pm an cdv ct), osl⟩) (hcd : codeIn K cdv qual = true) (hroom : A.depth < recursionLimit)
    (hbind : BindsTo s (fnOf name qual params body scope dV kV doc pm an cdv ct) args binds) (hloc : ∀ y ∈ binds, scope.names.lookup y.1 = some .local)
    (h : ∀ g L' h₁, Fr h₀ L g m → Fr g L' h₁ (fun y => binds.reverse.lookup y) → News g L' h₁ news → Below A base (env :: outer) g → K.In g → Top p loose mean mg mb g → KtsDicts ((env :: outer).filterMap (·.frame)) g →
      wpAny (model prog w) (A.deeper (envOf qual scope L' f cdv)) (execs body (envOf qual scope L' f cdv))
        (fun fl s' => LeaveS ((env :: outer).filterMap (·.frame)) A₀ base outer K p loose mean mg mb g₀ h₀ L m g R (match fl with | .ret v => v | _ => .none) s')
        (fun e s' => wpAny (model prog w) (A.deeper (envOf qual scope L' f cdv)) (leaving (envOf qual scope L' f cdv) e) (fun _ s'' => R (.error e) s'') (fun e' s'' => R (.error e') s'') s')
        { s with heap := h₁, toks := s.toks + binds.length })
    (hco : scope.isCoroutine = false) (hgen : scope.isGenerator = false) (hk : scope.kind = .function)
    (hcell : ∀ x ∈ scope.names, x.2 ≠ .cell) : codeAny (model prog w) A (.call (.ref f) args) R s := by
  have X := X₀.keeps F.keep
  have nL₀ : h₀.get? L = none := kts_self F
  refine codeAny_call_def (fd := fnOf name qual params body scope dV kV doc pm an cdv ct) (body := body) (binds := binds) hroom (X _ _ ho) rfl (T.nolimit.keeps F.keep) (codeRec_of X hcd) rfl hbind hcell hloc (fun h₁ hns hk₁ => ?_) hco hgen hk
  obtain ⟨oL, es, ep, hLg, hLd, hN, hNs, FG, st, B₂⟩ := ground_at B F N hA hf hke
  refine wpAny_mono (h _ s.heap.objs.size h₁ FG ⟨hns, fun b o e => hk₁ b o (of_hideAll _ e), Nat.le_of_eq (hideAll_size _ _)⟩
    (fun p hp => ⟨hk₁ _ _ (N p hp).1, Nat.ne_of_lt (Heap.lt_size (N p hp).1), hideAll_none _ (List.mem_map_of_mem hp)⟩) B₂ (X₀.keeps st) (T.keeps st) (fun b hb => ?_)) (fun fl s' hl => ?_) fun _ _ y => y
  · rcases mem_frames hf hb with rfl | hb
    · exact ⟨oL, es, ep, hLg, hLd⟩
    · obtain ⟨o, es', n', ho', hd'⟩ := D b hb
      exact ⟨o, es', n', st b o ho', hd'⟩
  rcases hl with ⟨L', m', news', F', N', k⟩ | ⟨g', L', m', news', T', F', N', k⟩
  · refine k ⟨hN _ (F'.keep _ _ hLg), fun b o e => F'.keep b o (st b o e), F.above⟩ fun p hp => ⟨(N' p hp).1, fun q => ?_, ?_⟩
    · have := (N' p hp).2.2; rw [q, hLg] at this; cases this
    · cases q : h₀.get? p.1 with
      | none => rfl
      | some o => have := (N' p hp).2.2; rw [st _ _ q] at this; cases this
  obtain ⟨sl, hs⟩ := T'.up hLg
  obtain ⟨T₁, S₁⟩ := kts_turn_at (h := s'.heap) (fs := outer.filterMap (·.frame)) (g := h₀)
    (fun b hb => by
      obtain ⟨_, o, ho', _⟩ := B.frames.mem hb
      exact ⟨o, ho'⟩)
    (fun b o e nmem => F'.keep b o (T'.other b o (st b o e) (fun q => by
      rcases mem_frames hf q with z | z
      · rw [z, nL₀] at e
        cases e
      · exact nmem z)))
    (fun b o e hm => by
      obtain ⟨sl', hs'⟩ := T'.up (st b o e)
      exact ⟨sl', F'.keep _ _ hs'⟩)
  have B₃ : Below A₀ base outer (ktsHeap s'.heap (outer.filterMap (·.frame)) h₀) := ⟨B.stack, fun b o e => T₁.other b o (B.stays b o e) (fun hm => by
    rw [(B.frames.mem hm).1] at e
    cases e), B.frames.of_keeps fun b o e _ => by
    obtain ⟨sl', hs'⟩ := T₁.up e
    exact ⟨_, hs', rfl⟩⟩
  refine k _ (T0.trans T₁) ⟨hNs sl _ (F'.keep _ _ hs), S₁, by rw [T₁.size]; exact F.above⟩ (fun p hp => ⟨(N' p hp).1, fun q => ?_, ?_⟩) B₃ (XB.keeps B₃.stays) (TB.keeps B₃.stays) (D.turn T₁)
  · have := (N' p hp).2.2; rw [q, hs] at this; cases this
  · refine T₁.none_ _ ?_
    cases q : h₀.get? p.1 with
    | none => rfl
    | some o =>
      obtain ⟨sl', hs'⟩ := T'.up (st _ _ q)
      have := (N' p hp).2.2
      rw [hs'] at this
      cases this

/-- a new frame with cells, one parameter, which is no cell: the count of tokens is known -/
theorem env_one {M : Model} {A : Around} {E : Value → Shared → Prop} {s : Shared} {scope : Scope} {globals : Addr} {n : PySem.Str} {v : Value} {qual : PySem.Str} {func : Option Addr} {code : Value} {builtins : Addr} {Q : Env → Shared → Prop}
    (hk : scope.kind = .function) (hn : scope.names.lookup n = some .local)
    (hQ : ∀ env, env = newEnv scope s.heap.objs.size globals (cellsFrom (s.heap.objs.size + 1) scope.names []) qual func code none builtins →
      ∀ s', InCallC s env.locals (fun y => if y = n then some v else none) env.cells (fun _ => none) s' → s.toks ≤ s'.toks → Q env s') :
    wpAny M A (newFunctionEnv scope globals [] [(n, v)] qual func code none builtins) Q E s := by
  simp only [newFunctionEnv, Option.isSome_none, Bool.false_eq_true, if_false]
  refine wpAny_bind (wpAny_alloc ?_)
  refine wpAny_bind (wpAny_layCells _ (fun name kind cells => by cases hkc : kind == NameKind.cell <;> simp [hkc]) _ _ _ _ ?_)
  have ok := cellsFrom_ok scope.names (s.heap.push { cls := .type "frame", data := .dict #[] }) (s.heap.objs.size + 1) [] ⟨fun _ _ hm => (nomatch hm), List.Pairwise.nil⟩ (by rw [Heap.size_push]; exact Nat.le_refl _)
  rw [Heap.size_push] at ok
  rw [show ({ s with heap := s.heap.push { cls := .type "frame", data := .dict #[] } } : Shared).heap.objs.size = s.heap.objs.size + 1 from Heap.size_push ..]
  rw [List.forIn_cons]
  refine wpAny_bind (wpAny_bind (wpAny_bind (wpAny_storeName_local (env := newEnv scope s.heap.objs.size globals (cellsFrom (s.heap.objs.size + 1) scope.names []) qual func code none builtins) hn ((Heap.Ns.new s.heap (.type "frame")).keeps (pushCells_keeps _ _)) (fun h' hn' hs' => wpAny_pure ?_) (by show (scope.kind == .class || (scope.kind == .module && _)) = false; rw [hk]; rfl))))
  dsimp only
  rw [List.forIn_nil]
  refine wpAny_pure (wpAny_pure (hQ _ rfl _ ⟨⟨⟨_, _, rfl⟩, ?_, fun b o e => ?_, Nat.le_refl _⟩, fun k c hc => ?_, ok.apart, fun k c hm => (ok.empty k c hm).2⟩ (Nat.le_succ _)))
  · simpa using hn'
  · exact hs'.extBut b o (Nat.ne_of_lt (Heap.lt_size e)) (pushCells_keeps _ _ b o (Heap.get?_push_of_some _ e))
  · exact (ok.empty k c (mem_of_lookup hc)).1.sameBut hs' (Nat.ne_of_gt (ok.empty k c (mem_of_lookup hc)).2)

/-- a call from the outermost frame, the callee's frame with cells; it may turn the ground -/
theorem code_defS0C (B : Below A₀ base [] h₀) (F : Fr h₀ L s.heap m) (X₀ : K.In h₀) (N : News h₀ L s.heap news) (T : Top p loose mean mg mb h₀) (hA : A.frames = some [env]) (hf : env.frame = some L) (hke : env.scope.kind = .function)
    (ho : K.lookup f = some ⟨oc, od, .func (fnOf name qual params body scope dV kV doc pm an cdv ct), osl⟩) (hcd : codeIn K cdv qual = true) (hroom : A.depth < recursionLimit)
    {n : PySem.Str} {v : Value} (hbind : BindsTo s (fnOf name qual params body scope dV kV doc pm an cdv ct) args [(n, v)]) (hkind : scope.names.lookup n = some .local)
    (hnd : ((cellsFrom 0 scope.names []).map (·.1)).Nodup)
    (h : ∀ g L' h₁ tk cells, Fr h₀ L g m → Fr g L' h₁ (fun y => if y = n then some v else none) → News g L' h₁ (cells ++ news) →
      CellsAre (fun _ => none) (cellsFrom (L' + 1) scope.names []) cells → Below A base [env] g → K.In g → Top p loose mean mg mb g → KtsDicts ([env].filterMap (·.frame)) g → (∀ p ∈ news, p.1 < L') → s.toks ≤ tk →
      wpAny (model prog w) (A.deeper (envOfC qual scope L' f cdv)) (execs body (envOfC qual scope L' f cdv))
        (fun fl s' => LeaveS0 ([env].filterMap (·.frame)) h₀ L m g R (match fl with | .ret v => v | _ => .none) s')
        (fun e s' => wpAny (model prog w) (A.deeper (envOfC qual scope L' f cdv)) (leaving (envOfC qual scope L' f cdv) e) (fun _ s'' => R (.error e) s'') (fun e' s'' => R (.error e') s'') s')
        { s with heap := h₁, toks := tk })
    (hco : scope.isCoroutine = false) (hgen : scope.isGenerator = false) (hk : scope.kind = .function) : codeAny (model prog w) A (.call (.ref f) args) R s := by
  have X := X₀.keeps F.keep
  have nL₀ : h₀.get? L = none := kts_self F
  refine codeAny_call_function (fd := fnOf name qual params body scope dV kV doc pm an cdv ct) hroom (X _ _ ho) rfl hco hgen rfl (codeRec_of X hcd) (hbind _ _ _ _ ?_)
  refine env_one hk hkind fun env' he s' x htk0 => ?_
  subst he
  refine ⟨(T.nolimit.keeps F.keep).keeps x.toInCall.keep, codeAny_func ?_⟩
  obtain ⟨h₁, tk, rfl, htk⟩ := x.done
  have hk₁ := x.toInCall.keep
  obtain ⟨cells, NC, Y⟩ := Cl.news (h₀ := s.heap) (Nat.le_refl _) fun n c hm => ⟨x.cell n c (lookup_of_mem_nodup (cellsFrom_names scope.names 0 (s.heap.objs.size + 1) [] [] rfl ▸ hnd) hm), x.above n c hm⟩
  obtain ⟨oL, es, ep, hLg, hLd, hN, hNs, FG, st, B₂⟩ := ground_at B F N hA hf hke
  refine wpAny_mono (h _ s.heap.objs.size h₁ tk cells FG ⟨x.toInCall.ns, fun b o e => hk₁ b o (of_hideAll _ e), Nat.le_of_eq (hideAll_size _ _)⟩ (fun p hp => ?_) Y B₂ (X₀.keeps st) (T.keeps st) (fun b hb => ?_) (fun p hp => Heap.lt_size (N p hp).1) ?_) (fun fl s' hl => ?_) fun _ _ y => y
  · rcases List.mem_append.mp hp with hp | hp
    · refine ⟨(NC p hp).1, (NC p hp).2.1, ?_⟩
      cases q : (hideAll s.heap (news.map (·.1))).get? p.1 with
      | none => rfl
      | some o => have := of_hideAll _ q; rw [(NC p hp).2.2] at this; cases this
    · exact ⟨hk₁ _ _ (N p hp).1, Nat.ne_of_lt (Heap.lt_size (N p hp).1), hideAll_none _ (List.mem_map_of_mem hp)⟩
  · rcases mem_frames hf hb with rfl | hb
    · exact ⟨oL, es, ep, hLg, hLd⟩
    · simp at hb
  · exact htk0
  obtain ⟨g', L', m', news', T', F', N', k⟩ := hl
  obtain ⟨sl, hs⟩ := T'.up hLg
  refine k ⟨hNs sl _ (F'.keep _ _ hs), fun b o e => F'.keep b o (T'.other b o (st b o e) (fun q => by
    rcases mem_frames hf q with z | z
    · rw [z, nL₀] at e
      cases e
    · simp at z)), F.above⟩ fun p hp => ⟨(N' p hp).1, fun q => ?_, ?_⟩
  · have := (N' p hp).2.2; rw [q, hs] at this; cases this
  · cases q : h₀.get? p.1 with
    | none => rfl
    | some o =>
      obtain ⟨sl', hs'⟩ := T'.up (st _ _ q)
      have := (N' p hp).2.2
      rw [hs'] at this
      cases this
end
end Mine
end
section
open PySem PySem.W PySem.Calls PyProof.Rows
namespace Mine
section
variable {prog : Program} {w : World} {A₀ : Around} {s' : Shared} {base g₀ g G : Heap} {outer : List Env} {L a e t : Addr} {m : PySem.Str → Option Value} {name : PySem.Str} {scope : Scope} {cd : Value} {cl : List (PySem.Str × Addr)} {news : List (Addr × Obj)} {KF : Frag} {p : Program} {loose : List PySem.Str} {mean : ExcName → Option Value} {mg mb : PySem.Str → Option Value}
  {C : Addr} {vs : List Value} {x : PySem.Str} {np pos : Pos} {b₀ : Stmt} {suite : List Stmt} {rest : List ExceptHandler} {Q : Flow → Shared → Prop} {E : Value → Shared → Prop}

/-- what a callee raised, of the text's own class, is caught in a frame with cells -/
theorem caught_cell (Z : Gd KF p loose mean mg mb A₀ base outer g₀ g) (R : RaisedS base G (envX name scope L a cd cl :: outer) e (.ref C) t vs news s'.heap) (F : Fr g L G m) (hsm : G.UpToSlots s'.heap)
    (ex : nsIn KF mainGlobals x = some (some (.ref C))) (q : ktsIn KF C "BaseException" = true)
    (k : ∀ h' g', Gd KF p loose mean mg mb A₀ base outer g₀ g' → Fr g' L h' m → News g' L h' news →
      wpAny (model prog w) ((A₀.deeper (envX name scope L a cd cl)).mark (some (.ref e))) (execs (b₀ :: suite) (envX name scope L a cd cl)) Q E { s' with heap := h' })
    (hk : scope.kind = .function := by rfl) (hx : (envX name scope L a cd cl).kindOf x = some .globalImplicit := by rfl) (hd : (x == ("__debug__" : PySem.Str)) = false := by decide)
    (hE : PassesOwnAt (model prog w) ((A₀.deeper (envX name scope L a cd cl)).mark (some (.ref e))) (A₀.deeper (envX name scope L a cd cl)) (envX name scope L a cd cl) E := by passes_own) :
    wpAny (model prog w) (A₀.deeper (envX name scope L a cd cl)) (noteFrame (.ref e) (envX name scope L a cd cl))
      (fun _ s₂ => wpAny (model prog w) (A₀.deeper (envX name scope L a cd cl)) (setFlight (.ref e) none) (fun _ s₃ =>
        wpAny (model prog w) (A₀.deeper (envX name scope L a cd cl)) (handleBy (.ref e) (envX name scope L a cd cl) (.ExceptHandler (some (.Name x np)) none (b₀ :: suite) pos :: rest)) Q E s₃) E s₂) E s' := by
  obtain ⟨K, X₀, P₀, XB, TB, D, T0⟩ := Z
  obtain ⟨⟨B, hB, hBG, hl, hfl, hnew⟩, htup⟩ := R
  have hL : B.get? L = none := by
    obtain ⟨_, ⟨L', _, hf, hn', _⟩, _⟩ := hfl.2.2.1
    obtain rfl : L = L' := Option.some.inj hf
    exact hn'
  have hBG' : ∀ b o, G.get? b = some o → b ∉ (envOf name scope L a cd :: outer).filterMap (·.frame) → B.get? b = some o := hBG
  refine wpAny_looks_onW (Around.frames_deeper K.stack) rfl hfl fun h₄ hheld₄ hsm₄ => ?_
  refine wpAny_landsW hheld₄ fun h₅ hheld hsm₅' => ?_
  have hsm₅ := hsm₄.trans hsm₅'
  obtain ⟨g₅, T₅, F₅, K₅⟩ := kts_ground K F hBG' hheld.1 (hsm.trans hsm₅)
  have X₅ : KF.In g₅ := XB.keeps K₅.stays
  have P₅ : TopRead p loose mg mb g₅ := topRead_of (TB.keeps K₅.stays)
  obtain ⟨ob, hob, hobc⟩ := hheld.there
  obtain ⟨nm, q', Nn, bs, bm, hdct, sn, sub, ab, col, dd, k0, k1, k2, k3, k5, newId, hC, hbase, hbT⟩ := kts_cls X₅ q
  have hC₅ := F₅.keep _ _ hC
  refine wpAny_handleBy_cons (codeAny_handlers_test (nameX_K F₅ X₅ P₅ ex ?_ hk hx hd)) (by intro q; cases q)
  refine wpAny_excMatches_sub_self hC₅ hob hobc hbase (codeAny_handlers_suite ?_)
  refine lands_againW hheld fun h₆ hfl₆ hsm₆ => ?_
  obtain ⟨g₆, T₆, F₆, K₆⟩ := kts_ground K F hBG' hfl₆.1 ((hsm.trans hsm₅).trans hsm₆)
  have Nl : News g₆ L h₆ news := fun q hq => ⟨hfl₆.1 _ _ (hl q hq).1, (fun z => by have := (hl q hq).1; rw [z, hL] at this; cases this), T₆.none_ _ (kts_none F.keep (hl q hq).2.1)⟩
  exact wpAny_passesOwnAt hE (k h₆ g₆ ⟨K₆, XB.keeps K₆.stays, TB.keeps K₆.stays, XB, TB, D.turn T₆, T0.trans T₆⟩ F₆ Nl)
end
inductive RgP (h₀ : Heap) (L : Addr) (s : Shared) (n : Nat) (m₀ : PySem.Str → Option Value) (news : List (Addr × Obj)) (v : Value) (s' : Shared) : Prop where
  | mk : ∀ h' tk r t u x, s' = { s with heap := h', toks := tk } → v = .ref r → IsRange h' r 0 (n : Int) 1 t u x → Fr h₀ L h' m₀ → News h₀ L h' news → RgP h₀ L s n m₀ news v s'
inductive RgI (h₀ : Heap) (L : Addr) (J : Nat → (PySem.Str → Option Value) → List (Addr × Obj) → Prop) (s : Shared) (n n₀ : Nat) (I : Addr) (k : Nat) (s' : Shared) : Prop where
  | mk : ∀ h' tk m' nx i, s' = { s with heap := h', toks := tk } → IsRangeIter h' I ((i : Nat) : Int) ((n : Int) - (i : Nat)) 1 → Fr h₀ L h' m' → News h₀ L h' nx → (∀ q ∈ nx, q.1 ≠ I) → J i m' nx → n₀ ≤ tk → i ≤ n → k = n + 1 - i → RgI h₀ L J s n n₀ I k s'
section
variable {prog : Program} {w : World} {A : Around} {E : Value → Shared → Prop} {s : Shared} {env : Env} {h₀ : Heap} {target : Expr} {body : List Stmt} {Q : Flow → Shared → Prop} {pos : Pos}
  {m₀ : PySem.Str → Option Value} {news : List (Addr × Obj)} (J : Nat → (PySem.Str → Option Value) → List (Addr × Obj) → Prop)
theorem keep_tok {α : Type} {t : Sem α} {Q : α → Shared → Prop} {n : Nat} (hn : n ≤ s.toks) (h : wpAny (model prog w) A t (fun a s' => n ≤ s'.toks → Q a s') E s) : wpAny (model prog w) A t Q E s :=
  wpAny_mono (wpAny_toks_of hn h) (fun _ _ q => q.2 q.1) fun _ _ q => q.2
def LpNext (h₀ : Heap) (L : Addr) (J : (PySem.Str → Option Value) → List (Addr × Obj) → Prop) (I : Addr) (oi : Obj) (s₁ : Shared) (f : Flow) (s₂ : Shared) : Prop :=
  match f with
  | .ret _ => False
  | .brk => False
  | _ => LpEnd h₀ L J I oi s₁ s₂
/-- a loop over a range, the target any plain name: its first step is the giving of the name -/
theorem For_rangeK {iter : Expr} {n : Nat} (n₀ : Nat) (hh : A.handled = none) (hsmall : Builtin.Range.small 0 (n : Int) 1 = true) (hn : Builtin.Range.rangeSize 0 (n : Int) 1 = (n : Int)) (hn₀ : n₀ ≤ s.toks)
    (hev : wpAny (model prog w) A (eval iter env) (RgP h₀ env.locals s n m₀ news) E s)
    (hj : J 0 m₀ news)
    (hgo : ∀ (I : Value) (s' : Shared) v (Q' : Unit → Shared → Prop), Q' () s' → wpAny (model prog w) A (letOwnedTupleGo target I v) Q' E s')
    (turn : ∀ i tv m₁ nx h tk I oi, i < n → n₀ ≤ tv → tv < tk → (∀ q ∈ news, q.1 < I) → (∀ q ∈ nx, q.1 ≠ I) → J i m₁ nx → Fr h₀ env.locals h m₁ → News h₀ env.locals h ((I, oi) :: nx) →
      wpAny (model prog w) A (assign target env (.int (i : Nat) tv)) (fun _ s₃ => wpAny (model prog w) A (execs body env) (LpNext h₀ env.locals (J (i + 1)) I oi { s with heap := h, toks := tk }) E s₃) E { s with heap := h, toks := tk })
    (done : ∀ m₁ nx h tk, n₀ ≤ tk → J n m₁ nx → Fr h₀ env.locals h m₁ → News h₀ env.locals h nx → Q .next { s with heap := h, toks := tk })
    (hs : ∀ x, foldedSetIterable iter env x = pure x := by intro _; rfl)
    (hE : PassesOwn (model prog w) A env E := by passes_own) :
    wpAny (model prog w) A (exec (.For target iter body [] pos) env) Q E s := by
  refine wpAny_For (wpAny_mono (wpAny_toks_of hn₀ hev) (fun v s₁ h₁ => ?_) fun _ _ e => e.2) hs
  obtain ⟨hn₁, hp1, tk1, r, t, u, x, rfl, rfl, hr, F, N⟩ := h₁
  refine wpAny_pyIter_range hr hsmall ?_
  obtain ⟨a1, a2, a3, a4, a5⟩ := it_fresh F N { cls := .type "range_iterator", data := .fields #[rawInt 0, rawInt (Builtin.Range.rangeSize 0 (n : Int) 1), rawInt 1] }
  have hit : IsRangeIter (hp1.push { cls := .type "range_iterator", data := .fields #[rawInt 0, rawInt (Builtin.Range.rangeSize 0 (n : Int) 1), rawInt 1] }) hp1.objs.size ((0 : Nat) : Int) ((n : Int) - ((0 : Nat) : Int)) 1 := by
    have := Heap.get?_push_size hp1 (o := { cls := .type "range_iterator", data := .fields #[rawInt 0, rawInt (Builtin.Range.rangeSize 0 (n : Int) 1), rawInt 1] }) rfl
    unfold IsRangeIter
    rw [this, hn]
    simp [rawInt]
  have hlow : ∀ q ∈ news, q.1 < hp1.objs.size := fun q hq => Heap.lt_size (N q hq).1
  obtain ⟨I, hI⟩ : ∃ I, I = hp1.objs.size := ⟨_, rfl⟩
  show codeAny _ _ (.forLoop target (.ref hp1.objs.size) body [] env) _ _
  rw [← hI] at a1 a2 a5 hit hlow ⊢
  refine codeAny_forLoop_any (R := fun r s' => match r with | .ok f => Q f s' | .error e => cameBackBy (model prog w) A env E e s')
    (RgI h₀ env.locals J s n n₀ I) ?_ (n + 1)
    ⟨_, tk1, m₀, news, 0, rfl, hit, a3, a4, a5, hj, hn₁, Nat.zero_le _, rfl⟩
  rintro k s' ⟨h', tk, m', nx, i, rfl, hit', F', N', hoff, hJ, hntk, hi, rfl⟩
  have next : ∀ h₁ : Heap, (∀ b o, b ≠ I → h'.get? b = some o → h₁.get? b = some o) → Fr h₀ env.locals h₁ m' ∧ News h₀ env.locals h₁ nx := fun h₁ hk₁ =>
    ⟨⟨F'.ns.at' fun o q => hk₁ _ o a1 q, fun b o q => hk₁ b o (fun z => by rw [z, a2] at q; cases q) (F'.keep b o q), F'.above⟩, fun p hp => ⟨hk₁ _ _ (hoff p hp) (N' p hp).1, (N' p hp).2⟩⟩
  by_cases hlt : i < n
  · refine wpAny_pyNext_range_item hit' (by omega) fun h₁ hit₁ hs₁ => ?_
    obtain ⟨F₁, N₁⟩ := next h₁ fun b o hb q => hs₁.extBut b o hb q
    refine wpAny_passesOwn hE (hgo _ _ _ _ ?_)
    obtain ⟨oi, hoi, back⟩ : ∃ oi, h₁.get? I = some oi ∧ ∀ h : Heap, h.get? I = some oi → IsRangeIter h I (((i + 1 : Nat)) : Int) ((n : Int) - ((i + 1 : Nat) : Int)) 1 := by
      refine ⟨_, hit₁, fun h q => ?_⟩
      have e2 : (n : Int) - ((i + 1 : Nat) : Int) = (n : Int) - (i : Int) - 1 := by push_cast; omega
      rw [e2]
      exact q
    have N₂ : News h₀ env.locals h₁ ((I, oi) :: nx) := by
      intro p hp
      rcases List.mem_cons.mp hp with rfl | hp
      · exact ⟨hoi, fun z => a1 z.symm, a2⟩
      · exact N₁ _ hp
    refine wpAny_passesOwn hE (wpAny_mono (wpAny_toks_of (n := n₀) ?_ (turn i tk m' nx h₁ (tk + 1) I oi hlt hntk (Nat.lt_succ_self _) hlow hoff hJ F₁ N₂)) (fun _ s₃ p => wpAny_passesOwn hE (wpAny_mono (wpAny_toks_of p.1 p.2) (fun f s₄ p => ?_) fun _ _ e => e.2)) fun _ _ e => e.2)
    · show n₀ ≤ tk + 1
      omega
    obtain ⟨hn₄, p⟩ := p
    have fin : LpEnd h₀ env.locals (J (i + 1)) I oi { s with heap := h₁, toks := tk + 1 } s₄ →
        ∃ k, k < n + 1 - i ∧ RgI h₀ env.locals J s n n₀ I k s₄ := by
      rintro ⟨h7, tk7, m7, nx7, rfl, F7, N7, hn7, hJ7⟩
      exact ⟨n + 1 - (i + 1), by omega, h7, tk7, m7, nx7, i + 1, rfl, back _ (N7 _ (.head _)).1, F7, fun p hp => N7 p (.tail _ hp), hn7, hJ7, hn₄, hlt, rfl⟩
    cases f with
    | ret v => exact p.elim
    | brk => exact p.elim
    | next => exact fin p
    | cont => exact fin p
  · have hin : i = n := by omega
    subst hin
    refine wpAny_pyNext_range_end hh hit' (by omega) fun h₁ hx => wpAny_execs_nil ?_
    obtain ⟨F₁, N₁⟩ := next h₁ fun b o hb q => hx b o hb q
    exact done m' nx h₁ tk hntk hJ F₁ N₁
end
end Mine
end
section
open PySem PySem.W PySem.Calls PyProof.Rows
namespace Mine
section
variable {prog : Program} {w : World} {A : Around} {E : Value → Shared → Prop} {s : Shared} {h₀ : Heap} {L l : Addr} {m : PySem.Str → Option Value} {news news' : List (Addr × Obj)} {vs ws : List Value} {k k' : Nat} {Q : Value → Shared → Prop}
/-- the item of a list of the ledger's, the very one -/
theorem item_at {i : Nat} {y : Value} {t : Tok} {value slice : Expr} (N : News h₀ L s.heap news) (hm : (l, listOf vs.toArray k) ∈ news) (hf : i < 2 ^ 62) (hv : vs[i]? = some y) (h : Q y s)
    (hs : subscripted slice false (.ref l) (.int (i : Int) t) = operate [.ref l, .int (i : Int) t] (getItem (.ref l) (.int (i : Int) t)) := by with_unfolding_all rfl) :
    wpAny (model prog w) A (subscriptTail value slice (.ref l) (.int (i : Int) t)) Q E s := by
  have hL := led_list N hm
  exact tail_any hL.typeIs slot_list_getitem.lookup (wpAny_getItem_list hL (by omega) (by omega) (by rw [Int.toNat_natCast]; simpa using hv) h) hs
theorem item_i {i : Int} {y : Value} {t : Tok} {value slice : Expr} (N : News h₀ L s.heap news) (hm : (l, listOf vs.toArray k) ∈ news) (h0 : 0 ≤ i) (hf : i < 2 ^ 62) (hv : vs[i.toNat]? = some y) (h : Q y s)
    (hs : subscripted slice false (.ref l) (.int i t) = operate [.ref l, .int i t] (getItem (.ref l) (.int i t)) := by with_unfolding_all rfl) :
    wpAny (model prog w) A (subscriptTail value slice (.ref l) (.int i t)) Q E s := by
  have hL := led_list N hm
  exact tail_any hL.typeIs slot_list_getitem.lookup (wpAny_getItem_list hL h0 (by omega) (by simpa using hv) h) hs
end
theorem pick_take {zs : List Value} (h : zs.length ≤ 6) : (slicePick zs.toArray none (some 1) none).toList = zs.take 1 := by
  rcases zs with _ | ⟨a, _ | ⟨b, _ | ⟨c, _ | ⟨d, _ | ⟨e, _ | ⟨f, _ | ⟨g, r⟩⟩⟩⟩⟩⟩⟩
  · rfl
  · rfl
  · rfl
  · rfl
  · rfl
  · rfl
  · rfl
  · exact absurd h (by simp only [List.length_cons]; omega)
theorem pick_drop {zs : List Value} (h : zs.length ≤ 6) : (slicePick zs.toArray (some 1) none none).toList = zs.drop 1 := by
  rcases zs with _ | ⟨a, _ | ⟨b, _ | ⟨c, _ | ⟨d, _ | ⟨e, _ | ⟨f, _ | ⟨g, r⟩⟩⟩⟩⟩⟩⟩
  · with_unfolding_all rfl
  · with_unfolding_all rfl
  · with_unfolding_all rfl
  · with_unfolding_all rfl
  · with_unfolding_all rfl
  · with_unfolding_all rfl
  · with_unfolding_all rfl
  · exact absurd h (by simp only [List.length_cons]; omega)
section
variable {M : Model} {A : Around} {env : Env} {E : Value → Shared → Prop} {s : Shared} {K : Frag} {pos : Pos} {first : List Value} {Q : Value → Shared → Prop}
/-- a call of an attribute with starred arguments: the attribute is read first -/
theorem MethodStar {o : PySem.Expr} {name : PySem.Str} {apos : Pos} {args : List PySem.Expr}
    (h : wpAny M A (eval o env) (fun ov s₁ => wpAny M A (getAttr ov name true) (fun f s₂ => wpAny M A (callWith pos f [] (backTo pos (starEach args env)) []) Q E s₂) E s₁) E s)
    (he : eval (.Call (.Attribute o name apos) args [] pos) env = (do
      let ov ← eval o env
      standAt apos.atName
      let (f, first) ← holding [ov] (do pure (← getAttr ov name true, []))
      let callPos ← pure pos
      callWith callPos f first (backTo pos (starEach args env)) []) := by rfl) :
    wpAny M A (eval (.Call (.Attribute o name apos) args [] pos) env) Q E s := by
  rw [he]
  refine wpAny_bind (wpAny_mono h (fun ov s₁ h₁ => wpAny_bind (wpAny_standAt (wpAny_bind (wpAny_holding (wpAny_bind (wpAny_mono h₁ (fun f s₂ h₂ => wpAny_pure ?_) fun _ _ x => x)))))) fun _ _ x => x)
  exact wpAny_bind (wpAny_pure h₂)
theorem callWith_SM {h₀ : Heap} {L : Addr} {news : List (Addr × Obj)} {q g : Addr} {self : Value} {e : PySem.Expr} {rest : List PySem.Expr} (_X : K.In h₀) (_N : News h₀ L s.heap news) (_q : (q, methodObj (.ref g) self) ∈ news) (hf : fnIn K g = true)
    (h : wpAny M A (spliced (backTo pos (starEach (e :: rest) env))) (fun vs s₁ => MethP K q g self s₁.heap ∧ wpAny M A (call (.ref q) (first ++ vs)) Q E s₁) E s)
    (he : starEach (e :: rest) env = (false, eval e env) :: starEach rest env := by rfl) (hst : (backTo pos (starEach rest env)).any (·.1) = true := by rfl) :
    wpAny M A (callWith pos (.ref q) first (backTo pos (starEach (e :: rest) env)) []) Q E s := by
  rw [he] at h ⊢
  exact ks_call (by show (false || (backTo pos (starEach rest env)).any (·.1)) = true; rw [hst]; rfl) (keeps_M hf) (evalArgs_plain h)
theorem callWith_SM1 {h₀ : Heap} {L : Addr} {news : List (Addr × Obj)} {q g : Addr} {self : Value} {e : PySem.Expr} {p : Pos} (_X : K.In h₀) (_N : News h₀ L s.heap news) (_q : (q, methodObj (.ref g) self) ∈ news) (hf : fnIn K g = true)
    (h : wpAny M A (eval e env) (fun v s₁ => StarOf M A E v (fun vs s₂ => MethP K q g self s₂.heap ∧ wpAny M A (call (.ref q) (first ++ vs)) Q E s₂) s₁) E s)
    (he : starEach [.Starred e p] env = [(true, eval e env)] := by rfl) :
    wpAny M A (callWith pos (.ref q) first (backTo pos (starEach [.Starred e p] env)) []) Q E s := by
  rw [he]
  exact ks_call rfl (keeps_M hf) (ks_lone h)
end
theorem news_mid {g : Heap} {L : Addr} {h : Heap} {A B C : List (Addr × Obj)} (N : News g L h (A ++ (B ++ C))) : News g L h (B ++ (A ++ C)) := fun p hp => N p (by
  simp only [List.mem_append] at hp ⊢
  rcases hp with q | q | q
  · exact .inr (.inl q)
  · exact .inl q
  · exact .inr (.inr q))
theorem off_map {a : Addr} {l l' : List (Addr × Obj)} (e : l.map (·.1) = l'.map (·.1)) (o : ∀ q ∈ l, q.1 ≠ a) : ∀ q ∈ l', q.1 ≠ a := fun q hq => by
  have : q.1 ∈ l'.map (·.1) := List.mem_map.mpr ⟨q, hq, rfl⟩
  rw [← e] at this
  obtain ⟨r, hr, e'⟩ := List.mem_map.mp this
  rw [← e']
  exact o r hr
end Mine
end
section
open PySem PySem.W PySem.Calls PyProof.Rows
namespace Mine
section
variable {prog : Program} {w : World} {A : Around} {E : Value → Shared → Prop} {s : Shared} {h₀ : Heap} {L l : Addr} {m : PySem.Str → Option Value} {news : List (Addr × Obj)} {vs : List Value} {ns : List Int} {Q : Value → Shared → Prop}
/-- sorted of a tuple of ints -/
theorem sorted_tup {n : Nat} (F : Fr h₀ L s.heap m) (N : News h₀ L s.heap news) (hm : (l, ({ cls := .type "tuple", data := .seq vs.toArray n } : Obj)) ∈ news) (hI : IntsAre vs ns) (h64 : vs.length < 64)
    (h : ∀ D vs' ns' c h', Fr h₀ L h' m → News h₀ L h' ((D, listOf (List.toArray vs') c) :: news) → (∀ q ∈ news, q.1 < D) → IntsAre vs' ns' → ns'.Perm ns → ns'.Pairwise (· ≤ ·) → Q (.ref D) { s with heap := h' }) :
    wpAny (model prog w) A (call (.builtin "sorted") [.ref l]) Q E s := by
  have D := (N _ hm).1
  have hT : s.TypeIs (.ref l) "tuple" := ⟨_, D, rfl⟩
  refine Calls.call_function_entry kind_sorted plain_sorted entry_sorted (args_sorted1 _) ?_
  unfold Builtin.«sorted»
  refine wpAny_bind (m := checkCount "sorted" 1 1 _) (wpAny_pure ?_)
  refine wpAny_bind (wpAny_collect_seq l (.inr rfl) D rfl rfl (fun h1 hk => ?_) (by rw [List.size_toArray, sizeLine_eq]; omega))
  refine wpAny_bind (wpAny_newList ?_)
  have hoL : (h1.push (seqObj "list" vs.toArray 0)).get? h1.objs.size = some (seqObj "list" vs.toArray 0) := Heap.get?_push_size _ rfl
  refine wpAny_bind (wpAny_holding (wpAny_call_entry slot_list_sort ⟨_, hoL, rfl⟩ entry_list_sort (list_sort_tree hoL hI h64 fun out ns' a1 a2 a3 => ⟨_, rfl, ?_⟩) (args_list_sort _)))
  obtain ⟨e, he⟩ := sortedHeap_at (out := out) hoL
  have k1 : ∀ b o, h1.get? b = some o → (sortedHeap (h1.push (seqObj "list" vs.toArray 0)) h1.objs.size vs out).get? b = some o := fun b o q => by
    have hlt := Heap.lt_size q
    rw [sortedHeap_old (Nat.ne_of_lt hlt) (by rw [size_push']; exact Nat.lt_succ_of_lt hlt)]
    exact Heap.get?_push_of_some _ q
  have F1 : Fr h₀ L h1 m := by
    obtain ⟨oL, es, ep, hL, r⟩ := F.ns
    exact ⟨⟨oL, es, ep, hk _ _ hL, r⟩, fun b x q => hk _ _ (F.keep b x q), F.above⟩
  have N1 : News h₀ L h1 news := fun p hp => ⟨hk _ _ (N p hp).1, (N p hp).2⟩
  exact wpAny_pure ⟨_, rfl, h h1.objs.size out.toList ns' e _ (F1.kept k1) (N1.kept_cons F1 k1 (Nat.le_refl _) he) (fun q hq => Heap.lt_size (N1 q hq).1) a1 a2 a3⟩
end
end Mine
end
namespace Mine
section
local macro_rules | `(tactic| walk_at "M one") => `(tactic| first | (k_unfold; (try dsimp only)) | (k_end; wrow_close) | walk1 | (dsimp only; walk1) | (leave1; walk_say "STEP leave1"; try dsimp only) | (refine unQ (by with_reducible assumption) ?_; try dsimp only) | fail "no step")
local macro_rules | `(tactic| k_steps) => `(tactic| repeat' (walk_at "M one"))
local macro_rules | `(tactic| walk_at "M hide") => `(tactic| try (with_reducible refine hideQ ?_; intro Q1 hQ1))
local macro_rules | `(tactic| walk_at "M room") => `(tactic| first | ((try simp only [depth_under_make, depth_under_kw, depth_in1, depth_deeper, depth_caller, recursionLimit] at *); omega) | decide)
local macro_rules | `(tactic| walk_at "M enter") => `(tactic| (refine' code_def ?k1 ?k2 ?k3 ?k4 ?k5 ?kA ?kF ?kK ?k6 ?k7 ?k8 ?k9 ?kB ?_ ?c2 ?c3 ?c4 ?c5; (case kA => exact rfl); (case kF => first | exact rfl | assumption); (case kK => first | exact rfl | assumption); (case k1 => k_asm); (case k2 => k_asm); (case k3 => k_asm); (case k4 => k_asm); (case k5 => k_asm); (case k6 => k_is); (case k7 => k_is); (case k8 => walk_at "M room"); (case k9 => exact BindsTo.of_eq rfl); (case c5 => decide); (case kB => exact locs rfl); (case c2 => exact rfl); (case c3 => exact rfl); (case c4 => exact rfl); k_whole))
local macro_rules | `(tactic| walk_at "M enterS") => `(tactic| (refine' code_defS ?k1 ?k2 ?k3 ?k4 ?k5 ?XB ?TB ?D ?T0 ?kA ?k6 ?k7 ?k8 ?k9 ?kB ?_ ?cK ?c2 ?c3 ?c4 ?c5; (case kA => exact rfl); (case k2 => k_asm); (case k1 => k_asm); (case XB => assumption); (case TB => assumption); (case D => assumption); (case T0 => assumption); (case k3 => k_asm); (case k4 => k_asm); (case k5 => k_asm); (case k6 => k_is); (case k7 => k_is); (case k8 => walk_at "M room"); (case k9 => exact BindsTo.of_eq rfl); (case kB => exact locs rfl); (case cK => first | exact rfl | assumption); (case c2 => exact rfl); (case c3 => exact rfl); (case c4 => exact rfl); (case c5 => decide); k_whole))
local macro_rules | `(tactic| walk_at "M steps") => `(tactic| repeat' (first | (fail_if_success (with_reducible show wpAny _ _ (exec (Stmt.While _ _ _ _) _) _ _ _)); walk_at "M one"))
local macro_rules | `(tactic| walk_at "call builtin:iter") => `(tactic| (k_here; k_dflt (refine' iter_list ?F ?N ?m ?_; (case F => k_asm); (case N => k_asm); (case m => k_mem)); intro q' h' F' N' l1; (try k_lt l1)))
local macro_rules | `(tactic| walk_at "truthy ref") => `(tactic| (k_here; k_dflt (refine' truthy_l ?N ?m _ ?b ?z ?_; (case N => k_asm); (case m => k_mem); (case b => with_reducible assumption); (case z => with_reducible assumption)); intro tk'))
local macro_rules | `(tactic| walk_at "callWith ref") => `(tactic| (k_here; k_dflt (refine' callWith_mw ?N ?m ?_; (case N => k_asm); (case m => k_mem))))
local macro_rules | `(tactic| walk_at "call ref") => `(tactic| (k_here; k_dflt (refine' mw_item ?F ?N ?m ?i ?l ?x ?U ?_; (case F => k_asm); (case N => k_asm); (case m => k_mem); (case i => k_mem); (case l => k_mem); (case x => with_reducible assumption); (case U => k_upd)); intro h' F' N'))
local macro_rules | `(tactic| walk_at "call ref") => `(tactic| (k_here; k_dflt (refine' mw_end rfl ?F ?N ?m ?i ?l ?x ?U ?_; (case F => k_asm); (case N => k_asm); (case m => k_mem); (case i => k_mem); (case l => k_mem); (case x => with_reducible assumption); (case U => k_upd)); intro h₁ h' e' F' N' hx'))
local macro_rules | `(tactic| walk_at "call builtin:len") => `(tactic| (k_here; (with_reducible show wpAny _ _ (call (Value.builtin "len") [Value.ref _]) _ _ _); k_dflt (refine' len_l ?N ?m ?z ?_; (case N => k_asm); (case m => k_mem); (case z => with_reducible assumption)); intro t' tk'))
local macro_rules | `(tactic| walk_at "subscriptTail") => `(tactic| (k_here; (with_reducible show wpAny _ _ (subscriptTail _ _ (Value.ref _) (Value.int (-1) _)) _ _ _); k_dflt (refine' item_last ?N ?m ?z ?_; (case N => k_asm); (case m => k_mem); (case z => with_reducible assumption))))
local macro_rules | `(tactic| walk_at "subscriptTail Name Slice ref ref") => `(tactic| (k_here; (with_reducible show wpAny _ _ (subscriptTail _ (PySem.Expr.Slice _ _ none _) (Value.ref _) (Value.ref _)) _ _ _); k_dflt (refine' slice_l ?F ?N ?m ?z ?p ?q ?_; (case F => k_asm); (case N => k_asm); (case m => k_mem); (case z => with_reducible assumption); (case p => kmk_part); (case q => kmk_part)); intro D' us' h' hl' he' F' N' l1; (try k_lt l1)))
local macro_rules | `(tactic| walk_at "binaryOp Add") => `(tactic| (k_here; (with_reducible show wpAny _ _ (binaryOp _ (Value.ref _) (Value.ref _)) _ _ _); k_dflt (refine' add_l ?F ?N ?m ?b ?z ?_; (case F => k_asm); (case N => k_asm); (case m => k_mem); (case b => k_mem); (case z => (rw [sizeLine_eq]; simp only [List.length_cons, List.length_nil]; omega))); intro D' h' F' N' l1; (try k_lt l1)))
local macro_rules | `(tactic| k_mem) => `(tactic| first | exact List.Mem.head _ | assumption | (refine' List.Mem.tail _ ?_; k_mem))
local macro_rules | `(tactic| walk_at "subscriptTail") => `(tactic| (k_here; (with_reducible show wpAny _ _ (subscriptTail _ _ (Value.ref _) (Value.int _ _)) _ _ _); k_dflt (refine' kda_item (knd := PySem.intKind _ _) ?N ?m ?d (intKind_is _ _ _ _) ?l ?_; (case N => k_asm); (case m => k_mem); (case d => k_asm); (case l => with_reducible assumption))))
local macro_rules | `(tactic| walk_at "getAttr ref") => `(tactic| (k_here; (with_reducible show wpAny _ _ (getAttr (Value.ref _) (Str.ofString "__next__") _) _ _ _); k_dflt (refine' get_next ?F ?N ?m ?_; (case F => k_asm); (case N => k_asm); (case m => k_mem)); intro q' h' F' N' l1; (try k_lt l1)))
local macro_rules | `(tactic| walk_at "compareOp In int ref") => `(tactic| (k_here; k_dflt (refine' dict_in_b ?N ?m ?d ?l _ ?hb ?_; (case N => k_asm); (case m => k_mem); (case d => k_asm); (case l => k_asm); (case hb => with_reducible assumption))))
local macro_rules | `(tactic| walk_at "call builtin:dict.get") => `(tactic| (k_here; (with_reducible show wpAny _ _ (call (Value.builtin "dict.get") [Value.ref _, Value.int _ _]) _ _ _); k_dflt (refine' kdg_get1 (knd := PySem.intKind _ _) ?N ?m ?d ?lo (intKind_is _ _ _ _) _ ?l ?_; (case N => k_asm); (case m => k_mem); (case d => k_asm); (case lo => assumption); (case l => with_reducible assumption)); (try dsimp only [Option.getD])))
local macro_rules | `(tactic| walk_at "setItem ref int") => `(tactic| (k_here; k_dflt (refine' kda_set (knd := PySem.intKind _ _) ?F ?N ?U ?d (intKind_is _ _ _ _) ?z ?_; (case F => k_asm); (case N => k_asm); (case U => k_updF); (case d => k_asm); (case z => with_reducible assumption)); intro h' o' F' N' hd'; (try dsimp only at N')))
local macro_rules | `(tactic| walk_at "call ref") => `(tactic| (k_here; k_dflt (refine' call_cls ?k1 ?k2 ?k3 ?k4 ?k5 ?k6 ?_; (case k1 => k_asm); (case k2 => k_asm); (case k3 => k_asm); (case k4 => k_is); (case k5 => k_is); (case k6 => k_is); k_whole; intro x' d' h' F' N' l1 l2; (have lx' := fun p hp => Nat.lt_trans (l1 p hp) l2); (try k_lt l1); (try k_lt2 l2); (try k_lt lx'); (try k_sweep); walk_at "M enter"; intro g' L' h' FG' F' N' B' X' T'; (try dsimp only); (try k_lift B'); (try k_fold))))
local macro_rules | `(tactic| walk_at "M stepsC") => `(tactic| repeat' (first | ((fail_if_success (with_reducible show wpAny _ _ (exec (Stmt.While _ _ _ _) _) _ _ _)); (fail_if_success (with_reducible show wpAny _ _ (eval (PySem.Expr.ListComp _ _ _ _) _) _ _ _)); (fail_if_success (with_reducible show wpAny _ _ (exec (Stmt.Assign [PySem.Expr.Name _ _] (PySem.Expr.ListComp _ _ _ _) _) _) _ _ _))); walk_at "M one"))
local macro_rules | `(tactic| walk_at "M enterD") => `(tactic| (refine' code_def ?k1 ?k2 ?k3 ?k4 ?k5 ?kA ?kF ?kK ?k6 ?k7 ?k8 ?k9 ?kB ?_ ?c2 ?c3 ?c4 ?c5; (case kA => exact rfl); (case kF => first | exact rfl | assumption); (case kK => first | exact rfl | assumption); (case k1 => k_asm); (case k2 => k_asm); (case k3 => k_asm); (case k4 => k_asm); (case k5 => k_asm); (case k6 => k_is); (case k7 => k_is); (case k8 => walk_at "M room"); (case k9 => exact binds_K (by k_in) rfl (by k_is) rfl rfl rfl); (case c5 => decide); (case kB => exact locs rfl); (case c2 => exact rfl); (case c3 => exact rfl); (case c4 => exact rfl); k_whole))
local macro_rules | `(tactic| walk_at "M stepsF") => `(tactic| repeat' (first | (fail_if_success (with_reducible show wpAny _ _ (exec (Stmt.For _ _ _ _ _) _) _ _ _)); walk_at "M one"))
local macro_rules | `(tactic| walk_at "M enterC") => `(tactic| (refine' code_defC ?k1 ?k2 ?k3 ?k4 ?k5 ?kA ?kF ?kK ?k6 ?k7 ?k8 ?k9 ?kB ?kn ?_ ?c2 ?c3 ?c4; (case kA => exact rfl); (case kF => first | exact rfl | assumption); (case kK => first | exact rfl | assumption); (case k1 => k_asm); (case k2 => k_asm); (case k3 => k_asm); (case k4 => k_asm); (case k5 => k_asm); (case k6 => k_is); (case k7 => k_is); (case k8 => walk_at "M room"); (case k9 => exact BindsTo.of_eq rfl); (case kB => exact rfl); (case kn => decide); (case c2 => exact rfl); (case c3 => exact rfl); (case c4 => exact rfl); k_whole))
local macro_rules | `(tactic| walk_at "M enterE") => `(tactic| (refine' code_defSE ?k1 ?k2 ?k3 ?k4 ?k5 ?XB ?TB ?D ?T0 ?kA ?kF ?kK ?k6 ?k7 ?k8 ?k9 ?kB ?_ ?c2 ?c3 ?c4 ?c5; (case kA => exact rfl); (case kF => exact rfl); (case kK => first | exact rfl | assumption); (case k2 => k_asm); (case k1 => k_asm); (case XB => assumption); (case TB => assumption); (case D => assumption); (case T0 => assumption); (case k3 => k_asm); (case k4 => k_asm); (case k5 => k_asm); (case k6 => k_is); (case k7 => k_is); (case k8 => walk_at "M room"); (case k9 => exact BindsTo.of_eq rfl); (case kB => exact locs rfl); (case c2 => exact rfl); (case c3 => exact rfl); (case c4 => exact rfl); (case c5 => decide); k_whole))
local macro_rules | `(tactic| k_ne) => `(tactic| first | assumption | exact Ne.symm (by assumption))
local macro_rules | `(tactic| walk_at "M stepsL") => `(tactic| repeat' (first | (fail_if_success (with_reducible show wpAny _ _ (call (Value.type "list") [Value.ref _]) _ _ _)); walk_at "M one"))
local macro_rules | `(tactic| walk_at "M stepsE") => `(tactic| repeat' (first | ((fail_if_success (with_reducible show wpAny _ _ (exec (Stmt.While _ _ _ _) _) _ _ _)); (fail_if_success (with_reducible show wpAny _ _ (eval (PySem.Expr.ListComp _ _ _ _) _) _ _ _))); walk_at "M one"))
local macro_rules | `(tactic| walk_at "M enter0C") => `(tactic| (refine' code_defS0C ?k1 ?k2 ?k3 ?k4 ?k5 ?kA ?kF ?kK ?k6 ?k7 ?k8 ?k9 ?kB ?kn ?_ ?c2 ?c3 ?c4; (case kA => exact rfl); (case kF => exact rfl); (case kK => first | exact rfl | assumption); (case k1 => k_asm); (case k2 => k_asm); (case k3 => k_asm); (case k4 => k_asm); (case k5 => k_asm); (case k6 => k_is); (case k7 => k_is); (case k8 => walk_at "M room"); (case k9 => exact BindsTo.of_eq rfl); (case kB => exact rfl); (case kn => decide); (case c2 => exact rfl); (case c3 => exact rfl); (case c4 => exact rfl); k_whole))
local macro_rules | `(tactic| walk_at "M stepsX") => `(tactic| repeat' (first | ((fail_if_success (with_reducible show wpAny _ _ (execs _ _) _ _ _)); (fail_if_success (with_reducible show wpAny _ _ (eval (PySem.Expr.ListComp _ _ _ _) _) _ _ _))); walk_at "M one"))
local macro_rules | `(tactic| walk_at "M stepsG") => `(tactic| repeat' (first | ((fail_if_success (with_reducible show wpAny _ _ (execs _ _) _ _ _)); (fail_if_success (with_reducible show wpAny _ _ (exec (Stmt.For _ _ _ _ _) _) _ _ _)); (fail_if_success (with_reducible show wpAny _ _ (eval (PySem.Expr.ListComp _ _ _ _) _) _ _ _)); (fail_if_success (with_reducible show wpAny _ _ (exec (Stmt.Assign _ (PySem.Expr.ListComp _ _ _ _) _) _) _ _ _))); walk_at "M one"))
section
theorem flush_A1 : (1 : Nat) ≤ 2 := by
  w_top off
  first | walk1 | decide
theorem filled_A1 (w : World) (h : Heap) : (hd17.heap_1 w.params).In h → PySem.Challenge.rw_il0017_01 = PySem.Challenge.rw_il0017_01 → True := by k_fill; intros; trivial
local macro_rules | `(tactic| k_all) => `(tactic| (refine tbn_neAll ?_; first | assumption | exact and_r1 (by assumption) | exact and_r2 (by assumption) | exact and_r3 (by assumption) | exact and_r4 (by assumption) | exact and_r5 (by assumption) | exact and_r6 (by assumption) | exact and_r7 (by assumption) | exact and_r8 (by assumption) | exact and_r9 (by assumption) | exact and_r10 (by assumption) | exact and_r11 (by assumption) | exact and_r12 (by assumption) | exact and_r13 (by assumption) | exact and_r14 (by assumption)))
local macro_rules | `(tactic| k_all) => `(tactic| assumption)
theorem get_node_old {w : World} {mean : ExcName → Option Value} {mg mb : PySem.Str → Option Value} {A₀ : Around} {base h₀ : Heap} {L : Addr} {env : Env} {outer : List Env} {dp un : Nat} {gd : Option (List Code)} {m : PySem.Str → Option Value} {s : Shared} {Q E : Value → Shared → Prop}
   {self dx d i : Addr} {h1 h2 h3 h4 : Int} {t1 t2 t3 t4 t : Tok} {n : Nat} {v2 v3 v4 : Value} {od : Obj} {kv : List (Int × Value)} {x : Int} {rest : List (Addr × Obj)}
   (Y : Pt w mean mg mb L env outer A₀ base h₀ dp un) (F : Fr h₀ L s.heap m)
   (N : News h₀ L s.heap ((self, instObj 195 dx) :: (dx, dictOf [⟨h1, .str (Str.ofString "_node2info") t1, .ref d⟩, ⟨h2, .str (Str.ofString "_ready_nodes") t2, v2⟩, ⟨h3, .str (Str.ofString "_npassedout") t3, v3⟩, ⟨h4, .str (Str.ofString "_nfinished") t4, v4⟩] n) :: (d, od) :: rest))
   (n1 : @Ne Nat self d) (n2 : @Ne Nat dx d) (hr : ∀ p ∈ rest, p.1 ≠ d)
   (hod : od.IsDictOf (intKind PySem.Challenge.rw_il0017_01.row.prog w) kv) (lo : (d == sysModules) = false) (hkl : kv.length ≤ sizeLine) (hl : valueAt kv x = some (.ref i))
   (ret : ∀ h' tk, Fr h₀ L h' m → News h₀ L h' ((self, instObj 195 dx) :: (dx, dictOf [⟨h1, .str (Str.ofString "_node2info") t1, .ref d⟩, ⟨h2, .str (Str.ofString "_ready_nodes") t2, v2⟩, ⟨h3, .str (Str.ofString "_npassedout") t3, v3⟩, ⟨h4, .str (Str.ofString "_nfinished") t4, v4⟩] n) :: (d, od) :: rest) → Q (.ref i) { s with heap := h', toks := tk }) :
   wpAny (model PySem.Challenge.rw_il0017_01.row.prog w) (Ar dp un gd env outer) (call (.ref 138) [.ref self, .int x t]) Q E s := by
  refine hideG fun G0 hG0 => ?_
  obtain ⟨B, X, T, hf, hk, hdp, hun⟩ := Y
  refine hG0 ?_
  clear hG0
  refine wpAny_noRaise ?_
  refine wpAny_call ?_
  k_dflt (walk_at "M enter")
  intro g' L' h' FG' F' N' B' X' T'
  walk_at "M hide"
  replace F' : Fr g' L' h' (fun y => List.lookup y [(Str.ofString "node", Value.int x t), (Str.ofString "self", Value.ref self)]) := F'
  k_steps
  exact ret _ _ ‹_› ‹_›
theorem get_node_new {w : World} {mean : ExcName → Option Value} {mg mb : PySem.Str → Option Value} {A₀ : Around} {base h₀ : Heap} {L : Addr} {env : Env} {outer : List Env} {dp un : Nat} {gd : Option (List Code)} {m : PySem.Str → Option Value} {s : Shared} {Q E : Value → Shared → Prop}
   {self dx d i : Addr} {h1 h2 h3 h4 : Int} {t1 t2 t3 t4 t : Tok} {n : Nat} {v2 v3 v4 : Value} {od : Obj} {kv : List (Int × Value)} {x : Int} {rest : List (Addr × Obj)}
   (Y : Pt w mean mg mb L env outer A₀ base h₀ dp un) (F : Fr h₀ L s.heap m)
   (N : News h₀ L s.heap ((self, instObj 195 dx) :: (dx, dictOf [⟨h1, .str (Str.ofString "_node2info") t1, .ref d⟩, ⟨h2, .str (Str.ofString "_ready_nodes") t2, v2⟩, ⟨h3, .str (Str.ofString "_npassedout") t3, v3⟩, ⟨h4, .str (Str.ofString "_nfinished") t4, v4⟩] n) :: (d, od) :: rest))
   (n1 : @Ne Nat self d) (n2 : @Ne Nat dx d) (hr : ∀ p ∈ rest, p.1 ≠ d)
   (hod : od.IsDictOf (intKind PySem.Challenge.rw_il0017_01.row.prog w) kv) (lo : (d == sysModules) = false) (hkl : kv.length ≤ sizeLine) (hl : valueAt kv x = none)
   (ret : ∀ h' tk (ll xx dd : Addr) (oo : Obj) (tz : Tok), Fr h₀ L h' m → News h₀ L h' ((ll, listOf #[] 0) :: (xx, infoObj dd ll 0 tz x t) :: (dd, dictOf [] 0) :: (self, instObj 195 dx) :: (dx, dictOf [⟨h1, .str (Str.ofString "_node2info") t1, .ref d⟩, ⟨h2, .str (Str.ofString "_ready_nodes") t2, v2⟩, ⟨h3, .str (Str.ofString "_npassedout") t3, v3⟩, ⟨h4, .str (Str.ofString "_nfinished") t4, v4⟩] n) :: (d, oo) :: rest) →
      oo.IsDictOf (intKind PySem.Challenge.rw_il0017_01.row.prog w) (stored kv x (.ref xx)) → (@LT.lt Nat _ self dd ∧ @LT.lt Nat _ dx dd ∧ @LT.lt Nat _ d dd ∧ AllLt dd rest) → @LT.lt Nat _ dd xx → @LT.lt Nat _ xx ll → Q (.ref xx) { s with heap := h', toks := tk }) :
   wpAny (model PySem.Challenge.rw_il0017_01.row.prog w) (Ar dp un gd env outer) (call (.ref 138) [.ref self, .int x t]) Q E s := by
  refine hideG fun G0 hG0 => ?_
  obtain ⟨B, X, T, hf, hk, hdp, hun⟩ := Y
  refine hG0 ?_
  clear hG0
  refine wpAny_noRaise ?_
  refine wpAny_call ?_
  k_dflt (walk_at "M enter")
  intro g' L' h' FG' F' N' B' X' T'
  walk_at "M hide"
  replace F' : Fr g' L' h' (fun y => List.lookup y [(Str.ofString "node", Value.int x t), (Str.ofString "self", Value.ref self)]) := F'
  k_steps
  rename_i hA tA xx dd hB la lb lc gA LA hC bA xA tA2 tB hD hE ll hF ld hG fA nA tC tcA kxA hH oo hdd hI fB nB kF kN tcB kxB
  exact ret _ _ ll xx dd oo _ kF kN hdd la lb ld.1
end
section
theorem flush_A2 : (1 : Nat) ≤ 2 := by
  w_top off
  first | walk1 | decide
theorem get_node {w : World} {mean : ExcName → Option Value} {mg mb : PySem.Str → Option Value} {A₀ : Around} {base h₀ : Heap} {L : Addr} {env : Env} {outer : List Env} {dp un : Nat} {gd : Option (List Code)} {m : PySem.Str → Option Value} {s : Shared} {Q E : Value → Shared → Prop}
   {self dx d : Addr} {h1 h2 h3 h4 : Int} {t1 t2 t3 t4 t : Tok} {n : Nat} {v2 v3 v4 : Value} {od : Obj} {kv : List (Int × Value)} {x : Int} {led rest : List (Addr × Obj)} {st : Ab} {V : SV}
   (Y : Pt w mean mg mb L env outer A₀ base h₀ dp un) (F : Fr h₀ L s.heap m) (N : News h₀ L s.heap (led ++ rest))
   (H : SAt PySem.Challenge.rw_il0017_01.row.prog w ((self, instObj 195 dx) :: (dx, dictOf [⟨h1, .str (Str.ofString "_node2info") t1, .ref d⟩, ⟨h2, .str (Str.ofString "_ready_nodes") t2, v2⟩, ⟨h3, .str (Str.ofString "_npassedout") t3, v3⟩, ⟨h4, .str (Str.ofString "_nfinished") t4, v4⟩] n) :: []) d st V od kv led) (hD : Dis (led ++ rest)) (lo : (d == sysModules) = false) (hol : st.order.length ≤ 100)
   (ret : ∀ h' tk V' od' kv' led', Fr h₀ L h' m → News h₀ L h' (led' ++ rest) → SAt PySem.Challenge.rw_il0017_01.row.prog w ((self, instObj 195 dx) :: (dx, dictOf [⟨h1, .str (Str.ofString "_node2info") t1, .ref d⟩, ⟨h2, .str (Str.ofString "_ready_nodes") t2, v2⟩, ⟨h3, .str (Str.ofString "_npassedout") t3, v3⟩, ⟨h4, .str (Str.ofString "_nfinished") t4, v4⟩] n) :: []) d (st.get x) V' od' kv' led' → Dis (led' ++ rest) → Q (.ref (V'.ia x)) { s with heap := h', toks := tk }) :
   wpAny (model PySem.Challenge.rw_il0017_01.row.prog w) (Ar dp un gd env outer) (call (.ref 138) [.ref self, .int x t]) Q E s := by
  have N1 := N
  have D1 := hD
  rw [H.led_] at N1 D1
  dsimp only [List.cons_append, List.nil_append] at N1 D1
  have hkl : kv.length ≤ sizeLine := small_kvs (by rw [← H.keys] at hol; simpa using hol)
  have n1 : @Ne Nat self d := fun e => D1.ne _ (.tail _ (.head _)) e.symm
  have n2 : @Ne Nat dx d := fun e => D1.tl.ne _ (.head _) e.symm
  have hr : ∀ p ∈ nodesL V st.order ++ rest, p.1 ≠ d := D1.tl.tl.ne
  by_cases hx : x ∈ st.order
  · refine get_node_old Y F N1 n1 n2 hr H.od_ lo hkl (H.val x hx) fun h' tk F' N' => ?_
    have e : st.get x = st := if_pos hx
    refine ret h' tk V od kv led F' ?_ (by rw [e]; exact H) hD
    rw [H.led_]
    simpa only [List.cons_append, List.nil_append] using N'
  · refine get_node_new (i := d) Y F N1 n1 n2 hr H.od_ lo hkl (valueAt_none (by rw [H.keys]; exact hx)) fun h' tk ll xx dd oo tz F' N' ho hl1 hl2 hl3 => ?_
    obtain ⟨S, e⟩ := H.new (ida := dd) (sa := ll) (tp := tz) (tn := t) hx ho
    have hlt := tb_ltOf hl1.2.2.2
    have hi : (V.new x xx dd ll tz t).ia x = xx := upd_self
    have K := ret h' tk (V.new x xx dd ll tz t) oo _ _ F' ?_ S ?_
    · rw [hi] at K; exact K
    · refine news_sub N' fun p hp => ?_
      rw [e] at hp
      simp only [List.mem_cons, List.mem_append, List.cons_append, List.nil_append, List.not_mem_nil, or_false] at hp ⊢
      rcases hp with h | h | h | (h | h | h | h) | h <;> simp [h]
    · rw [e]
      have D2 : Dis ((ll, listOf #[] 0) :: (xx, infoObj dd ll 0 tz x t) :: (dd, dictOf [] 0) :: (self, instObj 195 dx) :: (dx, dictOf [⟨h1, .str (Str.ofString "_node2info") t1, .ref d⟩, ⟨h2, .str (Str.ofString "_ready_nodes") t2, v2⟩, ⟨h3, .str (Str.ofString "_npassedout") t3, v3⟩, ⟨h4, .str (Str.ofString "_nfinished") t4, v4⟩] n) :: (d, oo) :: (nodesL V st.order ++ rest)) := by
        have D3 : Dis ((self, instObj 195 dx) :: (dx, dictOf [⟨h1, .str (Str.ofString "_node2info") t1, .ref d⟩, ⟨h2, .str (Str.ofString "_ready_nodes") t2, v2⟩, ⟨h3, .str (Str.ofString "_npassedout") t3, v3⟩, ⟨h4, .str (Str.ofString "_nfinished") t4, v4⟩] n) :: (d, oo) :: (nodesL V st.order ++ rest)) := D1.addr rfl
        have b1 : ∀ q ∈ (self, instObj 195 dx) :: (dx, dictOf [⟨h1, .str (Str.ofString "_node2info") t1, .ref d⟩, ⟨h2, .str (Str.ofString "_ready_nodes") t2, v2⟩, ⟨h3, .str (Str.ofString "_npassedout") t3, v3⟩, ⟨h4, .str (Str.ofString "_nfinished") t4, v4⟩] n) :: (d, oo) :: (nodesL V st.order ++ rest), @LT.lt Nat _ q.1 dd := by
          intro q hq
          rcases List.mem_cons.mp hq with rfl | hq
          · exact hl1.1
          rcases List.mem_cons.mp hq with rfl | hq
          · exact hl1.2.1
          rcases List.mem_cons.mp hq with rfl | hq
          · exact hl1.2.2.1
          · exact hlt q hq
        have D4 := D3.lt (o := dictOf [] 0) b1
        have b2 : ∀ q ∈ (dd, dictOf [] 0) :: (self, instObj 195 dx) :: (dx, dictOf [⟨h1, .str (Str.ofString "_node2info") t1, .ref d⟩, ⟨h2, .str (Str.ofString "_ready_nodes") t2, v2⟩, ⟨h3, .str (Str.ofString "_npassedout") t3, v3⟩, ⟨h4, .str (Str.ofString "_nfinished") t4, v4⟩] n) :: (d, oo) :: (nodesL V st.order ++ rest), @LT.lt Nat _ q.1 xx := by
          intro q hq
          rcases List.mem_cons.mp hq with rfl | hq
          · exact hl2
          · exact Nat.lt_trans (b1 q hq) hl2
        have D5 := D4.lt (o := infoObj dd ll 0 tz x t) b2
        refine D5.lt (o := listOf #[] 0) fun q hq => ?_
        rcases List.mem_cons.mp hq with rfl | hq
        · exact hl3
        · exact Nat.lt_trans (b2 q hq) hl3
      refine D2.perm ?_
      simp only [List.cons_append, List.nil_append, List.append_assoc]
      refine (show List.Perm (List.append [(ll, listOf #[] 0), (xx, infoObj dd ll 0 tz x t), (dd, dictOf [] 0)] ((self, instObj 195 dx) :: (dx, dictOf [⟨h1, .str (Str.ofString "_node2info") t1, .ref d⟩, ⟨h2, .str (Str.ofString "_ready_nodes") t2, v2⟩, ⟨h3, .str (Str.ofString "_npassedout") t3, v3⟩, ⟨h4, .str (Str.ofString "_nfinished") t4, v4⟩] n) :: (d, oo) :: nodesL V st.order) ++ rest) _ from ?_)
      refine ((List.perm_append_comm (l₁ := [(ll, listOf #[] 0), (xx, infoObj dd ll 0 tz x t), (dd, dictOf [] 0)])).append_right rest).trans ?_
      simp only [List.cons_append, List.nil_append, List.append_assoc]
      refine List.Perm.cons _ (List.Perm.cons _ (List.Perm.cons _ (List.Perm.append_left _ ?_)))
      exact (List.Perm.swap _ _ _).trans (List.Perm.cons _ (List.Perm.swap _ _ _))
end
section
theorem flush_E1 : (1 : Nat) ≤ 2 := by
  w_top off
  first | walk1 | decide
theorem and_c {w : World} {mean : ExcName → Option Value} {mg mb : PySem.Str → Option Value} {A₀ : Around} {base h₀ : Heap} {L : Addr} {env : Env} {outer : List Env} {dp un : Nat} {gd : Option (List Code)} {m : PySem.Str → Option Value} {s : Shared} {Q E : Value → Shared → Prop} {news : List (Addr × Obj)} {a b : Int} {ta tb : Tok}
   (Y : Pt w mean mg mb L env outer A₀ base h₀ dp un) (F : Fr h₀ L s.heap m) (N : News h₀ L s.heap news)
   (ret : ∀ h' t tk, Fr h₀ L h' m → News h₀ L h' news → Q (.int (Builtin.bitAnd a b) t) { s with heap := h', toks := tk }) :
   wpAny (model PySem.Challenge.rw_il0017_01.row.prog w) (Ar dp un gd env outer) (call (.ref 28) [.int a ta, .int b tb]) Q E s := by
  refine hideG fun G0 hG0 => ?_
  obtain ⟨B, X, T, hf, hk, hdp, hun⟩ := Y
  refine hG0 ?_
  clear hG0
  refine wpAny_noRaise ?_
  refine wpAny_call ?_
  k_dflt (walk_at "M enter")
  intro g' L' h' FG' F' N' B' X' T'
  replace F' : Fr g' L' h' (fun y => List.lookup y [(Str.ofString "b", Value.int b tb), (Str.ofString "a", Value.int a ta)]) := F'
  k_steps
  exact ret _ _ _ ‹_› ‹_›
theorem rshift_c {w : World} {mean : ExcName → Option Value} {mg mb : PySem.Str → Option Value} {A₀ : Around} {base h₀ : Heap} {L : Addr} {env : Env} {outer : List Env} {dp un : Nat} {gd : Option (List Code)} {m : PySem.Str → Option Value} {s : Shared} {Q E : Value → Shared → Prop} {news : List (Addr × Obj)} {a b : Int} {ta tb : Tok} (hb : 0 ≤ b) (hb2 : b < 64)
   (Y : Pt w mean mg mb L env outer A₀ base h₀ dp un) (F : Fr h₀ L s.heap m) (N : News h₀ L s.heap news)
   (ret : ∀ h' (t tk : Nat), Fr h₀ L h' m → News h₀ L h' news → s.toks ≤ t → t < tk → Q (.int (a / 2 ^ b.toNat) t) { s with heap := h', toks := tk }) :
   wpAny (model PySem.Challenge.rw_il0017_01.row.prog w) (Ar dp un gd env outer) (call (.ref 35) [.int a ta, .int b tb]) Q E s := by
  refine hideG fun G0 hG0 => ?_
  obtain ⟨B, X, T, hf, hk, hdp, hun⟩ := Y
  refine hG0 ?_
  clear hG0
  refine wpAny_noRaise ?_
  refine wpAny_call ?_
  k_dflt (walk_at "M enter")
  intro g' L' h' FG' F' N' B' X' T'
  replace F' : Fr g' L' h' (fun y => List.lookup y [(Str.ofString "b", Value.int b tb), (Str.ofString "a", Value.int a ta)]) := F'
  k_steps
  rw [Int.fdiv_eq_ediv_of_nonneg _ (Int.le_of_lt (kbt_pos _))]
  exact ret _ _ _ ‹_› ‹_› (Nat.le_add_right _ _) (Nat.lt_succ_self _)
end
section
theorem flush_E2 : (1 : Nat) ≤ 2 := by
  w_top off
  first | walk1 | decide
theorem indexOf_c {w : World} {mean : ExcName → Option Value} {mg mb : PySem.Str → Option Value} {A₀ : Around} {base h₀ : Heap} {L : Addr} {env : Env} {outer : List Env} {dp un : Nat} {gd : Option (List Code)} {m : PySem.Str → Option Value} {s : Shared} {Q E : Value → Shared → Prop} {news : List (Addr × Obj)} {bs : Array UInt8} {tb : Tok} {tx : Nat} {x : Int} {f : Nat} {c : UInt8} (hf : bs[f]? = some c) (hx : (c.toNat : Int) = x) (hlow : ∀ i c', i < f → bs[i]? = some c' → (c'.toNat : Int) ≠ x)
   (htx : tx ≠ 0) (hts : tx < s.toks)
   (Y : Pt w mean mg mb L env outer A₀ base h₀ dp un) (F : Fr h₀ L s.heap m) (N : News h₀ L s.heap news)
   (ret : ∀ h' (t tk : Nat), Fr h₀ L h' m → News h₀ L h' news → s.toks ≤ t → t < tk → Q (.int (f : Nat) t) { s with heap := h', toks := tk }) :
   wpAny (model PySem.Challenge.rw_il0017_01.row.prog w) (Ar dp un gd env outer) (call (.ref 49) [.bytes bs tb, .int x tx]) Q E s := by
  obtain ⟨B, X, T, hfr, hk, hdp, hun⟩ := Y
  refine wpAny_noRaise ?_
  refine wpAny_call ?_
  refine codeAny_with_toks (n := s.toks) (Nat.le_refl _) ?_
  k_dflt (walk_at "M enter")
  intro g' L' h' FG' F' N' B' X' T'
  replace F' : Fr g' L' h' (fun y => List.lookup y [(Str.ofString "b", Value.int x tx), (Str.ofString "a", Value.bytes bs tb)]) := F'
  k_steps
  rename Fr g' L' _ _ => F1
  rename News g' L' _ _ => N1
  refine wpAny_noRaise ?_
  refine' For_enumB (h₀ := g') (m := fun y => List.lookup y [(Str.ofString "b", Value.int x tx), (Str.ofString "a", Value.bytes bs tb)]) (news := news) (b := bs) (tb := tb) s.toks (fun i => i ≤ f) (Nat.zero_le _) rfl (by rfl) (by rfl) (by rfl) ?_ ?_ ?_ ?_
  · exact Nat.le_add_right _ _
  · k_steps
    refine call_enumerate_bytes fun h2 he hit hk2 => ⟨h2, _, rfl, F1.keeps hk2, N1.grown hk2, _, _, rfl, he, hit, Nat.succ_ne_self _, ?_, ?_, ?_, ?_, fun p hp => ⟨?_, ?_⟩⟩
    · exact PySem.W.ktu_new F1 (Nat.le_add_right _ _)
    · exact PySem.W.ktu_new F1 (Nat.le_refl _)
    · exact Nat.ne_of_gt (Nat.lt_succ_of_lt F1.ns.lt)
    · exact Nat.ne_of_gt F1.ns.lt
    · exact Nat.ne_of_lt (Nat.lt_succ_of_lt (Heap.lt_size (N1 p hp).1))
    · exact Nat.ne_of_lt (Heap.lt_size (N1 p hp).1)
  · intro i c' u t h tk own hc hj hu1 hu2 hu3 F2 N2
    have hk2 : i = f ∨ i < f := by first | decide | omega
    replace F2 : Fr g' L' h _ := F2
    have hz : (0 : Int) ≤ (c'.toNat : Int) := Int.natCast_nonneg _
    have hz2 : (c'.toNat : Int) < 256 := by have := c'.toNat_lt; omega
    refine wpAny_with_toks (n := tk) (Nat.le_refl _) ?_
    with_reducible show wpAny _ _ _ _ _ _
    k_fold
    rcases hk2 with rfl | hlt
    · have hcx : (c'.toNat : Int) = x := by rw [hf] at hc; cases hc; exact hx
      k_steps
      refine is_ints (by first | decide | omega) htx (by first | decide | omega) (fun q => absurd hcx q) ?_
      rw [decide_eq_true hcx]
      k_steps
      unfold KeepPost
      dsimp only
      k_steps
      have hst : @LE.le Nat _ s.toks t := by first | decide | omega
      exact ret _ _ _ ‹Fr h₀ L _ _› (news_sub ‹News h₀ L _ _› fun p hp => List.mem_append_right _ hp) hst hu3
    · have hcx := hlow i c' hlt hc
      k_steps
      refine is_ints (by first | decide | omega) htx (by first | decide | omega) (fun q => by omega) ?_
      rw [decide_eq_false hcx]
      k_steps
      · exact absurd (by assumption) hcx
      · exact ⟨by omega, h, _, _, rfl, fun y z1 z2 => by simp only [if_neg z1, if_neg z2], F2, N2⟩
  · intro h tk m₁ hj hn hm F2 N2
    exfalso
    have := (Array.getElem?_eq_some_iff.mp hf).1
    omega
end
section
theorem flush_E3 : (1 : Nat) ≤ 2 := by
  w_top off
  first | walk1 | decide
theorem countOf_c {w : World} {mean : ExcName → Option Value} {mg mb : PySem.Str → Option Value} {A₀ : Around} {base h₀ : Heap} {L : Addr} {env : Env} {outer : List Env} {dp un : Nat} {gd : Option (List Code)} {m : PySem.Str → Option Value} {s : Shared} {Q E : Value → Shared → Prop} {news : List (Addr × Obj)} {l : Addr} {k : Nat} {vs : List Value} {ns : List Int} {tx : Nat} {x : Int} (hm : (l, listOf vs.toArray k) ∈ news) (hvs : IntsAre vs ns) (hlen : vs.length ≤ 100) (htx : tx ≠ 0)
   (htk : ∀ (i : Nat) (p : Int) (t : Nat), vs[i]? = some (.int p t) → t ≠ 0 ∧ (p ≠ x → t ≠ tx) ∧ 0 ≤ p ∧ p < 200)
   (Y : Pt w mean mg mb L env outer A₀ base h₀ dp un) (F : Fr h₀ L s.heap m) (N : News h₀ L s.heap news)
   (ret : ∀ h' t tk, Fr h₀ L h' m → News h₀ L h' news → Q (.int ((ns.filter (fun y => decide (y = x))).length : Nat) t) { s with heap := h', toks := tk }) :
   wpAny (model PySem.Challenge.rw_il0017_01.row.prog w) (Ar dp un gd env outer) (call (.ref 42) [.ref l, .int x tx]) Q E s := by
  refine hideG fun G0 hG0 => ?_
  obtain ⟨B, X, T, hfr, hk, hdp, hun⟩ := Y
  refine hG0 ?_
  clear hG0
  have hvI : ∀ (i : Nat) (v : Value), vs[i]? = some v → ∃ p tp, v = Value.int p tp ∧ ns[i]? = some p := fun i v hv => hvs.at i v hv
  have hvL := hvs.length
  clear hvs
  refine wpAny_noRaise ?_
  refine wpAny_call ?_
  k_dflt (walk_at "M enter")
  intro g' L' h' FG' F' N' B' X' T'
  walk_at "M hide"
  replace F' : Fr g' L' h' (fun y => List.lookup y [(Str.ofString "b", Value.int x tx), (Str.ofString "a", Value.ref l)]) := F'
  k_steps
  rename Fr g' L' _ _ => F1
  rename News g' L' _ _ => N1
  refine wpAny_noRaise ?_
  refine' For_invVF F1 (by rfl) (by rfl) ?_
  k_steps
  refine it_list (vs := vs) (k := k) (fun i m nx => nx = news ∧ ∃ tc, ∀ y, y ≠ Str.ofString "i" → m y = (fun y => if y = Str.ofString "count" then some (.int (((ns.take i).filter (fun y => decide (y = x))).length : Nat) tc) else List.lookup y [(Str.ofString "b", Value.int x tx), (Str.ofString "a", Value.ref l)]) y) rfl F1 N1 hm ⟨rfl, _, fun y _ => rfl⟩ ?_ ?_ ?_
  · rintro i m nx ⟨rfl, _⟩
    exact hm
  · rintro i v m₁ nx h tk I oi hv hI hoff ⟨rfl, tc, hmm⟩ F2 N2
    walk_at "M hide"
    rw [mform hmm] at F2
    refine hideG fun G0 hG0 => ?_
    obtain ⟨p, tp, rfl, hpn⟩ := hvI i v hv
    refine hG0 ?_
    clear hG0
    refine hideG fun G0 hG0 => ?_
    obtain ⟨h1, h2, h3, h4⟩ := htk i p tp hv
    refine hG0 ?_
    clear hG0
    replace F2 : Fr g' L' h _ := F2
    clear F1 N1
    with_reducible show wpAny _ _ _ _ _ _
    try k_fold
    by_cases e : p = x
    · subst e
      k_steps
      refine is_ints h1 htx (by first | decide | omega) (fun q => h2 q) ?_
      rw [decide_eq_true rfl]
      k_steps
      rename Fr g' L' _ _ => FA
      rename News g' L' _ _ => NA
      have hcnt : ((((ns.take (i + 1)).filter (fun y => decide (y = p))).length : Nat) : Int) = ((((ns.take i).filter (fun y => decide (y = p))).length : Nat) : Int) + 1 := by
        rw [List.take_add_one, hpn, List.filter_append]
        simp
      obtain ⟨tz, FB⟩ : ∃ tz, Fr g' L' _ (fun y => if y = Str.ofString "count" then some (.int (((((ns.take i).filter (fun y => decide (y = p))).length : Nat) : Int) + 1) tz) else if y = Str.ofString "i" then some (Value.int p tp) else if y = Str.ofString "count" then some (.int ((((ns.take i).filter (fun y => decide (y = p))).length : Nat) : Int) tc) else List.lookup y [(Str.ofString "b", Value.int p tx), (Str.ofString "a", Value.ref l)]) := ⟨_, FA⟩
      try (refine unQ (by with_reducible assumption) ?_)
      refine LpEnd.intro FB NA hoff ⟨rfl, tz, fun y hy => ?_⟩
      rw [hcnt]
      by_cases e : y = Str.ofString "count"
      · simp only [if_pos e]
      · simp only [if_neg e, if_neg hy]
    · k_steps
      refine is_ints h1 htx (by first | decide | omega) (fun q => h2 q) ?_
      rw [decide_eq_false e]
      k_steps
      · exact absurd (by assumption) e
      have hcnt : ((ns.take (i + 1)).filter (fun y => decide (y = x))).length = ((ns.take i).filter (fun y => decide (y = x))).length := by
        rw [List.take_add_one, hpn, List.filter_append]
        simp [e]
      rw [← hcnt] at F2
      exact LpEnd.intro F2 N2 hoff ⟨rfl, _, fun y hy => if_neg hy⟩
  · rintro m₁ nx h tk ⟨rfl, tc, hmm⟩ F2 N2
    rw [mform' hmm] at F2
    rw [hvL, List.take_length] at F2
    k_steps
    exact ret _ _ _ ‹Fr h₀ L _ _› ‹News h₀ L _ _›
end
section
theorem flush_E4 : (1 : Nat) ≤ 2 := by
  w_top off
  first | walk1 | decide
theorem new_sorter {w : World} {mean : ExcName → Option Value} {mg mb : PySem.Str → Option Value} {A₀ : Around} {base h₀ : Heap} {L : Addr} {env : Env} {outer : List Env} {dp un : Nat} {gd : Option (List Code)} {m : PySem.Str → Option Value} {s : Shared} {Q E : Value → Shared → Prop} {news : List (Addr × Obj)} 
   (Y : Pt w mean mg mb L env outer A₀ base h₀ dp un) (F : Fr h₀ L s.heap m) (N : News h₀ L s.heap news) (hD : Dis news)
   (ret : ∀ h' tk (self dx d : Addr) (h1 h2 h3 h4 : Int) (t1 t2 t3 t4 t5 t6 : Tok) (od : Obj) (V : SV) (led : List (Addr × Obj)), Fr h₀ L h' m → News h₀ L h' (led ++ news) →
     SAt PySem.Challenge.rw_il0017_01.row.prog w [(self, instObj 195 dx), (dx, dictOf [⟨h1, .str (Str.ofString "_node2info") t1, .ref d⟩, ⟨h2, .str (Str.ofString "_ready_nodes") t2, .none⟩, ⟨h3, .str (Str.ofString "_npassedout") t3, .int 0 t5⟩, ⟨h4, .str (Str.ofString "_nfinished") t4, .int 0 t6⟩] 4)] d ⟨[], fun _ => 0, fun _ => []⟩ V od [] led →
     Dis (led ++ news) → (d == sysModules) = false → Q (.ref self) { s with heap := h', toks := tk }) :
   wpAny (model PySem.Challenge.rw_il0017_01.row.prog w) (Ar dp un gd env outer) (call (.ref 195) []) Q E s := by
  obtain ⟨B, X, T, hfr, hk, hdp, hun⟩ := Y
  refine wpAny_noRaise ?_
  k_here
  k_dflt (refine' call_cls ?k1 ?k2 ?k3 ?k4 ?k5 ?k6 ?_; (case k1 => k_asm); (case k2 => k_asm); (case k3 => k_asm); (case k4 => k_is); (case k5 => k_is); (case k6 => k_is); k_whole)
  intro x' d' h' F' N' la lb
  have lx' := fun p hp => Nat.lt_trans (la p hp) lb
  have l2 := lb
  refine' code_def ?k1 ?k2 ?k3 ?k4 ?k5 ?kA ?kF ?kK ?k6 ?k7 ?k8 ?k9 ?kB ?_ ?c2 ?c3 ?c4 ?c5
  (case kA => exact rfl)
  (case kF => first | exact rfl | assumption)
  (case kK => first | exact rfl | assumption)
  (case k1 => k_asm)
  (case k2 => k_asm)
  (case k3 => k_asm)
  (case k4 => k_asm)
  (case k5 => k_asm)
  (case k6 => k_is)
  (case k7 => k_is)
  (case k8 => walk_at "M room")
  (case k9 => exact binds_K (by k_in) rfl (by k_is) rfl rfl rfl)
  (case c5 => decide)
  (case kB => exact locs rfl)
  (case c2 => exact rfl)
  (case c3 => exact rfl)
  (case c4 => exact rfl)
  k_whole
  intro g' L' h' FG' F' N' B' X' T'
  replace F' : Fr g' L' h' (fun y => List.lookup y [(Str.ofString "graph", Value.none), (Str.ofString "self", Value.ref x')]) := F'
  k_lt2 l2
  k_steps
  rename Obj.IsDictOf (intKind _ _) _ _ => hi9
  rename (_ == sysModules) = false => lo9
  rename _ ∧ _ ∧ AllLt _ _ => l9
  rename Fr h₀ L _ _ => kF
  rename News h₀ L _ _ => kN
  have fin : ∀ (d9 : Addr) (o9 : Obj), @LT.lt Nat _ x' d9 ∧ @LT.lt Nat _ d' d9 ∧ AllLt d9 news → Dis ((x', instObj 195 d') :: (d', dictOf [] 4) :: (d9, o9) :: news) := by
    intro d9 o9 l9
    have n1 : @Ne Nat d9 x' := Nat.ne_of_gt l9.1
    have n2 : @Ne Nat d9 d' := Nat.ne_of_gt l9.2.1
    have n3 : @Ne Nat x' d' := Nat.ne_of_gt lb
    have a1 : Dis ((d9, o9) :: news) := hD.lt (tb_ltOf l9.2.2)
    have a2 : Dis ((d', dictOf [] 4) :: (d9, o9) :: news) := a1.cons fun q hq => by
      rcases List.mem_cons.mp hq with z | z
      · rw [z]; exact n2
      · exact Nat.ne_of_lt (la q z)
    exact a2.cons fun q hq => by
      rcases List.mem_cons.mp hq with z | z
      · rw [z]; exact fun e => n3 e.symm
      rcases List.mem_cons.mp z with z | z
      · rw [z]; exact n1
      · exact Nat.ne_of_lt (lx' q z)
  obtain ⟨h1, h2, h3, h4, t1, t2, t3, t4, t5, t6, kN'⟩ : ∃ h1 h2 h3 h4 t1 t2 t3 t4 t5 t6, News h₀ L _ ((_, _) :: (x', instObj 195 d') :: (d', dictOf [⟨h1, .str (Str.ofString "_node2info") t1, .ref _⟩, ⟨h2, .str (Str.ofString "_ready_nodes") t2, .none⟩, ⟨h3, .str (Str.ofString "_npassedout") t3, .int 0 t5⟩, ⟨h4, .str (Str.ofString "_nfinished") t4, .int 0 t6⟩] 4) :: news) := ⟨_, _, _, _, _, _, _, _, _, _, kN⟩
  refine ret _ _ x' d' _ h1 h2 h3 h4 t1 t2 t3 t4 t5 t6 _ ⟨fun _ => 0, fun _ => 0, fun _ => 0, fun _ => 0, fun _ => 0, fun _ => 0, fun _ => [], fun _ => 0⟩ _ kF (news_sub kN' fun q hq => ?_) ⟨rfl, hi9, rfl, fun x hx => (nomatch hx), fun x hx => (nomatch hx), fun x hx => (nomatch hx), List.nodup_nil⟩ ((fin _ _ l9).addr rfl) lo9
  have hq' := hq
  simp only [nodesL, List.flatMap_nil, List.cons_append, List.nil_append, List.mem_cons] at hq'
  rcases hq' with z | z | z | z
  · rw [z]; exact .tail _ (.head _)
  · rw [z]; exact .tail _ (.tail _ (.head _))
  · rw [z]; exact .head _
  · exact .tail _ (.tail _ (.tail _ z))
end
section
theorem flush_E6 : (1 : Nat) ≤ 2 := by
  w_top off
  first | walk1 | decide
theorem indexOf_none {w : World} {mean : ExcName → Option Value} {mg mb : PySem.Str → Option Value} {A₀ : Around} {base g₀ h₀ : Heap} {L a₀ : Addr} {cn : PySem.Str} {cs : Scope} {ccd : Value} {outer : List Env} {dp un : Nat} {gd : Option (List Code)}
   {m : PySem.Str → Option Value} {s : Shared} {Q E : Value → Shared → Prop} {news : List (Addr × Obj)} {bs : Array UInt8} {tb : Tok} {tx : Nat} {x : Int}
   (hno : ∀ (i : Nat) c, bs[i]? = some c → (c.toNat : Int) ≠ x) (htx : tx ≠ 0) (hts : tx < s.toks)
   (Z : Gd (hd17.heap_1 w.params) view17 (looseW view17 [Str.ofString "b2a_base64", Str.ofString "b64encode", Str.ofString "_NodeInfo"]) mean mg mb A₀ base outer g₀ h₀) (hck : cs.kind = .function) (hdp : dp < 500) (hun : un < 4000)
   (F : Fr h₀ L s.heap m) (N : News h₀ L s.heap news)
   (ret1 : ∀ (G h' : Heap) (tk : Nat) (e t : Addr) (vs : List Value), Fr h₀ L G m → RaisedS base G (envOf cn cs L a₀ ccd :: outer) e (.type "ValueError") t vs news h' → G.UpToSlots h' → E (.ref e) { s with heap := h', toks := tk }) :
   wpAny (model PySem.Challenge.rw_il0017_01.row.prog w) (Ar dp un gd (envOf cn cs L a₀ ccd) outer) (call (.ref 49) [.bytes bs tb, .int x tx]) Q E s := by
  refine hideG fun G0 hG0 => ?_
  obtain ⟨B, X, T, XB, TB, D, U⟩ := Z
  refine hG0 ?_
  clear hG0
  refine wpAny_call ?_
  k_dflt (walk_at "M enterS")
  intro g' L' h' FG' F' N' B' X' T' D'
  replace F' : Fr g' L' h' (fun y => List.lookup y [(Str.ofString "b", Value.int x tx), (Str.ofString "a", Value.bytes bs tb)]) := F'
  k_steps
  rename Fr g' L' _ _ => F1
  rename News g' L' _ _ => N1
  refine' For_enumB (h₀ := g') (m := fun y => List.lookup y [(Str.ofString "b", Value.int x tx), (Str.ofString "a", Value.bytes bs tb)]) (news := news) (b := bs) (tb := tb) s.toks (fun i => True) trivial rfl (by rfl) (by rfl) (by rfl) ?_ ?_ ?_ ?_
  · exact Nat.le_add_right _ _
  · k_steps
    refine call_enumerate_bytes fun h2 he hit hk2 => ⟨h2, _, rfl, F1.keeps hk2, N1.grown hk2, _, _, rfl, he, hit, Nat.succ_ne_self _, ?_, ?_, ?_, ?_, fun p hp => ⟨?_, ?_⟩⟩
    · exact PySem.W.ktu_new F1 (Nat.le_add_right _ _)
    · exact PySem.W.ktu_new F1 (Nat.le_refl _)
    · exact Nat.ne_of_gt (Nat.lt_succ_of_lt F1.ns.lt)
    · exact Nat.ne_of_gt F1.ns.lt
    · exact Nat.ne_of_lt (Nat.lt_succ_of_lt (Heap.lt_size (N1 p hp).1))
    · exact Nat.ne_of_lt (Heap.lt_size (N1 p hp).1)
  · intro i c' u t h tk own hc hj hu1 hu2 hu3 F2 N2
    replace F2 : Fr g' L' h _ := F2
    have hz : (0 : Int) ≤ (c'.toNat : Int) := Int.natCast_nonneg _
    have hz2 : (c'.toNat : Int) < 256 := by have := c'.toNat_lt; omega
    with_reducible show wpAny _ _ _ _ _ _
    k_fold
    have hcx := hno i c' hc
    k_steps
    refine is_ints (by first | decide | omega) htx (by first | decide | omega) (fun q => by omega) ?_
    rw [decide_eq_false hcx]
    k_steps
    · exact absurd (by assumption) hcx
    · exact ⟨trivial, h, _, _, rfl, fun y z1 z2 => by simp only [if_neg z1, if_neg z2], F2, N2⟩
  · intro h tk m₁ hj hn hm F2 N2
    replace F2 : Fr g' L' h _ := F2
    replace N2 : News g' L' h news := N2
    with_reducible show wpAny _ _ _ _ _ _
    k_fold
    clear F1 N1
    k_steps
    exact ret1 _ _ _ _ _ _ FG' ‹RaisedS _ _ _ _ _ _ _ _ _› ‹Heap.UpToSlots _ _›
theorem lacks_c {w : World} {mean : ExcName → Option Value} {mg mb : PySem.Str → Option Value} {A₀ : Around} {base g₀ h₀ : Heap} {L a₀ : Addr} {cn : PySem.Str} {cs : Scope} {ccd : Value} {cl : List (PySem.Str × Addr)} {outer : List Env} {dp un : Nat} {gd : Option (List Code)}
   {m : PySem.Str → Option Value} {s : Shared} {Q E : Value → Shared → Prop} {news : List (Addr × Obj)} {bs : Array UInt8} {tb : Tok} {tx : Nat} {x : Int}
   (hno : ∀ (i : Nat) c, bs[i]? = some c → (c.toNat : Int) ≠ x) (htx : tx ≠ 0) (hts : tx < s.toks)
   (Z : Gd (hd17.heap_1 w.params) view17 (looseW view17 [Str.ofString "b2a_base64", Str.ofString "b64encode", Str.ofString "_NodeInfo"]) mean mg mb A₀ base outer g₀ h₀) (hck : cs.kind = .function) (hdp : dp < 400) (hun : un < 3000)
   (F : Fr h₀ L s.heap m) (N : News h₀ L s.heap news)
   (ret : ∀ (g' h' : Heap) (tk : Nat), Gd (hd17.heap_1 w.params) view17 (looseW view17 [Str.ofString "b2a_base64", Str.ofString "b64encode", Str.ofString "_NodeInfo"]) mean mg mb A₀ base outer g₀ g' → Fr g' L h' m → News g' L h' news → Q (.bool true) { s with heap := h', toks := tk }) :
   wpAny (model PySem.Challenge.rw_il0017_01.row.prog w) (Ar dp un gd (envX cn cs L a₀ ccd cl) outer) (call (.ref 216) [.bytes bs tb, .int x tx]) Q E s := by
  refine hideG fun G0 hG0 => ?_
  obtain ⟨B, X, T, XB, TB, D, U⟩ := Z
  refine hG0 ?_
  clear hG0
  refine wpAny_call ?_
  k_dflt (walk_at "M enterE")
  intro g' L' h' FG' F' N' B' X' T' D'
  replace F' : Fr g' L' h' (fun y => List.lookup y [(Str.ofString "thing", Value.int x tx), (Str.ofString "row", Value.bytes bs tb)]) := F'
  refine tok_gen (n := s.toks) (Nat.le_add_right _ _) fun tk0 htk0 => ?_
  dsimp only
  k_steps
  have Z5 : Gd (hd17.heap_1 w.params) view17 (looseW view17 [Str.ofString "b2a_base64", Str.ofString "b64encode", Str.ofString "_NodeInfo"]) mean mg mb (Ar dp un gd (envX cn cs L a₀ ccd cl) outer) base (envX cn cs L a₀ ccd cl :: outer) g' g' := ⟨B', X', T', XB, TB, D', .refl⟩
  refine indexOf_none hno htx (Nat.lt_of_lt_of_le hts htk0) Z5 rfl ?hdp ?hun F' N' ?_
  case hdp => show dp + 1 < 500; omega
  case hun => show un + 3 < 4000; omega
  intro G h6 tk6 e6 t6 vs6 F6 R6 U6
  have T00 : KtsTurn (List.filterMap (fun x => x.frame) (envX cn cs L a₀ ccd cl :: outer)) g' g' := .refl
  k_steps
  rename Below A₀ base outer _ => kB
  rename KtsTurn _ g₀ _ => kT
  rename Fr _ L _ m => kF
  rename News _ L _ _ => kN
  rename KtsDicts (List.filterMap _ outer) _ => kD
  exact ret _ _ _ ⟨kB, ‹_›, ‹_›, XB, TB, kD, kT⟩ kF kN
end
section
theorem flush_E7 : (1 : Nat) ≤ 2 := by
  w_top off
  first | walk1 | decide
local macro_rules | `(tactic| walk_at "call ref") => `(tactic| (k_here; (refine' wpAny_call ?_); walk_at "M enter"; intro g' L' h' FG' F' N' B' X' T'; (try dsimp only); (try k_lift B'); (try k_fold)))
local macro_rules | `(tactic| walk_at "call type:type") => `(tactic| (k_here; (with_reducible show wpAny _ _ (call _ [Value.bytes _ _]) _ _ _); refine call_type_of (Tx := "bytes") (typeIs_bytes _ _ _) (by decide +kernel) ?_))
local macro_rules | `(tactic| walk_at "subscriptTail") => `(tactic| (k_here; (with_reducible show wpAny _ _ (subscriptTail _ _ (Value.bytes _ _) (Value.int (Builtin.bitAnd _ 63) _)) _ _ _); k_dflt (refine' item_b ?a ?b ?c ?_; (case a => exact (b63 _).1); (case b => exact (b63 _).2); (case c => decide))))
local macro_rules | `(tactic| walk_at "call builtin:list.append") => `(tactic| (k_here; k_dflt (refine' append_l ?F ?N ?U ?z ?_; (case F => k_asm); (case N => k_asm); (case U => k_upd); (case z => (rw [sizeLine_eq]; (try simp only [List.size_toArray, List.length_append, List.length_cons, List.length_nil]); omega))); intro h' F' N'))
def B64L : List UInt8 := [65, 66, 67, 68, 69, 70, 71, 72, 73, 74, 75, 76, 77, 78, 79, 80, 81, 82, 83, 84, 85, 86, 87, 88, 89, 90, 97, 98, 99, 100, 101, 102, 103, 104, 105, 106, 107, 108, 109, 110, 111, 112, 113, 114, 115, 116, 117, 118, 119, 120, 121, 122, 48, 49, 50, 51, 52, 53, 54, 55, 56, 57, 43, 47]
def sg (k : Int) : Int := ((B64L.getD k.toNat 0).toNat : Int)
def fg (figs : List Int) (k : Nat) : Int := figs.getD k 0
theorem take_sg {figs : List Int} {n : Nat} (h : n < figs.length) : (figs.take (n + 1)).map sg = (figs.take n).map sg ++ [sg (fg figs n)] := by
  rw [List.take_add_one, List.map_append, List.getElem?_eq_getElem h]
  unfold fg
  simp [List.getD, h]
theorem u8_lt (c : UInt8) : (c.toNat : Int) < 256 := by have := c.toNat_lt; omega
theorem u8_b (c : UInt8) : 0 ≤ (c.toNat : Int) ∧ (c.toNat : Int) < 256 := ⟨Int.natCast_nonneg _, u8_lt c⟩
theorem b_q {i q : Nat} (hq : q = i / 3) (hi : i < 6) : q < 2 := by subst hq; revert i; decide
theorem b_4 {q : Nat} (h : q < 2) : 4 * q < 8 ∧ 4 * q + 1 < 8 ∧ 4 * q + 2 < 8 ∧ 4 * q + 3 < 8 := by revert q; decide
theorem b_3 {i : Nat} {lb : Int} (hi : i < 6) (h : lb = 2 * ((i % 3 : Nat) : Int)) : lb = 0 ∨ lb = 2 ∨ lb = 4 := by subst h; revert i; decide
theorem b_i0 {i q : Nat} (hi : i < 6) (hq : q = i / 3) (h : (0 : Int) = 2 * ((i % 3 : Nat) : Int)) : i = 3 * q ∧ (i + 1) / 3 = q ∧ (i + 1) % 3 = 1 ∧ i % 3 = 0 := by subst hq; revert i; decide
theorem b_i1 {i q : Nat} (hi : i < 6) (hq : q = i / 3) (h : (2 : Int) = 2 * ((i % 3 : Nat) : Int)) : i = 3 * q + 1 ∧ (i + 1) / 3 = q ∧ (i + 1) % 3 = 2 ∧ i % 3 = 1 := by subst hq; revert i; decide
theorem b_i2 {i q : Nat} (hi : i < 6) (hq : q = i / 3) (h : (4 : Int) = 2 * ((i % 3 : Nat) : Int)) : i = 3 * q + 2 ∧ (i + 1) / 3 = q + 1 ∧ (i + 1) % 3 = 0 ∧ i % 3 = 2 := by subst hq; revert i; decide
theorem b_st {H o M : Int} (hM : M ≠ 0) (h0 : 0 ≤ o) (h1 : o < M) : (H * M + o) / M = H ∧ (H * M + o) % M = o := ⟨by rw [Int.add_comm, Int.add_mul_ediv_right _ _ hM, Int.ediv_eq_zero_of_lt h0 h1, Int.zero_add], by rw [Int.add_comm, Int.add_mul_emod_self_right, Int.emod_eq_of_lt h0 h1]⟩
theorem b_e4 (K y b t : Int) : (K * 64 + b) * 4 + t - 65536 * y = ((K - 256 * y) * 64 + b) * 4 + t := by first | decide | omega
theorem b_e16 (K y b t : Int) : (K * 64 + b) * 16 + t - 65536 * y = ((K - 64 * y) * 64 + b) * 16 + t := by first | decide | omega
theorem b_e64 (K y b t : Int) : (K * 64 + b) * 64 + t - 65536 * y = ((K - 16 * y) * 64 + b) * 64 + t := by first | decide | omega
theorem b_f0 (k l a r : Int) : (256 * k + l) * 256 + (a * 4 + r) = ((256 * k + l) * 64 + a) * 4 + r := by first | decide | omega
theorem b_f1 (k u v r t : Int) : (4 * k + u) * 256 + (r * 16 + t) = (k * 64 + (16 * u + r)) * 16 + t := by first | decide | omega
theorem b_f2 (k u r t : Int) : (16 * k + u) * 256 + (r * 64 + t) = (k * 64 + (4 * u + r)) * 64 + t := by first | decide | omega
theorem b_x0 {lc c a b : Int} (h : c = a * 4 + b / 16) (ha : 0 ≤ a ∧ a < 64) (hb : 0 ≤ b ∧ b < 64) : (lc * 256 + c) % 65536 / 4 % 64 = a ∧ (lc * 256 + c) % 65536 % 4 = b / 16 := by
  have h0 : 0 ≤ b / 16 := Int.ediv_nonneg hb.1 (by decide)
  have h1 : b / 16 < 4 := Int.ediv_lt_of_lt_mul (by decide) hb.2
  have e : lc * 256 + c = (lc * 64 + a) * 4 + b / 16 := by
    have := b_f0 (lc / 256) (lc % 256) a (b / 16)
    rw [Int.mul_ediv_add_emod] at this
    rw [h, this]
  rw [e, Int.emod_def _ 65536, b_e4, (b_st (by decide) h0 h1).1, (b_st (by decide) ha.1 ha.2).2, (b_st (by decide) h0 h1).2]
  exact ⟨rfl, rfl⟩
theorem b_x1 {lc c b d : Int} (h : c = b % 16 * 16 + d / 4) (hl : lc % 4 = b / 16) (hb : 0 ≤ b ∧ b < 64) (hd : 0 ≤ d ∧ d < 64) : (lc * 256 + c) % 65536 / 16 % 64 = b ∧ (lc * 256 + c) % 65536 % 16 = d / 4 := by
  have h0 : 0 ≤ d / 4 := Int.ediv_nonneg hd.1 (by decide)
  have h1 : d / 4 < 16 := Int.ediv_lt_of_lt_mul (by decide) hd.2
  have e : lc * 256 + c = (lc / 4 * 64 + b) * 16 + d / 4 := by
    have := b_f1 (lc / 4) (lc % 4) 0 (b % 16) (d / 4)
    rw [Int.mul_ediv_add_emod, hl, Int.mul_ediv_add_emod] at this
    rw [h, this]
  rw [e, Int.emod_def _ 65536, b_e16, (b_st (by decide) h0 h1).1, (b_st (by decide) hb.1 hb.2).2, (b_st (by decide) h0 h1).2]
  exact ⟨rfl, rfl⟩
theorem b_x2 {lc c d e : Int} (h : c = d % 4 * 64 + e) (hl : lc % 16 = d / 4) (hd : 0 ≤ d ∧ d < 64) (he : 0 ≤ e ∧ e < 64) : (lc * 256 + c) % 65536 / 64 % 64 = d ∧ (lc * 256 + c) % 65536 / 1 % 64 = e := by
  have e1 : lc * 256 + c = (lc / 16 * 64 + d) * 64 + e := by
    have := b_f2 (lc / 16) (lc % 16) (d % 4) e
    rw [Int.mul_ediv_add_emod, hl, Int.mul_ediv_add_emod] at this
    rw [h, this]
  rw [e1, Int.emod_def _ 65536, b_e64, Int.ediv_one, (b_st (by decide) he.1 he.2).1, (b_st (by decide) hd.1 hd.2).2, (b_st (by decide) he.1 he.2).2]
  exact ⟨rfl, rfl⟩
inductive B2aI (ol : Addr) (news : List (Addr × Obj)) (figs : List Int) (bs : Array UInt8) (tb : Tok) (i : Nat) (m : PySem.Str → Option Value) (nx : List (Addr × Obj)) : Prop where
  | mk : ∀ (vs : List Value) (k : Nat) (lc lb : Int) (t1 t2 : Tok), (nx = (ol, listOf vs.toArray k) :: news) → ((∀ p ∈ news, p.1 < ol)) → (lb = 2 * (i % 3 : Nat)) → (0 ≤ lc) → (lc < 65536) → (vs.length ≤ 2 * i) → (i ≤ 6) → (IntsAre vs ((figs.take (4 * (i / 3) + i % 3)).map sg)) → ((i % 3 = 1 → lc % 4 = fg figs (4 * (i / 3) + 1) / 16)) → ((i % 3 = 2 → lc % 16 = fg figs (4 * (i / 3) + 2) / 4)) → (∀ y, y ≠ Str.ofString "b" → m y = (fun y => if y = Str.ofString "leftchar" then some (.int lc t1) else if y = Str.ofString "leftbits" then some (Value.int lb t2) else if y = Str.ofString "out" then some (Value.ref ol) else if y = Str.ofString "newline" then some (Value.bool false) else if y = Str.ofString "bin_data" then some (Value.bytes bs tb) else List.lookup y [(Str.ofString "newline", Value.bool false), (Str.ofString "data", Value.bytes bs tb)]) y) → B2aI ol news figs bs tb i m nx
theorem b2a_c {w : World} {mean : ExcName → Option Value} {mg mb : PySem.Str → Option Value} {A₀ : Around} {base h₀ : Heap} {L : Addr} {env : Env} {outer : List Env} {dp un : Nat} {gd : Option (List Code)} {m : PySem.Str → Option Value} {s : Shared} {Q E : Value → Shared → Prop} {news : List (Addr × Obj)} {bs : Array UInt8} {tb : Tok}
   (Y : Pt w mean mg mb L env outer A₀ base h₀ dp un) (F : Fr h₀ L s.heap m) (N : News h₀ L s.heap news) (hdp' : dp < 500) (hun' : un < 4000)
   {figs : List Int} (hfl : figs.length = 8) (hfb : ∀ k, k < 8 → 0 ≤ fg figs k ∧ fg figs k < 64) (hbs : bs.size = 6)
   (hb0 : ∀ q c, q < 2 → bs[3 * q]? = some c → (c.toNat : Int) = fg figs (4 * q) * 4 + fg figs (4 * q + 1) / 16)
   (hb1 : ∀ q c, q < 2 → bs[3 * q + 1]? = some c → (c.toNat : Int) = fg figs (4 * q + 1) % 16 * 16 + fg figs (4 * q + 2) / 4)
   (hb2 : ∀ q c, q < 2 → bs[3 * q + 2]? = some c → (c.toNat : Int) = fg figs (4 * q + 2) % 4 * 64 + fg figs (4 * q + 3))
   (ret : ∀ h' tk t (as : Array UInt8), Fr h₀ L h' m → News h₀ L h' news → KBw.bInts as = figs.map sg → Q (.bytes as t) { s with heap := h', toks := tk }) :
   wpAny (model PySem.Challenge.rw_il0017_01.row.prog w) (Ar dp un gd env outer) (call (.ref 71) [.bytes bs tb] [(Str.ofString "newline", .bool false)]) Q E s := by
  refine hideG fun G0 hG0 => ?_
  obtain ⟨B, X, T, hfr, hk, hdp, hun⟩ := Y
  refine hG0 ?_
  clear hG0
  refine wpAny_noRaise ?_
  refine wpAny_call ?_
  walk_at "M enter"
  intro g' L' h' FG' F' N' B' X' T'
  walk_at "M hide"
  replace F' : Fr g' L' h' (fun y => List.lookup y [(Str.ofString "newline", Value.bool false), (Str.ofString "data", Value.bytes bs tb)]) := F'
  walk_at "M stepsF"
  rename_i ol hA lol hB hC hD F1 N1
  refine wpAny_noRaise ?_
  refine' For_invVF F1 (by rfl) (by rfl) ?_
  k_steps
  refine it_bytes (B2aI ol news figs bs tb) rfl F1 N1 ?_ ?_ ?_
  · exact ⟨[], 0, 0, 0, _, _, rfl, lol, rfl, Int.le_refl _, by decide, by simp, Nat.zero_le _, .nil, fun h => absurd h (by decide), fun h => absurd h (by decide), fun y _ => rfl⟩
  · rintro i c u m₁ nx h tk I oi hc hI hoff zH12 F2 N2
    walk_at "M hide"
    refine hideG fun G0 hG0 => ?_
    obtain ⟨vs, k, lc, lb, t1, t2, rfl, holt, hlb, hlc0, hlc1, hvl, hi6, hvs, hr1, hr2, hm⟩ := zH12
    refine hG0 ?_
    clear hG0
    rw [mform hm] at F2
    replace F2 : Fr g' L' h _ := F2
    replace N2 : News g' L' h _ := N2
    have hol : @Ne Nat ol I := hoff _ (.head _)
    have hno : ∀ p ∈ news, p.1 ≠ ol := fun p hp => Nat.ne_of_lt (holt p hp)
    have hc0 : (0 : Int) ≤ (c.toNat : Int) := Int.natCast_nonneg _
    have hc1 : (c.toNat : Int) < 256 := u8_lt c
    clear F1 N1
    with_reducible show wpAny _ _ _ _ _ _
    try k_fold
    have hi5 : i < 6 := hbs ▸ (Array.getElem?_eq_some_iff.mp hc).1
    obtain ⟨q, hq⟩ : ∃ q, q = i / 3 := ⟨_, rfl⟩
    have hq2 : q < 2 := b_q hq hi5
    have hq4 := b_4 hq2
    have f0 := hfb (4 * q) hq4.1
    have f1 := hfb (4 * q + 1) hq4.2.1
    have f2 := hfb (4 * q + 2) hq4.2.2.1
    have f3 := hfb (4 * q + 3) hq4.2.2.2
    rw [← hq] at hvs hr1 hr2
    have h3 : lb = 0 ∨ lb = 2 ∨ lb = 4 := b_3 hi5 hlb
    rcases h3 with h3 | h3 | h3
    · subst h3
      k_steps
      rename Fr g' L' _ _ => FA
      rename News g' L' _ _ => NA
      rw [lc_val hlc0 hc0 hc1] at FA NA
      have hI2 : ∀ (k' : Nat) (vs' : List Value), ∀ p ∈ (ol, listOf vs'.toArray k') :: news, p.1 ≠ I := fun k' vs' p hp => by
        rcases List.mem_cons.mp hp with z | z
        · rw [z]; exact hol
        · exact hoff p (.tail _ z)
      refine hideG fun G0 hG0 => ?_
      obtain ⟨hi3, hd1, hd2, hd3⟩ := b_i0 hi5 hq hlb
      refine hG0 ?_
      clear hG0
      have hcv := hb0 q c hq2 (by rw [← hi3]; exact hc)
      have hX : Builtin.bitAnd (((lc * 256 + (c.toNat : Int)) % 65536).fdiv (2 ^ Int.toNat (0 + 8 - 6))) 63 = fg figs (4 * q) := by
        rw [and63, Int.fdiv_eq_ediv_of_nonneg _ (by decide)]
        exact (b_x0 hcv f0 f1).1
      rw [hX] at NA
      try (refine unQ (by with_reducible assumption) ?_)
      refine LpEnd.intro FA NA (hI2 _ _) ?_
      refine' ⟨_, _, (lc * 256 + (c.toNat : Int)) % 65536, 0 + 8 - 6, _, _, rfl, holt, by rw [hd2]; rfl, Int.emod_nonneg _ (by decide), Int.emod_lt_of_pos _ (by decide), by simp; omega, hi5, by
        rw [hd1, hd2, take_sg (by rw [hfl]; exact hq4.1)]
        rw [hd3] at hvs
        exact ints_snoc hvs, fun _ => by rw [hd1]; exact (b_x0 hcv f0 f1).2, fun z => absurd (hd2.symm.trans z) (by decide), fun y hy => ?fin⟩
      case fin =>
        dsimp only
        by_cases e1 : y = Str.ofString "leftbits"
        · refine (if_pos e1).trans ?_
          refine Eq.trans ?_ (if_neg (by rw [e1]; decide)).symm
          exact (if_pos e1).symm
        by_cases e2 : y = Str.ofString "leftchar"
        · repeat (refine (if_neg e1).trans ?_)
          refine (if_pos e2).trans ?_
          exact (if_pos e2).symm
        simp only [if_neg e1, if_neg e2, if_neg hy]
    · subst h3
      k_steps
      rename Fr g' L' _ _ => FA
      rename News g' L' _ _ => NA
      rw [lc_val hlc0 hc0 hc1] at FA NA
      have hI2 : ∀ (k' : Nat) (vs' : List Value), ∀ p ∈ (ol, listOf vs'.toArray k') :: news, p.1 ≠ I := fun k' vs' p hp => by
        rcases List.mem_cons.mp hp with z | z
        · rw [z]; exact hol
        · exact hoff p (.tail _ z)
      refine hideG fun G0 hG0 => ?_
      obtain ⟨hi3, hd1, hd2, hd3⟩ := b_i1 hi5 hq hlb
      refine hG0 ?_
      clear hG0
      have hcv := hb1 q c hq2 (by rw [← hi3]; exact hc)
      have hr1' := hr1 hd3
      have hX : Builtin.bitAnd (((lc * 256 + (c.toNat : Int)) % 65536).fdiv (2 ^ Int.toNat (2 + 8 - 6))) 63 = fg figs (4 * q + 1) := by
        rw [and63, Int.fdiv_eq_ediv_of_nonneg _ (by decide)]
        exact (b_x1 hcv hr1' f1 f2).1
      rw [hX] at NA
      try (refine unQ (by with_reducible assumption) ?_)
      refine LpEnd.intro FA NA (hI2 _ _) ?_
      refine' ⟨_, _, (lc * 256 + (c.toNat : Int)) % 65536, 2 + 8 - 6, _, _, rfl, holt, by rw [hd2]; rfl, Int.emod_nonneg _ (by decide), Int.emod_lt_of_pos _ (by decide), by simp; omega, hi5, by
        rw [hd1, hd2, show 4 * q + 2 = 4 * q + 1 + 1 from rfl, take_sg (by rw [hfl]; exact hq4.2.1)]
        rw [hd3] at hvs
        exact ints_snoc hvs, fun z => absurd (hd2.symm.trans z) (by decide), fun _ => by rw [hd1]; exact (b_x1 hcv hr1' f1 f2).2, fun y hy => ?fin⟩
      case fin =>
        dsimp only
        by_cases e1 : y = Str.ofString "leftbits"
        · refine (if_pos e1).trans ?_
          refine Eq.trans ?_ (if_neg (by rw [e1]; decide)).symm
          exact (if_pos e1).symm
        by_cases e2 : y = Str.ofString "leftchar"
        · repeat (refine (if_neg e1).trans ?_)
          refine (if_pos e2).trans ?_
          exact (if_pos e2).symm
        simp only [if_neg e1, if_neg e2, if_neg hy]
    · subst h3
      k_steps
      rename Fr g' L' _ _ => FA
      rename News g' L' _ _ => NA
      rw [lc_val hlc0 hc0 hc1] at FA NA
      have hI2 : ∀ (k' : Nat) (vs' : List Value), ∀ p ∈ (ol, listOf vs'.toArray k') :: news, p.1 ≠ I := fun k' vs' p hp => by
        rcases List.mem_cons.mp hp with z | z
        · rw [z]; exact hol
        · exact hoff p (.tail _ z)
      refine hideG fun G0 hG0 => ?_
      obtain ⟨hi3, hd1, hd2, hd3⟩ := b_i2 hi5 hq hlb
      refine hG0 ?_
      clear hG0
      have hcv := hb2 q c hq2 (by rw [← hi3]; exact hc)
      have hr2' := hr2 hd3
      have hX : Builtin.bitAnd (((lc * 256 + (c.toNat : Int)) % 65536).fdiv (2 ^ Int.toNat (4 + 8 - 6))) 63 = fg figs (4 * q + 2) := by
        rw [and63, Int.fdiv_eq_ediv_of_nonneg _ (by decide)]
        exact (b_x2 hcv hr2' f2 f3).1
      have hX2 : Builtin.bitAnd (((lc * 256 + (c.toNat : Int)) % 65536).fdiv (2 ^ Int.toNat (4 + 8 - 6 - 6))) 63 = fg figs (4 * q + 3) := by
        rw [and63, Int.fdiv_eq_ediv_of_nonneg _ (by decide)]
        exact (b_x2 hcv hr2' f2 f3).2
      rw [hX, hX2] at NA
      try (refine unQ (by with_reducible assumption) ?_)
      refine LpEnd.intro FA NA (hI2 _ _) ?_
      refine' ⟨_, _, (lc * 256 + (c.toNat : Int)) % 65536, 4 + 8 - 6 - 6, _, _, rfl, holt, by rw [hd2]; rfl, Int.emod_nonneg _ (by decide), Int.emod_lt_of_pos _ (by decide), by simp; omega, hi5, by
        rw [hd1, hd2, show 4 * (q + 1) + 0 = 4 * q + 2 + 1 + 1 from rfl, take_sg (by rw [hfl]; exact hq4.2.2.2), take_sg (by rw [hfl]; exact hq4.2.2.1)]
        rw [hd3] at hvs
        exact ints_snoc (ints_snoc hvs), fun z => absurd (hd2.symm.trans z) (by decide), fun z => absurd (hd2.symm.trans z) (by decide), fun y hy => ?fin⟩
      case fin =>
        dsimp only
        by_cases e1 : y = Str.ofString "leftbits"
        · refine (if_pos e1).trans ?_
          refine Eq.trans ?_ (if_neg (by rw [e1]; decide)).symm
          exact (if_pos e1).symm
        by_cases e2 : y = Str.ofString "leftchar"
        · repeat (refine (if_neg e1).trans ?_)
          refine (if_pos e2).trans ?_
          exact (if_pos e2).symm
        simp only [if_neg e1, if_neg e2, if_neg hy]
  · rintro m₁ nx h tk zH4 F2 N2
    walk_at "M hide"
    refine hideG fun G0 hG0 => ?_
    obtain ⟨vs, k, lc, lb, t1, t2, rfl, holt, hlb, hlc0, hlc1, hvl, hi6, hvs, hr1, hr2, hm⟩ := zH4
    refine hG0 ?_
    clear hG0
    rw [mform' hm] at F2
    rw [hbs] at hvs hlb hvl
    have hlb0 : lb = 0 := by rw [hlb]; rfl
    subst hlb0
    have hvs2 : IntsAre vs (figs.map sg) := by
      have : figs.take (4 * (6 / 3) + 6 % 3) = figs := List.take_of_length_le (by rw [hfl]; decide)
      rw [this] at hvs
      exact hvs
    replace F2 : Fr g' L' h _ := F2
    replace N2 : News g' L' h _ := N2
    clear F1 N1
    k_steps
    have hsgb : ∀ n ∈ figs.map sg, 0 ≤ n ∧ n < 256 := by
      intro n hn
      walk_at "M hide"
      obtain ⟨k, _, rfl⟩ := List.mem_map.mp hn
      unfold sg
      exact u8_b _
    refine KBa.make_K F2 N2 rfl (led_list N2 (.head _)) hvs2 hsgb (by rw [List.length_map, hfl]; omega) ?_
    intro z1 z2 z3 z4 z5 z6
    walk_at "M hide"
    k_steps
    refine ret _ _ _ _ ‹Fr h₀ L _ _› (news_sub ‹News h₀ L _ _› fun p hp => .tail _ hp) ?_
    unfold byteArr KBw.bInts
    rw [List.map_map]
    have hid : ∀ ns : List Int, (∀ n ∈ ns, 0 ≤ n ∧ n < 256) → ns.map ((fun c : UInt8 => (c.toNat : Int)) ∘ fun n : Int => n.toNat.toUInt8) = ns := by
      intro ns hn
      walk_at "M hide"
      refine (List.map_congr_left fun n hm => ?_).trans (List.map_id _)
      have := hn n hm
      show ((n.toNat.toUInt8).toNat : Int) = n
      have e : (n.toNat.toUInt8).toNat = n.toNat := by
        show n.toNat % 256 = n.toNat
        omega
      rw [e]
      omega
    exact hid _ hsgb
end
section
theorem flush_E8 : (1 : Nat) ≤ 2 := by
  w_top off
  first | walk1 | decide
theorem b64_c {w : World} {mean : ExcName → Option Value} {mg mb : PySem.Str → Option Value} {A₀ : Around} {base h₀ : Heap} {L : Addr} {env : Env} {outer : List Env} {dp un : Nat} {gd : Option (List Code)} {m : PySem.Str → Option Value} {s : Shared} {Q E : Value → Shared → Prop} {news : List (Addr × Obj)} {bs : Array UInt8} {tb : Tok}
   (Y : Pt w mean mg mb L env outer A₀ base h₀ dp un) (F : Fr h₀ L s.heap m) (N : News h₀ L s.heap news) (hdp' : dp < 400) (hun' : un < 3000)
   {figs : List Int} (hfl : figs.length = 8) (hfb : ∀ k, k < 8 → 0 ≤ fg figs k ∧ fg figs k < 64) (hbs : bs.size = 6)
   (hb0 : ∀ q c, q < 2 → bs[3 * q]? = some c → (c.toNat : Int) = fg figs (4 * q) * 4 + fg figs (4 * q + 1) / 16)
   (hb1 : ∀ q c, q < 2 → bs[3 * q + 1]? = some c → (c.toNat : Int) = fg figs (4 * q + 1) % 16 * 16 + fg figs (4 * q + 2) / 4)
   (hb2 : ∀ q c, q < 2 → bs[3 * q + 2]? = some c → (c.toNat : Int) = fg figs (4 * q + 2) % 4 * 64 + fg figs (4 * q + 3))
   (ret : ∀ h' tk t (as : Array UInt8), Fr h₀ L h' m → News h₀ L h' news → KBw.bInts as = figs.map sg → Q (.bytes as t) { s with heap := h', toks := tk }) :
   wpAny (model PySem.Challenge.rw_il0017_01.row.prog w) (Ar dp un gd env outer) (call (.ref 79) [.bytes bs tb]) Q E s := by
  refine hideG fun G0 hG0 => ?_
  obtain ⟨B, X, T, hfr, hk, hdp, hun⟩ := Y
  refine hG0 ?_
  clear hG0
  refine wpAny_noRaise ?_
  refine wpAny_call ?_
  walk_at "M enterD"
  intro g' L' h' FG' F' N' B' X' T'
  walk_at "M hide"
  replace F' : Fr g' L' h' (fun y => List.lookup y [(Str.ofString "altchars", Value.none), (Str.ofString "s", Value.bytes bs tb)]) := F'
  k_steps
  show wpAny _ _ (call (.ref 71) [.bytes bs tb] [(Str.ofString "newline", .bool false)]) _ _ _
  refine b2a_c (Y := ⟨B', X', T', rfl, rfl, ?hdp, ?hun⟩) F' N' ?hd2 ?hu2 hfl hfb hbs hb0 hb1 hb2 ?_
  case hdp => show dp + 1 < 600; omega
  case hun => show un + 3 < 5000; omega
  case hd2 => show dp + 1 < 500; omega
  case hu2 => show un + 3 < 4000; omega
  intro h2 tk2 t2 as F2 N2 has
  walk_at "M hide"
  k_steps
  exact ret _ _ _ as ‹Fr h₀ L _ _› ‹News h₀ L _ _› has
end
section
theorem flush_P1 : (1 : Nat) ≤ 2 := by
  w_top off
  first | walk1 | decide
/-- thing k waits for thing i -/
def wts (figs : List Int) (k i : Int) : Bool := decide (i < 6) && decide (fg figs k.toNat / 2 ^ i.toNat % 2 = 1)
def later (figs left : List Int) : List Int := left.filter fun k => left.any (wts figs k)
def eight : List Int := [0, 1, 2, 3, 4, 5, 6, 7]
inductive Rds (figs : List Int) : List Int → List (List Int) → List Int → Prop
  | stop {left : List Int} : later figs left = left → Rds figs left [] left
  | step {left : List Int} {rs : List (List Int)} {fin : List Int} : later figs left ≠ left → Rds figs (later figs left) rs fin → Rds figs left ((left.filter fun k => !(later figs left).contains k) :: rs) fin
theorem later_sub {figs left : List Int} {x : Int} (h : x ∈ later figs left) : x ∈ left := (List.mem_filter.mp h).1
theorem later_len (figs left : List Int) : (later figs left).length ≤ left.length := List.length_filter_le ..
theorem later_lt {figs left : List Int} (h : later figs left ≠ left) : (later figs left).length < left.length := by
  refine Nat.lt_of_le_of_ne (later_len figs left) fun e => h ?_
  unfold later at e ⊢
  exact List.filter_eq_self.mpr (List.length_filter_eq_length_iff.mp e)
/-- the rounds that are behind: from the first state to this one -/
inductive Rdz (figs : List Int) : List Int → List (List Int) → List Int → Prop
  | nil {left : List Int} : Rdz figs left [] left
  | snoc {left mid : List Int} {rs : List (List Int)} : Rdz figs left rs mid → later figs mid ≠ mid → Rdz figs left (rs ++ [mid.filter fun k => !(later figs mid).contains k]) (later figs mid)
theorem Rdz.ends {figs left mid : List Int} {rs : List (List Int)} (h : Rdz figs left rs mid) : ∀ {ts : List (List Int)} {fin : List Int}, Rds figs mid ts fin → Rds figs left (rs ++ ts) fin := by
  induction h with
  | nil => intro ts fin h; exact h
  | snoc h1 h2 ih =>
    intro ts fin h
    rw [List.append_assoc]
    exact ih (.step h2 h)
theorem Rdz.fin {figs left mid : List Int} {rs : List (List Int)} (h : Rdz figs left rs mid) (e : later figs mid = mid) : Rds figs left rs mid := by
  have := h.ends (.stop e)
  rwa [List.append_nil] at this
theorem Rds.det {figs left : List Int} {rs : List (List Int)} {fin : List Int} (h : Rds figs left rs fin) : ∀ {rs' : List (List Int)} {fin' : List Int}, Rds figs left rs' fin' → rs = rs' ∧ fin = fin' := by
  induction h with
  | stop e =>
    intro rs' fin' h
    cases h with
    | stop => exact ⟨rfl, rfl⟩
    | step n _ => exact absurd e n
  | step n _ ih =>
    intro rs' fin' h
    cases h with
    | stop e => exact absurd e n
    | step _ h' => exact ⟨congrArg _ (ih h').1, (ih h').2⟩
theorem Rdz.len {figs left mid : List Int} {rs : List (List Int)} (h : Rdz figs left rs mid) : mid.length + rs.length ≤ left.length := by
  induction h with
  | nil => exact Nat.le_refl _
  | snoc h1 h2 ih =>
    have := later_lt h2
    rw [List.length_append]
    show _ + (_ + 1) ≤ _
    omega
theorem Rdz.sub {figs left mid : List Int} {rs : List (List Int)} (h : Rdz figs left rs mid) : ∀ x ∈ mid, x ∈ left := by
  induction h with
  | nil => exact fun x hx => hx
  | snoc h1 h2 ih => exact fun x hx => ih x (later_sub hx)

def cntD (figs : List Int) (f : Int) : Dat := .tuple [.int (6 - ((List.range 6).map fun i => f / 2 ^ i % 2).sum), .int (figs.filter fun x => decide (x = f)).length]
def rdD (r : List Int) : Dat := .tuple [.list (r.map .int), .bool true]
def dueD (figs : List Int) (rs : List (List Int)) (fin : List Int) : Dat := .list [.list (figs.map .int), .list (figs.map (cntD figs)), .bool (decide (fin ≠ [])), .list (rs.map rdD), .bool true]
theorem ints_dat {news : List (Addr × Obj)} {vs : List Value} {ns : List Int} (h : IntsAre vs ns) : DatAll news vs (ns.map .int) := by
  induction h with
  | nil => exact .nil
  | cons n t _ ih => exact .cons (.int n t) ih
end
section
local macro_rules | `(tactic| k_all) => `(tactic| (refine tbn_neAll ?_; first | assumption | exact and_r1 (by assumption) | exact and_r2 (by assumption) | exact and_r3 (by assumption) | exact and_r4 (by assumption) | exact and_r5 (by assumption) | exact and_r6 (by assumption) | exact and_r7 (by assumption) | exact and_r8 (by assumption) | exact and_r9 (by assumption) | exact and_r10 (by assumption) | exact and_r11 (by assumption) | exact and_r12 (by assumption) | exact and_r13 (by assumption) | exact and_r14 (by assumption)))
local macro_rules | `(tactic| k_all) => `(tactic| assumption)
local macro_rules | `(tactic| walk_at "call builtin:len") => `(tactic| (k_here; (with_reducible show wpAny _ _ (call (Value.builtin "len") [Value.ref _]) _ _ _); k_dflt (refine' len_t ?N ?m ?z ?_; (case N => k_asm); (case m => k_mem); (case z => with_reducible assumption)); intro t' tk'))
local macro_rules | `(tactic| walk_at "call builtin:list.append") => `(tactic| (k_here; k_dflt (refine' append_l ?F ?N ?U ?z ?_; (case F => k_asm); (case N => k_asm); (case U => k_upd); (case z => with_reducible assumption)); intro h' F' N'))
section
theorem flush_A3 : (1 : Nat) ≤ 2 := by
  w_top off
  first | walk1 | decide
def Ab.pred (k : Int) (st : Ab) (p : Int) : Ab := ⟨(st.get p).order, (st.get p).np, upd (st.get p).ss p ((st.get p).ss p ++ [k])⟩
def Ab.add (st : Ab) (k : Int) (ps : List Int) : Ab := ps.foldl (Ab.pred k) ⟨(st.get k).order, upd (st.get k).np k ((st.get k).np k + (ps.length : Int)), (st.get k).ss⟩
theorem res_ok {Q E : Value → Shared → Prop} : ∀ (r : Result) (s' : Shared), (match r with | .ok (.ret v) => Q v s' | .ok _ => False | .error _ => False) → (match r with | .ok (.ret v) => Q v s' | .ok _ => False | .error e => E e s')
  | .ok (.ret _), _, q => q
  | .ok .next, _, q => q
  | .ok .brk, _, q => q
  | .ok .cont, _, q => q
  | .error _, _, q => q.elim
inductive AddI (w : World) (self dx d : Addr) (h1 h2 h3 h4 : Int) (t1 t2 t3 t4 t : Tok) (v3 v4 : Value) (n : Nat) (k : Int) (ps : List Value) (rest : List (Addr × Obj)) (D0 : Addr) (st : Ab) (ns : List Int) (V2 : SV) (i : Nat) (m : PySem.Str → Option Value) (nx : List (Addr × Obj)) : Prop where
  | mk : ∀ st' V' od' kv' led', (nx = led' ++ (D0, ({ cls := Value.type "tuple", data := Data.seq ps.toArray } : Obj)) :: rest) → (SAt PySem.Challenge.rw_il0017_01.row.prog w ((self, instObj 195 dx) :: (dx, dictOf [⟨h1, .str (Str.ofString "_node2info") t1, .ref d⟩, ⟨h2, .str (Str.ofString "_ready_nodes") t2, .none⟩, ⟨h3, .str (Str.ofString "_npassedout") t3, v3⟩, ⟨h4, .str (Str.ofString "_nfinished") t4, v4⟩] n) :: []) d st' V' od' kv' led') → (Dis nx) → (st' = (ns.take i).foldl (Ab.pred k) ⟨(st.get k).order, upd (st.get k).np k ((st.get k).np k + (ps.length : Int)), (st.get k).ss⟩) → (st'.order.length ≤ 81 + i) → ((∀ x, (st'.ss x).length ≤ 80 + i)) → (∀ y, y ≠ Str.ofString "pred" → y ≠ Str.ofString "pred_info" → m y = (fun y => if y = Str.ofString "nodeinfo" then some (Value.ref (V2.ia k)) else List.lookup y [(Str.ofString "predecessors", Value.ref D0), (Str.ofString "node", Value.int k t), (Str.ofString "self", Value.ref self)]) y) → AddI w self dx d h1 h2 h3 h4 t1 t2 t3 t4 t v3 v4 n k ps rest D0 st ns V2 i m nx
theorem add_c {w : World} {mean : ExcName → Option Value} {mg mb : PySem.Str → Option Value} {A₀ : Around} {base h₀ : Heap} {L : Addr} {env : Env} {outer : List Env} {dp un : Nat} {gd : Option (List Code)} {m : PySem.Str → Option Value} {s : Shared} {Q E : Value → Shared → Prop}
   {self dx d : Addr} {h1 h2 h3 h4 : Int} {t1 t2 t3 t4 t : Tok} {n : Nat} {v3 v4 : Value} {od : Obj} {kv : List (Int × Value)} {k : Int} {led rest : List (Addr × Obj)} {st : Ab} {V : SV} {ps : List Value} {ns : List Int}
   (Y : Pt w mean mg mb L env outer A₀ base h₀ dp un) (F : Fr h₀ L s.heap m) (N : News h₀ L s.heap (led ++ rest))
   (H : SAt PySem.Challenge.rw_il0017_01.row.prog w ((self, instObj 195 dx) :: (dx, dictOf [⟨h1, .str (Str.ofString "_node2info") t1, .ref d⟩, ⟨h2, .str (Str.ofString "_ready_nodes") t2, .none⟩, ⟨h3, .str (Str.ofString "_npassedout") t3, v3⟩, ⟨h4, .str (Str.ofString "_nfinished") t4, v4⟩] n) :: []) d st V od kv led) (hD : Dis (led ++ rest)) (lo : (d == sysModules) = false) (hol : st.order.length ≤ 80) (hps : IntsAre ps ns) (hpl : ps.length ≤ 6) (hsl : ∀ x, (st.ss x).length ≤ 80) (hdd : dp < 500) (huu : un < 4000)
   (ret : ∀ h' tk V' od' kv' led', Fr h₀ L h' m → News h₀ L h' (led' ++ rest) → SAt PySem.Challenge.rw_il0017_01.row.prog w ((self, instObj 195 dx) :: (dx, dictOf [⟨h1, .str (Str.ofString "_node2info") t1, .ref d⟩, ⟨h2, .str (Str.ofString "_ready_nodes") t2, .none⟩, ⟨h3, .str (Str.ofString "_npassedout") t3, v3⟩, ⟨h4, .str (Str.ofString "_nfinished") t4, v4⟩] n) :: []) d (st.add k ns) V' od' kv' led' → Dis (led' ++ rest) → Q .none { s with heap := h', toks := tk }) :
   codeAny (model PySem.Challenge.rw_il0017_01.row.prog w) (Ar dp un gd env outer) (.call (.ref 145) ⟨.ref self :: .int k t :: ps, []⟩) (fun r s' => match r with | .ok (.ret v) => Q v s' | .ok _ => False | .error e => E e s') s := by
  refine hideG fun G0 hG0 => ?_
  obtain ⟨B, X, T, hf, hk, hdp, hun⟩ := Y
  refine hG0 ?_
  clear hG0
  have hpI : ∀ (i : Nat) (v : Value), ps[i]? = some v → ∃ p tp, v = Value.int p tp ∧ ns[i]? = some p := fun i v hv => hps.at i v hv
  have hpL := hps.length
  refine codeAny_mono ?_ res_ok
  k_dflt (refine' kp_rest (vs := ps) (g₁ := fun D => some [(Str.ofString "self", Value.ref self), (Str.ofString "node", Value.int k t), (Str.ofString "predecessors", Value.ref D)]) (binds := fun D => [(Str.ofString "self", Value.ref self), (Str.ofString "node", Value.int k t), (Str.ofString "predecessors", Value.ref D)]) ?k1 ?k2 ?k3 ?k4 ?k5 ?kA ?kF ?kK ?k6 ?k7 ?k8 ?kV ?kP ?kG ?kB ?_ ?c2 ?c3 ?c4 ?c5; (case kA => exact rfl); (case kF => first | exact rfl | assumption); (case kK => first | exact rfl | assumption); (case k1 => k_asm); (case k2 => k_asm); (case k3 => k_asm); (case k4 => k_asm); (case k5 => k_asm); (case k6 => k_is); (case k7 => k_is); (case k8 => walk_at "M room"); (case kV => exact rfl); (case kP => ((rcases ps with _ | ⟨p1, ps⟩; · exact rfl); (rcases ps with _ | ⟨p2, ps⟩; · exact rfl); (rcases ps with _ | ⟨p3, ps⟩; · exact rfl); (rcases ps with _ | ⟨p4, ps⟩; · exact rfl); (rcases ps with _ | ⟨p5, ps⟩; · exact rfl); (rcases ps with _ | ⟨p6, ps⟩; · exact rfl); (rcases ps with _ | ⟨p7, ps⟩; · exact rfl);  exact absurd hpl (by simp))); (case kG => exact fun _ => rfl); (case kB => exact fun _ => locs rfl); (case c5 => decide); (case c2 => exact rfl); (case c3 => exact rfl); (case c4 => exact rfl); k_whole)
  intro D0 g' L' h' l1 FG' F' N' B' X' T'
  walk_at "M hide"
  replace F' : Fr g' L' h' (fun y => List.lookup y [(Str.ofString "predecessors", Value.ref D0), (Str.ofString "node", Value.int k t), (Str.ofString "self", Value.ref self)]) := F'
  rw [H.led_] at N' l1
  dsimp only [List.cons_append, List.nil_append] at N' l1
  have l1' := l1
  k_lt l1
  k_steps
  have hlt : ∀ q ∈ led ++ rest, @LT.lt Nat _ q.1 D0 := by
    intro q hq
    walk_at "M hide"
    rw [H.led_] at hq
    exact l1' q (by simpa only [List.cons_append, List.nil_append] using hq)
  have hD1 : Dis (led ++ ((D0, ({ cls := Value.type "tuple", data := Data.seq ps.toArray } : Obj)) :: rest)) :=
    (hD.lt (o := ({ cls := Value.type "tuple", data := Data.seq ps.toArray } : Obj)) hlt).perm List.perm_middle.symm
  have N1 : News g' L' h' (led ++ ((D0, ({ cls := Value.type "tuple", data := Data.seq ps.toArray } : Obj)) :: rest)) := by
    refine news_sub N' fun q hq => ?_
    have hq' := List.perm_middle.mem_iff.mp hq
    rw [H.led_] at hq'
    exact hq'
  refine get_node (Y := ⟨B', X', T', rfl, rfl, ?hdp, ?hun⟩) F' N1 H hD1 lo (by first | decide | omega) ?_
  case hdp => show dp + 1 < 600; omega
  case hun => show un + 3 < 5000; omega
  intro hp2 tk2 V2 od2 kv2 led2 F2 N2 H2 hD2
  walk_at "M hide"
  have hk2 := st.mem_get k
  have p2 := H2.perm (rest := (D0, ({ cls := Value.type "tuple", data := Data.seq ps.toArray } : Obj)) :: rest) hk2
  have D3 := hD2.perm p2
  have N3 := news_sub N2 (fun q hq => p2.mem_iff.mpr hq)
  dsimp only [nodeL, List.cons_append, List.nil_append] at N3 D3
  refine hideG fun G0 hG0 => ?_
  obtain ⟨⟨e1n0, e1n1, e1n2, e1n3, e1n4, e1n5, e1n6, e1n7, e1n8, e1n9, e1n10, e1n11, e1n12, e1n13, e1n14⟩, r0, r1, r2, r3⟩ := six D3
  refine hG0 ?_
  clear hG0
  have m0 : (D0, ({ cls := Value.type "tuple", data := Data.seq ps.toArray } : Obj)) ∈ nodesL V2 ((st.get k).order.erase k) ++ (D0, ({ cls := Value.type "tuple", data := Data.seq ps.toArray } : Obj)) :: rest := List.mem_append_right _ (.head _)
  have hps6 : ps.length ≤ 100 := by first | decide | omega
  clear N2 N1 N'
  k_steps
  rename News g' L' _ _ => N4
  rename Fr g' L' _ _ => F4
  obtain ⟨H4, hD4, hs4⟩ := H2.close (rest := (D0, ({ cls := Value.type "tuple", data := Data.seq ps.toArray } : Obj)) :: rest) hk2 hD2 (V2.np k + (ps.length : Int)) _ (V2.ep k) (H2.ss k hk2)
  have N5 := news_sub N4 hs4
  rw [H2.np k hk2] at H4 hD4 N5
  rw [upd_id] at H4
  refine it_tuple (vs := ps) (k := 0) (AddI w self dx d h1 h2 h3 h4 t1 t2 t3 t4 t v3 v4 n k ps rest D0 st ns V2) rfl F4 N5 ?_ ?_ ?_ ?_ ?_
  · exact List.mem_append_right _ (.head _)
  · exact ⟨_, _, _, _, _, rfl, H4, hD4, rfl, Nat.le_trans (st.get_len k) (by first | decide | omega), fun x => Nat.le_trans (st.get_ss k x) (hsl x), fun y _ _ => rfl⟩
  · rintro i m nx zH3
    walk_at "M hide"
    refine hideG fun G0 hG0 => ?_
    obtain ⟨st', V', od', kv', led', rfl, _⟩ := zH3
    refine hG0 ?_
    clear hG0
    exact List.mem_append_right _ (.head _)
  · rintro i v m₁ nx h tk I oi hv hI hoff zH11 F' N'
    walk_at "M hide"
    refine hideG fun G0 hG0 => ?_
    obtain ⟨st', V', od', kv', led', rfl, H', hD', hst, hol', hsl', hm⟩ := zH11
    refine hG0 ?_
    clear hG0
    rw [mform2 hm] at F'
    refine hideG fun G0 hG0 => ?_
    obtain ⟨p, tp, rfl, hpn⟩ := hpI i v hv
    refine hG0 ?_
    clear hG0
    have hil : i < ps.length := (List.getElem?_eq_some_iff.mp hv).1
    have hD5 : Dis (led' ++ (I, oi) :: (D0, ({ cls := Value.type "tuple", data := Data.seq ps.toArray } : Obj)) :: rest) := (hD'.cons hoff).perm List.perm_middle.symm
    have N5' : News g' L' h (led' ++ (I, oi) :: (D0, ({ cls := Value.type "tuple", data := Data.seq ps.toArray } : Obj)) :: rest) := news_sub N' fun q hq => (List.perm_middle.mem_iff).mp hq
    have N6 := N5'
    rw [H'.led_] at N6
    dsimp only [List.cons_append, List.nil_append] at N6
    clear N4 N5 F4 e1n0 e1n1 e1n2 e1n3 e1n4 e1n5 e1n6 e1n7 e1n8 e1n9 e1n10 e1n11 e1n12 e1n13 e1n14 r0 r1 r2 r3 m0 N'
    rename Fr g' L' h _ => F5
    with_reducible show wpAny _ _ _ _ _ _
    try k_fold
    k_steps
    refine get_node (Y := ⟨B', X', T', rfl, rfl, ?hdp, ?hun⟩) F5 N5' H' hD5 lo (by first | decide | omega) ?_
    case hdp => show dp + 1 < 600; omega
    case hun => show un + 3 < 5000; omega
    intro hp3 tk3 V3 od3 kv3 led3 F6 N7 H6 hD6
    walk_at "M hide"
    have hk3 := st'.mem_get p
    have p3 := H6.perm (rest := (I, oi) :: (D0, ({ cls := Value.type "tuple", data := Data.seq ps.toArray } : Obj)) :: rest) hk3
    have D7 := hD6.perm p3
    have N8 := news_sub N7 (fun q hq => p3.mem_iff.mpr hq)
    dsimp only [nodeL, List.cons_append, List.nil_append] at N8 D7
    refine hideG fun G0 hG0 => ?_
    obtain ⟨⟨e1n0, e1n1, e1n2, e1n3, e1n4, e1n5, e1n6, e1n7, e1n8, e1n9, e1n10, e1n11, e1n12, e1n13, e1n14⟩, r0, r1, r2, r3⟩ := six D7
    refine hG0 ?_
    clear hG0
    have hsz : (V3.sv p).toArray.size ≤ sizeLine := small_size (by
      have e := (H6.ss p hk3).length
      have := st'.get_ss p p
      have := hsl' p
      omega)
    clear N7 N5' N6
    k_steps
    rename Fr g' L' _ _ => F9
    rename News g' L' _ _ => N9
    obtain ⟨H9, hD9, hs9⟩ := H6.close (rest := (I, oi) :: (D0, ({ cls := Value.type "tuple", data := Data.seq ps.toArray } : Obj)) :: rest) hk3 hD6 (V3.np p) (V3.tp p) (V3.ep p + 1) (ints_snoc (t := t) (n := k) (H6.ss p hk3))
    have N10 := news_sub N9 hs9
    rw [H6.np p hk3] at H9 hD9 N10
    rw [upd_id] at H9
    try (refine unQ (by with_reducible assumption) ?_)
    refine LpEnd.intro F9 (news_sub N10 fun q hq => List.perm_middle.symm.mem_iff.mp hq) (hD9.perm List.perm_middle).ne ⟨_, _, _, _, _, rfl, H9, (hD9.perm List.perm_middle).tl, ?_, ?_, ?_, ?_⟩
    · rw [List.take_add_one, hpn, List.foldl_append, ← hst]
      rfl
    · have := st'.get_len p
      show (st'.get p).order.length ≤ _
      omega
    · intro x
      walk_at "M hide"
      show (upd (st'.get p).ss p ((st'.get p).ss p ++ [k]) x).length ≤ _
      by_cases e : x = p
      · rw [e, upd_self, List.length_append]
        have := st'.get_ss p p
        have := hsl' p
        simp; omega
      · rw [upd_ne e]
        have := st'.get_ss p x
        have := hsl' x
        omega
    · intro y hy1 hy2
      walk_at "M hide"
      exact (if_neg hy2).trans ((if_neg hy1).trans (if_neg hy2))
  · rintro m₁ nx h tk zH4 F' N'
    walk_at "M hide"
    refine hideG fun G0 hG0 => ?_
    obtain ⟨st', V', od', kv', led', rfl, H', hD', hst, hol', hsl', hm⟩ := zH4
    refine hG0 ?_
    clear hG0
    k_steps
    rename Fr h₀ L _ _ => kF
    rename News h₀ L _ _ => kN
    have e : st' = st.add k ns := by
      rw [hst, hpL, List.take_length]
      rfl
    rw [e] at H'
    exact ret _ _ V' od' kv' led' kF (news_sub kN fun q hq => by
      rcases List.mem_append.mp hq with z | z
      · exact List.mem_append_left _ z
      · exact List.mem_append_right _ (.tail _ z)) H' (hD'.perm List.perm_middle).tl
end
section
theorem flush_A4 : (1 : Nat) ≤ 2 := by
  w_top off
  first | walk1 | decide
local macro_rules | `(tactic| walk_at "call type:bool") => `(tactic| (k_here; (with_reducible show wpAny _ _ (call (Value.type "bool") [Value.ref _]) _ _ _); k_dflt (refine' bool_list ?N ?m ?z ?_; (case N => k_asm); (case m => k_mem); (case z => with_reducible assumption)); intro tk'))
local macro_rules | `(tactic| walk_at "call type:tuple") => `(tactic| (k_here; (with_reducible show wpAny _ _ (call (Value.type _) [Value.ref _]) _ _ _); k_dflt (refine' kde_tupleOf ?k1 ?k2 ?k3 ?k4 ?k5 ?_; (case k1 => k_asm); (case k2 => k_asm); (case k3 => exact News.isList (by k_asm) (by k_mem)); (case k4 => with_reducible assumption); (case k5 => exact rfl); k_whole); intro D' h' F' N' l1; (try k_lt l1)))
local macro_rules | `(tactic| walk_at "call builtin:list.clear") => `(tactic| (k_here; k_dflt (refine' kl_clear ?F ?N ?U ?ne ?z ?_; (case F => k_asm); (case N => k_asm); (case U => k_upd); (case ne => with_reducible assumption); (case z => with_reducible assumption)); intro h' F' N'))
theorem is_active {w : World} {mean : ExcName → Option Value} {mg mb : PySem.Str → Option Value} {A₀ : Around} {base h₀ : Heap} {L : Addr} {env : Env} {outer : List Env} {dp un : Nat} {gd : Option (List Code)} {m : PySem.Str → Option Value} {s : Shared} {Q E : Value → Shared → Prop}
   {self dx d rl : Addr} {h1 h2 h3 h4 : Int} {t1 t2 t3 t4 tp tq : Tok} {n kr : Nat} {po nf : Int} {rs : List Value} {rest : List (Addr × Obj)}
   (Y : Pt w mean mg mb L env outer A₀ base h₀ dp un) (F : Fr h₀ L s.heap m) (N : News h₀ L s.heap ((self, instObj 195 dx) :: (dx, dictOf [⟨h1, .str (Str.ofString "_node2info") t1, .ref d⟩, ⟨h2, .str (Str.ofString "_ready_nodes") t2, .ref rl⟩, ⟨h3, .str (Str.ofString "_npassedout") t3, .int po tp⟩, ⟨h4, .str (Str.ofString "_nfinished") t4, .int nf tq⟩] 4) :: (rl, listOf rs.toArray kr) :: rest)) (hrs : rs.length < 2 ^ 62)
   (ret : ∀ h' tk, Fr h₀ L h' m → News h₀ L h' ((self, instObj 195 dx) :: (dx, dictOf [⟨h1, .str (Str.ofString "_node2info") t1, .ref d⟩, ⟨h2, .str (Str.ofString "_ready_nodes") t2, .ref rl⟩, ⟨h3, .str (Str.ofString "_npassedout") t3, .int po tp⟩, ⟨h4, .str (Str.ofString "_nfinished") t4, .int nf tq⟩] 4) :: (rl, listOf rs.toArray kr) :: rest) → Q (.bool (decide (nf < po) || !rs.isEmpty)) { s with heap := h', toks := tk }) :
   wpAny (model PySem.Challenge.rw_il0017_01.row.prog w) (Ar dp un gd env outer) (call (.ref 164) [.ref self]) Q E s := by
  refine hideG fun G0 hG0 => ?_
  obtain ⟨B, X, T, hf, hk, hdp, hun⟩ := Y
  refine hG0 ?_
  clear hG0
  refine wpAny_noRaise ?_
  refine wpAny_call ?_
  k_dflt (walk_at "M enter")
  intro g' L' h' FG' F' N' B' X' T'
  walk_at "M hide"
  replace F' : Fr g' L' h' (fun y => List.lookup y [(Str.ofString "self", Value.ref self)]) := F'
  k_steps
  · rw [show decide (nf < po) = (decide (nf < po) || !rs.isEmpty) from by simp [*]]
    exact ret h' _ ‹_› ‹_›
  · rw [show (!rs.isEmpty) = (decide (nf < po) || !rs.isEmpty) from by simp [*]]
    exact ret h' _ ‹_› ‹_›
inductive GetI (w : World) (self dx d rl : Addr) (h1 h2 h3 h4 : Int) (t1 t2 t3 t4 tp : Tok) (po nf : Int) (tq : Tok) (rs : List Value) (kr : Nat) (rest : List (Addr × Obj)) (D0 : Addr) (st : Ab) (od : Obj) (kv : List (Int × Value)) (ns : List Int) (i : Nat) (m : PySem.Str → Option Value) (nx : List (Addr × Obj)) : Prop where
  | mk : ∀ V' led', (nx = led' ++ (D0, ({ cls := Value.type "tuple", data := Data.seq rs.toArray } : Obj)) :: rest) → (SAt PySem.Challenge.rw_il0017_01.row.prog w ((self, instObj 195 dx) :: (dx, dictOf [⟨h1, .str (Str.ofString "_node2info") t1, .ref d⟩, ⟨h2, .str (Str.ofString "_ready_nodes") t2, .ref rl⟩, ⟨h3, .str (Str.ofString "_npassedout") t3, .int po tp⟩, ⟨h4, .str (Str.ofString "_nfinished") t4, .int nf tq⟩] 4) :: (rl, listOf rs.toArray kr) :: []) d ⟨st.order, (ns.take i).foldl (fun np x => upd np x (-1)) st.np, st.ss⟩ V' od kv led') → (Dis nx) → (∀ y, y ≠ Str.ofString "node" → m y = (fun y => if y = Str.ofString "n2i" then some (Value.ref d) else if y = Str.ofString "result" then some (Value.ref D0) else List.lookup y [(Str.ofString "self", Value.ref self)]) y) → GetI w self dx d rl h1 h2 h3 h4 t1 t2 t3 t4 tp po nf tq rs kr rest D0 st od kv ns i m nx
theorem get_ready {w : World} {mean : ExcName → Option Value} {mg mb : PySem.Str → Option Value} {A₀ : Around} {base h₀ : Heap} {L : Addr} {env : Env} {outer : List Env} {dp un : Nat} {gd : Option (List Code)} {m : PySem.Str → Option Value} {s : Shared} {Q E : Value → Shared → Prop}
   {self dx d rl : Addr} {h1 h2 h3 h4 : Int} {t1 t2 t3 t4 tp tq : Tok} {n kr : Nat} {po nf : Int} {rs : List Value} {ns : List Int} {rest : List (Addr × Obj)} {od : Obj} {kv : List (Int × Value)} {led : List (Addr × Obj)} {st : Ab} {V : SV}
   (Y : Pt w mean mg mb L env outer A₀ base h₀ dp un) (F : Fr h₀ L s.heap m) (N : News h₀ L s.heap (led ++ rest))
   (H : SAt PySem.Challenge.rw_il0017_01.row.prog w ((self, instObj 195 dx) :: (dx, dictOf [⟨h1, .str (Str.ofString "_node2info") t1, .ref d⟩, ⟨h2, .str (Str.ofString "_ready_nodes") t2, .ref rl⟩, ⟨h3, .str (Str.ofString "_npassedout") t3, .int po tp⟩, ⟨h4, .str (Str.ofString "_nfinished") t4, .int nf tq⟩] 4) :: (rl, listOf rs.toArray kr) :: []) d st V od kv led) (hD : Dis (led ++ rest)) (lo : (d == sysModules) = false) (hol : st.order.length ≤ 80) (hrs : IntsAre rs ns) (hrl : rs.length ≤ 80) (hne : rs.length ≠ 0) (hno : ∀ x ∈ ns, x ∈ st.order) (hdd : dp < 500) (huu : un < 4000)
   (ret : ∀ h' tk V' led' D0 tpq, Fr h₀ L h' m → News h₀ L h' (led' ++ (D0, ({ cls := Value.type "tuple", data := Data.seq rs.toArray } : Obj)) :: rest) → SAt PySem.Challenge.rw_il0017_01.row.prog w ((self, instObj 195 dx) :: (dx, dictOf [⟨h1, .str (Str.ofString "_node2info") t1, .ref d⟩, ⟨h2, .str (Str.ofString "_ready_nodes") t2, .ref rl⟩, ⟨h3, .str (Str.ofString "_npassedout") t3, .int (po + (rs.length : Int)) tpq⟩, ⟨h4, .str (Str.ofString "_nfinished") t4, .int nf tq⟩] 4) :: (rl, listOf ([] : List Value).toArray (kr + 1)) :: []) d ⟨st.order, ns.foldl (fun np x => upd np x (-1)) st.np, st.ss⟩ V' od kv led' → Dis (led' ++ (D0, ({ cls := Value.type "tuple", data := Data.seq rs.toArray } : Obj)) :: rest) → Q (.ref D0) { s with heap := h', toks := tk }) :
   wpAny (model PySem.Challenge.rw_il0017_01.row.prog w) (Ar dp un gd env outer) (call (.ref 157) [.ref self]) Q E s := by
  refine hideG fun G0 hG0 => ?_
  obtain ⟨B, X, T, hf, hk, hdp, hun⟩ := Y
  refine hG0 ?_
  clear hG0
  have hpI : ∀ (i : Nat) (v : Value), rs[i]? = some v → ∃ p tp, v = Value.int p tp ∧ ns[i]? = some p := fun i v hv => hrs.at i v hv
  have hpL := hrs.length
  refine wpAny_noRaise ?_
  refine wpAny_call ?_
  k_dflt (walk_at "M enter")
  intro g' L' h' FG' F' N' B' X' T'
  walk_at "M hide"
  replace F' : Fr g' L' h' (fun y => List.lookup y [(Str.ofString "self", Value.ref self)]) := F'
  rw [H.led_] at N'
  dsimp only [List.cons_append, List.nil_append] at N'
  have hz16 : rs.toArray.size ≤ 16384 := by simp; omega
  k_steps
  rename_i tk0 D0 hA l1 hB hC fA nA
  have hD0 : ∀ q ∈ led ++ rest, q.1 ≠ D0 := by
    have hlt := tb_ltOf l1.2.2.2.2
    intro q hq
    walk_at "M hide"
    rw [H.led_] at hq
    dsimp only [List.cons_append, List.nil_append] at hq
    rcases List.mem_cons.mp hq with rfl | hq
    · exact Nat.ne_of_lt l1.1
    rcases List.mem_cons.mp hq with rfl | hq
    · exact Nat.ne_of_lt l1.2.1
    rcases List.mem_cons.mp hq with rfl | hq
    · exact Nat.ne_of_lt l1.2.2.1
    rcases List.mem_cons.mp hq with rfl | hq
    · exact Nat.ne_of_lt l1.2.2.2.1
    · exact Nat.ne_of_lt (hlt q hq)
  have N1 : News g' L' hC (led ++ (D0, ({ cls := Value.type "tuple", data := Data.seq rs.toArray } : Obj)) :: rest) := by
    refine news_sub ‹News g' L' _ _› fun q hq => ?_
    have hq' := List.perm_middle.mem_iff.mp hq
    rw [H.led_] at hq'
    exact hq'
  rename Fr g' L' _ _ => F1
  refine wpAny_noRaise ?_
  refine' For_invVF F1 (by rfl) (by rfl) ?_
  k_steps
  refine it_tuple (vs := rs) (k := 0) (GetI w self dx d rl h1 h2 h3 h4 t1 t2 t3 t4 tp po nf tq rs kr rest D0 st od kv ns) rfl F1 N1 ?_ ?_ ?_ ?_ ?_
  · exact List.mem_append_right _ (.head _)
  · exact ⟨V, led, rfl, H, (hD.cons hD0).perm List.perm_middle.symm, fun y _ => rfl⟩
  · rintro i m nx zH3
    walk_at "M hide"
    refine hideG fun G0 hG0 => ?_
    obtain ⟨V', led', rfl, _⟩ := zH3
    refine hG0 ?_
    clear hG0
    exact List.mem_append_right _ (.head _)
  · rintro i v m₁ nx h tk I oi hv hI hoff zH11 F' N'
    walk_at "M hide"
    refine hideG fun G0 hG0 => ?_
    obtain ⟨V', led', rfl, H', hD', hm⟩ := zH11
    refine hG0 ?_
    clear hG0
    rw [mform hm] at F'
    refine hideG fun G0 hG0 => ?_
    obtain ⟨x, tx, rfl, hxn⟩ := hpI i v hv
    refine hG0 ?_
    clear hG0
    have hx : x ∈ st.order := hno x (List.mem_of_getElem? hxn)
    have hD5 : Dis (led' ++ (I, oi) :: (D0, ({ cls := Value.type "tuple", data := Data.seq rs.toArray } : Obj)) :: rest) := (hD'.cons hoff).perm List.perm_middle.symm
    have N5' : News g' L' h (led' ++ (I, oi) :: (D0, ({ cls := Value.type "tuple", data := Data.seq rs.toArray } : Obj)) :: rest) := news_sub N' fun q hq => (List.perm_middle.mem_iff).mp hq
    have p3 := H'.perm (rest := (I, oi) :: (D0, ({ cls := Value.type "tuple", data := Data.seq rs.toArray } : Obj)) :: rest) hx
    have D7 := hD5.perm p3
    have N8 := news_sub N5' (fun q hq => p3.mem_iff.mpr hq)
    dsimp only [nodeL, List.cons_append, List.nil_append] at N8 D7
    refine hideG fun G0 hG0 => ?_
    obtain ⟨⟨e1n0, e1n1, e1n2, e1n3, e1n4, e1n5, e1n6, e1n7, e1n8, e1n9, e1n10, e1n11, e1n12, e1n13, e1n14, e1n15, e1n16, e1n17, e1n18, e1n19, e1n20⟩, r0, r1, r2, r3, r4⟩ := seven D7
    refine hG0 ?_
    clear hG0
    have hva := H'.val x hx
    have hodx := H'.od_
    clear N1 F1 N' N5' nA
    rename Fr g' L' h _ => F5
    with_reducible show wpAny _ _ _ _ _ _
    try k_fold
    k_steps
    rename Fr g' L' _ _ => F9
    rename News g' L' _ _ => N9
    obtain ⟨H9, hD9, hs9⟩ := H'.close (rest := (I, oi) :: (D0, ({ cls := Value.type "tuple", data := Data.seq rs.toArray } : Obj)) :: rest) hx hD5 (-1) _ (V'.ep x) (H'.ss x hx)
    have N10 := news_sub N9 hs9
    rw [upd_id] at H9
    have e9 : upd ((ns.take i).foldl (fun np x => upd np x (-1)) st.np) x (-1) = (ns.take (i + 1)).foldl (fun np x => upd np x (-1)) st.np := by
      rw [List.take_add_one, hxn, List.foldl_append]; rfl
    dsimp only at H9
    rw [e9] at H9
    exact LpEnd.intro F9 (news_sub N10 fun q hq => List.perm_middle.symm.mem_iff.mp hq) (hD9.perm List.perm_middle).ne ⟨_, _, rfl, H9, (hD9.perm List.perm_middle).tl, fun y hy => if_neg hy⟩
  · rintro m₁ nx h tk zH4 F' N'
    walk_at "M hide"
    refine hideG fun G0 hG0 => ?_
    obtain ⟨V', led', rfl, H', hD', hm⟩ := zH4
    refine hG0 ?_
    clear hG0
    rw [mform' hm] at F'
    have hz1 : rs.length ≤ 100 := by first | decide | omega
    have m0 : (D0, ({ cls := Value.type "tuple", data := Data.seq rs.toArray } : Obj)) ∈ nodesL V' st.order ++ (D0, ({ cls := Value.type "tuple", data := Data.seq rs.toArray } : Obj)) :: rest := List.mem_append_right _ (.head _)
    have D8 := hD'
    rw [H'.led_] at D8
    dsimp only [List.cons_append, List.nil_append] at D8
    refine hideG fun G0 hG0 => ?_
    obtain ⟨⟨e1n0, e1n1, e1n2, e1n3, e1n4, e1n5⟩, r0, r1, r2⟩ := four D8
    refine hG0 ?_
    clear hG0
    have hz2 : rs.toArray.toList.length ≠ 0 := hne
    have hz3 : rs.toArray.toList.length ≤ sizeLine := by rw [sizeLine_eq]; show rs.length ≤ _; omega
    have N6 := N'
    rw [H'.led_] at N6
    dsimp only [List.cons_append, List.nil_append] at N6
    k_steps
    rename Fr h₀ L _ _ => kF
    rename News h₀ L _ _ => kN
    rw [hpL, List.take_length] at H'
    obtain ⟨tpq, kN'⟩ : ∃ tpq, News h₀ L _ ((self, instObj 195 dx) :: (dx, dictOf [⟨h1, .str (Str.ofString "_node2info") t1, .ref d⟩, ⟨h2, .str (Str.ofString "_ready_nodes") t2, .ref rl⟩, ⟨h3, .str (Str.ofString "_npassedout") t3, .int (po + (rs.length : Int)) tpq⟩, ⟨h4, .str (Str.ofString "_nfinished") t4, .int nf tq⟩] 4) :: (rl, listOf ([] : List Value).toArray (kr + 1)) :: (d, od) :: (nodesL V' st.order ++ (D0, ({ cls := Value.type "tuple", data := Data.seq rs.toArray } : Obj)) :: rest)) := ⟨_, kN⟩
    refine ret _ _ V' _ D0 tpq kF (news_sub kN' fun q hq => ?_) (H'.hd _) (Dis.addr hD' (by rw [H'.led_]; rfl))
    first
      | exact List.perm_middle.mem_iff.mp hq
      | exact List.perm_middle.symm.mem_iff.mp hq
      | (simp only [List.mem_append, List.mem_cons, List.cons_append, List.nil_append] at hq ⊢; rcases hq with h | h | h | h | h | h | h <;> simp [h])
end
section
theorem flush_W8 : (1 : Nat) ≤ 2 := by
  w_top off
  first | walk1 | decide
local macro_rules | `(tactic| walk_at "W m_room") => `(tactic| first
  | ((try simp only [depth_under_make, depth_under_kw, depth_in1, depth_deeper, depth_caller, recursionLimit] at *); omega)
  | decide)
local macro_rules | `(tactic| walk_at "W m_enterS") => `(tactic| (refine' code_defS ?k1 ?k2 ?k3 ?k4 ?k5 ?XB ?TB ?D ?T0 ?kA ?k6 ?k7 ?k8 ?k9 ?kB ?_ ?cK ?c2 ?c3 ?c4 ?c5; (case kA => exact rfl); (case k2 => k_asm); (case k1 => k_asm); (case XB => assumption); (case TB => assumption); (case D => assumption); (case T0 => assumption); (case k3 => k_asm); (case k4 => k_asm); (case k5 => k_asm); (case k6 => k_is); (case k7 => k_is); (case k8 => walk_at "W m_room"); (case k9 => exact BindsTo.of_eq rfl); (case kB => exact locs rfl); (case cK => first | exact rfl | assumption); (case c2 => exact rfl); (case c3 => exact rfl); (case c4 => exact rfl); (case c5 => decide); k_whole))
local macro_rules | `(tactic| walk_at "W m_enter") => `(tactic| (refine' code_def ?k1 ?k2 ?k3 ?k4 ?k5 ?kA ?kF ?kK ?k6 ?k7 ?k8 ?k9 ?kB ?_ ?c2 ?c3 ?c4 ?c5; (case kA => exact rfl); (case kF => first | exact rfl | assumption); (case kK => first | exact rfl | assumption); (case k1 => k_asm); (case k2 => k_asm); (case k3 => k_asm); (case k4 => k_asm); (case k5 => k_asm); (case k6 => k_is); (case k7 => k_is); (case k8 => walk_at "W m_room"); (case k9 => exact BindsTo.of_eq rfl); (case c5 => decide); (case kB => exact locs rfl); (case c2 => exact rfl); (case c3 => exact rfl); (case c4 => exact rfl); k_whole))
local macro_rules | `(tactic| walk_at "call builtin:list.pop") => `(tactic| (k_here; k_dflt (refine' pop_last ?F ?N ?U ?z ?_; (case F => k_asm); (case N => k_asm); (case U => k_upd); (case z => with_reducible assumption)); intro h' F' N'))
local macro_rules | `(tactic| size_fits) => `(tactic| assumption)
local macro_rules | `(tactic| walk_at "call builtin:set.add") => `(tactic| (k_here; k_dflt (refine' set_add_i ?F ?N ?U ?d ?z ?_; (case F => k_asm); (case N => k_asm); (case U => k_updF); (case d => k_asm); (case z => (unfold scanBound; omega))); intro h' o' F' N' hs'; (try dsimp only at N')))
local macro_rules | `(tactic| walk_at "delItem ref int") => `(tactic| (k_here; k_dflt (refine' kob_del (knd := PySem.intKind _ _) ?F ?N ?U ?d (intKind_is _ _ _ _) ?l ?z ?_; (case F => k_asm); (case N => k_asm); (case U => k_updF); (case d => k_asm); (case l => with_reducible assumption); (case z => with_reducible assumption)); intro h' o' F' N' hd'; (try dsimp only at N')))
local macro_rules | `(tactic| walk_at "compareOp In int ref") => `(tactic| (k_here; kse_here; k_dflt (refine' set_in_b ?N ?U ?d _ ?hb ?z ?_; (case N => k_asm); (case U => k_updF); (case d => k_asm); (case hb => with_reducible assumption); (case z => (unfold scanBound; omega)))))
theorem find_cycle {w : World} {mean : ExcName → Option Value} {mg mb : PySem.Str → Option Value} {A₀ : Around} {base g₀ h₀ : Heap} {L a₀ : Addr} {cn : PySem.Str} {cs : Scope} {ccd : Value} {outer : List Env} {dp un : Nat} {gd : Option (List Code)}
   {m : PySem.Str → Option Value} {news : List (Addr × Obj)} {s : Shared} {Q E : Value → Shared → Prop}
   {self dx d : Addr} {h1 h2 h3 h4 : Int} {t1 t2 t3 t4 : Tok} {n : Nat} {v2 v3 v4 : Value} {od : Obj} {kv0 : List (Int × Value)}
   {order : List Int} {ss : Int → List Int} {ia ida sa : Int → Addr} {np : Int → Int} {tp tn : Int → Tok} {sv : Int → List Value} {ep : Int → Nat}
   (Z : Gd (hd17.heap_1 w.params) view17 (looseW view17 [Str.ofString "b2a_base64", Str.ofString "b64encode", Str.ofString "_NodeInfo"]) mean mg mb A₀ base outer g₀ h₀) (hck : cs.kind = .function) (hdp : dp < 600) (hun : un < 5000)
   (F : Fr h₀ L s.heap m) (N : News h₀ L s.heap news) 
   (hself : (self, instObj 195 dx) ∈ news)
   (hdx : (dx, dictOf [⟨h1, .str (Str.ofString "_node2info") t1, .ref d⟩, ⟨h2, .str (Str.ofString "_ready_nodes") t2, v2⟩, ⟨h3, .str (Str.ofString "_npassedout") t3, v3⟩, ⟨h4, .str (Str.ofString "_nfinished") t4, v4⟩] n) ∈ news)
   (hd : (d, od) ∈ news) (hod : od.IsDictOf (intKind PySem.Challenge.rw_il0017_01.row.prog w) kv0) (lo : (d == sysModules) = false)
   (hkeys : kv0.map (·.1) = order) (hval : ∀ x ∈ order, valueAt kv0 x = some (.ref (ia x)))
   (hinfo : ∀ x ∈ order, (ia x, infoObj (ida x) (sa x) (np x) (tp x) x (tn x)) ∈ news ∧ (ida x, dictOf [] 0) ∈ news ∧ (sa x, listOf (sv x).toArray (ep x)) ∈ news)
   (hints : ∀ x ∈ order, IntsAre (sv x) (ss x)) (hnd : order.Nodup) (hclos : ∀ x ∈ order, ∀ y ∈ ss x, y ∈ order) (hol : order.length ≤ 8)
   (ret0 : ∀ g' h' tk, ¬ Ring ss order → Gd (hd17.heap_1 w.params) view17 (looseW view17 [Str.ofString "b2a_base64", Str.ofString "b64encode", Str.ofString "_NodeInfo"]) mean mg mb A₀ base outer g₀ g' → Fr g' L h' m → News g' L h' news → Q .none { s with heap := h', toks := tk })
   (ret1 : ∀ (g' h' : Heap) (tk : Nat) (a : Addr) (vs : List Value) (k : Nat), Ring ss order → 0 < vs.length → vs.length ≤ 9 → Gd (hd17.heap_1 w.params) view17 (looseW view17 [Str.ofString "b2a_base64", Str.ofString "b64encode", Str.ofString "_NodeInfo"]) mean mg mb A₀ base outer g₀ g' → Fr g' L h' m → News g' L h' ((a, listOf vs.toArray k) :: news) → Q (.ref a) { s with heap := h', toks := tk }) :
   wpAny (model PySem.Challenge.rw_il0017_01.row.prog w) (Ar dp un gd (envOf cn cs L a₀ ccd) outer) (call (.ref 185) [.ref self]) Q E s := by
  refine hideG fun G0 hG0 => ?_
  obtain ⟨B, X, T, XB, TB, D, U⟩ := Z
  refine hG0 ?_
  clear hG0
  refine wpAny_noRaise ?_
  refine wpAny_call ?_
  k_dflt walk_at "W m_enterS"
  intro g' L' h' FG' F' N' B' X' T' D'
  walk_at "M hide"
  replace F' : Fr g' L' h' (fun y => List.lookup y [(Str.ofString "self", Value.ref self)]) := F'
  k_steps
  rename News g' L' _ _ => N1
  rename Fr g' L' _ _ => F1
  refine wpAny_noRaise ?_
  have hz : Gd (hd17.heap_1 w.params) view17 (looseW view17 [Str.ofString "b2a_base64", Str.ofString "b64encode", Str.ofString "_NodeInfo"]) mean mg mb (Ar dp un gd (envOf cn cs L a₀ ccd) outer) base (envOf cn cs L a₀ ccd :: outer) g' g' := ⟨B', X', T', XB, TB, D', .refl⟩
  refine' For_G (Gd (hd17.heap_1 w.params) view17 (looseW view17 [Str.ofString "b2a_base64", Str.ofString "b64encode", Str.ofString "_NodeInfo"]) mean mg mb (Ar dp un gd (envOf cn cs L a₀ ccd) outer) base (envOf cn cs L a₀ ccd :: outer) g') (by rfl) (by rfl) ?_
  k_steps
  rename_i a1 ls a2 q1 a3 tk1 li a4 q2 a5 ds a6 led q3 q4 q5 a7 dn a8 on lon q6 q7 hon q8 q9 a9
  rename News g' L' _ _ => N1
  rename Fr g' L' _ _ => F1
  obtain ⟨c1, q2⟩ := q2
  obtain ⟨c2, c3, q5⟩ := q5
  refine hideG fun G0 hG0 => ?_
  obtain ⟨c4, c5, c6, q9⟩ := q9
  refine hG0 ?_
  clear hG0
  replace q2 := ktn_ltOf q2
  replace q5 := ktn_ltOf q5
  replace q9 := ktn_ltOf q9
  have h1 : ∀ p ∈ news, p.1 ≠ dn := fun p hp => Nat.ne_of_lt (q9 p hp)
  have h2 : ∀ p ∈ news, p.1 ≠ ds := fun p hp => Nat.ne_of_lt (q5 p hp)
  have h3 : ∀ p ∈ news, p.1 ≠ li := fun p hp => Nat.ne_of_lt (q2 p hp)
  have h4 : ∀ p ∈ news, p.1 ≠ ls := fun p hp => Nat.ne_of_lt (q1 p hp)
  refine itG_keys (knd := intKind PySem.Challenge.rw_il0017_01.row.prog w) (fun i m nx => ∃ U fin kvs on os S c ti ts, nx = (dn, on) :: (ds, os) :: (li, listOf #[] ti) :: (ls, listOf #[] ts) :: news ∧
     FS PySem.Challenge.rw_il0017_01.row.prog w ss order U sa dn [] fin none kvs on os S c [] ∧ (∀ j x, j < i → order[j]? = some x → x ∉ U) ∧
     ∀ y, y ≠ Str.ofString "node" → m y = (fun y => if y = Str.ofString "node2stacki" then some (Value.ref dn) else if y = Str.ofString "seen" then some (Value.ref ds) else if y = Str.ofString "itstack" then some (Value.ref li) else if y = Str.ofString "stack" then some (Value.ref ls) else if y = Str.ofString "n2i" then some (Value.ref d) else List.lookup y [(Str.ofString "self", Value.ref self)]) y)
     lo hod rfl hz F1 N1 (.tail _ (.tail _ (.tail _ (.tail _ hd)))) ?_ ?_ ?_ ?_
  · refine ⟨order, [], [], on, _, fun _ => false, 0, 0, 0, rfl, ⟨.start hnd hclos, hon, fun k => ⟨fun _ => rfl, fun j q => by cases q⟩, by simp, q3, fun k => by simp, by simp, .nil, trivial⟩, fun j x hj => absurd hj (Nat.not_lt_zero _), fun y _ => rfl⟩
  · rintro i m nx zH3
    walk_at "M hide"
    refine hideG fun G0 hG0 => ?_
    obtain ⟨U, fin, kvs, on, os, S, c, ti, ts, rfl, _⟩ := zH3
    refine hG0 ?_
    clear hG0
    exact .tail _ (.tail _ (.tail _ (.tail _ hd)))
  · rintro i v kk xx g₁ m₁ nx h tk I oi hki hkk hI hoff zH15 hz1 F2 N2
    walk_at "M hide"
    refine hideG fun G0 hG0 => ?_
    obtain ⟨U, fin, kvs, on, os, S, c, ti, ts, rfl, H, hU, hm⟩ := zH15
    refine hG0 ?_
    clear hG0
    have hz1' := hz1
    refine hideG fun G0 hG0 => ?_
    obtain ⟨B1, X1, T1, _, _, D1, U1⟩ := hz1
    refine hG0 ?_
    clear hG0
    clear B' X' T' D' hz
    obtain ⟨t, rfl⟩ := Value.isInt_shape hkk
    with_reducible show wpAny _ _ _ _ _ _
    try k_fold
    rw [mform hm] at F2
    have hio : order[i]? = some kk := by rw [← hkeys, List.getElem?_map, hki]; rfl
    have hkin : kk ∈ order := List.mem_of_getElem? hio
    have hc := H.sc
    have hI1 := neN (hoff _ (.head _))
    have hI2 := neN (hoff _ (.tail _ (.head _)))
    have hI3 := neN (hoff _ (.tail _ (.tail _ (.head _))))
    have hI4 := neN (hoff _ (.tail _ (.tail _ (.tail _ (.head _)))))
    dsimp only at hI1 hI2 hI3 hI4
    have hIa1 := ltN (hI _ (.head _))
    have hIa2 := ltN (hI _ (.tail _ (.head _)))
    have hIa3 := ltN (hI _ (.tail _ (.tail _ (.head _))))
    have hIa4 := ltN (hI _ (.tail _ (.tail _ (.tail _ (.head _)))))
    have hIn : ∀ p ∈ news, p.1 < I := fun p hp => hI p (.tail _ (.tail _ (.tail _ (.tail _ hp))))
    dsimp only at hIa1 hIa2 hIa3 hIa4
    have hosx := H.os_
    have honx := H.on_
    by_cases hseen : kk ∈ U
    · have hS : S kk = false := H.unseen hseen
      walk_at "M steps"
      rename News g₁ _ _ ((I, oi) :: _) => N3
      rename Fr g₁ _ h _ => F3
      refine whG_inv (Z := (Gd (hd17.heap_1 w.params) view17 (looseW view17 [Str.ofString "b2a_base64", Str.ofString "b64encode", Str.ofString "_NodeInfo"]) mean mg mb (Ar dp un gd (envOf cn cs L a₀ ccd) outer) base (envOf cn cs L a₀ ccd :: outer) g')) (n₀ := mu ss U []) (FcJ PySem.Challenge.rw_il0017_01.row.prog w ss order sa dn ds li ls I oi news (fun y => if y = Str.ofString "node2stacki" then some (Value.ref dn) else if y = Str.ofString "seen" then some (Value.ref ds) else if y = Str.ofString "itstack" then some (Value.ref li) else if y = Str.ofString "stack" then some (Value.ref ls) else if y = Str.ofString "n2i" then some (Value.ref d) else List.lookup y [(Str.ofString "self", Value.ref self)]) kk i) hz1' F3 N3 ?_ ?_
      · refine ⟨U, [], fin, kk, rfl, hkin, ⟨t, by rfl⟩, ⟨kvs, on, os, S, c, ti, ts, [], rfl, ⟨H.D.root, H.on_, H.kv, H.kl, H.os_, H.sv, H.sc, .nil, trivial⟩, fun y hy => if_neg hy⟩, .inr rfl, hU⟩
      · rintro n g₂ m₂ nx h₂ tk₂ hz2 F4 N4 zH9
        walk_at "M hide"
        refine hideG fun G0 hG0 => ?_
        obtain ⟨U', R, fin', y, rfl, hyo, ⟨ty, hty⟩, ⟨kvs', on', os', S', c', ti', ts', stk, rfl, H', hm'⟩, hkk', hU'⟩ := zH9
        refine hG0 ?_
        clear hG0
        have hz2' := hz2
        refine hideG fun G0 hG0 => ?_
        obtain ⟨B2, X2, T2, _, _, D2, U2⟩ := hz2
        refine hG0 ?_
        clear hG0
        clear B1 X1 T1 D1 U1
        rw [mform' hm', hty] at F4
        have hc' := H'.sc
        have hkl := H'.kl
        have hosx' := H'.os_
        have honx' := H'.on_
        with_reducible show wpAny _ _ _ _ _ _
        try k_fold
        walk1
        walk1
        walk1
        refine unQ (by with_reducible assumption) ?_
        (try dsimp only)
        rw [if_pos rfl]
        refine wpAny_execs_cons ?_
        refine hideQ fun QW hQW => ?_
        obtain ⟨PP, hPP⟩ : ∃ PP : Shared → Prop, ∀ s₂, PP s₂ ↔ ∃ g5 m5 led5 h5 tk5 U5 R5 fin5, s₂ = { s with heap := h5, toks := tk5 } ∧ (Gd (hd17.heap_1 w.params) view17 (looseW view17 [Str.ofString "b2a_base64", Str.ofString "b64encode", Str.ofString "_NodeInfo"]) mean mg mb (Ar dp un gd (envOf cn cs L a₀ ccd) outer) base (envOf cn cs L a₀ ccd :: outer) g') g5 ∧ Fr g5 L' h5 m5 ∧ News g5 L' h5 led5 ∧ FcAt PySem.Challenge.rw_il0017_01.row.prog w ss order sa dn ds li ls I oi news (fun y => if y = Str.ofString "node2stacki" then some (Value.ref dn) else if y = Str.ofString "seen" then some (Value.ref ds) else if y = Str.ofString "itstack" then some (Value.ref li) else if y = Str.ofString "stack" then some (Value.ref ls) else if y = Str.ofString "n2i" then some (Value.ref d) else List.lookup y [(Str.ofString "self", Value.ref self)]) U5 R5 fin5 none m5 led5 ∧ mu ss U5 R5 ≤ mu ss U' R ∧ kk ∉ U5 ∧ (∀ j x, j < i → order[j]? = some x → x ∉ U5) := ⟨_, fun _ => Iff.rfl⟩
        refine wpAny_mono (Q := PartPost PP QW) ?_ ?_ (fun _ _ e => e)
        · rcases (H'.D.mem_iff).mp hyo with hy | hy | hy
          · have hS' : S' y = false := H'.unseen hy
            have hv := hval y hyo
            obtain ⟨hi1, hi2, hi3⟩ := hinfo y hyo
            have g0 := List.length_pos_of_mem hy
            have g1 := fr_off H'.fr hIa1 h1
            have g2 := fr_off H'.fr hIa2 h2
            have g3 := fr_off H'.fr hIa3 h3
            have g4 := fr_off H'.fr hIa4 h4
            have hRl : R.length ≤ 8 := by have := H'.D.lens; omega
            have hsl := H'.stklen
            have g5 : (itV R).toArray.size ≤ sizeLine := small_size (by rw [itV_len]; omega)
            have g6 : stk.toArray.size ≤ sizeLine := small_size (by first | decide | omega)
            have g8 : stk.length ≤ 8 := by first | decide | omega
            have g7 : kvs'.length ≤ sizeLine := small_kvs (by first | decide | omega)
            have hself := List.mem_append_right (frL sa R) hself
            have hdx := List.mem_append_right (frL sa R) hdx
            have hd := List.mem_append_right (frL sa R) hd
            have hi1 := List.mem_append_right (frL sa R) hi1
            have hi2 := List.mem_append_right (frL sa R) hi2
            have hi3 := List.mem_append_right (frL sa R) hi3
            walk_at "M steps"
            rename_i tkA hA oS fA nA hSet tkB it hB fB nB lA qq hC fC nC lB hD fD nD tkC tt tkD hE oD fE nE hDi tkE hF fF nF
            have lA' := ktn_ltOf lA.2.2.2.2.2
            refine (hPP _).mpr ⟨g₂, _, (I, oi) :: (dn, oD) :: (ds, oS) :: (li, listOf (itV (⟨y, 0, it, qq⟩ :: R)).toArray (ti' + 1)) :: (ls, listOf (stk ++ [Value.int y ty]).toArray (ts' + 1)) :: (frL sa (⟨y, 0, it, qq⟩ :: R) ++ news), hF, _, U'.erase y, ⟨y, 0, it, qq⟩ :: R, fin', rfl, hz2', fF, ?_, ⟨_, oD, oS, _, _, _, _, stk ++ [Value.int y ty], rfl, H'.push (t := tt) (t' := ty) hy (by rw [hsl]) hDi hSet lA.1 lB.1 fun p hp => lA' p (List.mem_append_left _ hp), fun z hz => if_neg hz⟩, Nat.le_of_eq (mu_push hy it qq), ?_, ?_⟩
            · rw [itV_cons, frL_cons]
              refine news_sub nF fun p hp => ?_
              rw [List.cons_append, List.cons_append] at hp
              exact mem_rot7 hp
            · intro hkk
              walk_at "M hide"
              rcases hkk' with q | q
              · exact q (List.mem_of_mem_erase hkk)
              · rw [q] at hkk
                exact H'.D.Unodup.not_mem_erase hkk
            · intro j x hj hx hm
              walk_at "M hide"
              exact hU' j x hj hx (List.mem_of_mem_erase hm)
          · have hS' : S' y = true := (H'.sv y).mpr (.inl hy)
            obtain ⟨j, hj⟩ : ∃ j, idx R y = some j := by
              cases e : idx R y with
              | some j => exact ⟨j, rfl⟩
              | none => exact absurd hy (idx_none.mp e)
            obtain ⟨tj, hvj⟩ := (H'.kv y).2 j hj
            have hN : (valueAt kvs' y).isSome = true := by rw [hvj]; rfl
            have hRl : R.length ≤ 8 := by have := H'.D.lens; omega
            have hsl := H'.stklen
            have g8 : stk.length ≤ 8 := by first | decide | omega
            have g6 : stk.toArray.size ≤ sizeLine := small_size (by first | decide | omega)
            walk_at "M steps"
            show QW (Flow.ret _) _
            refine unQ hQW ?_
            (try dsimp only)
            dsimp only [WgPost]
            refine unQ (by with_reducible assumption) ?_
            dsimp only [LgPost]
            k_steps
            rename_i D0 us' hU1 hl' he' lD l0 hU2 fU nU lE hU3 fU3 nU3 kg kT kF kN kB kX₀ kP kD kX
            refine ret1 kg _ _ _ (us' ++ [Value.int y ty]) 0 (H'.D.cycle hy) (by simp) (by simp; omega) ⟨kB, kX, kP, XB, TB, kD, kT⟩ kF (news_sub kN fun p hp => ?_)
            rcases List.mem_cons.mp hp with q | hp
            · rw [q]; exact .head _
            · exact .tail _ (.tail _ (.tail _ (.tail _ (.tail _ (.tail _ (.tail _ (.tail _ (List.mem_append_right _ hp))))))))
          · have hS' : S' y = true := (H'.sv y).mpr (.inr hy)
            have hN : (valueAt kvs' y).isSome = false := by
              rw [(H'.kv y).1 (idx_none.mpr fun q => H'.D.offR q hy)]; rfl
            walk_at "M steps"
            rename News g₂ _ _ _ => N4
            rename Fr g₂ _ _ _ => F4
            refine (hPP _).mpr ⟨g₂, _, _, h₂, _, U', R, fin', rfl, hz2', F4, N4, ⟨kvs', on', os', S', c', ti', ts', stk, rfl, H'.skip hy, fun z hz => if_neg hz⟩, Nat.le_refl _, ?_, hU'⟩
            intro hkk
            rcases hkk' with q | q
            · exact q hkk
            · rw [← q] at hkk
              exact (H'.D.offU hkk).2 hy
        · intro f s₂ hp
          walk_at "M hide"
          cases f with
          | ret v => exact hp
          | brk => exact hp
          | cont => exact hp
          | next =>
            refine hideG fun G0 hG0 => ?_
            obtain ⟨g5, m5, led5, h5, tk5, U5, R5, fin5, rfl, hz5, F5, N5, hK, hmu, hkk5, hU5⟩ := (hPP _).mp hp
            refine hG0 ?_
            clear hG0
            clear hkk' hU' hz2' B2 X2 T2 D2 U2
            walk_at "M steps"
            refine whG_inv (Z := (Gd (hd17.heap_1 w.params) view17 (looseW view17 [Str.ofString "b2a_base64", Str.ofString "b64encode", Str.ofString "_NodeInfo"]) mean mg mb (Ar dp un gd (envOf cn cs L a₀ ccd) outer) base (envOf cn cs L a₀ ccd :: outer) g')) (n₀ := R5.length) (FcK PySem.Challenge.rw_il0017_01.row.prog w ss order sa dn ds li ls I oi news (fun y => if y = Str.ofString "node2stacki" then some (Value.ref dn) else if y = Str.ofString "seen" then some (Value.ref ds) else if y = Str.ofString "itstack" then some (Value.ref li) else if y = Str.ofString "stack" then some (Value.ref ls) else if y = Str.ofString "n2i" then some (Value.ref d) else List.lookup y [(Str.ofString "self", Value.ref self)]) U5 (mu ss U' R)) hz5 F5 N5 ⟨R5, fin5, rfl, hmu, hK⟩ ?_
            rintro n gg m₆ nx h₆ tk₆ hz6 F6 N6 zH9
            walk_at "M hide"
            refine hideG fun G0 hG0 => ?_
            obtain ⟨R6, fin6, rfl, hmu6, ⟨kvs6, on6, os6, S6, c6, ti6, ts6, stk6, rfl, H6, hm6⟩⟩ := zH9
            refine hG0 ?_
            clear hG0
            have hz6' := hz6
            refine hideG fun G0 hG0 => ?_
            obtain ⟨B6, X6, T6, _, _, D6, U6⟩ := hz6
            refine hG0 ?_
            clear hG0
            clear F5 N5 hK hz5
            rw [mform' hm6] at F6
            have hon6 := H6.on_
            have hkl6 := H6.kl
            have g1 := fr_off H6.fr hIa1 h1
            have g2 := fr_off H6.fr hIa2 h2
            have g3 := fr_off H6.fr hIa3 h3
            have g4 := fr_off H6.fr hIa4 h4
            have hRl := H6.D.lens
            have hsl := H6.stklen
            have g7 : kvs6.length ≤ sizeLine := small_kvs (by first | decide | omega)
            with_reducible show wpAny _ _ _ _ _ _
            try k_fold
            cases R6 with
            | nil =>
              have hst : stk6 = [] := List.eq_nil_of_length_eq_zero hsl
              subst hst
              have hb : (!([] : List Value).isEmpty) = false := rfl
              have g6 : ([] : List Value).toArray.size ≤ sizeLine := Nat.zero_le _
              walk_at "M steps"
              dsimp only [WgPost]
              k_steps
              try (refine unQ (by with_reducible assumption) ?_)
              refine LgEnd.intro hz6' F6 N6 ?_ ⟨U5, fin6, kvs6, on6, os6, S6, c6, ti6, ts6, rfl, ⟨H6.D, H6.on_, H6.kv, H6.kl, H6.os_, H6.sv, H6.sc, H6.stk_, trivial⟩, ?_, fun y hy => if_neg hy⟩
              · intro q hq e
                walk_at "M hide"
                rcases List.mem_cons.mp hq with rfl | hq
                · exact hI1 e
                rcases List.mem_cons.mp hq with rfl | hq
                · exact hI2 e
                rcases List.mem_cons.mp hq with rfl | hq
                · exact hI3 e
                rcases List.mem_cons.mp hq with rfl | hq
                · exact hI4 e
                · exact Nat.ne_of_lt (hIn q hq) e
              · intro j x hj hx
                walk_at "M hide"
                by_cases e : j = i
                · rw [e, hio] at hx
                  cases hx
                  exact hkk5
                · exact hU5 j x (by first | decide | omega) hx
            | cons f r =>
              obtain ⟨us, tu, rfl, hus⟩ : ∃ us t, stk6 = us ++ [.int f.n t] ∧ IntsAre us (r.reverse.map (·.n)) := ints_unsnoc (by simpa using H6.stk_)
              rw [itV_cons, frL_cons, List.cons_append, List.cons_append] at N6
              have hfo : f.n ∈ order := H6.D.mem_iff.mpr (.inr (.inl (by simp)))
              obtain ⟨hi1, hi2, hi3⟩ := hinfo f.n hfo
              have hfr := H6.fr
              unfold FrOK at hfr
              refine hideG fun G0 hG0 => ?_
              obtain ⟨e1, e2, e3, e4⟩ := hfr
              refine hG0 ?_
              clear hG0
              have hb : (!(us ++ [Value.int f.n tu]).isEmpty) = true := by simp
              have hrl : r.length ≤ 8 := by rw [List.length_cons] at hRl; omega
              have g5 : (itV r ++ [Value.ref f.q]).toArray.size ≤ sizeLine := small_size (by rw [List.length_append, itV_len]; simp; omega)
              have g6 : (us ++ [Value.int f.n tu]).toArray.size ≤ sizeLine := small_size (by rw [hsl]; simp; omega)
              have k1 := fr_off e4 hIa1 h1
              have k2 := fr_off e4 hIa2 h2
              have k3 := fr_off e4 hIa3 h3
              have k4 := fr_off e4 hIa4 h4
              have k5 : ∀ p ∈ frL sa r ++ news, p.1 ≠ f.it := fr_top e3 e1 hIn
              have k6 : ∀ p ∈ frL sa r ++ news, p.1 ≠ f.q := fr_top (fun p hp => Nat.lt_trans (e3 p hp) e2) (Nat.lt_trans e1 e2) hIn
              have hi3 := List.mem_append_right (frL sa r) hi3
              cases hx : (ss f.n)[f.p]? with
              | some z =>
                obtain ⟨tz, hz⟩ := (hints f.n hfo).get f.p z hx
                walk_at "M steps"
                dsimp only [WgPost]
                k_steps
                dsimp only [WgPost]
                rename News gg L' _ _ => N7
                rename Fr gg L' _ _ => F7
                have hmt := mu_take (U := U5) (R := r) hx
                try (refine unQ (by with_reducible assumption) ?_)
                refine WgEnd.intro (n' := mu ss U5 ({ f with p := f.p + 1 } :: r)) hz6' F7 N7 (by first | decide | omega) ⟨U5, { f with p := f.p + 1 } :: r, fin6, z, rfl, hclos f.n hfo z (List.mem_of_getElem? hx), ⟨tz, by rfl⟩, ⟨kvs6, on6, os6, S6, c6, ti6, ts6, us ++ [Value.int f.n tu], by rw [itV_cons, frL_cons]; rfl, H6.take hx, fun y hy => (if_neg hy).trans (if_neg hy)⟩, .inl hkk5, hU5⟩
              | none =>
                have hz : (sv f.n)[f.p]? = none := by
                  have := (hints f.n hfo).length
                  simp at hx ⊢; omega
                walk_at "M steps"
                rename_i hh1 hh2 ee F8 N8 hx8
                k_dflt (refine' caught_own (T' := "StopIteration") hz6' hx8 F8 N8 ?ex boot_Stop ?hn isExc_Stop notTuple_Stop isSubtype_stop ?_; (case ex => k_is); (case hn => decide))
                intro h9 g9 hz9 F9 N9
                walk_at "M hide"
                have hz9' := hz9
                refine hideG fun G0 hG0 => ?_
                obtain ⟨B9, X9, T9, _, _, D9, U9⟩ := hz9
                refine hG0 ?_
                clear hG0
                clear B6 X6 T6 D6 U6 hz6' F6 N6 F8 N8 hx8
                obtain ⟨td, hvd⟩ := (H6.kv f.n).2 r.length (by unfold idx; rw [if_pos rfl])
                have hvd' : (valueAt kvs6 f.n).isSome = true := by rw [hvd]; rfl
                walk_at "M steps"
                rename_i o9 _ _ hd9 _ _ _
                rename News g9 L' _ _ => N7
                rename Fr g9 L' _ _ => F7
                try (refine unQ (by with_reducible assumption) ?_)
                refine WgEnd.intro (n' := r.length) hz9' F7 (news_sub (b := (I, oi) :: (dn, o9) :: (ds, os6) :: (li, listOf (itV r).toArray (ti6 + 1)) :: (ls, listOf us.toArray (ts6 + 1)) :: (frL sa r ++ news)) N7 fun p hp => ?_) (by simp) ⟨r, f.n :: fin6, rfl, Nat.le_trans mu_pop hmu6, ⟨_, o9, os6, S6, c6, ti6 + 1, ts6 + 1, us, rfl, H6.pop hx hd9, fun y hy => if_neg hy⟩⟩
                simp only [List.mem_cons] at hp ⊢
                rcases hp with h | h | h | h | h | h <;> simp [h]
    · have hS : S kk = true := by
        refine (H.sv kk).mpr (.inr ?_)
        rcases H.D.mem_iff.mp hkin with q | q | q
        · exact absurd q hseen
        · cases q
        · exact q
      walk_at "M steps"
      try (refine unQ (by with_reducible assumption) ?_)
      try (refine unQ (by with_reducible assumption) ?_)
      refine LgEnd.intro hz1' F2 N2 hoff ⟨U, fin, kvs, on, os, S, c, ti, ts, rfl, H, fun j x hj hx => ?_, fun y hy => if_neg hy⟩
      by_cases e : j = i
      · rw [e, hio] at hx
        cases hx
        exact hseen
      · exact hU j x (by first | decide | omega) hx
  · rintro g₁ m₁ nx h tk zH5 zH6 F2 N2
    walk_at "M hide"
    refine hideG fun G0 hG0 => ?_
    obtain ⟨U, fin, kvs, on, os, S, c, ti, ts, rfl, H, hU, hm⟩ := zH5
    obtain ⟨B1, X1, T1, _, _, D1, U1⟩ := zH6
    refine hG0 ?_
    clear hG0
    clear B' X' T' D'
    k_steps
    have hUn : U = [] := by
      refine List.eq_nil_iff_forall_not_mem.mpr fun x hx => ?_
      have hxo : x ∈ order := H.D.mem_iff.mpr (.inl hx)
      obtain ⟨j, hj, e⟩ := List.mem_iff_getElem.mp hxo
      refine hU j x ?_ ?_ hx
      · rw [← hkeys] at hj; simpa using hj
      · rw [List.getElem?_eq_getElem hj, e]
    rename_i kg kT kF kN kB kX₀ kP kD kX
    exact ret0 kg h tk (H.D.none hUn) ⟨kB, kX, kP, XB, TB, kD, kT⟩ kF (news_sub kN fun p hp => .tail _ (.tail _ (.tail _ (.tail _ hp))))
end
section
theorem flush_A5 : (1 : Nat) ≤ 2 := by
  w_top off
  first | walk1 | decide
inductive DoneI (w : World) (self dx d rl : Addr) (h1 h2 h3 h4 : Int) (t1 t2 t3 t4 tp : Tok) (po nf : Int) (ps : List Value) (rest : List (Addr × Obj)) (D0 : Addr) (st : Ab) (od : Obj) (kv : List (Int × Value)) (ns rn : List Int) (i : Nat) (m : PySem.Str → Option Value) (nx : List (Addr × Obj)) : Prop where
  | mk : ∀ V' led' a rs' krr tqq, (nx = led' ++ (D0, ({ cls := Value.type "tuple", data := Data.seq ps.toArray } : Obj)) :: rest) → (SAt PySem.Challenge.rw_il0017_01.row.prog w ((self, instObj 195 dx) :: (dx, dictOf [⟨h1, .str (Str.ofString "_node2info") t1, .ref d⟩, ⟨h2, .str (Str.ofString "_ready_nodes") t2, .ref rl⟩, ⟨h3, .str (Str.ofString "_npassedout") t3, .int po tp⟩, ⟨h4, .str (Str.ofString "_nfinished") t4, .int (nf + (i : Int)) tqq⟩] 4) :: (rl, listOf rs'.toArray krr) :: []) d ⟨st.order, a.1, st.ss⟩ V' od kv led') → (IntsAre rs' a.2) → (a = (ns.take i).foldl (doneOne st.ss) (st.np, rn)) → (Dis nx) → (rs'.length ≤ 100 + 80 * i) → (∀ y, y ≠ Str.ofString "node" → y ≠ Str.ofString "nodeinfo" → y ≠ Str.ofString "stat" → y ≠ Str.ofString "successor" → y ≠ Str.ofString "successor_info" → m y = (fun y => if y = Str.ofString "n2i" then some (Value.ref d) else List.lookup y [(Str.ofString "nodes", Value.ref D0), (Str.ofString "self", Value.ref self)]) y) → DoneI w self dx d rl h1 h2 h3 h4 t1 t2 t3 t4 tp po nf ps rest D0 st od kv ns rn i m nx
inductive DoneK (w : World) (self dx d rl : Addr) (h1 h2 h3 h4 : Int) (t1 t2 t3 t4 tp : Tok) (po nf : Int) (ps : List Value) (rest : List (Addr × Obj)) (D0 : Addr) (st : Ab) (od : Obj) (kv : List (Int × Value)) (I : Addr) (oi : Obj) (a : (Int → Int) × List Int) (i : Nat) (V' : SV) (x : Int) (tx tqq : Tok) (j : Nat) (m : PySem.Str → Option Value) (nx : List (Addr × Obj)) : Prop where
  | mk : ∀ V'' led'' b rs'' kr'', (nx = led'' ++ (I, oi) :: (D0, ({ cls := Value.type "tuple", data := Data.seq ps.toArray } : Obj)) :: rest) → (SAt PySem.Challenge.rw_il0017_01.row.prog w ((self, instObj 195 dx) :: (dx, dictOf [⟨h1, .str (Str.ofString "_node2info") t1, .ref d⟩, ⟨h2, .str (Str.ofString "_ready_nodes") t2, .ref rl⟩, ⟨h3, .str (Str.ofString "_npassedout") t3, .int po tp⟩, ⟨h4, .str (Str.ofString "_nfinished") t4, .int (nf + (i : Int)) tqq⟩] 4) :: (rl, listOf rs''.toArray kr'') :: []) d ⟨st.order, b.1, st.ss⟩ V'' od kv led'') → (IntsAre rs'' b.2) → (b = ((st.ss x).take j).foldl dec (upd a.1 x (-2), a.2)) → (Dis nx) → (rs''.length ≤ 100 + 80 * i + j) → ((V''.sa = V'.sa ∧ V''.sv = V'.sv ∧ V''.ep = V'.ep)) → (∀ y, y ≠ Str.ofString "successor" → y ≠ Str.ofString "successor_info" → m y = (fun y => if y = Str.ofString "stat" then some (Value.int (-1) (V'.tp x)) else if y = Str.ofString "nodeinfo" then some (Value.ref (V'.ia x)) else if y = Str.ofString "node" then some (Value.int x tx) else if y = Str.ofString "n2i" then some (Value.ref d) else List.lookup y [(Str.ofString "nodes", Value.ref D0), (Str.ofString "self", Value.ref self)]) y) → DoneK w self dx d rl h1 h2 h3 h4 t1 t2 t3 t4 tp po nf ps rest D0 st od kv I oi a i V' x tx tqq j m nx
theorem done_c {w : World} {mean : ExcName → Option Value} {mg mb : PySem.Str → Option Value} {A₀ : Around} {base h₀ : Heap} {L : Addr} {env : Env} {outer : List Env} {dp un : Nat} {gd : Option (List Code)} {m : PySem.Str → Option Value} {s : Shared} {Q E : Value → Shared → Prop}
   {self dx d rl : Addr} {h1 h2 h3 h4 : Int} {t1 t2 t3 t4 tp tq : Tok} {kr : Nat} {po nf : Int} {rs ps : List Value} {ns rn : List Int} {rest : List (Addr × Obj)} {od : Obj} {kv : List (Int × Value)} {led : List (Addr × Obj)} {st : Ab} {V : SV}
   (Y : Pt w mean mg mb L env outer A₀ base h₀ dp un) (F : Fr h₀ L s.heap m) (N : News h₀ L s.heap (led ++ rest))
   (H : SAt PySem.Challenge.rw_il0017_01.row.prog w ((self, instObj 195 dx) :: (dx, dictOf [⟨h1, .str (Str.ofString "_node2info") t1, .ref d⟩, ⟨h2, .str (Str.ofString "_ready_nodes") t2, .ref rl⟩, ⟨h3, .str (Str.ofString "_npassedout") t3, .int po tp⟩, ⟨h4, .str (Str.ofString "_nfinished") t4, .int nf tq⟩] 4) :: (rl, listOf rs.toArray kr) :: []) d st V od kv led) (hD : Dis (led ++ rest)) (lo : (d == sysModules) = false) (hol : st.order.length ≤ 80) (hrs : IntsAre rs rn) (hps : IntsAre ps ns) (hpl : ps.length ≤ 8) (hdd : dp < 500) (huu : un < 4000) (hno : ∀ x ∈ ns, x ∈ st.order) (hclos : ∀ x ∈ st.order, ∀ y ∈ st.ss x, y ∈ st.order) (hsl : ∀ x, (st.ss x).length ≤ 80) (hrl : rs.length ≤ 100)
   (hout : ∀ (i : Nat) (x : Int), ns[i]? = some x → ((ns.take i).foldl (doneOne st.ss) (st.np, rn)).1 x = -1)
   (ret : ∀ h' tk V' led' tqq rs' krr, Fr h₀ L h' m → News h₀ L h' (led' ++ rest) → SAt PySem.Challenge.rw_il0017_01.row.prog w ((self, instObj 195 dx) :: (dx, dictOf [⟨h1, .str (Str.ofString "_node2info") t1, .ref d⟩, ⟨h2, .str (Str.ofString "_ready_nodes") t2, .ref rl⟩, ⟨h3, .str (Str.ofString "_npassedout") t3, .int po tp⟩, ⟨h4, .str (Str.ofString "_nfinished") t4, .int (nf + (ps.length : Int)) tqq⟩] 4) :: (rl, listOf rs'.toArray krr) :: []) d ⟨st.order, (ns.foldl (doneOne st.ss) (st.np, rn)).1, st.ss⟩ V' od kv led' → IntsAre rs' (ns.foldl (doneOne st.ss) (st.np, rn)).2 → Dis (led' ++ rest) → Q .none { s with heap := h', toks := tk }) :
   codeAny (model PySem.Challenge.rw_il0017_01.row.prog w) (Ar dp un gd env outer) (.call (.ref 178) ⟨.ref self :: ps, []⟩) (fun r s' => match r with | .ok (.ret v) => Q v s' | .ok _ => False | .error e => E e s') s := by
  refine hideG fun G0 hG0 => ?_
  obtain ⟨B, X, T, hf, hk, hdp, hun⟩ := Y
  refine hG0 ?_
  clear hG0
  have hpI : ∀ (i : Nat) (v : Value), ps[i]? = some v → ∃ p tp, v = Value.int p tp ∧ ns[i]? = some p := fun i v hv => hps.at i v hv
  have hpL := hps.length
  have hrs0 : Keep (IntsAre rs rn) := hrs
  refine codeAny_mono ?_ res_ok
  k_dflt (refine' kp_rest (vs := ps) (g₁ := fun D => some [(Str.ofString "self", Value.ref self), (Str.ofString "nodes", Value.ref D)]) (binds := fun D => [(Str.ofString "self", Value.ref self), (Str.ofString "nodes", Value.ref D)]) ?k1 ?k2 ?k3 ?k4 ?k5 ?kA ?kF ?kK ?k6 ?k7 ?k8 ?kV ?kP ?kG ?kB ?_ ?c2 ?c3 ?c4 ?c5; (case kA => exact rfl); (case kF => first | exact rfl | assumption); (case kK => first | exact rfl | assumption); (case k1 => k_asm); (case k2 => k_asm); (case k3 => k_asm); (case k4 => k_asm); (case k5 => k_asm); (case k6 => k_is); (case k7 => k_is); (case k8 => walk_at "M room"); (case kV => exact rfl); (case kP => ((rcases ps with _ | ⟨p1, ps⟩; · exact rfl); (rcases ps with _ | ⟨p2, ps⟩; · exact rfl); (rcases ps with _ | ⟨p3, ps⟩; · exact rfl); (rcases ps with _ | ⟨p4, ps⟩; · exact rfl); (rcases ps with _ | ⟨p5, ps⟩; · exact rfl); (rcases ps with _ | ⟨p6, ps⟩; · exact rfl); (rcases ps with _ | ⟨p7, ps⟩; · exact rfl); (rcases ps with _ | ⟨p8, ps⟩; · exact rfl); (rcases ps with _ | ⟨p9, ps⟩; · exact rfl);  exact absurd hpl (by simp))); (case kG => exact fun _ => rfl); (case kB => exact fun _ => locs rfl); (case c5 => decide); (case c2 => exact rfl); (case c3 => exact rfl); (case c4 => exact rfl); k_whole)
  intro D0 g' L' h' l1 FG' F' N' B' X' T'
  walk_at "M hide"
  replace F' : Fr g' L' h' (fun y => List.lookup y [(Str.ofString "nodes", Value.ref D0), (Str.ofString "self", Value.ref self)]) := F'
  rw [H.led_] at N' l1
  dsimp only [List.cons_append, List.nil_append] at N' l1
  have l1' := l1
  k_lt l1
  k_steps
  have hlt : ∀ q ∈ led ++ rest, @LT.lt Nat _ q.1 D0 := by
    intro q hq
    walk_at "M hide"
    rw [H.led_] at hq
    exact l1' q (by simpa only [List.cons_append, List.nil_append] using hq)
  have hD1 : Dis (led ++ (D0, ({ cls := Value.type "tuple", data := Data.seq ps.toArray } : Obj)) :: rest) := (hD.lt (o := ({ cls := Value.type "tuple", data := Data.seq ps.toArray } : Obj)) hlt).perm List.perm_middle.symm
  rename News g' L' _ _ => N0
  rename Fr g' L' _ _ => F1
  have N1 := news_sub (b := led ++ (D0, ({ cls := Value.type "tuple", data := Data.seq ps.toArray } : Obj)) :: rest) N0 fun q hq => by
    have hq' := List.perm_middle.mem_iff.mp hq
    rw [H.led_] at hq'
    exact hq'
  refine wpAny_noRaise ?_
  refine' For_invVF F1 (by rfl) (by rfl) ?_
  k_steps
  refine it_tuple (vs := ps) (k := 0) (DoneI w self dx d rl h1 h2 h3 h4 t1 t2 t3 t4 tp po nf ps rest D0 st od kv ns rn) rfl F1 N1 ?_ ?_ ?_ ?_ ?_
  · exact List.mem_append_right _ (.head _)
  · refine ⟨V, led, (st.np, rn), rs, kr, tq, rfl, ?_, hrs0, rfl, hD1, by omega, fun y _ _ _ _ _ => rfl⟩
    simpa using H
  · rintro i m nx zH3
    walk_at "M hide"
    refine hideG fun G0 hG0 => ?_
    obtain ⟨V', led', a, rs', krr, tqq, rfl, _⟩ := zH3
    refine hG0 ?_
    clear hG0
    exact List.mem_append_right _ (.head _)
  · rintro i v m₁ nx h tk I oi hv hI hoff zH11 F' N'
    walk_at "M hide"
    refine hideG fun G0 hG0 => ?_
    obtain ⟨V', led', a, rs', krr, tqq, rfl, H', hrs', ha, hD', hrl', hm⟩ := zH11
    refine hG0 ?_
    clear hG0
    refine hideG fun G0 hG0 => ?_
    obtain ⟨x, tx, rfl, hxn⟩ := hpI i v hv
    refine hG0 ?_
    clear hG0
    rw [mform5 (a := Str.ofString "node") (b := Str.ofString "nodeinfo") (c := Str.ofString "stat") (d := Str.ofString "successor") (e := Str.ofString "successor_info") hm] at F'
    have hx : x ∈ st.order := hno x (List.mem_of_getElem? hxn)
    have hil : i < ps.length := (List.getElem?_eq_some_iff.mp hv).1
    have hD5 : Dis (led' ++ (I, oi) :: (D0, ({ cls := Value.type "tuple", data := Data.seq ps.toArray } : Obj)) :: rest) := (hD'.cons hoff).perm List.perm_middle.symm
    have N5' : News g' L' h (led' ++ (I, oi) :: (D0, ({ cls := Value.type "tuple", data := Data.seq ps.toArray } : Obj)) :: rest) := news_sub N' fun q hq => (List.perm_middle.mem_iff).mp hq
    have p3 := H'.perm (rest := (I, oi) :: (D0, ({ cls := Value.type "tuple", data := Data.seq ps.toArray } : Obj)) :: rest) hx
    have D7 := hD5.perm p3
    have N8 := news_sub N5' (fun q hq => p3.mem_iff.mpr hq)
    dsimp only [nodeL, List.cons_append, List.nil_append] at N8 D7
    refine hideG fun G0 hG0 => ?_
    obtain ⟨⟨e1n0, e1n1, e1n2, e1n3, e1n4, e1n5, e1n6, e1n7, e1n8, e1n9, e1n10, e1n11, e1n12, e1n13, e1n14, e1n15, e1n16, e1n17, e1n18, e1n19, e1n20⟩, r0, r1, r2, r3, r4⟩ := seven D7
    refine hG0 ?_
    clear hG0
    have hva := H'.val x hx
    have hss : ∀ (j : Nat) (v : Value), (V'.sv x)[j]? = some v → ∃ y ty, v = Value.int y ty ∧ (st.ss x)[j]? = some y := fun j v hv => (H'.ss x hx).at j v hv
    have hodx := H'.od_
    have hnp : V'.np x = -1 := by rw [H'.np x hx]; show a.1 x = -1; rw [ha]; exact hout i x hxn
    rw [hnp] at N8
    clear N1 F1 N' N5' N0
    rename Fr g' L' h _ => F5
    with_reducible show wpAny _ _ _ _ _ _
    try k_fold
    k_steps
    rename Fr g' L' _ _ => F9
    rename News g' L' _ _ => N9
    obtain ⟨H9, hD9, hs9⟩ := H'.close (rest := (I, oi) :: (D0, ({ cls := Value.type "tuple", data := Data.seq ps.toArray } : Obj)) :: rest) hx hD5 (-2) _ (V'.ep x) (H'.ss x hx)
    have N10 := news_sub N9 hs9
    rw [upd_id] at H9
    dsimp only at H9
    refine it_list (vs := V'.sv x) (k := V'.ep x) (DoneK w self dx d rl h1 h2 h3 h4 t1 t2 t3 t4 tp po nf ps rest D0 st od kv I oi a i V' x tx tqq) rfl F9 N10 ?_ ?_ ?_ ?_ ?_
    · have := H9.mem_sa (x := x) hx
      rw [(V'.chg_same x (-2) _).1, (V'.chg_same x (-2) _).2.1, (V'.chg_same x (-2) _).2.2] at this
      exact List.mem_append_left _ this
    · refine ⟨_, _, (upd a.1 x (-2), a.2), rs', krr, rfl, H9, hrs', rfl, hD9, by omega, V'.chg_same x (-2) _, fun y z1 z2 => ?_⟩
      by_cases e1 : y = Str.ofString "stat"
      · simp only [if_pos e1]
      by_cases e2 : y = Str.ofString "nodeinfo"
      · simp only [if_neg e1, if_pos e2]
      by_cases e3 : y = Str.ofString "node"
      · simp only [if_neg e1, if_neg e2, if_pos e3]
      simp only [if_neg e1, if_neg e2, if_neg e3, if_neg z1, if_neg z2]
    · rintro j m nx zH3
      walk_at "M hide"
      refine hideG fun G0 hG0 => ?_
      obtain ⟨V'', led'', b, rs'', kr'', rfl, H'', _, _, _, _, ⟨z1, z2, z3⟩, _⟩ := zH3
      refine hG0 ?_
      clear hG0
      have := H''.mem_sa (x := x) hx
      rw [z1, z2, z3] at this
      exact List.mem_append_left _ this
    · rintro j v m₂ nx h₂ tk₂ I2 oi2 hv2 hI2 hoff2 zH11 F2 N2
      walk_at "M hide"
      refine hideG fun G0 hG0 => ?_
      obtain ⟨V'', led'', b, rs'', kr'', rfl, H'', hrs'', hb, hD'', hrl'', z, hm2⟩ := zH11
      refine hG0 ?_
      clear hG0
      rw [mform2 hm2] at F2
      refine hideG fun G0 hG0 => ?_
      obtain ⟨y, ty, rfl, hyn⟩ := hss j v hv2
      refine hG0 ?_
      clear hG0
      have hy : y ∈ st.order := hclos x hx y (List.mem_of_getElem? hyn)
      have hD6 : Dis (led'' ++ (I2, oi2) :: (I, oi) :: (D0, ({ cls := Value.type "tuple", data := Data.seq ps.toArray } : Obj)) :: rest) := (hD''.cons hoff2).perm List.perm_middle.symm
      have N6 : News g' L' h₂ (led'' ++ (I2, oi2) :: (I, oi) :: (D0, ({ cls := Value.type "tuple", data := Data.seq ps.toArray } : Obj)) :: rest) := news_sub N2 fun q hq => (List.perm_middle.mem_iff).mp hq
      have p6 := H''.perm (rest := (I2, oi2) :: (I, oi) :: (D0, ({ cls := Value.type "tuple", data := Data.seq ps.toArray } : Obj)) :: rest) hy
      have D8 := hD6.perm p6
      have N11 := news_sub N6 (fun q hq => p6.mem_iff.mpr hq)
      dsimp only [nodeL, List.cons_append, List.nil_append] at N11 D8
      refine hideG fun G0 hG0 => ?_
      obtain ⟨⟨e2n0, e2n1, e2n2, e2n3, e2n4, e2n5, e2n6, e2n7, e2n8, e2n9, e2n10, e2n11, e2n12, e2n13, e2n14, e2n15, e2n16, e2n17, e2n18, e2n19, e2n20⟩, w0, w1, w2, w3, w4⟩ := seven D8
      refine hG0 ?_
      clear hG0
      have hva2 := H''.val y hy
      have hodx2 := H''.od_
      rw [H''.np y hy] at N11
      clear N2 N6 N9 N10 F9 e1n0 e1n1 e1n2 e1n3 e1n4 e1n5 e1n6 e1n7 e1n8 e1n9 e1n10 e1n11 e1n12 e1n13 e1n14 e1n15 e1n16 e1n17 e1n18 e1n19 e1n20 r0 r1 r2 r3 r4
      rename Fr g' L' h₂ _ => F6
      dsimp only at N11
      have hj : j < (V'.sv x).length := (List.getElem?_eq_some_iff.mp hv2).1
      have hj2 := (H'.ss x hx).length
      have hj3 := hsl x
      dsimp only at hj2
      have hsz : rs''.toArray.size ≤ sizeLine := by
        rw [sizeLine_eq]
        simp
        omega
      with_reducible show wpAny _ _ _ _ _ _
      try k_fold
      by_cases hz : b.1 y - 1 = 0
      · rw [show b.1 y = 1 by omega] at N11
        k_steps
        rename Fr g' L' _ _ => FA
        rename News g' L' _ _ => NA
        have HA := H''.hd ((self, instObj 195 dx) :: (dx, dictOf [⟨h1, .str (Str.ofString "_node2info") t1, .ref d⟩, ⟨h2, .str (Str.ofString "_ready_nodes") t2, .ref rl⟩, ⟨h3, .str (Str.ofString "_npassedout") t3, .int po tp⟩, ⟨h4, .str (Str.ofString "_nfinished") t4, .int (nf + (i : Int)) tqq⟩] 4) :: (rl, listOf (rs'' ++ [Value.int y ty]).toArray (kr'' + 1)) :: [])
        have hDA : Dis ((((self, instObj 195 dx) :: (dx, dictOf [⟨h1, .str (Str.ofString "_node2info") t1, .ref d⟩, ⟨h2, .str (Str.ofString "_ready_nodes") t2, .ref rl⟩, ⟨h3, .str (Str.ofString "_npassedout") t3, .int po tp⟩, ⟨h4, .str (Str.ofString "_nfinished") t4, .int (nf + (i : Int)) tqq⟩] 4) :: (rl, listOf (rs'' ++ [Value.int y ty]).toArray (kr'' + 1)) :: []) ++ (d, od) :: nodesL V'' st.order) ++ (I2, oi2) :: (I, oi) :: (D0, ({ cls := Value.type "tuple", data := Data.seq ps.toArray } : Obj)) :: rest) := Dis.addr hD6 (by rw [H''.led_]; rfl)
        obtain ⟨H7, hD7, hs7⟩ := HA.close (rest := (I2, oi2) :: (I, oi) :: (D0, ({ cls := Value.type "tuple", data := Data.seq ps.toArray } : Obj)) :: rest) hy hDA (1 - 1) _ (V''.ep y) (H''.ss y hy)
        have NB := news_sub NA hs7
        rw [upd_id] at H7
        dsimp only at H7
        have ed : dec b y = (upd b.1 y (1 - 1), b.2 ++ [y]) := by unfold dec; rw [if_pos hz, show b.1 y = 1 by omega]
        rw [show upd b.1 y (1 - 1) = (dec b y).1 by rw [ed]] at H7
        try (refine unQ (by with_reducible assumption) ?_)
        refine LpEnd.intro FA (news_sub NB fun q hq => List.perm_middle.symm.mem_iff.mp hq) (hD7.perm List.perm_middle).ne ⟨_, _, dec b y, _, _, rfl, H7, ?_, ?_, (hD7.perm List.perm_middle).tl, ?_, ?_, ?_⟩
        · rw [ed]; exact ints_snoc hrs''
        · rw [List.take_add_one, hyn, List.foldl_append, ← hb]; rfl
        · rw [List.length_append]; simp; omega
        · exact ⟨z.1, (V''.chg_same y _ _).2.1.trans z.2.1, (V''.chg_same y _ _).2.2.trans z.2.2⟩
        · intro y' q1 q2
          walk_at "M hide"
          exact (if_neg q2).trans ((if_neg q1).trans (if_neg q2))
      · k_steps
        · exfalso
          simp_all
        · rename Fr g' L' _ _ => FA
          rename News g' L' _ _ => NA
          obtain ⟨H7, hD7, hs7⟩ := H''.close (rest := (I2, oi2) :: (I, oi) :: (D0, ({ cls := Value.type "tuple", data := Data.seq ps.toArray } : Obj)) :: rest) hy hD6 (b.1 y - 1) _ (V''.ep y) (H''.ss y hy)
          have NB := news_sub NA hs7
          rw [upd_id] at H7
          dsimp only at H7
          have ed : dec b y = (upd b.1 y (b.1 y - 1), b.2) := by unfold dec; rw [if_neg hz]
          rw [show upd b.1 y (b.1 y - 1) = (dec b y).1 by rw [ed]] at H7
          try (refine unQ (by with_reducible assumption) ?_)
          refine LpEnd.intro FA (news_sub NB fun q hq => List.perm_middle.symm.mem_iff.mp hq) (hD7.perm List.perm_middle).ne ⟨_, _, dec b y, rs'', kr'', rfl, H7, ?_, ?_, (hD7.perm List.perm_middle).tl, by omega, ?_, ?_⟩
          · rw [ed]; exact hrs''
          · rw [List.take_add_one, hyn, List.foldl_append, ← hb]; rfl
          · exact ⟨z.1, (V''.chg_same y _ _).2.1.trans z.2.1, (V''.chg_same y _ _).2.2.trans z.2.2⟩
          · intro y' q1 q2
            walk_at "M hide"
            exact (if_neg q2).trans ((if_neg q1).trans (if_neg q2))
    · rintro m₃ nx h₃ tk₃ zH4 F3 N3
      walk_at "M hide"
      refine hideG fun G0 hG0 => ?_
      obtain ⟨V'', led'', b, rs'', kr'', rfl, H'', hrs'', hb, hD'', hrl'', z, hm3⟩ := zH4
      refine hG0 ?_
      clear hG0
      rw [mform2' hm3] at F3
      have hlen := (H'.ss x hx).length
      dsimp only at hlen
      rw [hlen, List.take_length] at hb
      have hj3 := hsl x
      rw [hlen] at hrl''
      have N13 := N3
      rw [H''.led_] at N13
      dsimp only [List.cons_append, List.nil_append] at N13
      have D8 := hD''
      rw [H''.led_] at D8
      dsimp only [List.cons_append, List.nil_append] at D8
      refine hideG fun G0 hG0 => ?_
      obtain ⟨⟨e2n0, e2n1, e2n2, e2n3, e2n4, e2n5⟩, w0, w1, w2⟩ := four D8
      refine hG0 ?_
      clear hG0
      clear N9 N10 F9 e1n0 e1n1 e1n2 e1n3 e1n4 e1n5 e1n6 e1n7 e1n8 e1n9 e1n10 e1n11 e1n12 e1n13 e1n14 e1n15 e1n16 e1n17 e1n18 e1n19 e1n20 r0 r1 r2 r3 r4 N3
      k_steps
      rename Fr g' L' _ _ => FA
      rename News g' L' _ _ => NA
      obtain ⟨tqz, NB⟩ : ∃ tqz, News g' L' _ ((self, instObj 195 dx) :: (dx, dictOf [⟨h1, .str (Str.ofString "_node2info") t1, .ref d⟩, ⟨h2, .str (Str.ofString "_ready_nodes") t2, .ref rl⟩, ⟨h3, .str (Str.ofString "_npassedout") t3, .int po tp⟩, ⟨h4, .str (Str.ofString "_nfinished") t4, .int (nf + (i : Int) + 1) tqz⟩] 4) :: (rl, listOf rs''.toArray kr'') :: (d, od) :: (nodesL V'' st.order ++ (I, oi) :: (D0, ({ cls := Value.type "tuple", data := Data.seq ps.toArray } : Obj)) :: rest)) := ⟨_, NA⟩
      rw [show nf + (i : Int) + 1 = nf + ((i + 1 : Nat) : Int) by omega] at NB
      have eJ : nf + (i : Int) + 1 = nf + ((i + 1 : Nat) : Int) := by first | decide | omega
      have HJ := H''.hd ((self, instObj 195 dx) :: (dx, dictOf [⟨h1, .str (Str.ofString "_node2info") t1, .ref d⟩, ⟨h2, .str (Str.ofString "_ready_nodes") t2, .ref rl⟩, ⟨h3, .str (Str.ofString "_npassedout") t3, .int po tp⟩, ⟨h4, .str (Str.ofString "_nfinished") t4, .int (nf + (i : Int) + 1) tqz⟩] 4) :: (rl, listOf rs''.toArray kr'') :: [])
      rw [eJ] at HJ
      have hDB : Dis ((((self, instObj 195 dx) :: (dx, dictOf [⟨h1, .str (Str.ofString "_node2info") t1, .ref d⟩, ⟨h2, .str (Str.ofString "_ready_nodes") t2, .ref rl⟩, ⟨h3, .str (Str.ofString "_npassedout") t3, .int po tp⟩, ⟨h4, .str (Str.ofString "_nfinished") t4, .int (nf + (i : Int) + 1) tqz⟩] 4) :: (rl, listOf rs''.toArray kr'') :: []) ++ (d, od) :: nodesL V'' st.order) ++ (I, oi) :: (D0, ({ cls := Value.type "tuple", data := Data.seq ps.toArray } : Obj)) :: rest) := Dis.addr hD'' (by rw [H''.led_]; rfl)
      rw [eJ] at hDB
      try (refine unQ (by with_reducible assumption) ?_)
      refine LpEnd.intro FA (news_sub NB fun q hq => ?_) (hDB.perm List.perm_middle).ne ⟨V'', _, b, rs'', kr'', tqz, rfl, HJ, hrs'', ?_, (hDB.perm List.perm_middle).tl, ?_, ?_⟩
      · first
          | exact List.perm_middle.mem_iff.mp hq
          | exact List.perm_middle.symm.mem_iff.mp hq
          | (simp only [List.mem_append, List.mem_cons, List.cons_append, List.nil_append] at hq ⊢; rcases hq with h | h | h | h | h | h | h <;> simp [h])
      · rw [hb, List.take_add_one, hxn, List.foldl_append, ← ha]; rfl
      · omega
      · intro y' q1 q2 q3 q4 q5
        walk_at "M hide"
        simp only [if_neg q1, if_neg q2, if_neg q3, if_neg q4, if_neg q5]
  · rintro m₁ nx h tk zH4 F' N'
    walk_at "M hide"
    refine hideG fun G0 hG0 => ?_
    obtain ⟨V', led', a, rs', krr, tqq, rfl, H', hrs', ha, hD', hrl', hm⟩ := zH4
    refine hG0 ?_
    clear hG0
    rw [mform5 (a := Str.ofString "node") (b := Str.ofString "nodeinfo") (c := Str.ofString "stat") (d := Str.ofString "successor") (e := Str.ofString "successor_info") hm] at F'
    k_steps
    rename Fr h₀ L _ _ => kF
    rename News h₀ L _ _ => kN
    rw [hpL, List.take_length] at ha
    rw [ha] at H' hrs'
    refine ret _ _ V' _ tqq rs' krr kF (news_sub kN fun q hq => ?_) H' hrs' (hD'.perm List.perm_middle).tl
    rcases List.mem_append.mp hq with z | z
    · exact List.mem_append_left _ z
    · exact List.mem_append_right _ (.tail _ z)
end
section
theorem flush_E5 : (1 : Nat) ≤ 2 := by
  w_top off
  first | walk1 | decide
theorem prepare_c {w : World} {mean : ExcName → Option Value} {mg mb : PySem.Str → Option Value} {A₀ : Around} {base g₀ h₀ : Heap} {L a₀ : Addr} {cn : PySem.Str} {cs : Scope} {ccd : Value} {cl : List (PySem.Str × Addr)} {outer : List Env} {dp un : Nat} {gd : Option (List Code)}
   {m : PySem.Str → Option Value} {s : Shared} {Q E : Value → Shared → Prop}
   {self dx d : Addr} {h1 h2 h3 h4 : Int} {t1 t2 t3 t4 : Tok} {v3 v4 : Value} {od : Obj} {kv : List (Int × Value)} {led rest : List (Addr × Obj)} {st : Ab} {V : SV}
   (Z : Gd (hd17.heap_1 w.params) view17 (looseW view17 [Str.ofString "b2a_base64", Str.ofString "b64encode", Str.ofString "_NodeInfo"]) mean mg mb A₀ base outer g₀ h₀) (hck : cs.kind = .function) (hdp : dp < 500) (hun : un < 4000)
   (F : Fr h₀ L s.heap m) (N : News h₀ L s.heap (led ++ rest))
   (H : SAt PySem.Challenge.rw_il0017_01.row.prog w ((self, instObj 195 dx) :: (dx, dictOf [⟨h1, .str (Str.ofString "_node2info") t1, .ref d⟩, ⟨h2, .str (Str.ofString "_ready_nodes") t2, .none⟩, ⟨h3, .str (Str.ofString "_npassedout") t3, v3⟩, ⟨h4, .str (Str.ofString "_nfinished") t4, v4⟩] 4) :: []) d st V od kv led) (hD : Dis (led ++ rest)) (lo : (d == sysModules) = false) (hol : st.order.length ≤ 8) (hclos : ∀ x ∈ st.order, ∀ y ∈ st.ss x, y ∈ st.order)
   (ret0 : ∀ (g' h' : Heap) (tk : Nat) (rl : Addr) (rs : List Value) (kr : Nat) (led' : List (Addr × Obj)), ¬ Ring st.ss st.order → Gd (hd17.heap_1 w.params) view17 (looseW view17 [Str.ofString "b2a_base64", Str.ofString "b64encode", Str.ofString "_NodeInfo"]) mean mg mb A₀ base outer g₀ g' → Fr g' L h' m → News g' L h' (led' ++ rest) →
     SAt PySem.Challenge.rw_il0017_01.row.prog w ((self, instObj 195 dx) :: (dx, dictOf [⟨h1, .str (Str.ofString "_node2info") t1, .ref d⟩, ⟨h2, .str (Str.ofString "_ready_nodes") t2, .ref rl⟩, ⟨h3, .str (Str.ofString "_npassedout") t3, v3⟩, ⟨h4, .str (Str.ofString "_nfinished") t4, v4⟩] 4) :: (rl, listOf rs.toArray kr) :: []) d st V od kv led' → IntsAre rs (st.order.filter fun x => decide (st.np x = 0)) → Dis (led' ++ rest) → Q .none { s with heap := h', toks := tk })
   (ret1 : ∀ (g' G h' : Heap) (tk : Nat) (rl : Addr) (rs : List Value) (kr : Nat) (led' nw : List (Addr × Obj)) (e t : Addr) (vs : List Value), Ring st.ss st.order → Gd (hd17.heap_1 w.params) view17 (looseW view17 [Str.ofString "b2a_base64", Str.ofString "b64encode", Str.ofString "_NodeInfo"]) mean mg mb A₀ base outer g₀ g' → Fr g' L G m → RaisedS base G (envX cn cs L a₀ ccd cl :: outer) e (.ref 113) t vs nw h' → G.UpToSlots h' →
     (∀ q ∈ led' ++ rest, q ∈ nw) → SAt PySem.Challenge.rw_il0017_01.row.prog w ((self, instObj 195 dx) :: (dx, dictOf [⟨h1, .str (Str.ofString "_node2info") t1, .ref d⟩, ⟨h2, .str (Str.ofString "_ready_nodes") t2, .ref rl⟩, ⟨h3, .str (Str.ofString "_npassedout") t3, v3⟩, ⟨h4, .str (Str.ofString "_nfinished") t4, v4⟩] 4) :: (rl, listOf rs.toArray kr) :: []) d st V od kv led' → IntsAre rs (st.order.filter fun x => decide (st.np x = 0)) → Dis (led' ++ rest) → E (.ref e) { s with heap := h', toks := tk }) :
   wpAny (model PySem.Challenge.rw_il0017_01.row.prog w) (Ar dp un gd (envX cn cs L a₀ ccd cl) outer) (call (.ref 150) [.ref self]) Q E s := by
  have Z0 : Keep _ := Z
  refine hideG fun G0 hG0 => ?_
  obtain ⟨B, X, T, XB, TB, D, U⟩ := Z
  refine hG0 ?_
  clear hG0
  refine wpAny_call ?_
  k_dflt (walk_at "M enterE")
  intro g' L' h' FG' F' N' B' X' T' D'
  walk_at "M hide"
  replace F' : Fr g' L' h' (fun y => List.lookup y [(Str.ofString "self", Value.ref self)]) := F'
  rw [H.led_] at N'
  dsimp only [List.cons_append, List.nil_append] at N'
  have hodx := H.od_
  walk_at "M stepsC"
  rename News g' L' _ _ => N1
  rename Fr g' L' _ _ => F1
  refine' ListComp_MT (h₀ := g') (L := L') (m := fun y => List.lookup y [(Str.ofString "self", Value.ref self)]) (by with_unfolding_all rfl) (by decide) (by rfl) (by rfl) (by decide) ?_
  k_steps
  rename News g' L' _ _ => N2
  rename Fr g' L' _ _ => F2
  rename_i Dv hv2 lDv
  have hlen : kv.length = st.order.length := by rw [← H.keys, List.length_map]
  refine srcM_values (knd := intKind _ _) rfl F2 N2 (.head _) (.tail _ (.tail _ (.tail _ (.head _)))) hodx (by rw [sizeLine_eq]; first | decide | omega) fun g F3 N3 => ?_
  dsimp only
  refine ⟨fun i ys nx _ => nx = ((Dv, valsObj d) :: (self, instObj 195 dx) :: (dx, dictOf [⟨h1, .str (Str.ofString "_node2info") t1, .ref d⟩, ⟨h2, .str (Str.ofString "_ready_nodes") t2, .none⟩, ⟨h3, .str (Str.ofString "_npassedout") t3, v3⟩, ⟨h4, .str (Str.ofString "_nfinished") t4, v4⟩] 4) :: (d, od) :: (nodesL V st.order ++ rest)) ∧ IntsAre ys ((st.order.take i).filter fun x => decide (st.np x = 0)), 0, Nat.zero_le _, ⟨rfl, .nil⟩, ?_, ?_⟩
  · rintro ys nx N0 ⟨rfl, hys⟩
    rw [hlen, List.take_length] at hys
    intro D h tk hN F4 N4 off4
    walk_at "M hide"
    have hDv : Dis ((Dv, valsObj d) :: (self, instObj 195 dx) :: (dx, dictOf [⟨h1, .str (Str.ofString "_node2info") t1, .ref d⟩, ⟨h2, .str (Str.ofString "_ready_nodes") t2, .none⟩, ⟨h3, .str (Str.ofString "_npassedout") t3, v3⟩, ⟨h4, .str (Str.ofString "_nfinished") t4, v4⟩] 4) :: (d, od) :: (nodesL V st.order ++ rest)) := by
      have h0 := hD
      rw [H.led_] at h0
      dsimp only [List.cons_append, List.nil_append] at h0
      have hz := tb_ltOf lDv.2.2.2
      refine h0.lt fun q hq => ?_
      rcases List.mem_cons.mp hq with z | hq
      · rw [z]; exact lDv.1
      rcases List.mem_cons.mp hq with z | hq
      · rw [z]; exact lDv.2.1
      rcases List.mem_cons.mp hq with z | hq
      · rw [z]; exact lDv.2.2.1
      · exact hz q hq
    have hDn : Dis (((self, instObj 195 dx) :: (dx, dictOf [⟨h1, .str (Str.ofString "_node2info") t1, .ref d⟩, ⟨h2, .str (Str.ofString "_ready_nodes") t2, .ref D⟩, ⟨h3, .str (Str.ofString "_npassedout") t3, v3⟩, ⟨h4, .str (Str.ofString "_nfinished") t4, v4⟩] 4) :: (D, listOf ys.toArray ys.length) :: (d, od) :: nodesL V st.order) ++ rest) := by
      have z1 : Dis ((self, instObj 195 dx) :: (dx, dictOf [⟨h1, .str (Str.ofString "_node2info") t1, .ref d⟩, ⟨h2, .str (Str.ofString "_ready_nodes") t2, .none⟩, ⟨h3, .str (Str.ofString "_npassedout") t3, v3⟩, ⟨h4, .str (Str.ofString "_nfinished") t4, v4⟩] 4) :: (d, od) :: (nodesL V st.order ++ rest)) := hDv.tl
      have z2 := z1.cons (o := listOf ys.toArray ys.length) (a := D) fun q hq => off4 q (.tail _ hq)
      have z3 : Dis ((self, instObj 195 dx) :: (dx, dictOf [⟨h1, .str (Str.ofString "_node2info") t1, .ref d⟩, ⟨h2, .str (Str.ofString "_ready_nodes") t2, .none⟩, ⟨h3, .str (Str.ofString "_npassedout") t3, v3⟩, ⟨h4, .str (Str.ofString "_nfinished") t4, v4⟩] 4) :: (D, listOf ys.toArray ys.length) :: (d, od) :: (nodesL V st.order ++ rest)) := z2.perm ((List.Perm.swap _ _ _).trans (.cons _ (List.Perm.swap _ _ _)))
      exact z3.addr rfl
    have hDD := hDv.cons (o := listOf ys.toArray ys.length) off4
    replace N4 : News g' L' h ((D, listOf ys.toArray ys.length) :: (Dv, valsObj d) :: (self, instObj 195 dx) :: (dx, dictOf [⟨h1, .str (Str.ofString "_node2info") t1, .ref d⟩, ⟨h2, .str (Str.ofString "_ready_nodes") t2, .none⟩, ⟨h3, .str (Str.ofString "_npassedout") t3, v3⟩, ⟨h4, .str (Str.ofString "_nfinished") t4, v4⟩] 4) :: (d, od) :: (nodesL V st.order ++ rest)) := N4
    refine hideG fun G0 hG0 => ?_
    obtain ⟨e1, r1, r2, r3, r4, r5⟩ := dis5 hDD
    refine hG0 ?_
    clear hG0
    clear N1 N2 N3 F1 F2 F3 hDv hDD
    dsimp only
    k_steps
    rename Fr g' L' _ _ => F5
    rename News g' L' _ _ => N5
    have Z5 : Gd (hd17.heap_1 w.params) view17 (looseW view17 [Str.ofString "b2a_base64", Str.ofString "b64encode", Str.ofString "_NodeInfo"]) mean mg mb (Ar dp un gd (envX cn cs L a₀ ccd cl) outer) base (envX cn cs L a₀ ccd cl :: outer) g' g' := ⟨B', X', T', XB, TB, D', .refl⟩
    refine find_cycle (ia := V.ia) (ida := V.ida) (sa := V.sa) (np := V.np) (tp := V.tp) (tn := V.tn) (sv := V.sv) (ep := V.ep) Z5 rfl ?hdp ?hun F5 N5 (.tail _ (.tail _ (.head _))) (.tail _ (.tail _ (.tail _ (.head _)))) (.tail _ (.tail _ (.tail _ (.tail _ (.head _))))) hodx lo H.keys H.val ?hi H.ss H.nd hclos hol ?r0 ?r1
    case hdp => show dp + 1 < 600; omega
    case hun => show un + 3 < 5000; omega
    case hi =>
      intro x hx
      walk_at "M hide"
      have mm : ∀ q, q ∈ nodeL V x → q ∈ ((D, listOf ys.toArray ys.length) :: (Dv, valsObj d) :: (self, instObj 195 dx) :: (dx, dictOf [⟨h1, .str (Str.ofString "_node2info") t1, .ref d⟩, ⟨h2, .str (Str.ofString "_ready_nodes") t2, .ref D⟩, ⟨h3, .str (Str.ofString "_npassedout") t3, v3⟩, ⟨h4, .str (Str.ofString "_nfinished") t4, v4⟩] 4) :: (d, od) :: (nodesL V st.order ++ rest)) := fun q hq =>
        .tail _ (.tail _ (.tail _ (.tail _ (.tail _ (List.mem_append_left _ (List.mem_flatMap.mpr ⟨x, hx, hq⟩))))))
      exact ⟨mm _ (.head _), mm _ (.tail _ (.head _)), mm _ (.tail _ (.tail _ (.head _)))⟩
    case r0 =>
      intro g6 h6 tk6 hR Z6 F6 N6
      walk_at "M hide"
      refine hideG fun G0 hG0 => ?_
      obtain ⟨B6, X6, T6, _, _, D6, U6⟩ := Z6
      refine hG0 ?_
      clear hG0
      clear F5 N5 B' X' T' D'
      k_steps
      rename KtsTurn _ g₀ _ => kT
      rename Fr _ L _ m => kF
      rename News _ L _ _ => kN
      rename Below A₀ base outer _ => kB
      rename KtsDicts (List.filterMap _ outer) _ => kD
      refine ret0 _ _ _ D ys ys.length _ hR ⟨kB, ‹_›, ‹_›, XB, TB, kD, kT⟩ kF (news_sub kN fun q hq => ?_) (H.hd _) hys hDn
      simp only [List.mem_append, List.mem_cons, List.cons_append, List.nil_append] at hq ⊢
      rcases hq with h | h | h | h | h | h <;> simp [h]
    case r1 =>
      intro g6 h6 tk6 a6 vs6 k6 hR hv1 hv2 Z6 F6 N6
      walk_at "M hide"
      refine hideG fun G0 hG0 => ?_
      obtain ⟨B6, X6, T6, _, _, D6, U6⟩ := Z6
      refine hG0 ?_
      clear hG0
      have hb6 : (!vs6.isEmpty) = true := by cases vs6 with
        | nil => simp at hv1
        | cons _ _ => rfl
      have hz6 : vs6.toArray.size ≤ sizeLine := small_size (by first | decide | omega)
      clear F5 N5 B' X' T' D'
      k_steps
      rename RaisedS _ _ _ _ _ _ _ _ _ => kR
      rename Heap.UpToSlots g6 _ => kU
      obtain ⟨g7, Z7, F7⟩ := turn_ground (name := cn) (scope := cs) (a := a₀) (cd := ccd) Z0 FG' U6
      refine ret1 g7 g6 _ _ D ys ys.length _ _ _ _ _ hR Z7 F7 kR kU (fun q hq => ?_) (H.hd _) hys hDn
      simp only [List.mem_append, List.mem_cons, List.cons_append, List.nil_append] at hq ⊢
      rcases hq with h | h | h | h | h | h <;> simp [h]
  · rintro i ys nx N0 v I oI C oC D m₂ h u0 u1 tk E' hi ⟨rfl, hys⟩ hN0 ⟨x, hx⟩ ht1 ht2 hC hCx F4 N4 off4 nd4
    walk_at "M hide"
    obtain ⟨hx1, hx2, rfl⟩ := H.item hx
    have pp := H.perm (rest := (Dv, valsObj d) :: rest) hx2
    have N5 : News g' L' h ((I, oI) :: (C, oC) :: (D, PyProof.Rows.LCg.lst ys) :: (self, instObj 195 dx) :: (dx, dictOf [⟨h1, .str (Str.ofString "_node2info") t1, .ref d⟩, ⟨h2, .str (Str.ofString "_ready_nodes") t2, .none⟩, ⟨h3, .str (Str.ofString "_npassedout") t3, v3⟩, ⟨h4, .str (Str.ofString "_nfinished") t4, v4⟩] 4) :: (d, od) :: (nodeL V x ++ (nodesL V (st.order.erase x) ++ (Dv, valsObj d) :: rest))) := news_sub N4 fun q hq => by
      rcases List.mem_cons.mp hq with z | hq
      · rw [z]; exact .head _
      rcases List.mem_cons.mp hq with z | hq
      · rw [z]; exact .tail _ (.head _)
      rcases List.mem_cons.mp hq with z | hq
      · rw [z]; exact .tail _ (.tail _ (.head _))
      have := pp.symm.mem_iff.mp hq
      rw [H.led_] at this
      simp only [List.mem_append, List.mem_cons, List.cons_append, List.nil_append] at this ⊢
      rcases this with h | h | h | h | h | h <;> simp [h]
    dsimp only [nodeL, List.cons_append, List.nil_append] at N5
    rw [H.np x hx2] at N5
    have N4k : Keep (News g' L' h _) := N4
    clear N1 N2 N3 N4 F1 F2 F3
    with_reducible show wpAny _ _ _ _ _ _
    try k_fold
    have fin : ∀ (b : Bool), b = decide (st.np x = 0) → IntsAre (if b then ys ++ [Value.int x (V.tn x)] else ys) ((st.order.take (i + 1)).filter fun x => decide (st.np x = 0)) := by
      intro b hb
      rw [List.take_add_one, hx1, List.filter_append]
      cases b with
      | true =>
        have hz : st.np x = 0 := of_decide_eq_true hb.symm
        have : List.filter (fun x => decide (st.np x = 0)) (some x).toList = [x] := by simp [hz]
        rw [this]
        exact ints_snoc hys
      | false =>
        have hz : ¬ st.np x = 0 := of_decide_eq_false hb.symm
        have : List.filter (fun x => decide (st.np x = 0)) (some x).toList = [] := by simp [hz]
        rw [this, List.append_nil]
        exact hys
    by_cases hz : st.np x = 0
    · k_steps
      · exact EndM.intro _ 0 (Nat.zero_le _) F4 N4k off4 (.tail _ (.tail _ (.tail _ (.head _)))) ⟨rfl, fin true (decide_eq_true hz).symm⟩
      · exact absurd hz ‹¬ st.np x = 0›
    · k_steps
      · exact absurd ‹st.np x = 0› hz
      · exact EndM.intro _ 0 (Nat.zero_le _) F4 N4k off4 (.tail _ (.tail _ (.tail _ (.head _)))) ⟨rfl, fin false (decide_eq_false hz).symm⟩
end
section
theorem flush_E9 : (1 : Nat) ≤ 2 := by
  w_top off
  first | walk1 | decide
local macro_rules | `(tactic| walk_at "subscriptTail") => `(tactic| (k_here; (with_reducible show wpAny _ _ (subscriptTail _ _ (Value.ref _) (Value.int _ _)) _ _ _); k_dflt (refine' item_i ?N ?m ?a ?b ?c ?_; (case N => k_asm); (case m => k_mem); (case a => first | assumption | omega); (case b => first | assumption | omega); (case c => assumption))))
theorem octs_sum {figs NS : List Int} (hfb : ∀ k, k < 8 → 0 ≤ fg figs k ∧ fg figs k < 64) (h : NS = (List.range 8).map fun k => fg figs k * 64 ^ (7 - k)) :
    0 ≤ NS.sum ∧ NS.sum < 281474976710656 ∧ NS.sum = fg figs 0 * 4398046511104 + fg figs 1 * 68719476736 + fg figs 2 * 1073741824 + fg figs 3 * 16777216 + fg figs 4 * 262144 + fg figs 5 * 4096 + fg figs 6 * 64 + fg figs 7 := by
  have e : NS.sum = fg figs 0 * 4398046511104 + fg figs 1 * 68719476736 + fg figs 2 * 1073741824 + fg figs 3 * 16777216 + fg figs 4 * 262144 + fg figs 5 * 4096 + fg figs 6 * 64 + fg figs 7 := by
    rw [h]
    show fg figs 0 * 4398046511104 + (fg figs 1 * 68719476736 + (fg figs 2 * 1073741824 + (fg figs 3 * 16777216 + (fg figs 4 * 262144 + (fg figs 5 * 4096 + (fg figs 6 * 64 + (fg figs 7 * 1 + 0))))))) = _
    omega
  have h0 := hfb 0 (by first | decide | omega)
  have h1 := hfb 1 (by first | decide | omega)
  have h2 := hfb 2 (by first | decide | omega)
  have h3 := hfb 3 (by first | decide | omega)
  have h4 := hfb 4 (by first | decide | omega)
  have h5 := hfb 5 (by first | decide | omega)
  have h6 := hfb 6 (by first | decide | omega)
  have h7 := hfb 7 (by first | decide | omega)
  exact ⟨by omega, by omega, e⟩
theorem sp16 {b : Int} (h : 0 ≤ b ∧ b < 64) : (0 ≤ b / 16 ∧ b / 16 < 4) ∧ 0 ≤ b % 16 ∧ b % 16 < 16 := ⟨⟨Int.ediv_nonneg h.1 (by decide), Int.ediv_lt_of_lt_mul (by decide) h.2⟩, Int.emod_nonneg _ (by decide), Int.emod_lt_of_pos _ (by decide)⟩
theorem sp4 {b : Int} (h : 0 ≤ b ∧ b < 64) : (0 ≤ b / 4 ∧ b / 4 < 16) ∧ 0 ≤ b % 4 ∧ b % 4 < 4 := ⟨⟨Int.ediv_nonneg h.1 (by decide), Int.ediv_lt_of_lt_mul (by decide) h.2⟩, Int.emod_nonneg _ (by decide), Int.emod_lt_of_pos _ (by decide)⟩
theorem lo_step {x lo B M : Int} (hx0 : 0 ≤ x) (hx : x < B) (h0 : 0 ≤ lo) (h1 : lo < M) : 0 ≤ x * M + lo ∧ x * M + lo < B * M := by
  have hM : 0 ≤ M := Int.le_trans h0 (Int.le_of_lt h1)
  have p := Int.mul_nonneg hx0 hM
  have q : (x + 1) * M ≤ B * M := Int.mul_le_mul_of_nonneg_right hx hM
  rw [Int.add_mul, Int.one_mul] at q
  exact ⟨Int.add_nonneg p h0, Int.lt_of_lt_of_le (Int.add_lt_add_left h1 _) q⟩
theorem oct_eq (a qb rb qc rc d e qf rf qg rg k : Int) : a * 4398046511104 + (16 * qb + rb) * 68719476736 + (4 * qc + rc) * 1073741824 + d * 16777216 + e * 262144 + (16 * qf + rf) * 4096 + (4 * qg + rg) * 64 + k =
    (((((a * 4 + qb) * 256 + (rb * 16 + qc)) * 256 + (rc * 64 + d)) * 256 + (e * 4 + qf)) * 256 + (rf * 16 + qg)) * 256 + (rg * 64 + k) := by first | decide | omega
theorem oct_six {o1 o2 o3 o4 o5 o6 : Int} (p1 : 0 ≤ o1 ∧ o1 < 256) (p2 : 0 ≤ o2 ∧ o2 < 256) (p3 : 0 ≤ o3 ∧ o3 < 256) (p4 : 0 ≤ o4 ∧ o4 < 256) (p5 : 0 ≤ o5 ∧ o5 < 256) (p6 : 0 ≤ o6 ∧ o6 < 256) :
    (((((o1 * 256 + o2) * 256 + o3) * 256 + o4) * 256 + o5) * 256 + o6) / 1099511627776 % 256 = o1 ∧ (((((o1 * 256 + o2) * 256 + o3) * 256 + o4) * 256 + o5) * 256 + o6) / 4294967296 % 256 = o2 ∧ (((((o1 * 256 + o2) * 256 + o3) * 256 + o4) * 256 + o5) * 256 + o6) / 16777216 % 256 = o3 ∧
    (((((o1 * 256 + o2) * 256 + o3) * 256 + o4) * 256 + o5) * 256 + o6) / 65536 % 256 = o4 ∧ (((((o1 * 256 + o2) * 256 + o3) * 256 + o4) * 256 + o5) * 256 + o6) / 256 % 256 = o5 ∧ (((((o1 * 256 + o2) * 256 + o3) * 256 + o4) * 256 + o5) * 256 + o6) % 256 = o6 := by
  have st : ∀ H o : Int, 0 ≤ o ∧ o < 256 → (H * 256 + o) / 256 = H ∧ (H * 256 + o) % 256 = o := fun H o h => ⟨by rw [Int.add_comm, Int.add_mul_ediv_right _ _ (by decide), Int.ediv_eq_zero_of_lt h.1 h.2, Int.zero_add], by rw [Int.add_comm, Int.add_mul_emod_self_right, Int.emod_eq_of_lt h.1 h.2]⟩
  rw [show (1099511627776 : Int) = 256 * (256 * (256 * (256 * 256))) from rfl, show (4294967296 : Int) = 256 * (256 * (256 * 256)) from rfl, show (16777216 : Int) = 256 * (256 * 256) from rfl, show (65536 : Int) = 256 * 256 from rfl]
  have dm : ∀ x M : Int, x / (256 * M) = x / 256 / M := fun x M => (Int.ediv_ediv_of_nonneg (by decide)).symm
  refine ⟨?_, ?_, ?_, ?_, ?_, (st _ _ p6).2⟩
  · rw [dm, dm, dm, dm, (st _ _ p6).1, (st _ _ p5).1, (st _ _ p4).1, (st _ _ p3).1, (st _ _ p2).1]; exact Int.emod_eq_of_lt p1.1 p1.2
  · rw [dm, dm, dm, (st _ _ p6).1, (st _ _ p5).1, (st _ _ p4).1, (st _ _ p3).1]; exact (st _ _ p2).2
  · rw [dm, dm, (st _ _ p6).1, (st _ _ p5).1, (st _ _ p4).1]; exact (st _ _ p3).2
  · rw [dm, (st _ _ p6).1, (st _ _ p5).1]; exact (st _ _ p4).2
  · rw [(st _ _ p6).1]; exact (st _ _ p5).2
theorem oct_rel (a b c d e f g k n : Int) (ha : 0 ≤ a ∧ a < 64) (hb : 0 ≤ b ∧ b < 64) (hc : 0 ≤ c ∧ c < 64) (hd : 0 ≤ d ∧ d < 64) (he : 0 ≤ e ∧ e < 64) (hf : 0 ≤ f ∧ f < 64) (hg : 0 ≤ g ∧ g < 64) (hk : 0 ≤ k ∧ k < 64)
   (hn : n = a * 4398046511104 + b * 68719476736 + c * 1073741824 + d * 16777216 + e * 262144 + f * 4096 + g * 64 + k) :
   n / 1099511627776 % 256 = a * 4 + b / 16 ∧ n / 4294967296 % 256 = b % 16 * 16 + c / 4 ∧ n / 16777216 % 256 = c % 4 * 64 + d ∧ n / 65536 % 256 = e * 4 + f / 16 ∧ n / 256 % 256 = f % 16 * 16 + g / 4 ∧ n % 256 = g % 4 * 64 + k := by
  have h := oct_eq a (b / 16) (b % 16) (c / 4) (c % 4) d e (f / 16) (f % 16) (g / 4) (g % 4) k
  rw [Int.mul_ediv_add_emod, Int.mul_ediv_add_emod, Int.mul_ediv_add_emod, Int.mul_ediv_add_emod] at h
  rw [hn, h]
  exact oct_six (lo_step ha.1 ha.2 (sp16 hb).1.1 (sp16 hb).1.2) (lo_step (sp16 hb).2.1 (sp16 hb).2.2 (sp4 hc).1.1 (sp4 hc).1.2) (lo_step (sp4 hc).2.1 (sp4 hc).2.2 hd.1 hd.2) (lo_step he.1 he.2 (sp16 hf).1.1 (sp16 hf).1.2) (lo_step (sp16 hf).2.1 (sp16 hf).2.2 (sp4 hg).1.1 (sp4 hg).1.2) (lo_step (sp4 hg).2.1 (sp4 hg).2.2 hk.1 hk.2)
theorem byteArr_get {ns : List Int} (h : ∀ n ∈ ns, 0 ≤ n ∧ n < 256) {i : Nat} {c : UInt8} (e : (byteArr ns)[i]? = some c) : ∃ n, ns[i]? = some n ∧ (c.toNat : Int) = n := by
  unfold byteArr at e
  rw [List.getElem?_toArray, List.getElem?_map] at e
  obtain ⟨n, e1, e2⟩ := Option.map_eq_some_iff.mp e
  refine ⟨n, e1, ?_⟩
  have := h n (List.mem_of_getElem? e1)
  rw [← e2]
  show ((n.toNat % 256 : Nat) : Int) = n
  omega
theorem oct_get {N : Int} {NB : List Int} (hNB : NB = (List.range 6).map fun k => N / 256 ^ (5 - k) % 256) (hb : ∀ n ∈ NB, 0 ≤ n ∧ n < 256) {i : Nat} {c : UInt8} (e : (byteArr NB)[i]? = some c) : (c.toNat : Int) = N / 256 ^ (5 - i) % 256 := by
  obtain ⟨n, e1, e2⟩ := byteArr_get hb e
  rw [hNB, List.getElem?_map] at e1
  obtain ⟨j, e3, e4⟩ := Option.map_eq_some_iff.mp e1
  have hi : i < 6 := by
    have := (List.getElem?_eq_some_iff.mp e3).1
    rwa [List.length_range] at this
  rw [List.getElem?_range hi] at e3
  obtain rfl := Option.some.inj e3
  rw [e2, ← e4]
theorem name_list {P : Prop} {g : Heap} {L : Addr} {h : Heap} {l : Addr} {rest : List (Addr × Obj)} {vl : List Value} {k : Nat} (N : News g L h ((l, listOf vl.toArray k) :: rest))
    (K : ∀ vl', vl' = vl → News g L h ((l, listOf vl'.toArray k) :: rest) → P) : P := K vl rfl N
theorem oct_dig {n : Int} (e : Nat) : (n.fdiv (256 ^ e)).fmod 256 = n / 256 ^ e % 256 := by
  rw [Int.fdiv_eq_ediv_of_nonneg _ (Int.pow_nonneg (by decide)), Int.fmod_eq_emod_of_nonneg _ (by decide)]
theorem mul_ok64 {v : Int} (h0 : 0 ≤ v) (h1 : v < 64) {n : Nat} (hn : n < 8) : IntMulOk v ((64 : Int) ^ n) := by
  rcases lt_eight hn with rfl | rfl | rfl | rfl | rfl | rfl | rfl | rfl <;> mul_fits
theorem log_ok256 {n : Nat} (hn : n < 6) : ((256 : Int) ^ n).natAbs.log2 < 9000 := by
  rcases lt_six hn with rfl | rfl | rfl | rfl | rfl | rfl <;> decide +kernel
theorem seven_sub (i : Nat) : (7 - (i : Int)).toNat = 7 - i ∧ (7 - (i : Int)).toNat < 8 := by first | decide | omega
theorem toNat_six {e : Int} (h : e < 6) : e.toNat < 6 := by first | decide | omega
theorem octets_c {w : World} {mean : ExcName → Option Value} {mg mb : PySem.Str → Option Value} {A₀ : Around} {base h₀ : Heap} {L : Addr} {env : Env} {outer : List Env} {dp un : Nat} {gd : Option (List Code)} {m : PySem.Str → Option Value} {s : Shared} {Q E : Value → Shared → Prop} {news : List (Addr × Obj)} {l : Addr} {vs : List Value} {k : Nat} {figs : List Int} (hm : (l, listOf vs.toArray k) ∈ news) (hvs : IntsAre vs figs) (hfl : figs.length = 8) (hfb : ∀ k, k < 8 → 0 ≤ fg figs k ∧ fg figs k < 64) (hdp' : dp < 400) (hun' : un < 3000)
   (ret : ∀ h' tk t (bs : Array UInt8), Fr h₀ L h' m → News h₀ L h' news → bs.size = 6 →
     (∀ q c, q < 2 → bs[3 * q]? = some c → (c.toNat : Int) = fg figs (4 * q) * 4 + fg figs (4 * q + 1) / 16) →
     (∀ q c, q < 2 → bs[3 * q + 1]? = some c → (c.toNat : Int) = fg figs (4 * q + 1) % 16 * 16 + fg figs (4 * q + 2) / 4) →
     (∀ q c, q < 2 → bs[3 * q + 2]? = some c → (c.toNat : Int) = fg figs (4 * q + 2) % 4 * 64 + fg figs (4 * q + 3)) → Q (.bytes bs t) { s with heap := h', toks := tk })
   (Y : Pt w mean mg mb L env outer A₀ base h₀ dp un) (F : Fr h₀ L s.heap m) (N : News h₀ L s.heap news) :
   wpAny (model PySem.Challenge.rw_il0017_01.row.prog w) (Ar dp un gd env outer) (call (.ref 209) [.ref l]) Q E s := by
  refine hideG fun G0 hG0 => ?_
  obtain ⟨B, X, T, hfr, hk, hdp, hun⟩ := Y
  refine hG0 ?_
  clear hG0
  have hvI : ∀ (i : Nat) (v : Value), vs[i]? = some v → ∃ p tp, v = Value.int p tp ∧ figs[i]? = some p := fun i v hv => hvs.at i v hv
  have hvL := hvs.length
  refine wpAny_noRaise ?_
  refine wpAny_call ?_
  walk_at "M enterC"
  intro g' L' h' tk' cells FG' F' N' Y' B' X' T' l'
  walk_at "M hide"
  replace F' : Fr g' L' h' (fun _ => none) := F'
  replace Y' : CellsAre (fun y => if y = Str.ofString "figures" then some (.ref l) else none) [(Str.ofString "number", L' + 1 + 1), (Str.ofString "figures", L' + 1)] cells := Y'
  refine hideG fun G0 hG0 => ?_
  obtain ⟨on, of, rfl, hon, hof⟩ := Y'.two
  refine hG0 ?_
  clear hG0
  replace hon : on.data = .cell none := hon
  replace hof : of.data = .cell (some (.ref l)) := hof
  dsimp only
  dsimp only [List.cons_append, List.nil_append] at N'
  have hn1 : ∀ p ∈ news, p.1 ≠ L' + 1 + 1 := fun p hp => Nat.ne_of_lt (Nat.lt_succ_of_lt (Nat.lt_succ_of_lt (l' p hp)))
  have hn2 : ∀ p ∈ news, p.1 ≠ L' + 1 := fun p hp => Nat.ne_of_lt (Nat.lt_succ_of_lt (l' p hp))
  have hn3 : @Ne Nat (L' + 1 + 1) (L' + 1) := Nat.succ_ne_self _
  have hm2 : (l, listOf vs.toArray k) ∈ (L' + 1 + 1, on) :: (L' + 1, of) :: news := .tail _ (.tail _ hm)
  walk_at "M stepsC"
  rename Fr g' L' _ _ => F1
  rename News g' L' _ _ => N1
  refine' ListComp_M (h₀ := g') (L := L') (m := fun _ => none) (by with_unfolding_all rfl) (by decide) (by rfl) (by rfl) (by decide) ?_
  k_steps
  rename IsRange _ _ _ _ _ _ _ _ => hr
  rename Fr g' L' _ _ => F2
  rename News g' L' _ _ => N2
  refine srcM_range (n := 8) rfl F2 N2 hr (by decide) (by rfl) (by rw [sizeLine_eq]; first | decide | omega) fun g F3 N3 => ?_
  dsimp only
  refine ⟨fun i ys nx _ => nx = (L' + 1 + 1, on) :: (L' + 1, of) :: news ∧ IntsAre ys ((List.range i).map fun k => fg figs k * 64 ^ (7 - k)), 0, Nat.zero_le _, ⟨rfl, .nil⟩, ?_, ?_⟩
  · rintro ysD nx N0 ⟨rfl, hys⟩
    obtain ⟨NS, hNS⟩ : ∃ NS, NS = (List.range 8).map fun k => fg figs k * 64 ^ (7 - k) := ⟨_, rfl⟩
    rw [← hNS] at hys
    obtain ⟨hs0, hs1, hs2⟩ := octs_sum hfb hNS
    intro D h tk hN F4 N4 off4
    walk_at "M hide"
    dsimp only
    clear F2 N2 F3 N3
    have e1 : @Ne Nat D (L' + 1 + 1) := fun e => off4 _ (.head _) e.symm
    have e2 : @Ne Nat D (L' + 1) := fun e => off4 _ (.tail _ (.head _)) e.symm
    have e4 : ∀ p ∈ (L' + 1, of) :: news, p.1 ≠ L' + 1 + 1 := fun p hp => by
      rcases List.mem_cons.mp hp with z | z
      · rw [z]; exact hn3.symm
      · exact hn1 p z
    have e3 : ∀ p ∈ news, p.1 ≠ D := fun p hp => off4 p (.tail _ (.tail _ hp))
    walk_at "M stepsC"
    rename Fr g' L' _ _ => F5
    rename News g' L' _ _ => N5
    rename_i o9 _ _ hd9
    refine' ListComp_M (h₀ := g') (L := L') (m := fun _ => none) (by with_unfolding_all rfl) (by decide) (by rfl) (by rfl) (by decide) ?_
    k_steps
    rename Fr g' L' _ _ => F6
    rename News g' L' _ _ => N6
    rename_i onn ol2 h9 l19
    refine name_list N6 fun vl hvl N6 => ?_
    have hvlen : vl.length = 6 := by rw [hvl]; rfl
    refine srcM_list (vs := vl) rfl F6 N6 (.head _) (by rw [sizeLine_eq]; rw [hvlen]; decide) fun g F7 N7 => ?_
    dsimp only
    refine ⟨fun i ys nx _ => nx = (ol2, listOf vl.toArray 0) :: (D, PyProof.Rows.LCg.lst ysD) :: (L' + 1 + 1, onn) :: (L' + 1, of) :: news ∧ IntsAre ys ((List.range i).map fun k => NS.sum / 256 ^ (5 - k) % 256), 0, Nat.zero_le _, ⟨rfl, .nil⟩, ?_, ?_⟩
    · rintro ys nx N0 ⟨rfl, hys2⟩
      intro D2 h tk hN F4 N4 off5
      walk_at "M hide"
      dsimp only
      clear F6 N6 F7 N7
      k_steps
      obtain ⟨NB, hNB⟩ : ∃ NB, NB = (List.range vl.length).map fun k => NS.sum / 256 ^ (5 - k) % 256 := ⟨_, rfl⟩
      rw [← hNB] at hys2
      have hNBb : ∀ n ∈ NB, 0 ≤ n ∧ n < 256 := by
        intro n hn
        walk_at "M hide"
        rw [hNB] at hn
        obtain ⟨k, _, rfl⟩ := List.mem_map.mp hn
        exact ⟨Int.emod_nonneg _ (by decide), Int.emod_lt_of_pos _ (by decide)⟩
      have hNBl : NB.length = 6 := by rw [hNB, List.length_map, List.length_range, hvlen]
      refine KBa.make_K F4 N4 rfl (led_list N4 (.head _)) hys2 hNBb (by rw [hNBl]; decide) ?_
      intro z1 z2 z3 z4 z5 z6
      walk_at "M hide"
      k_steps
      rw [hvlen] at hNB
      refine hideG fun G0 hG0 => ?_
      obtain ⟨r0, r1, r2, r3, r4, r5⟩ := oct_rel _ _ _ _ _ _ _ _ _ (hfb 0 (by first | decide | omega)) (hfb 1 (by first | decide | omega)) (hfb 2 (by first | decide | omega)) (hfb 3 (by first | decide | omega)) (hfb 4 (by first | decide | omega)) (hfb 5 (by first | decide | omega)) (hfb 6 (by first | decide | omega)) (hfb 7 (by first | decide | omega)) hs2
      refine hG0 ?_
      clear hG0
      refine ret _ _ _ _ ‹Fr h₀ L _ m› (news_sub ‹News h₀ L _ (_ :: _)› fun p hp => .tail _ (.tail _ (.tail _ (.tail _ (.tail _ hp))))) (by rw [byteArr_size, hNBl]) ?_ ?_ ?_
      · intro q c hq e
        rw [oct_get hNB hNBb e]
        rcases lt_two hq with rfl | rfl
        · exact r0
        · exact r3
      · intro q c hq e
        rw [oct_get hNB hNBb e]
        rcases lt_two hq with rfl | rfl
        · exact r1
        · exact r4
      · intro q c hq e
        rw [oct_get hNB hNBb e]
        rcases lt_two hq with rfl | rfl
        · exact r2
        · refine Eq.trans ?_ r5
          show NS.sum / 1 % 256 = _
          rw [Int.ediv_one]
    · rintro i ys nx N0 v I oI C oC D2 m₂ h u0 u1 tk E' hi ⟨rfl, hys2⟩ hN0 hv ht1 ht2 hC hCx F4 N4 off5 nd5
      walk_at "M hide"
      clear F6 N6 F7 N7
      dsimp only [List.cons_append, List.nil_append] at N4
      rw [hvl] at hv
      obtain ⟨e, te, hve, he0, he6, hei⟩ : ∃ (e : Int) (te : Tok), v = .int e te ∧ 0 ≤ e ∧ e < 6 ∧ e.toNat = 5 - i := by
        have hi6 : i = 0 ∨ i = 1 ∨ i = 2 ∨ i = 3 ∨ i = 4 ∨ i = 5 := lt_six (hvlen ▸ hi)
        rcases hi6 with rfl | rfl | rfl | rfl | rfl | rfl <;> (obtain rfl := Option.some.inj hv; exact ⟨_, _, rfl, by decide, by decide, rfl⟩)
      have hCy : m₂ (Str.ofString "k") = some (.int e te) := by rw [← hve]; exact hCx
      clear hCx hv hve
      k_steps
      refine floordiv_int (Int.ne_of_gt (Int.pow_pos (by decide))) ?_ (Or.inl (PyProof.noPylong_of_log2 (log_ok256 (toNat_six he6))))
      k_steps
      try (refine unQ (by with_reducible assumption) ?_)
      refine EndM.intro _ 0 (Nat.zero_le _) F4 N4 off5 (.head _) ⟨rfl, ?_⟩
      rw [List.range_succ, List.map_append]
      show IntsAre _ (_ ++ [NS.sum / 256 ^ (5 - i) % 256])
      rw [← hei, ← oct_dig]
      exact ints_snoc hys2
  · rintro i ys nx N0 v I oI C oC D m₂ h u0 u1 tk E' hi zH17 hN0 zH19 ht1 ht2 hC hCx F4 N4 off4 nd4
    walk_at "M hide"
    refine hideG fun G0 hG0 => ?_
    obtain ⟨rfl, hys⟩ := zH17
    obtain ⟨u, rfl, hu1, hu2⟩ := zH19
    refine hG0 ?_
    clear hG0
    clear F2 N2 F3 N3
    dsimp only [List.cons_append, List.nil_append] at N4
    have hm3 : (l, listOf vs.toArray k) ∈ (I, oI) :: (C, oC) :: (D, PyProof.Rows.LCg.lst ys) :: (L' + 1 + 1, on) :: (L' + 1, of) :: news := .tail _ (.tail _ (.tail _ hm2))
    have hi8 : i < 8 := hi
    have hi0 : (0 : Int) ≤ (i : Int) := Int.natCast_nonneg _
    have hi1 : (i : Int) < 8 := Int.ofNat_lt.mpr hi8
    have hCy : m₂ (Str.ofString "k") = some (.int (i : Int) u) := by rw [← Int.zero_add (i : Int)]; exact hCx
    clear hCx
    have h7 : i < vs.length := by rw [hvL, hfl]; exact hi8
    obtain ⟨v0, t0, hv0, hf0⟩ : ∃ v0 t0, vs[i]? = some (.int v0 t0) ∧ v0 = fg figs i := by
      refine hideG fun G0 hG0 => ?_
      obtain ⟨p, tp, e1, e2⟩ := hvI i _ (List.getElem?_eq_getElem h7)
      refine hG0 ?_
      clear hG0
      exact ⟨p, tp, by rw [List.getElem?_eq_getElem h7, e1], by unfold fg; rw [List.getD_eq_getElem?_getD, e2]; rfl⟩
    have hv0' : vs[(i : Int).toNat]? = some (.int v0 t0) := by rw [Int.toNat_natCast]; exact hv0
    have hilt : (i : Int) < vs.length := Int.ofNat_lt.mpr h7
    k_steps
    have hbb : 0 ≤ figs.getD (i : Int).toNat 0 ∧ figs.getD (i : Int).toNat 0 < 64 := hfb i hi8
    refine mul_int ?_ (mul_ok64 hbb.1 hbb.2 (seven_sub i).2)
    k_steps
    try (refine unQ (by with_reducible assumption) ?_)
    refine EndM.intro _ 0 (Nat.zero_le _) F4 N4 off4 trivial ⟨rfl, ?_⟩
    rw [List.range_succ, List.map_append]
    show IntsAre _ (_ ++ [fg figs i * 64 ^ (7 - i)])
    rw [← (seven_sub i).1]
    exact ints_snoc hys
end
section
theorem flush_E10 : (1 : Nat) ≤ 2 := by
  w_top off
  first | walk1 | decide
theorem kslice_ints {vs : List Value} {ns : List Int} (h : Keep (IntsAre vs ns)) {g : Heap} {L : Addr} {h' : Heap} {D : Addr} {k : Nat} {lo hi st : Option Int} {rest : List (Addr × Obj)} (_N : News g L h' ((D, listOf (slicePick vs.toArray lo hi st).toList.toArray k) :: rest)) :
    IntsAre (slicePick vs.toArray lo hi st).toList (pickNums ns lo hi st) := IntsAre.pick h lo hi st
local macro_rules | `(tactic| walk_at "subscriptTail") => `(tactic| (k_here; (with_reducible show wpAny _ _ (subscriptTail _ _ (Value.ref _) (Value.int _ _)) _ _ _); k_dflt (refine' item_i ?N ?m ?a ?b ?c ?_; (case N => k_asm); (case m => k_mem); (case a => first | assumption | omega); (case b => first | assumption | omega); (case c => assumption))))
local macro_rules | `(tactic| walk_at "subscriptTail Name Slice ref ref") => `(tactic| (k_here; (with_reducible show wpAny _ _ (subscriptTail _ (PySem.Expr.Slice _ _ (some _) _) (Value.ref _) (Value.ref _)) _ _ _); k_dflt (refine' kmk_slice3_lit ?F ?N ?l ?p ?q ?k ?o ?e ?_ ?s ?t ?z; (case F => k_asm); (case N => k_asm); (case l => kmk_list); (case p => kmk_part); (case q => kmk_part); (case k => kmk_part); (case o => decide); (case e => exact rfl); (case s => with_unfolding_all rfl); (case t => kmk_pure); (case z => assumption)); intro D' h' F' N' l1; (try k_lt l1); (have hI' := kslice_ints (by assumption) N')))
theorem figures_c {w : World} {mean : ExcName → Option Value} {mg mb : PySem.Str → Option Value} {A₀ : Around} {base h₀ : Heap} {L : Addr} {env : Env} {outer : List Env} {dp un : Nat} {gd : Option (List Code)} {m : PySem.Str → Option Value} {s : Shared} {Q E : Value → Shared → Prop} {news : List (Addr × Obj)} {l : Addr} {vs : List Value} {k : Nat} {ns : List Int} (hm : (l, listOf vs.toArray k) ∈ news) (hvs : IntsAre vs ns) (hnl : ns.length ≤ 16) (hdp' : dp < 400) (hun' : un < 3000)
   (ret : ∀ h' tk D ys (figs : List Int), Fr h₀ L h' m → News h₀ L h' ((D, PyProof.Rows.LCg.lst ys) :: news) → IntsAre ys figs → figs.length = 8 → (∀ k, k < 8 → 0 ≤ fg figs k ∧ fg figs k < 64) → Q (.ref D) { s with heap := h', toks := tk })
   (Y : Pt w mean mg mb L env outer A₀ base h₀ dp un) (F : Fr h₀ L s.heap m) (N : News h₀ L s.heap news) :
   wpAny (model PySem.Challenge.rw_il0017_01.row.prog w) (Ar dp un gd env outer) (call (.ref 204) [.ref l]) Q E s := by
  refine hideG fun G0 hG0 => ?_
  obtain ⟨B, X, T, hfr, hk, hdp, hun⟩ := Y
  refine hG0 ?_
  clear hG0
  have hvk : Keep (IntsAre vs ns) := hvs
  have hvz : vs.toArray.size ≤ sizeLine := by rw [List.size_toArray, hvs.length, sizeLine_eq]; omega
  clear hvs
  refine wpAny_noRaise ?_
  refine wpAny_call ?_
  walk_at "M enterC"
  intro g' L' h' tk' cells FG' F' N' Y' B' X' T' l'
  walk_at "M hide"
  replace F' : Fr g' L' h' (fun _ => none) := F'
  replace Y' : CellsAre (fun y => if y = Str.ofString "script" then some (.ref l) else none) [(Str.ofString "script", L' + 1)] cells := Y'
  obtain ⟨of, rfl, hof⟩ := Y'.one
  replace hof : of.data = .cell (some (.ref l)) := hof
  dsimp only
  dsimp only [List.cons_append, List.nil_append] at N'
  have hn2 : ∀ p ∈ news, p.1 ≠ L' + 1 := fun p hp => Nat.ne_of_lt (Nat.lt_succ_of_lt (l' p hp))
  have hm2 : (l, listOf vs.toArray k) ∈ (L' + 1, of) :: news := .tail _ hm
  walk_at "M stepsC"
  rename Fr g' L' _ _ => F1
  rename News g' L' _ _ => N1
  refine' ListComp_M (h₀ := g') (L := L') (m := fun _ => none) (by with_unfolding_all rfl) (by decide) (by rfl) (by rfl) (by decide) ?_
  k_steps
  rename IsRange _ _ _ _ _ _ _ _ => hr
  rename Fr g' L' _ _ => F2
  rename News g' L' _ _ => N2
  refine srcM_range (n := 8) rfl F2 N2 hr (by decide) (by rfl) (by rw [sizeLine_eq]; first | decide | omega) fun g F3 N3 => ?_
  dsimp only
  refine ⟨fun i ys nx _ => nx = (L' + 1, of) :: news ∧ ∃ fs, IntsAre ys fs ∧ fs.length = i ∧ ∀ x ∈ fs, 0 ≤ x ∧ x < 64, 0, Nat.zero_le _, ⟨rfl, [], .nil, rfl, by intro x hx; cases hx⟩, ?_, ?_⟩
  · rintro ys nx N0 zH3
    walk_at "M hide"
    refine hideG fun G0 hG0 => ?_
    obtain ⟨rfl, fs, hys, hfl, hfb⟩ := zH3
    refine hG0 ?_
    clear hG0
    intro D h tk hN F4 N4 off4
    walk_at "M hide"
    dsimp only
    clear F2 N2 F3 N3
    k_steps
    refine ret _ _ _ _ _ ‹Fr h₀ L _ m› (news_sub ‹News h₀ L _ (_ :: _)› fun p hp => ?_) hys hfl fun k hk => ?_
    · rcases List.mem_cons.mp hp with z | z
      · rw [z]; exact .head _
      · exact .tail _ (.tail _ z)
    · unfold fg
      rw [List.getD_eq_getElem?_getD, List.getElem?_eq_getElem (show k < fs.length by omega)]
      exact hfb _ (List.getElem_mem _)
  · rintro i ys nx N0 v I oI C oC D m₂ h u0 u1 tk E' hi zH17 hN0 zH19 ht1 ht2 hC hCx F4 N4 off4 nd4
    walk_at "M hide"
    refine hideG fun G0 hG0 => ?_
    obtain ⟨rfl, fs, hys, hfl, hfb⟩ := zH17
    obtain ⟨u, rfl, hu1, hu2⟩ := zH19
    refine hG0 ?_
    clear hG0
    clear F2 N2 F3 N3
    dsimp only [List.cons_append, List.nil_append] at N4
    have hm3 : (l, listOf vs.toArray k) ∈ (I, oI) :: (C, oC) :: (D, PyProof.Rows.LCg.lst ys) :: (L' + 1, of) :: news := .tail _ (.tail _ (.tail _ hm2))
    have hi8 : i = 0 ∨ i = 1 ∨ i = 2 ∨ i = 3 ∨ i = 4 ∨ i = 5 ∨ i = 6 ∨ i = 7 := lt_eight hi
    rcases hi8 with rfl | rfl | rfl | rfl | rfl | rfl | rfl | rfl
    · have hCy : m₂ (Str.ofString "k") = some (.int 0 u) := hCx
      clear hCx
      k_steps
      try (refine unQ (by with_reducible assumption) ?_)
      refine EndM.intro _ 0 (Nat.zero_le _) ‹Fr g' L' _ (fun _ => none)› (news_sub ‹News g' L' _ ((_, listOf (slicePick _ _ _ _).toList.toArray _) :: _)› fun p hp => .tail _ (.tail _ hp)) off4 trivial ⟨rfl, fs ++ [(2 + (pickNums ns (some 0) none (some 8)).sum).fmod 64], ints_snoc hys, by rw [List.length_append, hfl]; rfl, ?_⟩
      intro x hx
      walk_at "M hide"
      rcases List.mem_append.mp hx with hx | hx
      · exact hfb x hx
      · rw [List.mem_singleton.mp hx]
        exact ⟨Int.fmod_nonneg_of_pos _ (by decide), Int.fmod_lt_of_pos _ (by decide)⟩
    · have hCy : m₂ (Str.ofString "k") = some (.int 1 u) := hCx
      clear hCx
      k_steps
      try (refine unQ (by with_reducible assumption) ?_)
      refine EndM.intro _ 0 (Nat.zero_le _) ‹Fr g' L' _ (fun _ => none)› (news_sub ‹News g' L' _ ((_, listOf (slicePick _ _ _ _).toList.toArray _) :: _)› fun p hp => .tail _ (.tail _ hp)) off4 trivial ⟨rfl, fs ++ [(0 + (pickNums ns (some 1) none (some 8)).sum).fmod 64], ints_snoc hys, by rw [List.length_append, hfl]; rfl, ?_⟩
      intro x hx
      walk_at "M hide"
      rcases List.mem_append.mp hx with hx | hx
      · exact hfb x hx
      · rw [List.mem_singleton.mp hx]
        exact ⟨Int.fmod_nonneg_of_pos _ (by decide), Int.fmod_lt_of_pos _ (by decide)⟩
    · have hCy : m₂ (Str.ofString "k") = some (.int 2 u) := hCx
      clear hCx
      k_steps
      try (refine unQ (by with_reducible assumption) ?_)
      refine EndM.intro _ 0 (Nat.zero_le _) ‹Fr g' L' _ (fun _ => none)› (news_sub ‹News g' L' _ ((_, listOf (slicePick _ _ _ _).toList.toArray _) :: _)› fun p hp => .tail _ (.tail _ hp)) off4 trivial ⟨rfl, fs ++ [(9 + (pickNums ns (some 2) none (some 8)).sum).fmod 64], ints_snoc hys, by rw [List.length_append, hfl]; rfl, ?_⟩
      intro x hx
      walk_at "M hide"
      rcases List.mem_append.mp hx with hx | hx
      · exact hfb x hx
      · rw [List.mem_singleton.mp hx]
        exact ⟨Int.fmod_nonneg_of_pos _ (by decide), Int.fmod_lt_of_pos _ (by decide)⟩
    · have hCy : m₂ (Str.ofString "k") = some (.int 3 u) := hCx
      clear hCx
      k_steps
      try (refine unQ (by with_reducible assumption) ?_)
      refine EndM.intro _ 0 (Nat.zero_le _) ‹Fr g' L' _ (fun _ => none)› (news_sub ‹News g' L' _ ((_, listOf (slicePick _ _ _ _).toList.toArray _) :: _)› fun p hp => .tail _ (.tail _ hp)) off4 trivial ⟨rfl, fs ++ [(0 + (pickNums ns (some 3) none (some 8)).sum).fmod 64], ints_snoc hys, by rw [List.length_append, hfl]; rfl, ?_⟩
      intro x hx
      walk_at "M hide"
      rcases List.mem_append.mp hx with hx | hx
      · exact hfb x hx
      · rw [List.mem_singleton.mp hx]
        exact ⟨Int.fmod_nonneg_of_pos _ (by decide), Int.fmod_lt_of_pos _ (by decide)⟩
    · have hCy : m₂ (Str.ofString "k") = some (.int 4 u) := hCx
      clear hCx
      k_steps
      try (refine unQ (by with_reducible assumption) ?_)
      refine EndM.intro _ 0 (Nat.zero_le _) ‹Fr g' L' _ (fun _ => none)› (news_sub ‹News g' L' _ ((_, listOf (slicePick _ _ _ _).toList.toArray _) :: _)› fun p hp => .tail _ (.tail _ hp)) off4 trivial ⟨rfl, fs ++ [(4 + (pickNums ns (some 4) none (some 8)).sum).fmod 64], ints_snoc hys, by rw [List.length_append, hfl]; rfl, ?_⟩
      intro x hx
      walk_at "M hide"
      rcases List.mem_append.mp hx with hx | hx
      · exact hfb x hx
      · rw [List.mem_singleton.mp hx]
        exact ⟨Int.fmod_nonneg_of_pos _ (by decide), Int.fmod_lt_of_pos _ (by decide)⟩
    · have hCy : m₂ (Str.ofString "k") = some (.int 5 u) := hCx
      clear hCx
      k_steps
      try (refine unQ (by with_reducible assumption) ?_)
      refine EndM.intro _ 0 (Nat.zero_le _) ‹Fr g' L' _ (fun _ => none)› (news_sub ‹News g' L' _ ((_, listOf (slicePick _ _ _ _).toList.toArray _) :: _)› fun p hp => .tail _ (.tail _ hp)) off4 trivial ⟨rfl, fs ++ [(16 + (pickNums ns (some 5) none (some 8)).sum).fmod 64], ints_snoc hys, by rw [List.length_append, hfl]; rfl, ?_⟩
      intro x hx
      walk_at "M hide"
      rcases List.mem_append.mp hx with hx | hx
      · exact hfb x hx
      · rw [List.mem_singleton.mp hx]
        exact ⟨Int.fmod_nonneg_of_pos _ (by decide), Int.fmod_lt_of_pos _ (by decide)⟩
    · have hCy : m₂ (Str.ofString "k") = some (.int 6 u) := hCx
      clear hCx
      k_steps
      try (refine unQ (by with_reducible assumption) ?_)
      refine EndM.intro _ 0 (Nat.zero_le _) ‹Fr g' L' _ (fun _ => none)› (news_sub ‹News g' L' _ ((_, listOf (slicePick _ _ _ _).toList.toArray _) :: _)› fun p hp => .tail _ (.tail _ hp)) off4 trivial ⟨rfl, fs ++ [(32 + (pickNums ns (some 6) none (some 8)).sum).fmod 64], ints_snoc hys, by rw [List.length_append, hfl]; rfl, ?_⟩
      intro x hx
      walk_at "M hide"
      rcases List.mem_append.mp hx with hx | hx
      · exact hfb x hx
      · rw [List.mem_singleton.mp hx]
        exact ⟨Int.fmod_nonneg_of_pos _ (by decide), Int.fmod_lt_of_pos _ (by decide)⟩
    · have hCy : m₂ (Str.ofString "k") = some (.int 7 u) := hCx
      clear hCx
      k_steps
      try (refine unQ (by with_reducible assumption) ?_)
      refine EndM.intro _ 0 (Nat.zero_le _) ‹Fr g' L' _ (fun _ => none)› (news_sub ‹News g' L' _ ((_, listOf (slicePick _ _ _ _).toList.toArray _) :: _)› fun p hp => .tail _ (.tail _ hp)) off4 trivial ⟨rfl, fs ++ [(34 + (pickNums ns (some 7) none (some 8)).sum).fmod 64], ints_snoc hys, by rw [List.length_append, hfl]; rfl, ?_⟩
      intro x hx
      walk_at "M hide"
      rcases List.mem_append.mp hx with hx | hx
      · exact hfb x hx
      · rw [List.mem_singleton.mp hx]
        exact ⟨Int.fmod_nonneg_of_pos _ (by decide), Int.fmod_lt_of_pos _ (by decide)⟩
end
section
theorem flush_E11 : (1 : Nat) ≤ 2 := by
  w_top off
  first | walk1 | decide
local macro_rules | `(tactic| walk_at "subscriptTail") => `(tactic| (k_here; (with_reducible show wpAny _ _ (subscriptTail _ _ (Value.ref _) (Value.int _ _)) _ _ _); k_dflt (refine' item_i ?N ?m ?a ?b ?c ?_; (case N => k_asm); (case m => k_mem); (case a => first | assumption | omega); (case b => first | assumption | omega); (case c => assumption))))
theorem due_bit {n : Int} (e : Nat) : (n.fdiv (2 ^ e)).fmod 2 = n / 2 ^ e % 2 := by
  rw [Int.fdiv_eq_ediv_of_nonneg _ (Int.pow_nonneg (by decide)), Int.fmod_eq_emod_of_nonneg _ (by decide)]
theorem name_obj {P : Prop} {g : Heap} {L : Addr} {h : Heap} {l : Addr} {rest : List (Addr × Obj)} {o : Obj} (N : News g L h ((l, o) :: rest))
    (K : ∀ o', o' = o → News g L h ((l, o') :: rest) → P) : P := K o rfl N
theorem wts_pos {figs : List Int} {fk kk q : Int} (hff : fk = fg figs kk.toNat) (h1 : q < 6) (h2 : (fk.fdiv (2 ^ q.toNat)).fmod 2 = 1) : wts figs kk q = true := by
  unfold wts
  rw [due_bit, hff] at h2
  simp [h1, h2]
theorem wts_neg {figs : List Int} {fk kk q : Int} (hff : fk = fg figs kk.toNat) (h2 : (fk.fdiv (2 ^ q.toNat)).fmod 2 ≠ 1) : wts figs kk q = false := by
  unfold wts
  rw [due_bit, hff] at h2
  simp [h2]
theorem wts_far {figs : List Int} {kk q : Int} (h1 : ¬ q < 6) : wts figs kk q = false := by
  unfold wts
  simp [h1]
theorem filt_pos {p : Int → Bool} {l : List Int} {j : Nat} {q : Int} (h : l[j]? = some q) (hp : p q = true) : (l.take (j + 1)).filter p = (l.take j).filter p ++ [q] := by
  rw [List.take_add_one, h, List.filter_append]
  show _ ++ List.filter p [q] = _
  rw [List.filter_cons_of_pos hp, List.filter_nil]
theorem filt_neg {p : Int → Bool} {l : List Int} {j : Nat} {q : Int} (h : l[j]? = some q) (hp : p q = false) : (l.take (j + 1)).filter p = (l.take j).filter p := by
  rw [List.take_add_one, h, List.filter_append]
  show _ ++ List.filter p [q] = _
  rw [List.filter_cons_of_neg (by rw [hp]; decide), List.filter_nil, List.append_nil]
theorem any_no {p : Int → Bool} {l : List Int} (h : decide (l.filter p = []) = true) : l.any p = false := by
  have := of_decide_eq_true h
  rw [List.filter_eq_nil_iff] at this
  rw [List.any_eq_false]
  exact this
theorem any_yes {p : Int → Bool} {l : List Int} (h : decide (l.filter p = []) = false) : l.any p = true := by
  have := of_decide_eq_false h
  rw [← Bool.not_eq_false, List.any_eq_false]
  rwa [List.filter_eq_nil_iff] at this
theorem cells3 {cm : PySem.Str → Option Value} {n n' n2 : PySem.Str} {c c' c2 : Addr} {cells : List (Addr × Obj)} (x : CellsAre cm [(n, c), (n', c'), (n2, c2)] cells) :
    ∃ o o' o2, cells = [(c, o), (c', o'), (c2, o2)] ∧ o.data = .cell (cm n) ∧ o'.data = .cell (cm n') ∧ o2.data = .cell (cm n2) := by
  cases x with | cons h r => obtain ⟨o', o2, rfl, h', h2⟩ := r.two; exact ⟨_, o', o2, rfl, h, h', h2⟩
mutual
theorem datIn_seq {news news' : List (Addr × Obj)} (hs : ∀ p ∈ news, (∃ a n, p.2.data = .seq a n) → p ∈ news') {v : Value} {d : Dat} (x : DatIn news v d) : DatIn news' v d := by
  cases x with
  | none => exact .none
  | bool b => exact .bool b
  | int i t => exact .int i t
  | str x t => exact .str x t
  | bytes b t => exact .bytes b t
  | tuple h r => exact .tuple (hs _ h ⟨_, _, rfl⟩) (datAll_seq hs r)
  | list h r => exact .list (hs _ h ⟨_, _, rfl⟩) (datAll_seq hs r)
theorem datAll_seq {news news' : List (Addr × Obj)} (hs : ∀ p ∈ news, (∃ a n, p.2.data = .seq a n) → p ∈ news') {vs : List Value} {ds : List Dat} (x : DatAll news vs ds) : DatAll news' vs ds := by
  cases x with
  | nil => exact .nil
  | cons h r => exact .cons (datIn_seq hs h) (datAll_seq hs r)
end
theorem in7 {a b c d e f g : Addr × Obj} {R : List (Addr × Obj)} {p : Addr × Obj} (h : p ∈ R) : p ∈ a :: b :: c :: d :: e :: f :: g :: R := .tail _ (.tail _ (.tail _ (.tail _ (.tail _ (.tail _ (.tail _ h))))))
/-- the state at the head of the while -/
inductive DueJ (figs : List Int) (L2 L3 LR : Addr) (R : List (Addr × Obj)) (mm : PySem.Str → Option Value) (n : Nat) (m : PySem.Str → Option Value) (nx : List (Addr × Obj)) : Prop where
  | mk : (m = mm) → ∀ left rs LL LT olx oax lvl lvt cl ct rvs kr RR, (n = left.length) → (Rdz figs eight rs left) → (nx = (LT, listOf (List.toArray lvt) ct) :: (LR, listOf (List.toArray rvs) kr) :: (L2, olx) :: (L3, oax) :: (LL, listOf (List.toArray lvl) cl) :: RR) → (olx.data = .cell (some (.ref LL))) → (oax.data = .cell (some (.ref LT))) → (IntsAre lvl left) → (IntsAre lvt (later figs left)) → ((∀ p ∈ R, p ∈ RR)) → (DatAll RR rvs (rs.map rdD)) → (rvs.length = rs.length) → ((@Ne Nat LL LR ∧ @Ne Nat LL L2 ∧ @Ne Nat LL L3 ∧ @Ne Nat LT LR ∧ @Ne Nat LT L2 ∧ @Ne Nat LT L3)) → ((∀ q ∈ RR, q.1 ≠ LR)) → ((∀ q ∈ RR, q.1 ≠ L2)) → ((∀ q ∈ RR, q.1 ≠ L3)) → DueJ figs L2 L3 LR R mm n m nx
theorem due_c {w : World} {mean : ExcName → Option Value} {mg mb : PySem.Str → Option Value} {A₀ : Around} {base h₀ : Heap} {L : Addr} {env : Env} {outer : List Env} {dp un : Nat} {gd : Option (List Code)} {m : PySem.Str → Option Value} {s : Shared} {Q E : Value → Shared → Prop} {news : List (Addr × Obj)} {l : Addr} {vs : List Value} {k : Nat} {figs : List Int} (hm : (l, listOf vs.toArray k) ∈ news) (hvs : IntsAre vs figs) (hfl : figs.length = 8) (hfb : ∀ k, k < 8 → 0 ≤ fg figs k ∧ fg figs k < 64) (hdp' : dp < 400) (hun' : un < 3000)
   (ret : ∀ h' tk D nx rs fin, Fr h₀ L h' m → News h₀ L h' nx → (∀ p ∈ news, p ∈ nx) → Rds figs eight rs fin → DatIn nx (.ref D) (dueD figs rs fin) → Q (.ref D) { s with heap := h', toks := tk })
   (Y : Pt w mean mg mb L env outer A₀ base h₀ dp un) (F : Fr h₀ L s.heap m) (N : News h₀ L s.heap news) :
   wpAny (model PySem.Challenge.rw_il0017_01.row.prog w) (Ar dp un gd env outer) (call (.ref 226) [.ref l]) Q E s := by
  refine hideG fun G0 hG0 => ?_
  obtain ⟨B, X, T, hfr, hk, hdp, hun⟩ := Y
  refine hG0 ?_
  clear hG0
  have hvk : Keep (IntsAre vs figs) := hvs
  have hvL := hvs.length
  clear hvs
  refine wpAny_noRaise ?_
  refine wpAny_call ?_
  walk_at "M enterC"
  intro g' L' h' tk' cells FG' F' N' Y' B' X' T' l'
  walk_at "M hide"
  replace F' : Fr g' L' h' (fun _ => none) := F'
  replace Y' : CellsAre (fun y => if y = Str.ofString "figures" then some (.ref l) else none) [(Str.ofString "later", L' + 1 + 1 + 1), (Str.ofString "left", L' + 1 + 1), (Str.ofString "figures", L' + 1)] cells := Y'
  refine hideG fun G0 hG0 => ?_
  obtain ⟨oa, ol, of, rfl, hoa, hol, hof⟩ := cells3 Y'
  refine hG0 ?_
  clear hG0
  replace hoa : oa.data = .cell none := hoa
  replace hol : ol.data = .cell none := hol
  replace hof : of.data = .cell (some (.ref l)) := hof
  dsimp only
  dsimp only [List.cons_append, List.nil_append] at N'
  have hl1 : ∀ p ∈ news, p.1 ≠ L' + 1 + 1 + 1 := fun p hp => Nat.ne_of_lt (Nat.lt_succ_of_lt (Nat.lt_succ_of_lt (Nat.lt_succ_of_lt (l' p hp))))
  have hl2 : ∀ p ∈ news, p.1 ≠ L' + 1 + 1 := fun p hp => Nat.ne_of_lt (Nat.lt_succ_of_lt (Nat.lt_succ_of_lt (l' p hp)))
  have hl3 : ∀ p ∈ news, p.1 ≠ L' + 1 := fun p hp => Nat.ne_of_lt (Nat.lt_succ_of_lt (l' p hp))
  have hab : @Ne Nat (L' + 1 + 1 + 1) (L' + 1 + 1) := Nat.succ_ne_self _
  have hac : @Ne Nat (L' + 1 + 1 + 1) (L' + 1) := by first | decide | omega
  have hbc : @Ne Nat (L' + 1 + 1) (L' + 1) := Nat.succ_ne_self _
  have hm2 : (l, listOf vs.toArray k) ∈ (L' + 1 + 1 + 1, oa) :: (L' + 1 + 1, ol) :: (L' + 1, of) :: news := .tail _ (.tail _ (.tail _ hm))
  walk_at "M stepsC"
  rename Fr g' L' _ _ => F1
  rename News g' L' _ _ => N1
  refine' Assign_MC (h₀ := g') (L := L') (m := fun _ => none) rfl (by with_unfolding_all rfl) (by with_unfolding_all rfl) (fun _ => rfl) (fun _ => rfl) (fun _ _ => rfl) (by rfl) (by decide) (by rfl) (by rfl) ?_
  k_steps
  refine srcM_list rfl F1 N1 hm2 (by rw [sizeLine_eq]; first | decide | omega) fun g F2 N2 => ?_
  dsimp only
  refine ⟨fun i ys nx _ => (∃ tl, nx = tl ++ ((L' + 1 + 1 + 1, oa) :: (L' + 1 + 1, ol) :: (L' + 1, of) :: news) ∧ ∀ q ∈ tl, q.1 ≠ L' + 1 + 1 + 1 ∧ q.1 ≠ L' + 1 + 1) ∧ DatAll nx ys ((figs.take i).map (cntD figs)), 0, Nat.zero_le _, ⟨⟨[], rfl, by intro q hq; cases hq⟩, .nil⟩, ?_, ?_⟩
  · rintro ysC nx N0 zH3
    walk_at "M hide"
    refine hideG fun G0 hG0 => ?_
    obtain ⟨⟨tl, rfl, htl⟩, hysC⟩ := zH3
    refine hG0 ?_
    clear hG0
    rw [hvL, List.take_length] at hysC
    intro D h tk hN F4 N4 off4
    walk_at "M hide"
    dsimp only
    clear F1 N1 F2 N2
    obtain ⟨R, hR⟩ : ∃ R, R = (L' + 1, of) :: (D, PyProof.Rows.LCg.lst ysC) :: (tl ++ news) := ⟨_, rfl⟩
    have hm6 : (l, listOf vs.toArray k) ∈ R := by rw [hR]; exact .tail _ (.tail _ (List.mem_append_right _ hm))
    have hm7 : (L' + 1, of) ∈ R := by rw [hR]; exact .head _
    have hm8 : (D, PyProof.Rows.LCg.lst ysC) ∈ R := by rw [hR]; exact .tail _ (.head _)
    have hRn : ∀ p ∈ news, p ∈ R := fun p hp => by rw [hR]; exact .tail _ (.tail _ (List.mem_append_right _ hp))
    have hRd : DatAll ((L' + 1 + 1 + 1, oa) :: (L' + 1 + 1, ol) :: R) ysC (figs.map (cntD figs)) := hysC.mono fun q hq => by
      rw [hR]
      rcases List.mem_append.mp hq with hq | hq
      · exact .tail _ (.tail _ (.tail _ (.tail _ (List.mem_append_left _ hq))))
      · simp only [List.mem_cons] at hq ⊢
        rcases hq with hq | hq | hq | hq
        · exact .inl hq
        · exact .inr (.inl hq)
        · exact .inr (.inr (.inl hq))
        · exact .inr (.inr (.inr (.inr (List.mem_append_right _ hq))))
    have hR1 : ∀ p ∈ R, p.1 ≠ L' + 1 + 1 + 1 := fun p hp => by
      rw [hR] at hp
      rcases List.mem_cons.mp hp with z | hp
      · rw [z]; exact hac.symm
      rcases List.mem_cons.mp hp with z | hp
      · rw [z]; exact (off4 _ (List.mem_append_right _ (.head _))).symm
      rcases List.mem_append.mp hp with hp | hp
      · exact (htl p hp).1
      · exact hl1 p hp
    have hR2 : ∀ p ∈ R, p.1 ≠ L' + 1 + 1 := fun p hp => by
      rw [hR] at hp
      rcases List.mem_cons.mp hp with z | hp
      · rw [z]; exact hbc.symm
      rcases List.mem_cons.mp hp with z | hp
      · rw [z]; exact (off4 _ (List.mem_append_right _ (.tail _ (.head _)))).symm
      rcases List.mem_append.mp hp with hp | hp
      · exact (htl p hp).2
      · exact hl2 p hp
    have N5 : News g' L' h ((L' + 1 + 1 + 1, oa) :: (L' + 1 + 1, ol) :: R) := news_sub N4 fun q hq => by
      rw [hR] at hq
      simp only [List.mem_cons, List.mem_append] at hq ⊢
      rcases hq with hq | hq | hq | hq | hq | hq
      · exact .inr (.inr (.inl hq))
      · exact .inr (.inr (.inr (.inl hq)))
      · exact .inr (.inr (.inr (.inr (.inl hq))))
      · exact .inl hq
      · exact .inr (.inl hq)
      · exact .inr (.inr (.inr (.inr (.inr hq))))
    clear N4 off4
    walk_at "M stepsL"
    rename IsRange _ _ _ _ _ _ _ _ => hrg
    rename Fr g' L' _ _ => F6
    rename News g' L' _ _ => N6
    refine kll_range (n := 8) rfl F6 N6 hrg (by decide) (by rfl) (by decide) fun DL vl cl h7 tk7 F7 N7 l7 hvl => ?_
    obtain ⟨lf, hlfe⟩ : ∃ lf, lf = eight := ⟨_, rfl⟩
    have hvlk : Keep (IntsAre vl lf) := by rw [hlfe]; exact hvl
    have hlf8 : ∀ x ∈ lf, 0 ≤ x ∧ x < 8 := by rw [hlfe]; decide
    have hlfn : lf.length ≤ 8 := by rw [hlfe]; decide
    clear hvl
    have e4 : ∀ p ∈ (L' + 1 + 1 + 1, oa) :: (DL, listOf vl.toArray cl) :: R, p.1 ≠ L' + 1 + 1 := fun p hp => by
      rcases List.mem_cons.mp hp with z | hp
      · rw [z]; exact hab
      rcases List.mem_cons.mp hp with z | hp
      · rw [z]; exact Nat.ne_of_gt (l7 _ (.tail _ (.head _)))
      · exact hR2 p hp
    have N8 : News g' L' h7 ((L' + 1 + 1, ol) :: (L' + 1 + 1 + 1, oa) :: (DL, listOf vl.toArray cl) :: R) := news_sub N7 fun q hq => by
      simp only [List.mem_cons] at hq ⊢
      rcases hq with hq | hq | hq | hq
      · exact .inr (.inr (.inl hq))
      · exact .inr (.inl hq)
      · exact .inl hq
      · exact .inr (.inr (.inr hq))
    clear N7 N6 F6
    walk_at "M stepsC"
    rename_i ol2 hol2 tk9 LR h9 l9 h10 F10 N10
    have hvll : vl.length = lf.length := IntsAre.length hvlk
    have hRL : AllLt LR R := l9.2.2.2
    obtain ⟨LD, hLD⟩ : ∃ LD, LD = (LR, listOf ([] : List Value).toArray 0) :: (L' + 1 + 1, ol2) :: (L' + 1 + 1 + 1, oa) :: (DL, listOf vl.toArray cl) :: R := ⟨_, rfl⟩
    have N11 : News g' L' h10 LD := by rw [hLD]; exact N10
    have gmF : (l, listOf vs.toArray k) ∈ LD := by rw [hLD]; exact .tail _ (.tail _ (.tail _ (.tail _ hm6)))
    have gmf : (L' + 1, of) ∈ LD := by rw [hLD]; exact .tail _ (.tail _ (.tail _ (.tail _ hm7)))
    have gmL : (L' + 1 + 1, ol2) ∈ LD := by rw [hLD]; exact .tail _ (.head _)
    have gmD : (DL, listOf vl.toArray cl) ∈ LD := by rw [hLD]; exact .tail _ (.tail _ (.tail _ (.head _)))
    obtain ⟨mm, hmm⟩ : ∃ mm : PySem.Str → Option Value, mm = fun y => if y = Str.ofString "rounds" then some (Value.ref LR) else if y = Str.ofString "counts" then some (Value.ref D) else (fun _ => none) y := ⟨_, rfl⟩
    rw [← hmm] at F10
    clear N10
    walk_at "M stepsE"
    refine' ListComp_MTC (h₀ := g') (L := L') (m := mm) (by with_unfolding_all rfl) (fun _ => rfl) (fun _ => rfl) (fun _ _ => rfl) (by rfl) (by decide) ?_
    k_steps
    refine srcM_list rfl F10 N11 gmD (by rw [sizeLine_eq]; first | decide | omega) fun g F12 N12 => ?_
    dsimp only
    refine ⟨fun i ys nx _ => LD = nx ∧ IntsAre ys ((lf.take i).filter fun k => lf.any (wts figs k)), 0, Nat.zero_le _, ⟨rfl, .nil⟩, ?_, ?_⟩
    · rintro ysL nx N0 ⟨rfl, hysL⟩
      rw [hvll, List.take_length] at hysL
      intro DT h12 tk12 hN12 F13 N13 off13
      walk_at "M hide"
      dsimp only
      clear N11 F12 N12
      rw [hLD] at N13 off13
      have hDT : ∀ q ∈ (LR, listOf ([] : List Value).toArray 0) :: (L' + 1 + 1, ol2) :: (L' + 1 + 1 + 1, oa) :: (DL, listOf vl.toArray cl) :: R, @Ne Nat q.1 DT := off13
      have t1 : @Ne Nat LR DT := hDT _ (.head _)
      have t2 : @Ne Nat (L' + 1 + 1) DT := hDT _ (.tail _ (.head _))
      have t3 : @Ne Nat (L' + 1 + 1 + 1) DT := hDT _ (.tail _ (.tail _ (.head _)))
      have t4 : @Ne Nat DL DT := hDT _ (.tail _ (.tail _ (.tail _ (.head _))))
      have tR : ∀ q ∈ R, q.1 ≠ DT := fun q hq => hDT q (.tail _ (.tail _ (.tail _ (.tail _ hq))))
      clear hDT
      have hTk : Keep (IntsAre ysL (lf.filter fun k => lf.any (wts figs k))) := hysL
      clear hysL
      have u1 : @Ne Nat DL (L' + 1 + 1 + 1) := Nat.ne_of_gt (l7 _ (.head _))
      have u2 : @Ne Nat DL (L' + 1 + 1) := Nat.ne_of_gt (l7 _ (.tail _ (.head _)))
      have uR : ∀ q ∈ R, q.1 ≠ DL := fun q hq => Nat.ne_of_lt (l7 q (.tail _ (.tail _ hq)))
      have vR : ∀ q ∈ R, q.1 ≠ LR := fun q hq => Nat.ne_of_lt (tb_ltOf hRL q hq)
      have v1 : @Ne Nat LR (L' + 1 + 1) := Nat.ne_of_gt l9.1
      have v2 : @Ne Nat LR (L' + 1 + 1 + 1) := Nat.ne_of_gt l9.2.1
      have v3 : @Ne Nat LR DL := Nat.ne_of_gt l9.2.2.1
      walk_at "M stepsE"
      rename_i h13 oa2 F14 N14 hoa2
      have hTk' : Keep (IntsAre ysL (later figs lf)) := hTk
      refine wh_inv (h₀ := g') (L := L') (n₀ := lf.length) (DueJ figs (L' + 1 + 1) (L' + 1 + 1 + 1) LR R mm) F14 N14 ?hJ ?turn
      case hJ => exact ⟨rfl, lf, [], DL, DT, ol2, oa2, vl, ysL, cl, ysL.length, [], 0, R, rfl, by rw [hlfe]; exact .nil, rfl, hol2, hoa2, hvlk, hTk, fun p hp => hp, .nil, rfl, ⟨v3.symm, u2, u1, t1.symm, t2.symm, t3.symm⟩, vR, hR2, hR1⟩
      case turn =>
        clear F14 N14 off13
        rintro n m₁ nx h tk F14 N14 zH7
        refine hideG fun G0 hG0 => ?_
        obtain ⟨rfl, left, rs, LL, LT, olx, oax, lvl, lvt, cl2, ct, rvs, kr, RR, rfl, hrz, rfl, holx, hoax, hlvl, hlvt, hRR, hrvs, hrl, ⟨x1, x2, x3, x4, x5, x6⟩, xR, xL2, xL3⟩ := zH7
        refine hG0 ?_
        clear hG0
        rw [hmm] at F14
        have hlk : Keep (IntsAre lvl left) := hlvl
        have htk : Keep (IntsAre lvt (later figs left)) := hlvt
        have hl8 := hrz.len
        iterate 4 walk1
        cases hdec : decide (later figs left = left) with
        | true =>
          have heq : later figs left = left := of_decide_eq_true hdec
          have xm7 : (L' + 1, of) ∈ RR := hRR _ hm7
          have xm6 : (l, listOf vs.toArray k) ∈ RR := hRR _ hm6
          iterate 2 walk1
          walk_at "M hide"
          have hxD : (D, PyProof.Rows.LCg.lst ysC) ∈ RR := hRR _ hm8
          k_steps
          rename Fr h₀ L _ _ => kF
          rename News h₀ L _ _ => kN
          have hbl : (!decide (left = [])) = decide (left ≠ []) := by simp
          refine ret _ _ _ _ rs left kF kN (fun p hp => ?_) (hrz.fin heq) ?_
          · exact .tail _ (.tail _ (.tail _ (.tail _ (.tail _ (.tail _ (.tail _ (hRR _ (hRn p hp))))))))
          · rw [hbl]
            unfold dueD
            exact .list (.head _) (.cons (.list (in7 xm6) (ints_dat hvk)) (.cons (.list (in7 hxD) (datAll_seq (fun q hq hs => in7 (hRR q (by
              rcases List.mem_cons.mp hq with z | hq
              · rw [z] at hs; obtain ⟨a, n, e⟩ := hs; rw [hoa] at e; cases e
              rcases List.mem_cons.mp hq with z | hq
              · rw [z] at hs; obtain ⟨a, n, e⟩ := hs; rw [hol] at e; cases e
              · exact hq))) hRd)) (.cons (.bool _) (.cons (.list (.tail _ (.tail _ (.tail _ (.head _)))) (hrvs.mono fun p hp => in7 hp)) (.cons (.bool true) .nil)))))
        | false =>
          have hneq : later figs left ≠ left := of_decide_eq_false hdec
          iterate 2 walk1
          walk_at "M hide"
          walk_at "M stepsE"
          have hm15 : (fun y => if y = Str.ofString "rounds" then some (Value.ref LR) else if y = Str.ofString "counts" then some (Value.ref D) else (fun x => none) y) = m₁ := hmm.symm
          rw [hm15] at F14
          refine' ListComp_MT (h₀ := g') (L := L') (m := m₁) (by with_unfolding_all rfl) (by decide) (by rfl) (by rfl) (by decide) ?_
          k_steps
          obtain ⟨LW, hLW⟩ : ∃ LW, LW = (LT, listOf lvt.toArray ct) :: (LR, listOf rvs.toArray kr) :: (L' + 1 + 1, olx) :: (L' + 1 + 1 + 1, oax) :: (LL, listOf lvl.toArray cl2) :: RR := ⟨_, rfl⟩
          refine srcM_list rfl F14 N14 (.tail _ (.tail _ (.tail _ (.tail _ (.head _))))) (by rw [sizeLine_eq]; have := hlvl.length; have : eight.length = 8 := rfl; omega) fun g15 F15 N15 => ?_
          dsimp only
          rw [← hLW] at N15 ⊢
          have wm1 : (LT, listOf lvt.toArray ct) ∈ LW := by rw [hLW]; exact .head _
          have wm2 : (L' + 1 + 1 + 1, oax) ∈ LW := by rw [hLW]; exact .tail _ (.tail _ (.tail _ (.head _)))
          have wm3 : (LL, listOf lvl.toArray cl2) ∈ LW := by rw [hLW]; exact .tail _ (.tail _ (.tail _ (.tail _ (.head _))))
          have wm4 : (L' + 1 + 1, olx) ∈ LW := by rw [hLW]; exact .tail _ (.tail _ (.head _))
          refine ⟨fun i zs nx _ => nx = LW ∧ IntsAre zs ((left.take i).filter fun k => !(later figs left).contains k), 0, Nat.zero_le _, ⟨rfl, .nil⟩, ?_, ?_⟩
          · rintro zs nx N0 ⟨rfl, hzs⟩
            intro DK h16 tk16 hN16 F16 N16 off16
            walk_at "M hide"
            dsimp only
            rw [hLW] at N16 off16
            have hDK : ∀ q ∈ (LT, listOf lvt.toArray ct) :: (LR, listOf rvs.toArray kr) :: (L' + 1 + 1, olx) :: (L' + 1 + 1 + 1, oax) :: (LL, listOf lvl.toArray cl2) :: RR, @Ne Nat q.1 DK := off16
            have y1 : @Ne Nat LT DK := hDK _ (.head _)
            have y2 : @Ne Nat LR DK := hDK _ (.tail _ (.head _))
            have y3 : @Ne Nat (L' + 1 + 1) DK := hDK _ (.tail _ (.tail _ (.head _)))
            have y4 : @Ne Nat (L' + 1 + 1 + 1) DK := hDK _ (.tail _ (.tail _ (.tail _ (.head _))))
            have y5 : @Ne Nat LL DK := hDK _ (.tail _ (.tail _ (.tail _ (.tail _ (.head _)))))
            have yR : ∀ q ∈ RR, q.1 ≠ DK := fun q hq => hDK q (.tail _ (.tail _ (.tail _ (.tail _ (.tail _ hq)))))
            clear hDK F14 N14 F15 N15
            have hzk : Keep (IntsAre zs ((left.take lvl.length).filter fun k => !(later figs left).contains k)) := hzs
            clear hzs
            rw [hmm] at F16
            have hrv8 : rvs.length ≤ 8 := by
              have : eight.length = 8 := rfl
              omega
            walk_at "M stepsE"
            rename_i TT h17 l17 h18 h19 ol3 F20 N20 hol3
            have hm16 : (fun y => if y = Str.ofString "rounds" then some (Value.ref LR) else if y = Str.ofString "counts" then some (Value.ref D) else (fun x => none) y) = m₁ := hmm.symm
            rw [hm16] at F20
            obtain ⟨LD, hLD⟩ : ∃ LD, LD = (TT, ({ cls := Value.type "tuple", data := Data.seq #[Value.ref DK, Value.bool true] } : Obj)) :: (DK, listOf zs.toArray zs.length) :: (LT, listOf lvt.toArray ct) :: (LR, listOf (rvs.toArray.push (Value.ref TT)) (kr + 1)) :: (L' + 1 + 1, ol3) :: (L' + 1 + 1 + 1, oax) :: (LL, listOf lvl.toArray cl2) :: RR := ⟨_, rfl⟩
            obtain ⟨lf, hlf⟩ : ∃ lf, lf = later figs left := ⟨_, rfl⟩
            rw [← hlf] at htk
            have hvlk : Keep (IntsAre lvt lf) := htk
            have hvll : lvt.length = lf.length := IntsAre.length htk
            have hlf8 : ∀ x ∈ lf, 0 ≤ x ∧ x < 8 := fun x hx => by
              rw [hlf] at hx
              have h1 := hrz.sub x (later_sub hx)
              have : ∀ x ∈ eight, 0 ≤ x ∧ x < 8 := by decide
              exact this x h1
            have hlfn : lf.length ≤ 8 := by
              have h1 := later_len figs left
              have : eight.length = 8 := rfl
              rw [hlf]
              omega
            have N21 : News g' L' h19 LD := by rw [hLD]; exact N20
            have gmF : (l, listOf vs.toArray k) ∈ LD := by rw [hLD]; exact .tail _ (.tail _ (.tail _ (.tail _ (.tail _ (.tail _ (.tail _ (hRR _ hm6)))))))
            have gmf : (L' + 1, of) ∈ LD := by rw [hLD]; exact .tail _ (.tail _ (.tail _ (.tail _ (.tail _ (.tail _ (.tail _ (hRR _ hm7)))))))
            have gmL : (L' + 1 + 1, ol3) ∈ LD := by rw [hLD]; exact .tail _ (.tail _ (.tail _ (.tail _ (.head _))))
            have gmD : (LT, listOf lvt.toArray ct) ∈ LD := by rw [hLD]; exact .tail _ (.tail _ (.head _))
            clear N20
            refine' ListComp_MTC (h₀ := g') (L := L') (m := m₁) (by with_unfolding_all rfl) (fun _ => rfl) (fun _ => rfl) (fun _ _ => rfl) (by rfl) (by decide) ?_
            k_steps
            refine srcM_list rfl F20 N21 gmD (by rw [sizeLine_eq]; first | decide | omega) fun g F12 N12 => ?_
            dsimp only
            refine ⟨fun i ys nx _ => LD = nx ∧ IntsAre ys ((lf.take i).filter fun k => lf.any (wts figs k)), 0, Nat.zero_le _, ⟨rfl, .nil⟩, ?_, ?_⟩
            · rintro ysL nx N0 ⟨rfl, hysL⟩
              rw [hvll, List.take_length] at hysL
              intro DT h22 tk22 hN22 F23 N23 off23
              walk_at "M hide"
              dsimp only
              rw [hLD] at N23 off23
              have hoffT : ∀ q ∈ (TT, ({ cls := Value.type "tuple", data := Data.seq #[Value.ref DK, Value.bool true] } : Obj)) :: (DK, listOf zs.toArray zs.length) :: (LT, listOf lvt.toArray ct) :: (LR, listOf (rvs.toArray.push (Value.ref TT)) (kr + 1)) :: (L' + 1 + 1, ol3) :: (L' + 1 + 1 + 1, oax) :: (LL, listOf lvl.toArray cl2) :: RR, @Ne Nat q.1 DT := off23
              have f0 : @Ne Nat TT DT := hoffT _ (.head _)
              have f1 : @Ne Nat DK DT := hoffT _ (.tail _ (.head _))
              have f2 : @Ne Nat LT DT := hoffT _ (.tail _ (.tail _ (.head _)))
              have f3 : @Ne Nat LR DT := hoffT _ (.tail _ (.tail _ (.tail _ (.head _))))
              have f4 : @Ne Nat (L' + 1 + 1) DT := hoffT _ (.tail _ (.tail _ (.tail _ (.tail _ (.head _)))))
              have f5 : @Ne Nat (L' + 1 + 1 + 1) DT := hoffT _ (.tail _ (.tail _ (.tail _ (.tail _ (.tail _ (.head _))))))
              have f6 : @Ne Nat LL DT := hoffT _ (.tail _ (.tail _ (.tail _ (.tail _ (.tail _ (.tail _ (.head _)))))))
              have fR : ∀ q ∈ RR, q.1 ≠ DT := fun q hq => hoffT q (.tail _ (.tail _ (.tail _ (.tail _ (.tail _ (.tail _ (.tail _ (hq))))))))
              have hTk2 : Keep (IntsAre ysL (lf.filter fun k => lf.any (wts figs k))) := hysL
              clear hysL hoffT
              have z1 : @Ne Nat TT (L' + 1 + 1 + 1) := Nat.ne_of_gt l17.2.2.2.2.1
              have z2 : @Ne Nat TT (L' + 1 + 1) := Nat.ne_of_gt l17.2.2.2.1
              have z3 : @Ne Nat TT LR := Nat.ne_of_gt l17.2.2.1
              k_steps
              rename_i h24 oa3 F24 N24 hoa3
              have hpush : rvs.toArray.push (Value.ref TT) = (rvs ++ [Value.ref TT]).toArray := by simp
              rw [hpush] at N24
              try (refine unQ (by with_reducible assumption) ?_)
              refine WhEnd.intro (n' := lf.length) F24 (nx := (DT, listOf ysL.toArray ysL.length) :: (LR, listOf (rvs ++ [Value.ref TT]).toArray (kr + 1)) :: (L' + 1 + 1, ol3) :: (L' + 1 + 1 + 1, oa3) :: (LT, listOf lvt.toArray ct) :: (TT, ({ cls := Value.type "tuple", data := Data.seq #[Value.ref DK, Value.bool true] } : Obj)) :: (DK, listOf zs.toArray zs.length) :: (LL, listOf lvl.toArray cl2) :: RR) (news_sub N24 fun q hq => ?_) (by rw [hlf]; exact later_lt hneq) ⟨rfl, lf, rs ++ [left.filter fun k => !(later figs left).contains k], LT, DT, ol3, oa3, lvt, ysL, ct, ysL.length, rvs ++ [Value.ref TT], kr + 1, _, rfl, ?_, rfl, hol3, hoa3, hvlk, hTk2, ?_, ?_, ?_, ?_, ?_, ?_, ?_⟩
              · simp only [List.mem_cons] at hq ⊢
                rcases hq with hq | hq | hq | hq | hq | hq | hq | hq | hq
                · exact .inl hq
                · exact .inr (.inr (.inr (.inr (.inl hq))))
                · exact .inr (.inr (.inr (.inr (.inr (.inl hq)))))
                · exact .inr (.inr (.inr (.inr (.inr (.inr (.inl hq))))))
                · exact .inr (.inr (.inr (.inl hq)))
                · exact .inr (.inl hq)
                · exact .inr (.inr (.inl hq))
                · exact .inr (.inr (.inr (.inr (.inr (.inr (.inr (.inl hq)))))))
                · exact .inr (.inr (.inr (.inr (.inr (.inr (.inr (.inr hq)))))))
              · rw [hlf]; exact hrz.snoc hneq
              · exact fun p hp => .tail _ (.tail _ (.tail _ (hRR p hp)))
              · rw [List.map_append]
                refine DatAll.append (hrvs.mono fun p hp => .tail _ (.tail _ (.tail _ hp))) ?_
                have hzk2 : IntsAre zs (left.filter fun k => !(later figs left).contains k) := by
                  have h0 := IntsAre.length hlk
                  have hz0 : IntsAre zs ((left.take lvl.length).filter fun k => !(later figs left).contains k) := hzk
                  rwa [h0, List.take_length] at hz0
                exact .cons (.tuple (.head _) (.cons (.list (.tail _ (.head _)) (ints_dat hzk2)) (.cons (.bool true) .nil))) .nil
              · rw [List.length_append, List.length_append, hrl]; rfl
              · exact ⟨x4, x5, x6, f3.symm, f4.symm, f5.symm⟩
              · intro q hq
                walk_at "M hide"
                rcases List.mem_cons.mp hq with hq | hq
                · rw [hq]; exact z3
                rcases List.mem_cons.mp hq with hq | hq
                · rw [hq]; exact y2.symm
                rcases List.mem_cons.mp hq with hq | hq
                · rw [hq]; exact x1
                exact xR q hq
              · intro q hq
                walk_at "M hide"
                rcases List.mem_cons.mp hq with hq | hq
                · rw [hq]; exact z2
                rcases List.mem_cons.mp hq with hq | hq
                · rw [hq]; exact y3.symm
                rcases List.mem_cons.mp hq with hq | hq
                · rw [hq]; exact x2
                exact xL2 q hq
              · intro q hq
                walk_at "M hide"
                rcases List.mem_cons.mp hq with hq | hq
                · rw [hq]; exact z1
                rcases List.mem_cons.mp hq with hq | hq
                · rw [hq]; exact y4.symm
                rcases List.mem_cons.mp hq with hq | hq
                · rw [hq]; exact x3
                exact xL3 q hq
            · rintro i ys nx N0 v I oI C oC ck ock Dy h u0 u1 tk E' hi ⟨rfl, hys⟩ hN0 hv ht1 ht2 hck F13 N13 off13 nd13
              walk_at "M hide"
              --[
              clear F12 N12 N21
              dsimp only [List.cons_append, List.nil_append] at N13
              refine hideG fun G0 hG0 => ?_
              obtain ⟨kk, tkk, rfl, hki⟩ := (show IntsAre lvt lf from hvlk).at i v hv
              refine hG0 ?_
              clear hG0
              have hk8 := hlf8 kk (List.mem_of_getElem? hki)
              obtain ⟨fk, tfk, hvf, hff⟩ : ∃ fk tfk, vs[kk.toNat]? = some (.int fk tfk) ∧ fk = fg figs kk.toNat := by
                have h7 : kk.toNat < vs.length := by first | decide | omega
                refine hideG fun G0 hG0 => ?_
                obtain ⟨p, tp, e1, e2⟩ := (show IntsAre vs figs from hvk).at kk.toNat _ (List.getElem?_eq_getElem h7)
                refine hG0 ?_
                clear hG0
                exact ⟨p, tp, by rw [List.getElem?_eq_getElem h7, e1], by unfold fg; rw [List.getD_eq_getElem?_getD, e2]; rfl⟩
              have hfk := hfb kk.toNat (by first | decide | omega)
              rw [← hff] at hfk
              obtain ⟨hfk0, hfk1⟩ := hfk
              obtain ⟨hk80, hk81⟩ := hk8
              walk_at "M stepsE"
              rename Fr g' L' _ _ => F14
              rename News g' L' _ _ => N14
              refine' ListComp_MT (h₀ := g') (L := L') (m := m₁) (by with_unfolding_all rfl) (by decide) (by rfl) (by rfl) (by decide) ?_
              k_steps
              refine srcM_list rfl F14 N14 (.tail _ (.tail _ (.tail _ (.tail _ gmD)))) (by rw [sizeLine_eq]; first | decide | omega) fun g F15 N15 => ?_
              dsimp only
              refine ⟨fun i zs nx _ => nx = (I, oI) :: (C, oC) :: (ck, ock) :: (Dy, PyProof.Rows.LCg.lst ys) :: LD ∧ IntsAre zs ((lf.take i).filter (wts figs kk)), 0, Nat.zero_le _, ⟨rfl, .nil⟩, ?_, ?_⟩
              · rintro zs nx N03 ⟨rfl, hzs⟩
                rw [hvll, List.take_length] at hzs
                intro D3 h3 tk3 hN3 F16 N16 off16
                walk_at "M hide"
                dsimp only
                clear F14 N14 F15 N15
                walk_at "M stepsE"
                · rename decide (List.filter (wts figs kk) lf = []) = true => e9
                  try (refine unQ (by with_reducible assumption) ?_)
                  refine EndM.intro LD 0 (Nat.zero_le _) ‹Fr g' L' _ m₁› (news_sub ‹News g' L' _ (_ :: (D3, _) :: _)› fun p hp => .tail _ (.tail _ hp)) off13 gmD ⟨rfl, ?_⟩
                  rw [filt_neg hki (any_no e9)]
                  exact hys
                · rename decide (List.filter (wts figs kk) lf = []) = false => e9
                  try (refine unQ (by with_reducible assumption) ?_)
                  refine EndM.intro LD 0 (Nat.zero_le _) ‹Fr g' L' _ m₁› (news_sub ‹News g' L' _ (_ :: (D3, _) :: _)› fun p hp => .tail _ (.tail _ hp)) off13 gmD ⟨rfl, ?_⟩
                  rw [filt_pos hki (any_yes e9)]
                  exact ints_snoc hys
              · rintro j zs nx N03 v2 I2 oI2 C2 oC2 D3 m₂ h3 v0 v1 tk3 E2 hj ⟨rfl, hzs⟩ hN03 hv2 ht12 ht22 hC2 hCx2 F16 N16 off16 nd16
                walk_at "M hide"
                clear F14 N14 F15 N15
                dsimp only [List.cons_append, List.nil_append] at N16
                refine hideG fun G0 hG0 => ?_
                obtain ⟨q, tq, rfl, hqj⟩ := (show IntsAre lvt lf from hvlk).at j v2 hv2
                refine hG0 ?_
                clear hG0
                obtain ⟨hq80, hq81⟩ := hlf8 q (List.mem_of_getElem? hqj)
                have hCy : m₂ (Str.ofString "i") = some (.int q tq) := hCx2
                clear hCx2
                k_steps
                · rename _ = (1 : Int) => e9
                  try (refine unQ (by with_reducible assumption) ?_)
                  refine EndM.intro _ 0 (Nat.zero_le _) F16 N16 off16 (.tail _ (.tail _ (.tail _ (.tail _ gmD)))) ⟨rfl, ?_⟩
                  rw [filt_pos hqj (wts_pos hff (by assumption) e9)]
                  exact ints_snoc hzs
                · rename _ ≠ (1 : Int) => e9
                  try (refine unQ (by with_reducible assumption) ?_)
                  refine EndM.intro _ 0 (Nat.zero_le _) F16 N16 off16 (.tail _ (.tail _ (.tail _ (.tail _ gmD)))) ⟨rfl, ?_⟩
                  rw [filt_neg hqj (wts_neg hff e9)]
                  exact hzs
                · refine EndM.intro _ 0 (Nat.zero_le _) F16 N16 off16 (.tail _ (.tail _ (.tail _ (.tail _ gmD)))) ⟨rfl, ?_⟩
                  rw [filt_neg hqj (wts_far (by first | decide | omega))]
                  exact hzs
              --]
          · rintro j zs nx N03 v2 I2 oI2 C2 oC2 D3 m₂ h2 v0 v1 tk2 E2 hj ⟨rfl, hzs⟩ hN03 hv2 ht12 ht22 hC2 hCx2 F16 N16 off16 nd16
            walk_at "M hide"
            clear F14 N14 F15 N15
            dsimp only [List.cons_append, List.nil_append] at N16
            refine hideG fun G0 hG0 => ?_
            obtain ⟨q, tq, rfl, hqj⟩ := (show IntsAre lvl left from hlk).at j v2 hv2
            refine hG0 ?_
            clear hG0
            have hCy : m₂ (Str.ofString "k") = some (.int q tq) := hCx2
            clear hCx2
            k_steps
            refine notin_list_ints (led_list N16 (.tail _ (.tail _ (.tail _ wm1)))) htk ?_
            have hcont : (later figs left).contains q = (later figs left).any (· == q) := by
              rw [Bool.eq_iff_iff, List.contains_iff_mem, List.any_eq_true]
              exact ⟨fun h => ⟨q, h, by simp⟩, fun ⟨x, h, e⟩ => by rw [← (by simpa using e : x = q)]; exact h⟩
            cases hb : (later figs left).any (· == q) with
            | true =>
              k_steps
              try (refine unQ (by with_reducible assumption) ?_)
              refine EndM.intro _ 0 (Nat.zero_le _) F16 N16 off16 wm3 ⟨rfl, ?_⟩
              rw [filt_neg hqj (by rw [hcont, hb]; rfl)]
              exact hzs
            | false =>
              k_steps
              try (refine unQ (by with_reducible assumption) ?_)
              refine EndM.intro _ 0 (Nat.zero_le _) F16 N16 off16 wm3 ⟨rfl, ?_⟩
              rw [filt_pos hqj (by rw [hcont, hb]; rfl)]
              exact ints_snoc hzs
    · rintro i ys nx N0 v I oI C oC ck ock Dy h u0 u1 tk E' hi ⟨rfl, hys⟩ hN0 hv ht1 ht2 hck F13 N13 off13 nd13
      walk_at "M hide"
      --[
      clear F12 N12 N11
      dsimp only [List.cons_append, List.nil_append] at N13
      refine hideG fun G0 hG0 => ?_
      obtain ⟨kk, tkk, rfl, hki⟩ := (show IntsAre vl lf from hvlk).at i v hv
      refine hG0 ?_
      clear hG0
      have hk8 := hlf8 kk (List.mem_of_getElem? hki)
      obtain ⟨fk, tfk, hvf, hff⟩ : ∃ fk tfk, vs[kk.toNat]? = some (.int fk tfk) ∧ fk = fg figs kk.toNat := by
        have h7 : kk.toNat < vs.length := by first | decide | omega
        refine hideG fun G0 hG0 => ?_
        obtain ⟨p, tp, e1, e2⟩ := (show IntsAre vs figs from hvk).at kk.toNat _ (List.getElem?_eq_getElem h7)
        refine hG0 ?_
        clear hG0
        exact ⟨p, tp, by rw [List.getElem?_eq_getElem h7, e1], by unfold fg; rw [List.getD_eq_getElem?_getD, e2]; rfl⟩
      have hfk := hfb kk.toNat (by first | decide | omega)
      rw [← hff] at hfk
      obtain ⟨hfk0, hfk1⟩ := hfk
      obtain ⟨hk80, hk81⟩ := hk8
      walk_at "M stepsE"
      rename Fr g' L' _ _ => F14
      rename News g' L' _ _ => N14
      refine' ListComp_MT (h₀ := g') (L := L') (m := mm) (by with_unfolding_all rfl) (by decide) (by rfl) (by rfl) (by decide) ?_
      k_steps
      refine srcM_list rfl F14 N14 (.tail _ (.tail _ (.tail _ (.tail _ gmD)))) (by rw [sizeLine_eq]; first | decide | omega) fun g F15 N15 => ?_
      dsimp only
      refine ⟨fun i zs nx _ => nx = (I, oI) :: (C, oC) :: (ck, ock) :: (Dy, PyProof.Rows.LCg.lst ys) :: LD ∧ IntsAre zs ((lf.take i).filter (wts figs kk)), 0, Nat.zero_le _, ⟨rfl, .nil⟩, ?_, ?_⟩
      · rintro zs nx N03 ⟨rfl, hzs⟩
        rw [hvll, List.take_length] at hzs
        intro D3 h3 tk3 hN3 F16 N16 off16
        walk_at "M hide"
        dsimp only
        clear F14 N14 F15 N15
        walk_at "M stepsE"
        · rename decide (List.filter (wts figs kk) lf = []) = true => e9
          try (refine unQ (by with_reducible assumption) ?_)
          refine EndM.intro LD 0 (Nat.zero_le _) ‹Fr g' L' _ mm› (news_sub ‹News g' L' _ (_ :: (D3, _) :: _)› fun p hp => .tail _ (.tail _ hp)) off13 gmD ⟨rfl, ?_⟩
          rw [filt_neg hki (any_no e9)]
          exact hys
        · rename decide (List.filter (wts figs kk) lf = []) = false => e9
          try (refine unQ (by with_reducible assumption) ?_)
          refine EndM.intro LD 0 (Nat.zero_le _) ‹Fr g' L' _ mm› (news_sub ‹News g' L' _ (_ :: (D3, _) :: _)› fun p hp => .tail _ (.tail _ hp)) off13 gmD ⟨rfl, ?_⟩
          rw [filt_pos hki (any_yes e9)]
          exact ints_snoc hys
      · rintro j zs nx N03 v2 I2 oI2 C2 oC2 D3 m₂ h3 v0 v1 tk3 E2 hj ⟨rfl, hzs⟩ hN03 hv2 ht12 ht22 hC2 hCx2 F16 N16 off16 nd16
        walk_at "M hide"
        clear F14 N14 F15 N15
        dsimp only [List.cons_append, List.nil_append] at N16
        refine hideG fun G0 hG0 => ?_
        obtain ⟨q, tq, rfl, hqj⟩ := (show IntsAre vl lf from hvlk).at j v2 hv2
        refine hG0 ?_
        clear hG0
        obtain ⟨hq80, hq81⟩ := hlf8 q (List.mem_of_getElem? hqj)
        have hCy : m₂ (Str.ofString "i") = some (.int q tq) := hCx2
        clear hCx2
        k_steps
        · rename _ = (1 : Int) => e9
          try (refine unQ (by with_reducible assumption) ?_)
          refine EndM.intro _ 0 (Nat.zero_le _) F16 N16 off16 (.tail _ (.tail _ (.tail _ (.tail _ gmD)))) ⟨rfl, ?_⟩
          rw [filt_pos hqj (wts_pos hff (by assumption) e9)]
          exact ints_snoc hzs
        · rename _ ≠ (1 : Int) => e9
          try (refine unQ (by with_reducible assumption) ?_)
          refine EndM.intro _ 0 (Nat.zero_le _) F16 N16 off16 (.tail _ (.tail _ (.tail _ (.tail _ gmD)))) ⟨rfl, ?_⟩
          rw [filt_neg hqj (wts_neg hff e9)]
          exact hzs
        · refine EndM.intro _ 0 (Nat.zero_le _) F16 N16 off16 (.tail _ (.tail _ (.tail _ (.tail _ gmD)))) ⟨rfl, ?_⟩
          rw [filt_neg hqj (wts_far (by first | decide | omega))]
          exact hzs
      --]
  · rintro i ys nx N0 v I oI C oC cf ocf D h u0 u1 tk E' hi zH18 hN0 hv ht1 ht2 hcf F4 N4 off4 nd4
    walk_at "M hide"
    refine hideG fun G0 hG0 => ?_
    obtain ⟨⟨tl, rfl, htl⟩, hys⟩ := zH18
    refine hG0 ?_
    clear hG0
    --[
    clear F1 N1 F2 N2
    refine hideG fun G0 hG0 => ?_
    obtain ⟨p, tp, rfl, hfi⟩ := (show IntsAre vs figs from hvk).at i v hv
    refine hG0 ?_
    clear hG0
    dsimp only [List.cons_append, List.nil_append] at N4
    obtain ⟨base, hbase⟩ : ∃ base, base = tl ++ ((L' + 1 + 1 + 1, oa) :: (L' + 1 + 1, ol) :: (L' + 1, of) :: news) := ⟨_, rfl⟩
    rw [← hbase] at N4 off4 hys
    have hin : ∀ q ∈ (L' + 1 + 1 + 1, oa) :: (L' + 1 + 1, ol) :: (L' + 1, of) :: news, q ∈ base := fun q hq => by rw [hbase]; exact List.mem_append_right _ hq
    have hm3 : (l, listOf vs.toArray k) ∈ base := hin _ hm2
    have hm4 : (L' + 1, of) ∈ base := hin _ (.tail _ (.tail _ (.head _)))
    walk_at "M stepsC"
    rename Fr g' L' _ _ => F5
    rename News g' L' _ _ => N5
    refine' ListComp_M (h₀ := g') (L := L') (m := fun _ => none) (by with_unfolding_all rfl) (by decide) (by rfl) (by rfl) (by decide) ?_
    k_steps
    rename IsRange _ _ _ _ _ _ _ _ => hr
    rename Fr g' L' _ _ => F6
    rename News g' L' _ _ => N6
    refine srcM_range (n := 6) rfl F6 N6 hr (by decide) (by rfl) (by rw [sizeLine_eq]; first | decide | omega) fun g F3 N3 => ?_
    dsimp only
    refine ⟨fun i ys2 nx _ => nx = (I, oI) :: (C, oC) :: (cf, ocf) :: (D, PyProof.Rows.LCg.lst ys) :: base ∧ IntsAre ys2 ((List.range i).map fun i => p / 2 ^ i % 2), 0, Nat.zero_le _, ⟨rfl, .nil⟩, ?_, ?_⟩
    · rintro ys2 nx N02 ⟨rfl, hys2⟩
      intro D2 h2 tk2 hN2 F7 N7 off7
      walk_at "M hide"
      dsimp only
      clear F6 N6 F3 N3
      obtain ⟨NB, hNB⟩ : ∃ NB, NB = (List.range 6).map fun i => p / 2 ^ i % 2 := ⟨_, rfl⟩
      rw [← hNB] at hys2
      walk_at "M stepsC"
      rename Fr g' L' _ _ => F8
      rename News g' L' _ _ => N8
      refine' ListComp_MT (h₀ := g') (L := L') (m := fun _ => none) (by with_unfolding_all rfl) (by decide) (by rfl) (by rfl) (by decide) ?_
      k_steps
      have hm5 : (l, listOf vs.toArray k) ∈ (D2, PyProof.Rows.LCg.lst ys2) :: (I, oI) :: (C, oC) :: (cf, ocf) :: (D, PyProof.Rows.LCg.lst ys) :: base := .tail _ (.tail _ (.tail _ (.tail _ (.tail _ hm3))))
      refine srcM_list rfl F8 N8 hm5 (by rw [sizeLine_eq]; first | decide | omega) fun g F9 N9 => ?_
      dsimp only
      refine ⟨fun i zs nx _ => nx = (D2, PyProof.Rows.LCg.lst ys2) :: (I, oI) :: (C, oC) :: (cf, ocf) :: (D, PyProof.Rows.LCg.lst ys) :: base ∧ IntsAre zs ((figs.take i).filter fun x => decide (x = p)), 0, Nat.zero_le _, ⟨rfl, .nil⟩, ?_, ?_⟩
      · rintro zs nx N03 ⟨rfl, hzs⟩
        rw [hvL, List.take_length] at hzs
        obtain ⟨NF, hNF⟩ : ∃ NF, NF = figs.filter fun x => decide (x = p) := ⟨_, rfl⟩
        rw [← hNF] at hzs
        have hNFl : NF.length ≤ 8 := by rw [hNF, ← hfl]; exact List.length_filter_le ..
        have hzl : zs.length = NF.length := hzs.length
        intro D3 h3 tk3 hN3 F10 N10 off10
        walk_at "M hide"
        dsimp only
        clear F8 N8 F9 N9
        k_steps
        rename_i D5 h5 F11 N11 l5
        refine name_obj N11 fun oT hoT N11 => ?_
        try (refine unQ (by with_reducible assumption) ?_)
        refine EndM.intro ((D5, oT) :: base) 0 (Nat.zero_le _) F11 (news_sub N11 fun q hq => ?_) ?_ (.tail _ hm3) ⟨⟨_ :: tl, by rw [hbase]; rfl, ?_⟩, ?_⟩
        · simp only [List.cons_append, List.nil_append, List.mem_cons] at hq
          rcases hq with hq | hq | hq | hq | hq | hq
          · rw [hq]; exact .tail _ (.tail _ (.tail _ (.head _)))
          · rw [hq]; exact .tail _ (.tail _ (.tail _ (.tail _ (.head _))))
          · rw [hq]; exact .tail _ (.tail _ (.tail _ (.tail _ (.tail _ (.head _)))))
          · rw [hq]; exact .tail _ (.tail _ (.tail _ (.tail _ (.tail _ (.tail _ (.head _))))))
          · rw [hq]; exact .head _
          · exact .tail _ (.tail _ (.tail _ (.tail _ (.tail _ (.tail _ (.tail _ hq))))))
        · intro q hq
          walk_at "M hide"
          rcases List.mem_cons.mp hq with hq | hq
          · rw [hq]
            intro q2 hq2
            walk_at "M hide"
            simp only [List.mem_cons, List.not_mem_nil, or_false] at hq2
            rcases hq2 with hq2 | hq2 | hq2 | hq2
            · rw [hq2]; exact Nat.ne_of_gt l5.2.2.1
            · rw [hq2]; exact Nat.ne_of_gt l5.2.2.2.1
            · rw [hq2]; exact Nat.ne_of_gt l5.2.2.2.2.1
            · rw [hq2]; exact Nat.ne_of_gt l5.2.2.2.2.2.1
          · exact off4 q hq
        · intro q hq
          walk_at "M hide"
          rcases List.mem_cons.mp hq with hq | hq
          · rw [hq]
            have hz := tb_ltOf l5.2.2.2.2.2.2
            exact ⟨Nat.ne_of_gt (hz _ (hin _ (.head _))), Nat.ne_of_gt (hz _ (hin _ (.tail _ (.head _))))⟩
          · exact htl q hq
        · rw [List.take_add_one, hfi, List.map_append]
          refine DatAll.append (hys.mono fun q hq => .tail _ hq) ?_
          show DatAll _ _ [cntD figs p]
          unfold cntD
          rw [← hNB, ← hNF, hoT]
          exact .cons (.tuple (.head _) (.cons (.int _ _) (.cons (.int _ _) .nil))) .nil
      · rintro j zs nx N03 v2 I2 oI2 C2 oC2 D3 m₂ h3 v0 v1 tk3 E2 hj ⟨rfl, hzs⟩ hN03 hv2 ht12 ht22 hC2 hCx2 F10 N10 off10 nd10
        walk_at "M hide"
        clear F8 N8 F9 N9
        dsimp only [List.cons_append, List.nil_append] at N10
        refine hideG fun G0 hG0 => ?_
        obtain ⟨p2, tp2, rfl, hfj⟩ := (show IntsAre vs figs from hvk).at j v2 hv2
        refine hG0 ?_
        clear hG0
        have hCy : m₂ (Str.ofString "x") = some (.int p2 tp2) := hCx2
        clear hCx2
        k_steps
        · rename p2 = p => e9
          try (refine unQ (by with_reducible assumption) ?_)
          refine EndM.intro _ 0 (Nat.zero_le _) F10 N10 off10 hm5 ⟨rfl, ?_⟩
          rw [List.take_add_one, hfj, List.filter_append]
          show IntsAre _ (_ ++ List.filter _ [p2])
          rw [List.filter_cons_of_pos (by simpa using e9), List.filter_nil]
          exact ints_snoc hzs
        · rename p2 ≠ p => e9
          try (refine unQ (by with_reducible assumption) ?_)
          refine EndM.intro _ 0 (Nat.zero_le _) F10 N10 off10 hm5 ⟨rfl, ?_⟩
          rw [List.take_add_one, hfj, List.filter_append]
          show IntsAre _ (_ ++ List.filter _ [p2])
          rw [List.filter_cons_of_neg (by simpa using e9), List.filter_nil, List.append_nil]
          exact hzs
    · rintro j ys2 nx N02 v2 I2 oI2 C2 oC2 D2 m₂ h2 v0 v1 tk2 E2 hj zH17 hN02 zH19 ht12 ht22 hC2 hCx2 F7 N7 off7 nd7
      walk_at "M hide"
      refine hideG fun G0 hG0 => ?_
      obtain ⟨rfl, hys2⟩ := zH17
      obtain ⟨u, rfl, hu1, hu2⟩ := zH19
      refine hG0 ?_
      clear hG0
      clear F6 N6 F3 N3
      dsimp only [List.cons_append, List.nil_append] at N7
      have hj6 : j = 0 ∨ j = 1 ∨ j = 2 ∨ j = 3 ∨ j = 4 ∨ j = 5 := lt_six hj
      rcases hj6 with rfl | rfl | rfl | rfl | rfl | rfl
      · have hCy : m₂ (Str.ofString "i") = some (.int 0 u) := hCx2
        clear hCx2
        k_steps
        try (refine unQ (by with_reducible assumption) ?_)
        refine EndM.intro _ 0 (Nat.zero_le _) F7 N7 off7 trivial ⟨rfl, ?_⟩
        rw [List.range_succ, List.map_append]
        show IntsAre _ (_ ++ [p / 2 ^ 0 % 2])
        rw [← due_bit]
        exact ints_snoc hys2
      · have hCy : m₂ (Str.ofString "i") = some (.int 1 u) := hCx2
        clear hCx2
        k_steps
        try (refine unQ (by with_reducible assumption) ?_)
        refine EndM.intro _ 0 (Nat.zero_le _) F7 N7 off7 trivial ⟨rfl, ?_⟩
        rw [List.range_succ, List.map_append]
        show IntsAre _ (_ ++ [p / 2 ^ 1 % 2])
        rw [← due_bit]
        exact ints_snoc hys2
      · have hCy : m₂ (Str.ofString "i") = some (.int 2 u) := hCx2
        clear hCx2
        k_steps
        try (refine unQ (by with_reducible assumption) ?_)
        refine EndM.intro _ 0 (Nat.zero_le _) F7 N7 off7 trivial ⟨rfl, ?_⟩
        rw [List.range_succ, List.map_append]
        show IntsAre _ (_ ++ [p / 2 ^ 2 % 2])
        rw [← due_bit]
        exact ints_snoc hys2
      · have hCy : m₂ (Str.ofString "i") = some (.int 3 u) := hCx2
        clear hCx2
        k_steps
        try (refine unQ (by with_reducible assumption) ?_)
        refine EndM.intro _ 0 (Nat.zero_le _) F7 N7 off7 trivial ⟨rfl, ?_⟩
        rw [List.range_succ, List.map_append]
        show IntsAre _ (_ ++ [p / 2 ^ 3 % 2])
        rw [← due_bit]
        exact ints_snoc hys2
      · have hCy : m₂ (Str.ofString "i") = some (.int 4 u) := hCx2
        clear hCx2
        k_steps
        try (refine unQ (by with_reducible assumption) ?_)
        refine EndM.intro _ 0 (Nat.zero_le _) F7 N7 off7 trivial ⟨rfl, ?_⟩
        rw [List.range_succ, List.map_append]
        show IntsAre _ (_ ++ [p / 2 ^ 4 % 2])
        rw [← due_bit]
        exact ints_snoc hys2
      · have hCy : m₂ (Str.ofString "i") = some (.int 5 u) := hCx2
        clear hCx2
        k_steps
        try (refine unQ (by with_reducible assumption) ?_)
        refine EndM.intro _ 0 (Nat.zero_le _) F7 N7 off7 trivial ⟨rfl, ?_⟩
        rw [List.range_succ, List.map_append]
        show IntsAre _ (_ ++ [p / 2 ^ 5 % 2])
        rw [← due_bit]
        exact ints_snoc hys2
    --]
end
section
theorem flush_P3 : (1 : Nat) ≤ 2 := by
  w_top off
  first | walk1 | decide
/-- tokens that grow along the list, within bounds -/
def TI (lo hi : Nat) (vs : List Value) : Prop := (∀ (i : Nat) (p : Int) (t : Nat), vs[i]? = some (.int p t) → lo ≤ t ∧ t < hi) ∧ ∀ (i j : Nat) (p q : Int) (t u : Nat), i < j → vs[i]? = some (.int p t) → vs[j]? = some (.int q u) → t < u
theorem TI.nil {lo hi : Nat} : TI lo hi [] := ⟨fun i p t h => by simp at h, fun i j p q t u _ h => by simp at h⟩
theorem TI.snoc {lo hi hi' : Nat} {vs : List Value} {p : Int} {t : Nat} (h : TI lo hi vs) (h1 : hi ≤ t) (h2 : lo ≤ t) (h3 : t < hi') : TI lo hi' (vs ++ [.int p t]) := by
  have key : ∀ (i : Nat) (q : Int) (u : Nat), (vs ++ [Value.int p t])[i]? = some (.int q u) → (i < vs.length ∧ vs[i]? = some (.int q u)) ∨ (i = vs.length ∧ u = t) := by
    intro i q u hh
    rcases Nat.lt_trichotomy i vs.length with z | z | z
    · rw [List.getElem?_append_left z] at hh
      exact .inl ⟨z, hh⟩
    · right
      subst z
      rw [List.getElem?_append_right (Nat.le_refl _), Nat.sub_self] at hh
      simp only [List.getElem?_cons_zero, Option.some.injEq, Value.int.injEq] at hh
      exact ⟨rfl, hh.2.symm⟩
    · rw [List.getElem?_append_right (Nat.le_of_lt z)] at hh
      obtain ⟨d, hd⟩ : ∃ d, i - vs.length = d + 1 := ⟨i - vs.length - 1, by omega⟩
      rw [hd] at hh
      simp at hh
  refine ⟨fun i q u hh => ?_, fun i j q r u x hij ha hb => ?_⟩
  · rcases key i q u hh with ⟨_, z⟩ | ⟨_, rfl⟩
    · have := h.1 i q u z
      omega
    · omega
  · rcases key i q u ha with ⟨z1, z⟩ | ⟨z1, rfl⟩
    · rcases key j r x hb with ⟨_, z'⟩ | ⟨_, rfl⟩
      · exact h.2 i j q r u x hij z z'
      · have := h.1 i q u z
        omega
    · rcases key j r x hb with ⟨z2, z'⟩ | ⟨z2, rfl⟩
      · omega
      · omega
theorem TI.up {lo hi hi' : Nat} {vs : List Value} (h : TI lo hi vs) (hh : hi ≤ hi') : TI lo hi' vs := ⟨fun i p t e => ⟨(h.1 i p t e).1, Nat.lt_of_lt_of_le (h.1 i p t e).2 hh⟩, h.2⟩
/-- what countOf wants of the tokens -/
theorem TI.apart {lo hi : Nat} {vs : List Value} {ns : List Int} {k : Nat} {x : Int} {tx : Nat} (h : TI lo hi vs) (hl : 0 < lo) (hv : IntsAre vs ns) (hb : ∀ x ∈ ns, 0 ≤ x ∧ x < 200) (hk : vs[k]? = some (.int x tx)) :
    tx ≠ 0 ∧ ∀ (i : Nat) (p : Int) (t : Nat), vs[i]? = some (.int p t) → t ≠ 0 ∧ (p ≠ x → t ≠ tx) ∧ 0 ≤ p ∧ p < 200 := by
  refine ⟨by have := (h.1 _ _ _ hk).1; omega, fun i p t hi => ⟨by have := (h.1 _ _ _ hi).1; omega, fun hp ht => ?_, ?_⟩⟩
  · rcases Nat.lt_trichotomy i k with z | z | z
    · have := h.2 _ _ _ _ _ _ z hi hk; omega
    · subst z
      rw [hi] at hk
      simp only [Option.some.injEq, Value.int.injEq] at hk
      exact hp hk.1
    · have := h.2 _ _ _ _ _ _ z hk hi; omega
  · obtain ⟨q, u, e, e'⟩ := hv.at i _ hi
    simp only [Value.int.injEq] at e
    obtain ⟨rfl, rfl⟩ := e
    exact hb _ (List.mem_of_getElem? e')
/-- and of a number that stands in the text: its token is below -/
theorem TI.below {lo hi : Nat} {vs : List Value} {ns : List Int} {x : Int} {tx : Nat} (h : TI lo hi vs) (hl : tx < lo) (hv : IntsAre vs ns) (hb : ∀ x ∈ ns, 0 ≤ x ∧ x < 200) :
    ∀ (i : Nat) (p : Int) (t : Nat), vs[i]? = some (.int p t) → t ≠ 0 ∧ (p ≠ x → t ≠ tx) ∧ 0 ≤ p ∧ p < 200 := by
  intro i p t hi
  have := (h.1 _ _ _ hi).1
  refine ⟨by omega, fun _ => by omega, ?_⟩
  obtain ⟨q, u, e, e'⟩ := hv.at i _ hi
  simp only [Value.int.injEq] at e
  obtain ⟨rfl, rfl⟩ := e
  exact hb _ (List.mem_of_getElem? e')
theorem TI.above {lo hi : Nat} {vs : List Value} {ns : List Int} {x : Int} {tx : Nat} (h : TI lo hi vs) (h0 : 0 < lo) (hl : hi ≤ tx) (hv : IntsAre vs ns) (hb : ∀ x ∈ ns, 0 ≤ x ∧ x < 200) :
    ∀ (i : Nat) (p : Int) (t : Nat), vs[i]? = some (.int p t) → t ≠ 0 ∧ (p ≠ x → t ≠ tx) ∧ 0 ≤ p ∧ p < 200 := by
  intro i p t hi
  have := h.1 _ _ _ hi
  refine ⟨by omega, fun _ => by omega, ?_⟩
  obtain ⟨q, u, e, e'⟩ := hv.at i _ hi
  simp only [Value.int.injEq] at e
  obtain ⟨rfl, rfl⟩ := e
  exact hb _ (List.mem_of_getElem? e')
def B64A : Array UInt8 := B64L.toArray
theorem sign_pos : ∀ f : Fin 64, ∀ i : Fin 64, (B64L.getD i.val 0 = B64L.getD f.val 0 → i = f) := by decide +kernel
theorem sign_at {f : Int} (h0 : 0 ≤ f) (h1 : f < 64) {bs : Array UInt8} (hbs : bs.toList = B64L ++ B64L) {c : UInt8} (hc : (c.toNat : Int) = sg f) :
    bs[f.toNat]? = some c ∧ ∀ i c', i < f.toNat → bs[i]? = some c' → (c'.toNat : Int) ≠ (c.toNat : Int) := by
  have hf : f.toNat < 64 := by omega
  have hl : B64L.length = 64 := by decide
  have hget : ∀ i, i < 64 → bs[i]? = some (B64L.getD i 0) := by
    intro i hi
    rw [← Array.getElem?_toList, hbs, List.getElem?_append_left (by omega), List.getD_eq_getElem?_getD, List.getElem?_eq_getElem (by omega)]
    rfl
  have hce : c = B64L.getD f.toNat 0 := by
    unfold sg at hc
    exact UInt8.toNat_inj.mp (by exact_mod_cast hc)
  refine ⟨by rw [hget _ hf, ← hce], fun i c' hi hc' e => ?_⟩
  rw [hget i (by omega)] at hc'
  have hcc : c' = c := UInt8.toNat_inj.mp (by exact_mod_cast e)
  rw [← Option.some.inj hc', hce] at hcc
  have := sign_pos ⟨f.toNat, hf⟩ ⟨i, by omega⟩ hcc
  simp only [Fin.mk.injEq] at this
  omega
end
section
theorem flush_P4 : (1 : Nat) ≤ 2 := by
  w_top off
  first | walk1 | decide
def needsTo (figs : List Int) (k : Int) (j : Nat) : List Int := ((List.range j).map fun (i : Nat) => (i : Int)).filter (wts figs k)
def toldSt (figs : List Int) : Nat → Ab
  | 0 => ⟨[], fun _ => 0, fun _ => []⟩
  | i + 1 => ((toldSt figs i).add (i : Int) ((needsTo figs i 6).take 1)).add (i : Int) ((needsTo figs i 6).drop 1)
theorem needs_pos {figs : List Int} {k : Int} {j : Nat} (h : wts figs k j = true) : needsTo figs k (j + 1) = needsTo figs k j ++ [(j : Int)] := by
  unfold needsTo
  rw [List.range_succ, List.map_append, List.filter_append]
  show _ ++ List.filter _ [(j : Int)] = _
  rw [List.filter_cons_of_pos h, List.filter_nil]
theorem needs_neg {figs : List Int} {k : Int} {j : Nat} (h : wts figs k j = false) : needsTo figs k (j + 1) = needsTo figs k j := by
  unfold needsTo
  rw [List.range_succ, List.map_append, List.filter_append]
  show _ ++ List.filter _ [(j : Int)] = _
  rw [List.filter_cons_of_neg (by rw [h]; decide), List.filter_nil, List.append_nil]
theorem needs_len (figs : List Int) (k : Int) : (needsTo figs k 6).length ≤ 6 := by
  unfold needsTo
  exact Nat.le_trans (List.length_filter_le ..) (by simp)
/-- the bits, as the text makes them -/
theorem bit_at : ∀ f : Fin 64, ∀ i : Fin 6, Builtin.bitAnd (f.val : Int) (2 ^ i.val) / 2 ^ i.val = (f.val : Int) / 2 ^ i.val % 2 := by decide +kernel
theorem bit_of {f : Int} (h0 : 0 ≤ f) (h1 : f < 64) {i : Nat} (hi : i < 6) : Builtin.bitAnd f (2 ^ i) / 2 ^ i = f / 2 ^ i % 2 := by
  have := bit_at ⟨f.toNat, by omega⟩ ⟨i, hi⟩
  have e : ((f.toNat : Nat) : Int) = f := by omega
  simpa only [e] using this
theorem zeros_sum : ∀ (l : List Int), (∀ x ∈ l, x = 0 ∨ x = 1) → (((l.filter fun y => decide (y = 0)).length : Nat) : Int) = (l.length : Int) - l.sum
  | [], _ => rfl
  | x :: r, h => by
    have ih := zeros_sum r fun y hy => h y (.tail _ hy)
    rcases h x (.head _) with rfl | rfl
    · rw [List.filter_cons_of_pos (by decide), List.length_cons, List.length_cons, List.sum_cons]
      omega
    · rw [List.filter_cons_of_neg (by decide), List.length_cons, List.sum_cons]
      omega
theorem zeros_six (f : Int) : (((((List.range 6).map fun i => f / 2 ^ i % 2).filter fun y => decide (y = 0)).length : Nat) : Int) = 6 - ((List.range 6).map fun i => f / 2 ^ i % 2).sum := by
  rw [zeros_sum _ fun x hx => ?_]
  · simp
  · obtain ⟨i, _, rfl⟩ := List.mem_map.mp hx
    have := Int.emod_two_eq (f / 2 ^ i)
    omega
theorem dis_mid {A B C : List (Addr × Obj)} (D : Dis (A ++ (B ++ C))) : Dis (B ++ (A ++ C)) := D.perm (List.perm_append_comm_assoc A B C)
theorem ints_take {vs : List Value} {ns : List Int} (h : IntsAre vs ns) : ∀ n, IntsAre (vs.take n) (ns.take n) := by
  induction h with
  | nil => intro n; simp; exact .nil
  | cons a t h ih =>
    intro n
    cases n with
    | zero => exact .nil
    | succ n => exact .cons a t (ih n)
theorem ints_drop {vs : List Value} {ns : List Int} (h : IntsAre vs ns) : ∀ n, IntsAre (vs.drop n) (ns.drop n) := by
  induction h with
  | nil => intro n; simp; exact .nil
  | cons a t h ih =>
    intro n
    cases n with
    | zero => exact .cons a t h
    | succ n => exact ih n
end
section
theorem flush_P5 : (1 : Nat) ≤ 2 := by
  w_top off
  first | walk1 | decide
/-- what is not told of has no count and no list -/
def Clean (st : Ab) : Prop := ∀ x, x ∉ st.order → st.np x = 0 ∧ st.ss x = []
theorem get_clean {st : Ab} (h : Clean st) (x : Int) : (st.get x).np = st.np ∧ (st.get x).ss = st.ss ∧ (∀ y, y ∈ (st.get x).order ↔ y ∈ st.order ∨ y = x) ∧ (st.order.Nodup → (st.get x).order.Nodup) := by
  unfold Ab.get
  by_cases hx : x ∈ st.order
  · rw [if_pos hx]
    exact ⟨rfl, rfl, fun y => ⟨.inl, fun z => z.elim id fun e => e ▸ hx⟩, id⟩
  · rw [if_neg hx]
    refine ⟨?_, ?_, fun y => by simp, fun hn => ?_⟩
    · funext y
      show upd st.np x 0 y = _
      unfold upd
      by_cases z : y = x
      · rw [if_pos z, z, (h x hx).1]
      · rw [if_neg z]
    · funext y
      show upd st.ss x [] y = _
      unfold upd
      by_cases z : y = x
      · rw [if_pos z, z, (h x hx).2]
      · rw [if_neg z]
    · show (st.order ++ [x]).Nodup
      exact List.nodup_append.mpr ⟨hn, by simp, fun a ha b hb => by
        rw [List.mem_singleton.mp hb]
        exact fun e => hx (e ▸ ha)⟩
theorem get_clean' {st : Ab} (h : Clean st) (x : Int) : Clean (st.get x) := by
  obtain ⟨h1, h2, h3, _⟩ := get_clean h x
  intro y hy
  rw [h1, h2]
  exact h y fun q => hy ((h3 y).mpr (.inl q))
theorem pred_clean {st : Ab} (h : Clean st) (k p : Int) : (Ab.pred k st p).np = st.np ∧ (∀ y, (Ab.pred k st p).ss y = if y = p then st.ss y ++ [k] else st.ss y) ∧ (∀ y, y ∈ (Ab.pred k st p).order ↔ y ∈ st.order ∨ y = p) ∧ (st.order.Nodup → (Ab.pred k st p).order.Nodup) ∧ Clean (Ab.pred k st p) := by
  obtain ⟨h1, h2, h3, h4⟩ := get_clean h p
  have hs : ∀ y, (Ab.pred k st p).ss y = if y = p then st.ss y ++ [k] else st.ss y := by
    intro y
    show upd (st.get p).ss p ((st.get p).ss p ++ [k]) y = _
    rw [h2]
    unfold upd
    by_cases z : y = p
    · rw [if_pos z, if_pos z, z]
    · rw [if_neg z, if_neg z]
  refine ⟨h1, hs, h3, h4, fun y hy => ?_⟩
  have hn : ¬ (y ∈ st.order ∨ y = p) := fun q => hy ((h3 y).mpr q)
  rw [hs y, if_neg fun e => hn (.inr e)]
  exact ⟨(congrFun h1 y).trans (h y fun q => hn (.inl q)).1, (h y fun q => hn (.inl q)).2⟩
theorem preds_clean (k : Int) : ∀ (ps : List Int) {st : Ab}, Clean st → ps.Nodup → (ps.foldl (Ab.pred k) st).np = st.np ∧ (∀ y, (ps.foldl (Ab.pred k) st).ss y = if y ∈ ps then st.ss y ++ [k] else st.ss y) ∧ (∀ y, y ∈ (ps.foldl (Ab.pred k) st).order ↔ y ∈ st.order ∨ y ∈ ps) ∧ (st.order.Nodup → (ps.foldl (Ab.pred k) st).order.Nodup) ∧ Clean (ps.foldl (Ab.pred k) st)
  | [], st, h, _ => ⟨rfl, fun y => by simp, fun y => by simp, id, h⟩
  | p :: r, st, h, hn => by
    obtain ⟨h1, h2, h3, h4, h5⟩ := pred_clean h k p
    obtain ⟨g1, g2, g3, g4, g5⟩ := preds_clean k r h5 (List.nodup_cons.mp hn).2
    have hp := (List.nodup_cons.mp hn).1
    show (r.foldl (Ab.pred k) (Ab.pred k st p)).np = _ ∧ (∀ y, (r.foldl (Ab.pred k) (Ab.pred k st p)).ss y = _) ∧ (∀ y, y ∈ (r.foldl (Ab.pred k) (Ab.pred k st p)).order ↔ _) ∧ (_ → (r.foldl (Ab.pred k) (Ab.pred k st p)).order.Nodup) ∧ Clean (r.foldl (Ab.pred k) (Ab.pred k st p))
    refine ⟨g1.trans h1, fun y => ?_, fun y => ?_, fun q => g4 (h4 q), g5⟩
    · rw [g2 y, h2 y]
      by_cases z : y = p
      · subst z
        rw [if_neg hp, if_pos rfl, if_pos (.head _)]
      · rw [if_neg z]
        by_cases z2 : y ∈ r
        · rw [if_pos z2, if_pos (.tail _ z2)]
        · rw [if_neg z2, if_neg fun q => (List.mem_cons.mp q).elim z z2]
    · rw [g3 y, h3 y, List.mem_cons, or_assoc]
theorem add_clean {st : Ab} (h : Clean st) (k : Int) {ps : List Int} (hn : ps.Nodup) : (∀ y, (st.add k ps).np y = if y = k then st.np y + (ps.length : Int) else st.np y) ∧ (∀ y, (st.add k ps).ss y = if y ∈ ps then st.ss y ++ [k] else st.ss y) ∧ (∀ y, y ∈ (st.add k ps).order ↔ y ∈ st.order ∨ y = k ∨ y ∈ ps) ∧ (st.order.Nodup → (st.add k ps).order.Nodup) ∧ Clean (st.add k ps) := by
  obtain ⟨h1, h2, h3, h4⟩ := get_clean h k
  obtain ⟨st1, hst1⟩ : ∃ st1 : Ab, st1 = ⟨(st.get k).order, upd (st.get k).np k ((st.get k).np k + (ps.length : Int)), (st.get k).ss⟩ := ⟨_, rfl⟩
  have hc : Clean st1 := by
    intro x hx
    rw [hst1] at hx ⊢
    have hx' : ¬ (x ∈ st.order ∨ x = k) := fun q => hx ((h3 x).mpr q)
    have := h x fun q => hx' (.inl q)
    refine ⟨?_, ?_⟩
    · show upd _ _ _ x = 0
      rw [upd_ne (fun e => hx' (.inr e)), h1]
      exact this.1
    · show (st.get k).ss x = []
      rw [h2]; exact this.2
  obtain ⟨g1, g2, g3, g4, g5⟩ := preds_clean k ps hc hn
  have e : st.add k ps = ps.foldl (Ab.pred k) st1 := by rw [hst1]; rfl
  rw [e]
  refine ⟨fun y => ?_, fun y => ?_, fun y => ?_, fun q => g4 ?_, g5⟩
  · rw [g1, hst1]
    show upd _ _ _ y = _
    rw [h1]
    unfold upd
    by_cases z : y = k
    · rw [if_pos z, if_pos z, z]
    · rw [if_neg z, if_neg z]
  · rw [g2 y, hst1]
    show (if y ∈ ps then (st.get k).ss y ++ [k] else (st.get k).ss y) = _
    rw [h2]
  · rw [g3 y, hst1]
    show y ∈ (st.get k).order ∨ _ ↔ _
    rw [h3 y, or_assoc]
  · rw [hst1]; exact h4 q
theorem needs_mem {figs : List Int} {k y : Int} : y ∈ needsTo figs k 6 ↔ 0 ≤ y ∧ wts figs k y = true := by
  unfold needsTo
  rw [List.mem_filter, List.mem_map]
  constructor
  · rintro ⟨⟨i, hi, rfl⟩, h⟩
    exact ⟨by omega, h⟩
  · rintro ⟨h0, h⟩
    have h6 : y < 6 := by
      unfold wts at h
      simp only [Bool.and_eq_true, decide_eq_true_eq] at h
      exact h.1
    exact ⟨⟨y.toNat, List.mem_range.mpr (by omega), by omega⟩, h⟩
theorem needs_nodup (figs : List Int) (k : Int) : (needsTo figs k 6).Nodup := by
  unfold needsTo
  have h : ((List.range 6).map fun (i : Nat) => (i : Int)).Nodup := by decide
  exact h.filter _
/-- what the sorter has been told after i turns -/
structure TS (figs : List Int) (i : Nat) (st : Ab) : Prop where
  clean : Clean st
  nd : st.order.Nodup
  sub : ∀ x ∈ st.order, 0 ≤ x ∧ x < 8
  has : ∀ k : Int, 0 ≤ k → k < i → k ∈ st.order
  np : ∀ y : Int, st.np y = if 0 ≤ y ∧ y < i then ((needsTo figs y 6).length : Int) else 0
  ss : ∀ y : Int, st.ss y = ((List.range i).map fun (k : Nat) => (k : Int)).filter fun k => decide (y ∈ needsTo figs k 6)
theorem toldSt_ok (figs : List Int) : ∀ i, i ≤ 8 → TS figs i (toldSt figs i)
  | 0, _ => ⟨fun x _ => ⟨rfl, rfl⟩, List.nodup_nil, fun x hx => (nomatch hx), fun k h0 h1 => by omega, fun y => by
      rw [if_neg (by omega)]
      rfl, fun y => rfl⟩
  | i + 1, hi => by
    have ih := toldSt_ok figs i (by omega)
    have hn := needs_nodup figs (i : Int)
    have hn1 : ((needsTo figs (i : Int) 6).take 1).Nodup := hn.sublist (List.take_sublist ..)
    have hn2 : ((needsTo figs (i : Int) 6).drop 1).Nodup := hn.sublist (List.drop_sublist ..)
    have htd := List.take_append_drop 1 (needsTo figs (i : Int) 6)
    have hmem : ∀ y, y ∈ needsTo figs (i : Int) 6 ↔ y ∈ (needsTo figs (i : Int) 6).take 1 ∨ y ∈ (needsTo figs (i : Int) 6).drop 1 := fun y => by
      conv => lhs; rw [← htd]
      exact List.mem_append
    have hdis : ∀ y, y ∈ (needsTo figs (i : Int) 6).take 1 → y ∉ (needsTo figs (i : Int) 6).drop 1 := fun y h1 h2 => by
      rw [← htd] at hn
      exact (List.nodup_append.mp hn).2.2 y h1 y h2 rfl
    have hlen : ((needsTo figs (i : Int) 6).length : Int) = (((needsTo figs (i : Int) 6).take 1).length : Int) + (((needsTo figs (i : Int) 6).drop 1).length : Int) := by
      conv => lhs; rw [← htd]
      rw [List.length_append]; push_cast; rfl
    obtain ⟨a1, a2, a3, a4, a5⟩ := add_clean ih.clean (i : Int) hn1
    obtain ⟨b1, b2, b3, b4, b5⟩ := add_clean a5 (i : Int) hn2
    show TS figs (i + 1) (((toldSt figs i).add (i : Int) ((needsTo figs i 6).take 1)).add (i : Int) ((needsTo figs i 6).drop 1))
    have sub6 : ∀ y, y ∈ needsTo figs (i : Int) 6 → 0 ≤ y ∧ y < 8 := fun y hy => by
      obtain ⟨h0, h⟩ := needs_mem.mp hy
      unfold wts at h
      simp only [Bool.and_eq_true, decide_eq_true_eq] at h
      omega
    refine ⟨b5, b4 (a4 ih.nd), fun x hx => ?_, fun k h0 h1 => ?_, fun y => ?_, fun y => ?_⟩
    · rcases (b3 x).mp hx with hx | hx | hx
      · rcases (a3 x).mp hx with hx | hx | hx
        · exact ih.sub x hx
        · omega
        · exact sub6 x ((hmem x).mpr (.inl hx))
      · omega
      · exact sub6 x ((hmem x).mpr (.inr hx))
    · refine (b3 k).mpr ?_
      by_cases z : k = (i : Int)
      · exact .inr (.inl z)
      · exact .inl ((a3 k).mpr (.inl (ih.has k h0 (by omega))))
    · rw [b1 y, a1 y, ih.np y]
      by_cases z : y = (i : Int)
      · rw [if_pos z, if_pos z, if_neg (by omega), if_pos (by omega), z]
        omega
      · rw [if_neg z, if_neg z]
        by_cases z2 : 0 ≤ y ∧ y < (i : Int)
        · rw [if_pos z2, if_pos (by omega)]
        · rw [if_neg z2, if_neg (by omega)]
    · rw [b2 y, a2 y, ih.ss y, List.range_succ, List.map_append, List.filter_append]
      show _ = _ ++ List.filter _ [(i : Int)]
      by_cases z : y ∈ needsTo figs (i : Int) 6
      · rw [List.filter_cons_of_pos (by simpa using z), List.filter_nil]
        rcases (hmem y).mp z with z1 | z2
        · rw [if_neg (hdis y z1), if_pos z1]
        · rw [if_pos z2, if_neg fun q => hdis y q z2]
      · rw [List.filter_cons_of_neg (by simpa using z), List.filter_nil, List.append_nil, if_neg fun q => z ((hmem y).mpr (.inr q)), if_neg fun q => z ((hmem y).mpr (.inl q))]
theorem nd_len : ∀ {l m : List Int}, l.Nodup → (∀ x ∈ l, x ∈ m) → l.length ≤ m.length
  | [], m, _, _ => Nat.zero_le _
  | x :: r, m, hn, hs => by
    obtain ⟨h1, h2⟩ := List.nodup_cons.mp hn
    have hx := hs x (.head _)
    have ih := nd_len (m := m.erase x) h2 fun y hy => (List.mem_erase_of_ne fun e => h1 (by rw [← e]; exact hy)).mpr (hs y (.tail _ hy))
    rw [List.length_erase_of_mem hx] at ih
    have := List.length_pos_of_mem hx
    rw [List.length_cons]
    omega
theorem len_eight {l : List Int} (hn : l.Nodup) (h : ∀ x ∈ l, 0 ≤ x ∧ x < 8) : l.length ≤ 8 := by
  have : l ⊆ eight := fun x hx => by
    have := h x hx
    exact of_eight (P := fun x => x ∈ eight) (by decide) this.1 this.2
  exact nd_len hn this
theorem TS.len {figs : List Int} {i : Nat} {st : Ab} (h : TS figs i st) : st.order.length ≤ 8 := len_eight h.nd h.sub
theorem TS.lens {figs : List Int} {i : Nat} {st : Ab} (h : TS figs i st) (y : Int) : (st.ss y).length ≤ i := by
  rw [h.ss y]
  exact Nat.le_trans (List.length_filter_le ..) (by simp)
theorem TS.mid {figs : List Int} {i : Nat} {st : Ab} (h : TS figs i st) (hi : i < 8) : (st.add (i : Int) ((needsTo figs i 6).take 1)).order.length ≤ 80 ∧ ∀ y, ((st.add (i : Int) ((needsTo figs i 6).take 1)).ss y).length ≤ 80 := by
  have hn := needs_nodup figs (i : Int)
  have hn1 : ((needsTo figs (i : Int) 6).take 1).Nodup := hn.sublist (List.take_sublist ..)
  obtain ⟨a1, a2, a3, a4, a5⟩ := add_clean h.clean (i : Int) hn1
  refine ⟨Nat.le_trans (len_eight (a4 h.nd) fun x hx => ?_) (by decide), fun y => ?_⟩
  · rcases (a3 x).mp hx with hx | hx | hx
    · exact h.sub x hx
    · omega
    · obtain ⟨h0, h1⟩ := needs_mem.mp (List.mem_of_mem_take hx)
      unfold wts at h1
      simp only [Bool.and_eq_true, decide_eq_true_eq] at h1
      omega
  · rw [a2 y]
    have := h.lens y
    split
    · rw [List.length_append]
      show _ + 1 ≤ 80
      omega
    · omega
end
section
theorem flush_P6 : (1 : Nat) ≤ 2 := by
  w_top off
  first | walk1 | decide
theorem dec_fold : ∀ (l : List Int) (np : Int → Int) (r : List Int), l.Nodup → (∀ y, (l.foldl dec (np, r)).1 y = if y ∈ l then np y - 1 else np y) ∧ (l.foldl dec (np, r)).2 = r ++ l.filter fun y => decide (np y - 1 = 0)
  | [], np, r, _ => ⟨fun y => by simp, by simp⟩
  | x :: t, np, r, hn => by
    obtain ⟨hx, ht⟩ := List.nodup_cons.mp hn
    obtain ⟨h1, h2⟩ := dec_fold t (upd np x (np x - 1)) (if np x - 1 = 0 then r ++ [x] else r) ht
    have e : (x :: t).foldl dec (np, r) = t.foldl dec (upd np x (np x - 1), if np x - 1 = 0 then r ++ [x] else r) := rfl
    rw [e]
    refine ⟨fun y => ?_, ?_⟩
    · rw [h1 y]
      by_cases z : y = x
      · subst z
        rw [if_neg hx, upd_self, if_pos (.head _)]
      · rw [upd_ne z]
        by_cases z2 : y ∈ t
        · rw [if_pos z2, if_pos (.tail _ z2)]
        · rw [if_neg z2, if_neg fun q => (List.mem_cons.mp q).elim z z2]
    · rw [h2]
      have hc : t.filter (fun y => decide (upd np x (np x - 1) y - 1 = 0)) = t.filter fun y => decide (np y - 1 = 0) := List.filter_congr fun y hy => by
        have hyx : y ≠ x := fun e => hx (by rw [← e]; exact hy)
        rw [upd_ne hyx]
      rw [hc]
      by_cases z : np x - 1 = 0
      · rw [if_pos z, List.filter_cons_of_pos (by simpa using z), List.append_assoc]
        rfl
      · rw [if_neg z, List.filter_cons_of_neg (by simpa using z)]
theorem out_fold : ∀ (l : List Int) (np : Int → Int) (y : Int), (l.foldl (fun np x => upd np x (-1)) np) y = if y ∈ l then -1 else np y
  | [], np, y => by simp
  | x :: t, np, y => by
    show (t.foldl (fun np x => upd np x (-1)) (upd np x (-1))) y = _
    rw [out_fold t]
    by_cases z : y = x
    · subst z
      rw [upd_self, if_pos (List.mem_cons_self ..)]
      simp
    · rw [upd_ne z]
      by_cases z2 : y ∈ t
      · rw [if_pos z2, if_pos (.tail _ z2)]
      · rw [if_neg z2, if_neg fun q => (List.mem_cons.mp q).elim z z2]
theorem count_remove {p : Int → Bool} {x : Int} : ∀ {l : List Int}, l.Nodup → x ∈ l → p x = true → ((l.filter fun z => p z && !decide (z = x)).length : Int) = ((l.filter p).length : Int) - 1
  | [], _, h, _ => (nomatch h)
  | a :: t, hn, h, hp => by
    obtain ⟨ha, ht⟩ := List.nodup_cons.mp hn
    by_cases z : a = x
    · subst z
      rw [List.filter_cons_of_pos hp, List.filter_cons_of_neg (by simp)]
      have : t.filter (fun z => p z && !decide (z = a)) = t.filter p := List.filter_congr fun y hy => by
        have : ¬ y = a := fun e => ha (e ▸ hy)
        simp [this]
      rw [this, List.length_cons]
      omega
    · have hx : x ∈ t := (List.mem_cons.mp h).resolve_left fun e => z e.symm
      have ih := count_remove ht hx hp
      by_cases pa : p a = true
      · rw [List.filter_cons_of_pos pa, List.filter_cons_of_pos (by simp [pa, z]), List.length_cons, List.length_cons]
        omega
      · rw [List.filter_cons_of_neg pa, List.filter_cons_of_neg (by simp [pa])]
        exact ih
theorem later_iff {figs left : List Int} {x : Int} : x ∈ later figs left ↔ x ∈ left ∧ ∃ i ∈ left, wts figs x i = true := by
  unfold later
  rw [List.mem_filter, List.any_eq_true]
/-- the state between two rounds -/
structure RS (figs : List Int) (left : List Int) (np : Int → Int) (rn : List Int) : Prop where
  sub : ∀ x ∈ left, x ∈ eight
  lnd : left.Nodup
  np : ∀ x ∈ left, np x = ((left.filter (wts figs x)).length : Int)
  rnd : rn.Nodup
  rmem : ∀ x, x ∈ rn ↔ x ∈ left ∧ x ∉ later figs left
  closed : ∀ y ∈ eight, y ∉ left → ∀ x ∈ left, wts figs y x = false
structure SsOk (figs : List Int) (ss : Int → List Int) : Prop where
  mem : ∀ x ∈ eight, ∀ y, y ∈ ss x ↔ y ∈ eight ∧ wts figs y x = true
  nd : ∀ x, (ss x).Nodup
/-- within a round -/
structure RI (figs left rn : List Int) (dn : List Int) (a : (Int → Int) × List Int) : Prop where
  i1 : ∀ y ∈ left, y ∉ rn → a.1 y = ((left.filter fun x => wts figs y x && !decide (x ∈ dn)).length : Int)
  i2 : ∀ y ∈ rn, y ∉ dn → a.1 y = -1
  i3 : a.2.Nodup
  i4 : ∀ y, y ∈ a.2 ↔ y ∈ left ∧ y ∉ rn ∧ a.1 y = 0
theorem RI.start {figs left : List Int} {np : Int → Int} {rn : List Int} (R : RS figs left np rn) : RI figs left rn [] (rn.foldl (fun np x => upd np x (-1)) np, []) := by
  have e1 : ∀ y ∈ left, y ∉ rn → (rn.foldl (fun np x => upd np x (-1)) np) y = ((left.filter (wts figs y)).length : Int) := fun y hy hr => by
    rw [out_fold, if_neg hr, R.np y hy]
  refine ⟨fun y hy hr => ?_, fun y hy _ => by show (rn.foldl (fun np x => upd np x (-1)) np) y = _; rw [out_fold, if_pos hy], List.nodup_nil, fun y => ⟨fun h => (nomatch h), fun h => ?_⟩⟩
  · show (rn.foldl (fun np x => upd np x (-1)) np) y = _
    rw [e1 y hy hr]
    congr 2
    exact List.filter_congr fun x _ => by simp
  · exfalso
    obtain ⟨h1, h2, h3⟩ := h
    have h3' : (rn.foldl (fun np x => upd np x (-1)) np) y = 0 := h3
    rw [e1 y h1 h2] at h3'
    have hl : y ∈ later figs left := Classical.byContradiction fun q => h2 ((R.rmem y).mpr ⟨h1, q⟩)
    obtain ⟨_, i, hi, hw⟩ := later_iff.mp hl
    have := List.length_pos_of_mem (List.mem_filter.mpr ⟨hi, hw⟩)
    omega
theorem RI.turn {figs left : List Int} {np : Int → Int} {rn dn : List Int} {ss : Int → List Int} {a : (Int → Int) × List Int} {x : Int} (R : RS figs left np rn) (S : SsOk figs ss) (I : RI figs left rn dn a) (hx : x ∈ rn) (hxd : x ∉ dn) : RI figs left rn (dn ++ [x]) (doneOne ss a x) := by
  obtain ⟨hxl, hxn⟩ := (R.rmem x).mp hx
  have hx8 := R.sub x hxl
  obtain ⟨h1, h2⟩ := dec_fold (ss x) (upd a.1 x (-2)) a.2 (S.nd x)
  have hss : ∀ y ∈ ss x, y ∈ left ∧ y ∉ rn ∧ wts figs y x = true ∧ y ≠ x := fun y hy => by
    obtain ⟨hy8, hw⟩ := (S.mem x hx8 y).mp hy
    have hyl : y ∈ left := Classical.byContradiction fun q => by
      have := R.closed y hy8 q x hxl
      rw [hw] at this; cases this
    have hyr : y ∉ rn := fun q => ((R.rmem y).mp q).2 (later_iff.mpr ⟨hyl, x, hxl, hw⟩)
    exact ⟨hyl, hyr, hw, fun e => hyr (e ▸ hx)⟩
  have hnot : ∀ y ∈ left, y ∉ ss x → wts figs y x = false := fun y hy hn => by
    cases h : wts figs y x with
    | false => rfl
    | true => exact absurd ((S.mem x hx8 y).mpr ⟨R.sub y hy, h⟩) hn
  have cnt : ∀ y, wts figs y x = true → ((left.filter fun z => wts figs y z && !decide (z ∈ dn ++ [x])).length : Int) = ((left.filter fun z => wts figs y z && !decide (z ∈ dn)).length : Int) - 1 := fun y hw => by
    have := count_remove (p := fun z => wts figs y z && !decide (z ∈ dn)) R.lnd hxl (by simp [hw, hxd])
    rw [← this]
    congr 2
    refine List.filter_congr fun z _ => ?_
    by_cases z1 : z = x <;> by_cases z2 : z ∈ dn <;> simp [z1, z2]
  have cnt0 : ∀ y, wts figs y x = false → (left.filter fun z => wts figs y z && !decide (z ∈ dn ++ [x])) = left.filter fun z => wts figs y z && !decide (z ∈ dn) := fun y hw => by
    refine List.filter_congr fun z _ => ?_
    by_cases z1 : z = x
    · subst z1
      simp [hw]
    · simp [z1]
  have hpos : ∀ y, wts figs y x = true → (1 : Int) ≤ ((left.filter fun z => wts figs y z && !decide (z ∈ dn)).length : Int) := fun y hw => by
    have hm : x ∈ left.filter fun z => wts figs y z && !decide (z ∈ dn) := List.mem_filter.mpr ⟨hxl, by simp [hw, hxd]⟩
    have := List.length_pos_of_mem hm
    omega
  show RI figs left rn (dn ++ [x]) ((ss x).foldl dec (upd a.1 x (-2), a.2))
  refine ⟨fun y hy hr => ?_, fun y hy hd => ?_, ?_, fun y => ?_⟩
  · have hyx : y ≠ x := fun e => hr (e ▸ hx)
    rw [h1 y, upd_ne hyx, I.i1 y hy hr]
    by_cases z : y ∈ ss x
    · rw [if_pos z, cnt y (hss y z).2.2.1]
    · rw [if_neg z, cnt0 y (hnot y hy z)]
  · have hyx : y ≠ x := fun e => hd (by rw [e]; exact List.mem_append_right _ (.head _))
    have hyd : y ∉ dn := fun q => hd (List.mem_append_left _ q)
    rw [h1 y, upd_ne hyx, if_neg fun q => (hss y q).2.1 hy]
    exact I.i2 y hy hyd
  · rw [h2]
    refine List.nodup_append.mpr ⟨I.i3, (S.nd x).filter _, fun u hu v hv e => ?_⟩
    subst e
    obtain ⟨hv1, hv2⟩ := List.mem_filter.mp hv
    obtain ⟨g1, g2, g3⟩ := (I.i4 u).mp hu
    have := (hss u hv1).2.2.2
    rw [upd_ne this] at hv2
    simp only [decide_eq_true_eq] at hv2
    omega
  · rw [h2, List.mem_append, List.mem_filter, I.i4 y]
    rw [h1 y]
    constructor
    · rintro (⟨g1, g2, g3⟩ | ⟨g1, g2⟩)
      · have hyx : y ≠ x := fun e => g2 (e ▸ hx)
        have hns : y ∉ ss x := fun q => by
          have := hpos y (hss y q).2.2.1
          rw [← I.i1 y g1 g2, g3] at this
          omega
        rw [if_neg hns, upd_ne hyx]
        exact ⟨g1, g2, g3⟩
      · obtain ⟨k1, k2, k3, k4⟩ := hss y g1
        rw [if_pos g1]
        exact ⟨k1, k2, by simpa using g2⟩
    · rintro ⟨g1, g2, g3⟩
      by_cases z : y ∈ ss x
      · rw [if_pos z] at g3
        exact .inr ⟨z, by simpa using g3⟩
      · have hyx : y ≠ x := fun e => g2 (e ▸ hx)
        rw [if_neg z, upd_ne hyx] at g3
        exact .inl ⟨g1, g2, g3⟩
theorem RI.fold {figs left : List Int} {np : Int → Int} {rn : List Int} {ss : Int → List Int} (R : RS figs left np rn) (S : SsOk figs ss) : ∀ (tl dn : List Int) (a : (Int → Int) × List Int), rn = dn ++ tl → RI figs left rn dn a → RI figs left rn rn (tl.foldl (doneOne ss) a)
  | [], dn, a, e, I => by
    rw [List.append_nil] at e
    rw [← e] at I
    exact I
  | x :: t, dn, a, e, I => by
    have hn := R.rnd
    rw [e] at hn
    have hxd : x ∉ dn := fun q => (List.nodup_append.mp hn).2.2 x q x (.head _) rfl
    exact RI.fold R S t (dn ++ [x]) _ (by rw [e, List.append_assoc]; rfl) (I.turn R S (by rw [e]; exact List.mem_append_right _ (.head _)) hxd)
theorem RI.part {figs left : List Int} {np : Int → Int} {rn : List Int} {ss : Int → List Int} (R : RS figs left np rn) (S : SsOk figs ss) : ∀ (i : Nat), i ≤ rn.length → RI figs left rn (rn.take i) ((rn.take i).foldl (doneOne ss) (rn.foldl (fun np x => upd np x (-1)) np, []))
  | 0, _ => RI.start R
  | i + 1, hi => by
    have ih := RI.part R S i (by omega)
    have hg : rn[i]? = some rn[i] := List.getElem?_eq_getElem (by omega)
    rw [List.take_add_one, hg]
    show RI figs left rn (rn.take i ++ [rn[i]]) ((rn.take i ++ [rn[i]]).foldl _ _)
    rw [List.foldl_append]
    refine ih.turn R S (List.getElem_mem ..) fun q => ?_
    obtain ⟨j, hj, e⟩ := List.mem_take_iff_getElem.mp q
    have hnd := R.rnd
    have := (List.getElem_inj hnd).mp e
    omega
theorem RS.out {figs left : List Int} {np : Int → Int} {rn : List Int} {ss : Int → List Int} (R : RS figs left np rn) (S : SsOk figs ss) (i : Nat) (x : Int) (h : rn[i]? = some x) :
    ((rn.take i).foldl (doneOne ss) (rn.foldl (fun np x => upd np x (-1)) np, [])).1 x = -1 := by
  have hi : i < rn.length := by
    rcases Nat.lt_or_ge i rn.length with z | z
    · exact z
    · rw [List.getElem?_eq_none z] at h; cases h
  refine (RI.part R S i (Nat.le_of_lt hi)).i2 x (List.mem_of_getElem? h) fun q => ?_
  obtain ⟨j, hj, e⟩ := List.mem_take_iff_getElem.mp q
  rw [List.getElem?_eq_getElem hi] at h
  rw [← Option.some.inj h] at e
  have := (List.getElem_inj R.rnd).mp e
  omega
theorem RS.next {figs left : List Int} {np : Int → Int} {rn : List Int} {ss : Int → List Int} (R : RS figs left np rn) (S : SsOk figs ss) :
    RS figs (later figs left) (rn.foldl (doneOne ss) (rn.foldl (fun np x => upd np x (-1)) np, [])).1 (rn.foldl (doneOne ss) (rn.foldl (fun np x => upd np x (-1)) np, [])).2 := by
  have I := RI.fold R S rn [] _ rfl (RI.start R)
  have hl : ∀ x ∈ left, (x ∉ rn ↔ x ∈ later figs left) := fun x hx => ⟨fun q => Classical.byContradiction fun q2 => q ((R.rmem x).mpr ⟨hx, q2⟩), fun q q2 => ((R.rmem x).mp q2).2 q⟩
  have hc : ∀ y ∈ later figs left, (rn.foldl (doneOne ss) (rn.foldl (fun np x => upd np x (-1)) np, [])).1 y = (((later figs left).filter (wts figs y)).length : Int) := fun y hy => by
    have hyl := later_sub hy
    rw [I.i1 y hyl ((hl y hyl).mpr hy)]
    congr 2
    unfold later
    rw [List.filter_filter]
    refine List.filter_congr fun x hx => ?_
    have := hl x hx
    by_cases z : x ∈ rn
    · have h1 : ¬ x ∈ later figs left := fun q => (this.mpr q) z
      have h2 : left.any (wts figs x) = false := by
        cases h : left.any (wts figs x) with
        | false => rfl
        | true => exact absurd (List.mem_filter.mpr ⟨hx, h⟩) h1
      simp only [z, decide_true, Bool.not_true, Bool.and_false, h2]
    · have h1 := this.mp z
      have h2 : left.any (wts figs x) = true := (List.mem_filter.mp h1).2
      simp only [z, decide_false, Bool.not_false, Bool.and_true, h2]
  refine ⟨fun x hx => R.sub x (later_sub hx), R.lnd.filter _, hc, I.i3, fun y => ?_, fun y hy hn x hx => ?_⟩
  · rw [I.i4 y]
    constructor
    · rintro ⟨h1, h2, h3⟩
      have h4 := (hl y h1).mp h2
      refine ⟨h4, fun q => ?_⟩
      rw [hc y h4] at h3
      obtain ⟨_, i, hi, hw⟩ := later_iff.mp q
      have := List.length_pos_of_mem (List.mem_filter.mpr ⟨hi, hw⟩)
      omega
    · rintro ⟨h1, h2⟩
      refine ⟨later_sub h1, (hl y (later_sub h1)).mpr h1, ?_⟩
      rw [hc y h1]
      have : (later figs left).filter (wts figs y) = [] := List.filter_eq_nil_iff.mpr fun i hi hw => h2 (later_iff.mpr ⟨h1, i, hi, hw⟩)
      rw [this]
      rfl
  · by_cases z : y ∈ left
    · cases h : wts figs y x with
      | false => rfl
      | true => exact absurd (later_iff.mpr ⟨z, x, later_sub hx, h⟩) hn
    · exact R.closed y hy z x (later_sub hx)
theorem RS.empty {figs left : List Int} {np : Int → Int} {rn : List Int} (R : RS figs left np rn) : rn = [] ↔ later figs left = left := by
  constructor
  · intro e
    unfold later
    refine List.filter_eq_self.mpr fun x hx => ?_
    have : x ∈ later figs left := Classical.byContradiction fun q => by
      have := (R.rmem x).mpr ⟨hx, q⟩
      rw [e] at this; cases this
    exact (List.mem_filter.mp this).2
  · intro e
    refine List.eq_nil_iff_forall_not_mem.mpr fun x hx => ?_
    obtain ⟨h1, h2⟩ := (R.rmem x).mp hx
    rw [e] at h2
    exact h2 h1
end
section
theorem flush_P7 : (1 : Nat) ≤ 2 := by
  w_top off
  first | walk1 | decide
theorem mem_eight {x : Int} : x ∈ eight ↔ 0 ≤ x ∧ x < 8 := by
  constructor
  · intro h
    have : ∀ x ∈ eight, 0 ≤ x ∧ x < 8 := by decide
    exact this x h
  · intro h
    exact of_eight (P := fun x => x ∈ eight) (by decide) h.1 h.2
theorem needs_eight (figs : List Int) (x : Int) : (needsTo figs x 6).length = (eight.filter (wts figs x)).length := by
  have e : eight = ((List.range 6).map fun (i : Nat) => (i : Int)) ++ [6, 7] := by decide
  unfold needsTo
  rw [e, List.filter_append]
  have h6 : wts figs x 6 = false := by unfold wts; simp
  have h7 : wts figs x 7 = false := by unfold wts; simp
  rw [List.filter_cons_of_neg (by rw [h6]; decide), List.filter_cons_of_neg (by rw [h7]; decide), List.filter_nil, List.append_nil]
theorem TS.order_mem {figs : List Int} {st : Ab} (T : TS figs 8 st) {x : Int} : x ∈ st.order ↔ x ∈ eight := ⟨fun h => mem_eight.mpr (T.sub x h), fun h => by
  obtain ⟨h0, h1⟩ := mem_eight.mp h
  exact T.has x h0 (by omega)⟩
theorem TS.ssok {figs : List Int} {st : Ab} (T : TS figs 8 st) : SsOk figs st.ss := by
  refine ⟨fun x hx y => ?_, fun x => ?_⟩
  · rw [T.ss x, List.mem_filter, decide_eq_true_eq, needs_mem]
    have h0 := (mem_eight.mp hx).1
    have e : y ∈ (List.range 8).map (fun (k : Nat) => (k : Int)) ↔ y ∈ eight := by
      have : (List.range 8).map (fun (k : Nat) => (k : Int)) = eight := by decide
      rw [this]
    rw [e]
    exact ⟨fun h => ⟨h.1, h.2.2⟩, fun h => ⟨h.1, h0, h.2⟩⟩
  · rw [T.ss x]
    have h : ((List.range 8).map fun (i : Nat) => (i : Int)).Nodup := by decide
    exact h.filter _
theorem TS.start {figs : List Int} {st : Ab} (T : TS figs 8 st) : RS figs eight st.np (st.order.filter fun x => decide (st.np x = 0)) := by
  have hnp : ∀ x ∈ eight, st.np x = ((eight.filter (wts figs x)).length : Int) := fun x hx => by
    obtain ⟨h0, h1⟩ := mem_eight.mp hx
    rw [T.np x, if_pos ⟨h0, by omega⟩, needs_eight]
  refine ⟨fun x hx => hx, by decide, hnp, T.nd.filter _, fun x => ?_, fun y hy hn => absurd hy hn⟩
  rw [List.mem_filter, T.order_mem, decide_eq_true_eq]
  constructor
  · rintro ⟨h1, h2⟩
    refine ⟨h1, fun q => ?_⟩
    obtain ⟨_, i, hi, hw⟩ := later_iff.mp q
    have hm : i ∈ eight.filter (wts figs x) := List.mem_filter.mpr ⟨hi, hw⟩
    have := List.length_pos_of_mem hm
    rw [hnp x h1] at h2
    omega
  · rintro ⟨h1, h2⟩
    refine ⟨h1, ?_⟩
    have : eight.filter (wts figs x) = [] := List.filter_eq_nil_iff.mpr fun i hi hw => h2 (later_iff.mpr ⟨h1, i, hi, hw⟩)
    rw [hnp x h1, this]
    rfl
theorem TS.clos {figs : List Int} {st : Ab} (T : TS figs 8 st) : ∀ x ∈ st.order, ∀ y ∈ st.ss x, y ∈ st.order := fun x hx y hy =>
  T.order_mem.mpr ((T.ssok.mem x (T.order_mem.mp hx) y).mp hy).1
theorem Rds.end_ {figs left : List Int} {rs : List (List Int)} {fin : List Int} (h : Rds figs left rs fin) : later figs fin = fin ∧ ∀ x ∈ fin, x ∈ left := by
  induction h with
  | stop e => exact ⟨e, fun x hx => hx⟩
  | step _ _ ih => exact ⟨ih.1, fun x hx => later_sub (ih.2 x hx)⟩
theorem Rds.ring {figs left : List Int} {rs : List (List Int)} {fin : List Int} (h : Rds figs left rs fin) {C : List Int} (hC : ∀ c ∈ C, ∃ i ∈ C, wts figs c i = true) (hl : ∀ c ∈ C, c ∈ left) : ∀ c ∈ C, c ∈ fin := by
  induction h with
  | stop e => exact hl
  | step _ _ ih =>
    refine ih fun c hc => ?_
    obtain ⟨i, hi, hw⟩ := hC c hc
    exact later_iff.mpr ⟨hl c hc, i, hl i hi, hw⟩
theorem ring_iff {figs : List Int} {st : Ab} (T : TS figs 8 st) {rs : List (List Int)} {fin : List Int} (h : Rds figs eight rs fin) : Ring st.ss st.order ↔ fin ≠ [] := by
  constructor
  · rintro ⟨C, hne, hsub, hC⟩
    have := h.ring (C := C) (fun c hc => by
      obtain ⟨i, hi, hci⟩ := hC c hc
      exact ⟨i, hi, ((T.ssok.mem i (T.order_mem.mp (hsub i hi)) c).mp hci).2⟩) fun c hc => T.order_mem.mp (hsub c hc)
    intro e
    cases C with
    | nil => exact hne rfl
    | cons c r =>
      have := this c (.head _)
      rw [e] at this; cases this
  · intro hne
    obtain ⟨e, hs⟩ := h.end_
    refine ⟨fin, hne, fun c hc => T.order_mem.mpr (hs c hc), fun c hc => ?_⟩
    have hc' := hc
    rw [← e] at hc'
    obtain ⟨_, i, hi, hw⟩ := later_iff.mp hc'
    exact ⟨i, hi, (T.ssok.mem i (hs i hi) c).mpr ⟨hs c hc, hw⟩⟩
/-- a sorted list is the only one with its things -/
theorem sort_uniq : ∀ {a b : List Int}, a.Pairwise (· ≤ ·) → a.Nodup → b.Pairwise (· < ·) → (∀ x, x ∈ a ↔ x ∈ b) → a = b
  | [], [], _, _, _, _ => rfl
  | [], y :: t, _, _, _, h => absurd ((h y).mpr (.head _)) (by simp)
  | x :: r, [], _, _, _, h => absurd ((h x).mp (.head _)) (by simp)
  | x :: r, y :: t, h1, h2, h3, h => by
    obtain ⟨p1, p2⟩ := List.pairwise_cons.mp h1
    obtain ⟨q1, q2⟩ := List.nodup_cons.mp h2
    obtain ⟨r1, r2⟩ := List.pairwise_cons.mp h3
    have hxy : x = y := by
      rcases List.mem_cons.mp ((h x).mp (.head _)) with e | hx
      · exact e
      · rcases List.mem_cons.mp ((h y).mpr (.head _)) with e | hy
        · exact e.symm
        · have := r1 x hx
          have := p1 y hy
          omega
    subst hxy
    congr 1
    refine sort_uniq p2 q2 r2 fun z => ⟨fun hz => ?_, fun hz => ?_⟩
    · rcases List.mem_cons.mp ((h z).mp (.tail _ hz)) with e | hz'
      · exact absurd (e ▸ hz) q1
      · exact hz'
    · rcases List.mem_cons.mp ((h z).mpr (.tail _ hz)) with e | hz'
      · have := r1 z hz
        omega
      · exact hz'
theorem RS.sorted {figs left : List Int} {np : Int → Int} {rn ns : List Int} (R : RS figs left np rn) (hl : left.Pairwise (· < ·)) (hp : ns.Perm rn) (hs : ns.Pairwise (· ≤ ·)) : ns = left.filter fun k => !(later figs left).contains k := by
  refine sort_uniq hs (hp.nodup_iff.mpr R.rnd) (hl.filter _) fun x => ?_
  rw [hp.mem_iff, R.rmem x, List.mem_filter]
  simp
end
section
theorem flush_P8 : (1 : Nat) ≤ 2 := by
  w_top off
  first | walk1 | decide
open PySem PySem.W PySem.Calls PyProof.Rows PyProof.V PySem.Spec
def bOk : Nat → Dat → Bool
  | _, .none => true
  | _, .bool _ => true
  | _, .int _ => true
  | n + 1, .tuple ds => ds.all (bOk n)
  | n + 1, .list ds => ds.all (bOk n)
  | _, _ => false
section
variable {h₀ h : Heap} {L : Addr} {news : List (Addr × Obj)}
mutual
theorem b_in (N : News h₀ L h news) {v : Value} {d : Dat} (n : Nat) (x : DatIn news v d) (hk : bOk n d = true) : ∃ as, Reads h v (kqdP d) as := by
  cases x with
  | none => exact ⟨_, Reads.none⟩
  | bool b => exact ⟨_, Reads.bool b⟩
  | int i t => exact ⟨_, Reads.int i t⟩
  | str _ _ => cases n <;> simp [bOk] at hk
  | bytes _ _ => cases n <;> simp [bOk] at hk
  | tuple hm r =>
    cases n with
    | zero => simp [bOk] at hk
    | succ n =>
      obtain ⟨as, q⟩ := b_all N n r (by simpa [bOk] using hk)
      rw [kqdP]
      exact ⟨as, reads_tuple_at (N.get hm) rfl rfl (by simpa using q)⟩
  | list hm r =>
    cases n with
    | zero => simp [bOk] at hk
    | succ n =>
      obtain ⟨as, q⟩ := b_all N n r (by simpa [bOk] using hk)
      rw [kqdP]
      exact ⟨_, reads_list_at (N.get hm) rfl rfl (by simpa [PySem.W.listOf] using q)⟩
theorem b_all (N : News h₀ L h news) {vs : List Value} {ds : List Dat} (n : Nat) (x : DatAll news vs ds) (hk : ∀ d ∈ ds, bOk n d = true) : ∃ as, ReadsAll h vs (kqdPs ds) as := by
  cases x with
  | nil => exact ⟨[], by rw [kqdPs]; exact ReadsAll.nil⟩
  | cons hd r =>
    obtain ⟨as, q⟩ := b_in N n hd (hk _ (.head _))
    obtain ⟨bs, p⟩ := b_all N n r fun d hm => hk d (.tail _ hm)
    rw [kqdPs]
    exact ⟨_, ReadsAll.cons q p⟩
end
end
theorem b_lay : ∀ (n : Nat) (d : Dat), bOk n d = true → ((kqdP d).canLay0 = true ∧ (kqdP d).depth ≤ n) ∧ PyData.eqv (kqdP d) (kqdP d) = true := by
  have all : ∀ (n : Nat), (∀ d, bOk n d = true → ((kqdP d).canLay0 = true ∧ (kqdP d).depth ≤ n) ∧ PyData.eqv (kqdP d) (kqdP d) = true) → ∀ ds : List Dat, (∀ d ∈ ds, bOk n d = true) → (PyData.canLayAll0 (kqdPs ds) = true ∧ PyData.depthAll (kqdPs ds) ≤ n) ∧ PyData.eqvAll (kqdPs ds) (kqdPs ds) = true := by
    intro n ih ds
    induction ds with
    | nil => intro _; simp [kqdPs, PyData.canLayAll0, PyData.depthAll, PyData.eqvAll]
    | cons d ds hi =>
      intro h
      have h1 := ih d (h d (.head _))
      have h2 := hi fun e he => h e (.tail _ he)
      simp only [kqdPs, PyData.canLayAll0, PyData.depthAll, PyData.eqvAll, h1.1.1, h2.1.1, h1.2, h2.2, Bool.and_self, true_and, and_true]
      have a1 := h1.1.2
      have a2 := h2.1.2
      omega
  intro n
  induction n with
  | zero =>
    intro d h
    cases d <;> simp_all [bOk, kqdP, PyData.canLay0, PyData.depth, PyData.eqv]
  | succ n ih =>
    intro d h
    cases d with
    | none => simp [kqdP, PyData.canLay0, PyData.depth, PyData.eqv]
    | bool b => simp [kqdP, PyData.canLay0, PyData.depth, PyData.eqv]
    | int i => simp [kqdP, PyData.canLay0, PyData.depth, PyData.eqv]
    | str x => simp [bOk] at h
    | bytes b => simp [bOk] at h
    | tuple ds =>
      have q := all n ih ds (by simpa [bOk] using h)
      have q2 := q.1.2
      simp only [kqdP, PyData.canLay0, PyData.depth, PyData.eqv, q.1.1, q.2, true_and, and_true]
      omega
    | list ds =>
      have q := all n ih ds (by simpa [bOk] using h)
      have q2 := q.1.2
      simp only [kqdP, PyData.canLay0, PyData.depth, PyData.eqv, q.1.1, q.2, true_and, and_true]
      omega
theorem eq_same {prog : Program} {w : World} {A : Around} {E : Value → Shared → Prop} {s : Shared} {h₀ : Heap} {L a b : Addr} {news : List (Addr × Obj)} {d : Dat} {Q : Value → Shared → Prop} (N : News h₀ L s.heap news)
    (h1 : DatIn news (.ref a) d) (h2 : DatIn news (.ref b) d) (hd : bOk 8 d = true) (hu : A.units + 64 < cLine) (h : Q (.bool true) s) : wpAny (model prog w) A (compareOp .Eq (.ref a) (.ref b)) Q E s := by
  obtain ⟨as, ra⟩ := b_in N 8 h1 hd
  obtain ⟨bs, rb⟩ := b_in N 8 h2 hd
  obtain ⟨l1, l2⟩ := b_lay 8 d hd
  have hs : SeqAt.shaped (kqdP d) = true := by
    unfold SeqAt.shaped
    rw [l1.1, Bool.true_and]
    exact decide_eq_true (Nat.le_trans l1.2 (by decide))
  exact eq_dataH ra rb hs hs hu (by rw [l2]; exact h)
theorem dueD_ok (figs : List Int) (rs : List (List Int)) (fin : List Int) : bOk 8 (dueD figs rs fin) = true := by
  simp [dueD, cntD, rdD, bOk]
end
section
local macro_rules | `(tactic| walk_at "subscriptTail") => `(tactic| (k_here; (with_reducible show wpAny _ _ (subscriptTail _ _ (Value.ref _) (Value.int (Nat.cast _) _)) _ _ _); k_dflt (refine' item_at ?N ?m ?a ?c ?_; (case N => k_asm); (case m => k_mem); (case a => omega); (case c => assumption))))
local macro_rules | `(tactic| walk_at "StarOf ref") => `(tactic| (k_here; k_dflt (refine' star_seq ?k1 ?k2 ?m ?c ?d ?T ?e ?z ?_; (case k1 => k_asm); (case k2 => k_asm); (case m => k_mem); (case c => exact rfl); (case d => exact rfl); (case T => first | exact .inl rfl | exact .inr rfl); (case e => exact rfl); (case z => (rw [List.size_toArray, sizeLine_eq]; omega)); k_whole); intro h' F' N'; (try k_sweep)))
local macro_rules | `(tactic| walk_at "eval Call Attribute") => `(tactic| (k_here; refine MethodStar ?_))
local macro_rules | `(tactic| walk_at "callWith ref") => `(tactic| (k_here; k_dflt (refine' callWith_SM ?k1 ?k2 ?k3 ?k4 ?_; (case k1 => k_asm); (case k2 => k_asm); (case k3 => k_mem); (case k4 => k_is); k_whole)))
local macro_rules | `(tactic| walk_at "callWith ref") => `(tactic| (k_here; k_dflt (refine' callWith_SM1 ?k1 ?k2 ?k3 ?k4 ?_; (case k1 => k_asm); (case k2 => k_asm); (case k3 => k_mem); (case k4 => k_is); k_whole)))
local macro_rules | `(tactic| walk_at "call builtin:sorted") => `(tactic| (k_here; k_dflt (refine' sorted_tup ?k1 ?k2 ?m ?i ?l ?_; (case k1 => k_asm); (case k2 => k_asm); (case m => k_mem); (case i => assumption); (case l => exact Nat.lt_of_le_of_lt (show _ ≤ 8 from by assumption) (by decide))); intro D' vs' ns' c' h' F' N' l1 i' p' o'; (try k_lt l1)))
section
theorem flush_E12 : (1 : Nat) ≤ 2 := by
  w_top off
  first | walk1 | decide
theorem cells4 {cm : PySem.Str → Option Value} {n n' n2 n3 : PySem.Str} {c c' c2 c3 : Addr} {cells : List (Addr × Obj)} (x : CellsAre cm [(n, c), (n', c'), (n2, c2), (n3, c3)] cells) :
    ∃ o o' o2 o3, cells = [(c, o), (c', o'), (c2, o2), (c3, o3)] ∧ o.data = .cell (cm n) ∧ o'.data = .cell (cm n') ∧ o2.data = .cell (cm n2) ∧ o3.data = .cell (cm n3) := by
  cases x with | cons h r => cases r with | cons h' r => obtain ⟨o2, o3, rfl, h2, h3⟩ := r.two; exact ⟨_, _, o2, o3, rfl, h, h', h2, h3⟩
/-- the state at the head of a turn -/
inductive ToldJ (w : World) (figs : List Int) (hd : List (Addr × Obj)) (d Lp Lb Lk Ls CL : Addr) (op os : Obj) (R : List (Addr × Obj)) (m9 : PySem.Str → Option Value) (i : Nat) (m : PySem.Str → Option Value) (nx : List (Addr × Obj)) : Prop where
  | mk : ∀ V od kv led ob ok vb vk cts kc TT vn, (nx = (Lp, op) :: (Lb, ob) :: (Lk, ok) :: (Ls, os) :: (CL, listOf cts.toArray kc) :: (led ++ TT)) → (m = (fun y => if y = Str.ofString "needs" then vn else m9 y)) → (SAt PySem.Challenge.rw_il0017_01.row.prog w hd d (toldSt figs i) V od kv led) → (Dis nx) → (ob.data = .cell vb) → (ok.data = .cell vk) → ((∀ p ∈ R, p ∈ TT)) → (DatAll TT cts ((figs.take i).map (cntD figs))) → (cts.length = i) → ToldJ w figs hd d Lp Lb Lk Ls CL op os R m9 i m nx
theorem in4 {a b c d : Addr × Obj} {R : List (Addr × Obj)} {p : Addr × Obj} (h : p ∈ R) : p ∈ a :: b :: c :: d :: R := .tail _ (.tail _ (.tail _ (.tail _ h)))
/-- the state at the head of the while -/
inductive ToldW (w : World) (figs : List Int) (self dx d rl RL : Addr) (w1 w2 w3 w4 : Int) (t1 t2 t3 t4 : Tok) (od : Obj) (kv : List (Int × Value)) (RT : List (Addr × Obj)) (mB : PySem.Str → Option Value) (n : Nat) (m : PySem.Str → Option Value) (nx : List (Addr × Obj)) : Prop where
  | mk : ∀ V led left np rn rs kr pn tp tq rds rvs krr RR vr, (n = left.length) → (m = (fun y => if y = Str.ofString "ready" then vr else mB y)) → (nx = (RL, listOf (List.toArray rvs) krr) :: (led ++ RR)) → (SAt PySem.Challenge.rw_il0017_01.row.prog w [(self, instObj 195 dx), (dx, dictOf [⟨w1, .str (Str.ofString "_node2info") t1, .ref d⟩, ⟨w2, .str (Str.ofString "_ready_nodes") t2, .ref rl⟩, ⟨w3, .str (Str.ofString "_npassedout") t3, .int pn tp⟩, ⟨w4, .str (Str.ofString "_nfinished") t4, .int pn tq⟩] 4), (rl, listOf (List.toArray rs) kr)] d ⟨(toldSt figs 8).order, np, (toldSt figs 8).ss⟩ V od kv led) → (Dis nx) → (RS figs left np rn) → (IntsAre rs rn) → (Rdz figs eight rds left) → (DatAll RR rvs (rds.map rdD)) → (rvs.length = rds.length) → ((∀ p ∈ RT, p ∈ RR)) → (left.Pairwise (· < ·)) → ToldW w figs self dx d rl RL w1 w2 w3 w4 t1 t2 t3 t4 od kv RT mB n m nx
theorem told_c {w : World} {mean : ExcName → Option Value} {mg mb : PySem.Str → Option Value} {A₀ : Around} {base h₀ : Heap} {L a₀ : Addr} {cn : PySem.Str} {cs : Scope} {ccd : Value} {dp un : Nat} {gd : Option (List Code)}
   {m : PySem.Str → Option Value} {s : Shared} {Q E : Value → Shared → Prop} {news : List (Addr × Obj)} {bs : Array UInt8} {tb : Tok} {figs : List Int}
   (B : Below A₀ base [] h₀) (X : (hd17.heap_1 w.params).In h₀) (T : Top view17 (looseW view17 [Str.ofString "b2a_base64", Str.ofString "b64encode", Str.ofString "_NodeInfo"]) mean mg mb h₀)
   (XB : (hd17.heap_1 w.params).In base) (TB : Top view17 (looseW view17 [Str.ofString "b2a_base64", Str.ofString "b64encode", Str.ofString "_NodeInfo"]) mean mg mb base)
   (hck : cs.kind = .function) (hdp : dp < 350) (hun : un < 2500) (hts : 1 ≤ s.toks)
   (F : Fr h₀ L s.heap m) (N : News h₀ L s.heap news) (hND : Dis news) (hfl : figs.length = 8) (hfb : ∀ k, k < 8 → 0 ≤ fg figs k ∧ fg figs k < 64) (hbs : bs.size = 6)
   (hb0 : ∀ q c, q < 2 → bs[3 * q]? = some c → (c.toNat : Int) = fg figs (4 * q) * 4 + fg figs (4 * q + 1) / 16)
   (hb1 : ∀ q c, q < 2 → bs[3 * q + 1]? = some c → (c.toNat : Int) = fg figs (4 * q + 1) % 16 * 16 + fg figs (4 * q + 2) / 4)
   (hb2 : ∀ q c, q < 2 → bs[3 * q + 2]? = some c → (c.toNat : Int) = fg figs (4 * q + 2) % 4 * 64 + fg figs (4 * q + 3))
   (ret : ∀ h' tk V nx rs fin, Fr h₀ L h' m → News h₀ L h' nx → (∀ p ∈ news, p ∈ nx) → Rds figs eight rs fin → DatIn nx V (dueD figs rs fin) → Q V { s with heap := h', toks := tk }) :
   wpAny (model PySem.Challenge.rw_il0017_01.row.prog w) (Ar dp un gd (envOf cn cs L a₀ ccd) []) (call (.ref 221) [.bytes bs tb]) Q E s := by
  have h_d400 : dp + 1 < 400 := by first | decide | omega
  have h_d500 : dp + 1 < 500 := by first | decide | omega
  have h_d600 : dp + 1 < 600 := by first | decide | omega
  have h_u3 : un + 3 < 3000 := by first | decide | omega
  have h_u4 : un + 3 < 4000 := by first | decide | omega
  have h_u5 : un + 3 < 5000 := by first | decide | omega
  refine wpAny_call ?_
  walk_at "M enter0C"
  intro g L' h' tk' cells FG F' N' Yc B' X' T' D' l' htk
  walk_at "M hide"
  replace F' : Fr g L' h' (fun y => if y = Str.ofString "octets" then some (.bytes bs tb) else none) := F'
  dsimp only
  replace Yc : CellsAre (fun _ => none) [(Str.ofString "bits", L' + 1 + 1 + 1 + 1), (Str.ofString "k", L' + 1 + 1 + 1), (Str.ofString "places", L' + 1 + 1), (Str.ofString "signs", L' + 1)] cells := Yc
  refine hideG fun G0 hG0 => ?_
  obtain ⟨ob, ok, op, os, rfl, hob, hok, hop, hos⟩ := cells4 Yc
  refine hG0 ?_
  clear hG0
  replace hob : ob.data = .cell none := hob
  replace hok : ok.data = .cell none := hok
  replace hop : op.data = .cell none := hop
  replace hos : os.data = .cell none := hos
  try dsimp only
  dsimp only [List.cons_append, List.nil_append] at N'
  have hl1 : ∀ p ∈ news, p.1 ≠ L' + 1 + 1 + 1 + 1 := fun p hp => Nat.ne_of_lt (Nat.lt_succ_of_lt (Nat.lt_succ_of_lt (Nat.lt_succ_of_lt (Nat.lt_succ_of_lt (l' p hp)))))
  have hl2 : ∀ p ∈ news, p.1 ≠ L' + 1 + 1 + 1 := fun p hp => Nat.ne_of_lt (Nat.lt_succ_of_lt (Nat.lt_succ_of_lt (Nat.lt_succ_of_lt (l' p hp))))
  have hl3 : ∀ p ∈ news, p.1 ≠ L' + 1 + 1 := fun p hp => Nat.ne_of_lt (Nat.lt_succ_of_lt (Nat.lt_succ_of_lt (l' p hp)))
  have hl4 : ∀ p ∈ news, p.1 ≠ L' + 1 := fun p hp => Nat.ne_of_lt (Nat.lt_succ_of_lt (l' p hp))
  have n12 : @Ne Nat (L' + 1 + 1 + 1 + 1) (L' + 1 + 1 + 1) := Nat.succ_ne_self _
  have n13 : @Ne Nat (L' + 1 + 1 + 1 + 1) (L' + 1 + 1) := by first | decide | omega
  have n14 : @Ne Nat (L' + 1 + 1 + 1 + 1) (L' + 1) := by first | decide | omega
  have n23 : @Ne Nat (L' + 1 + 1 + 1) (L' + 1 + 1) := Nat.succ_ne_self _
  have n24 : @Ne Nat (L' + 1 + 1 + 1) (L' + 1) := by first | decide | omega
  have n34 : @Ne Nat (L' + 1 + 1) (L' + 1) := Nat.succ_ne_self _
  refine tok_gen (n := 1) (Nat.le_trans hts htk) fun tk0 htk0 => ?_
  try dsimp only
  walk_at "M stepsE"
  rename Fr g L' _ _ => F1
  rename News g L' _ _ => N1
  rename Obj.data _ = Data.cell (some _) => hos1
  rename_i X1 os'
  refine' ListComp_M (h₀ := g) (L := L') (m := fun y => if y = Str.ofString "octets" then some (.bytes bs tb) else none) (by with_unfolding_all rfl) (by decide) (by rfl) (by rfl) (by decide) ?_
  k_steps
  refine keep_tok (n := 1) ?tok ?_
  case tok => show 1 ≤ tk0 + 1; omega
  refine b64_c (Y := ⟨B', X', T', rfl, rfl, ?hdp, ?hun⟩) F1 N1 ?hdp2 ?hun2 hfl hfb hbs hb0 hb1 hb2 ?_
  case hdp => exact h_d600
  case hun => exact h_u5
  case hdp2 => exact h_d400
  case hun2 => exact h_u3
  intro h2 tk2 t2 as F2 N2 has htk2
  walk_at "M hide"
  replace htk2 : 1 ≤ tk2 := htk2
  dsimp only
  have hasz : as.size = 8 := by
    have := congrArg List.length has
    rw [KBw.ints_length, List.length_map, hfl] at this
    exact this
  refine srcM_bytes rfl F2 N2 (by rw [sizeLine_eq]; first | decide | omega) fun g6 F3 N3 => ?_
  dsimp only
  obtain ⟨L0, hL0⟩ : ∃ L0, L0 = (L' + 1 + 1 + 1 + 1, ob) :: (L' + 1 + 1 + 1, ok) :: (L' + 1 + 1, op) :: (L' + 1, os') :: news := ⟨_, rfl⟩
  have hmS : (L' + 1, os') ∈ L0 := by rw [hL0]; exact .tail _ (.tail _ (.tail _ (.head _)))
  rw [← hL0] at N3 ⊢
  clear N1 N2 F1 F2
  refine ⟨fun i ys nx N => nx = L0 ∧ IntsAre ys (figs.take i) ∧ TI 1 N ys ∧ 1 ≤ N, tk2, Nat.le_refl _, ⟨rfl, .nil, .nil, htk2⟩, ?_, ?_⟩
  · rintro ysP nx N0 zH3
    walk_at "M hide"
    refine hideG fun G0 hG0 => ?_
    obtain ⟨rfl, hysP, hTI, hN0⟩ := zH3
    refine hG0 ?_
    clear hG0
    intro D h tk hN F4 N4 off4
    walk_at "M hide"
    dsimp only
    clear N3 F3
    rw [hasz, ← hfl, List.take_length] at hysP
    rw [hL0] at N4 off4
    have hDc : ∀ q ∈ (L' + 1 + 1 + 1 + 1, ob) :: (L' + 1 + 1 + 1, ok) :: (L' + 1 + 1, op) :: (L' + 1, os') :: news, @Ne Nat q.1 D := off4
    have d1 : @Ne Nat (L' + 1 + 1 + 1 + 1) D := hDc _ (.head _)
    have d2 : @Ne Nat (L' + 1 + 1 + 1) D := hDc _ (.tail _ (.head _))
    have d3 : @Ne Nat (L' + 1 + 1) D := hDc _ (.tail _ (.tail _ (.head _)))
    have d4 : @Ne Nat (L' + 1) D := hDc _ (.tail _ (.tail _ (.tail _ (.head _))))
    clear hDc
    obtain ⟨R, hR⟩ : ∃ R, R = (D, PyProof.Rows.LCg.lst ysP) :: news := ⟨_, rfl⟩
    have hR1 : ∀ p ∈ R, p.1 ≠ L' + 1 + 1 + 1 + 1 := fun p hp => by
      rw [hR] at hp
      rcases List.mem_cons.mp hp with z | hp
      · rw [z]; exact d1.symm
      · exact hl1 p hp
    have hR2 : ∀ p ∈ R, p.1 ≠ L' + 1 + 1 + 1 := fun p hp => by
      rw [hR] at hp
      rcases List.mem_cons.mp hp with z | hp
      · rw [z]; exact d2.symm
      · exact hl2 p hp
    have hR3 : ∀ p ∈ R, p.1 ≠ L' + 1 + 1 := fun p hp => by
      rw [hR] at hp
      rcases List.mem_cons.mp hp with z | hp
      · rw [z]; exact d3.symm
      · exact hl3 p hp
    have hR4 : ∀ p ∈ R, p.1 ≠ L' + 1 := fun p hp => by
      rw [hR] at hp
      rcases List.mem_cons.mp hp with z | hp
      · rw [z]; exact d4.symm
      · exact hl4 p hp
    have hRD : Dis R := by
      rw [hR]
      exact hND.cons fun q hq => off4 q (.tail _ (.tail _ (.tail _ (.tail _ hq))))
    have hmP : (D, PyProof.Rows.LCg.lst ysP) ∈ R := by rw [hR]; exact .head _
    have hRn : ∀ p ∈ news, p ∈ R := fun p hp => by rw [hR]; exact .tail _ hp
    have N5 : News g L' h ((L' + 1 + 1, op) :: (L' + 1 + 1 + 1 + 1, ob) :: (L' + 1 + 1 + 1, ok) :: (L' + 1, os') :: R) := news_sub N4 fun q hq => by
      rw [hR] at hq
      simp only [List.mem_cons] at hq ⊢
      rcases hq with hq | hq | hq | hq | hq | hq
      · exact .inr (.inr (.inr (.inl hq)))
      · exact .inr (.inl hq)
      · exact .inr (.inr (.inl hq))
      · exact .inr (.inr (.inr (.inr (.inl hq))))
      · exact .inl hq
      · exact .inr (.inr (.inr (.inr (.inr hq))))
    have e3 : ∀ p ∈ (L' + 1 + 1 + 1 + 1, ob) :: (L' + 1 + 1 + 1, ok) :: (L' + 1, os') :: R, p.1 ≠ L' + 1 + 1 := fun p hp => by
      rcases List.mem_cons.mp hp with z | hp
      · rw [z]; exact n13
      rcases List.mem_cons.mp hp with z | hp
      · rw [z]; exact n23
      rcases List.mem_cons.mp hp with z | hp
      · rw [z]; exact n34.symm
      · exact hR3 p hp
    clear N4 off4
    refine keep_tok (n := 1) (Nat.le_trans hN0 hN) ?_
    walk_at "M stepsX"
    rename_i hX op2 F5 N6 hop2 htk5
    refine tok_gen (n := 1) htk5 fun tk5 htk5 => ?_
    dsimp only
    walk1
    walk_at "M stepsX"
    have hD6 : Dis ((L' + 1 + 1, op2) :: (L' + 1 + 1 + 1 + 1, ob) :: (L' + 1 + 1 + 1, ok) :: (L' + 1, os') :: R) := by
      refine Dis.cons (Dis.cons (Dis.cons (Dis.cons hRD hR4) ?_) ?_) e3
      · intro q hq
        walk_at "M hide"
        rcases List.mem_cons.mp hq with z | hq
        · rw [z]; exact n24.symm
        · exact hR2 q hq
      · intro q hq
        walk_at "M hide"
        rcases List.mem_cons.mp hq with z | hq
        · rw [z]; exact n12.symm
        rcases List.mem_cons.mp hq with z | hq
        · rw [z]; exact n14.symm
        · exact hR1 q hq
    try clear e3
    try clear hR1
    try clear hR2
    try clear hR3
    try clear hR4
    try clear d1
    try clear d2
    try clear d3
    try clear d4
    try clear n12
    try clear n13
    try clear n14
    try clear n23
    try clear n24
    try clear n34
    try clear hl1
    try clear hl2
    try clear hl3
    try clear hl4
    try clear hRD
    try clear hb0
    try clear hb1
    try clear hb2
    try clear has
    try clear hasz
    try clear hbs
    try clear hmS
    try clear hL0
    try clear l'
    try clear htk0
    try clear htk2
    try clear htk
    try clear hos
    try clear hop
    try clear hl4
    try clear off4
    try clear N5
    try clear N4
    try clear N'
    try clear N1
    try clear F1
    try clear F'
    refine keep_tok (n := 1) ?tok2 ?_
    case tok2 => exact htk5
    refine new_sorter (Y := ⟨B', X', T', rfl, rfl, ?hdp3, ?hun3⟩) F5 N6 hD6 ?_
    case hdp3 => exact h_d600
    case hun3 => exact h_u5
    intro h7 tk7 self dx d w1 w2 w3 w4 t1 t2 t3 t4 t5 t6 od V led F7 N7 H7 hD7 lo htk7
    walk_at "M hide"
    replace htk7 : 1 ≤ tk7 := htk7
    dsimp only
    refine keep_tok (n := 1) htk7 ?_
    walk_at "M stepsX"
    rename_i h8 F8 N8 htk8
    refine tok_gen (n := 1) htk8 fun tk8 htk8 => ?_
    dsimp only
    walk1
    refine keep_tok (n := 1) htk8 ?_
    walk_at "M stepsX"
    rename_i CL hc9 l9 h9 F9 N9 htk9
    refine tok_gen (n := 1) htk9 fun tk9 htk9 => ?_
    dsimp only
    walk1
    obtain ⟨m9, hm9⟩ : ∃ m9 : PySem.Str → Option Value, m9 = fun y => if y = Str.ofString "counts" then some (Value.ref CL) else if y = Str.ofString "sorter" then some (Value.ref self) else if y = Str.ofString "octets" then some (Value.bytes bs tb) else none := ⟨_, rfl⟩
    obtain ⟨hd, hhd⟩ : ∃ hd : List (Addr × Obj), hd = [(self, instObj 195 dx), (dx, dictOf [⟨w1, .str (Str.ofString "_node2info") t1, .ref d⟩, ⟨w2, .str (Str.ofString "_ready_nodes") t2, .none⟩, ⟨w3, .str (Str.ofString "_npassedout") t3, .int 0 t5⟩, ⟨w4, .str (Str.ofString "_nfinished") t4, .int 0 t6⟩] 4)] := ⟨_, rfl⟩
    rw [← hhd] at H7
    rw [← hm9] at F9
    have hD9 : Dis ((CL, listOf ([] : List Value).toArray 0) :: (led ++ ((L' + 1 + 1, op2) :: (L' + 1 + 1 + 1 + 1, ob) :: (L' + 1 + 1 + 1, ok) :: (L' + 1, os') :: R))) := hD7.cons fun q hq => Nat.ne_of_lt (l9 q hq)
    have p9 : ((CL, listOf ([] : List Value).toArray 0) :: (led ++ ((L' + 1 + 1, op2) :: (L' + 1 + 1 + 1 + 1, ob) :: (L' + 1 + 1 + 1, ok) :: (L' + 1, os') :: R))).Perm ((L' + 1 + 1, op2) :: (L' + 1 + 1 + 1 + 1, ob) :: (L' + 1 + 1 + 1, ok) :: (L' + 1, os') :: (CL, listOf ([] : List Value).toArray 0) :: (led ++ R)) := by
      refine (List.Perm.cons _ (List.perm_append_comm (l₁ := led))).trans ?_
      simp only [List.cons_append]
      refine (List.Perm.swap _ _ _).trans (.cons _ ?_)
      refine (List.Perm.swap _ _ _).trans (.cons _ ?_)
      refine (List.Perm.swap _ _ _).trans (.cons _ ?_)
      refine (List.Perm.swap _ _ _).trans (.cons _ ?_)
      exact (List.perm_append_comm (l₁ := R)).cons _
    have N10 := news_sub N9 (fun q hq => p9.symm.subset hq)
    have hD10 := hD9.perm p9
    clear N9
    refine For_rangeK (h₀ := g) (m₀ := m9) (news := (L' + 1 + 1, op2) :: (L' + 1 + 1 + 1 + 1, ob) :: (L' + 1 + 1 + 1, ok) :: (L' + 1, os') :: (CL, listOf ([] : List Value).toArray 0) :: (led ++ R)) (n := 8) (ToldJ w figs hd d (L' + 1 + 1) (L' + 1 + 1 + 1 + 1) (L' + 1 + 1 + 1) (L' + 1) CL op2 os' R m9) 1 rfl (by decide) (by rfl) htk9 ?hev ?hj ?hgo ?turn ?done
    case hev =>
      k_steps
      exact ⟨_, _, _, _, _, _, rfl, rfl, ‹IsRange _ _ _ _ _ _ _ _›, ‹Fr g L' _ m9›, ‹News g L' _ _›⟩
    case hj =>
      refine ⟨V, od, [], led, ob, ok, _, _, [], 0, R, none, rfl, ?_, H7, hD10, hob, hok, fun p hp => hp, .nil, rfl⟩
      rw [hm9]
      funext y
      by_cases z : y = Str.ofString "needs"
      · rw [z]; rfl
      · rw [if_neg z]
    case hgo =>
      intro I s' v Q' h
      exact wpAny_pure h
    case turn =>
      rintro i tv m₁ nx h tk I oi hi htv1 htv2 hlow hoff zH13 F11 N11
      walk_at "M hide"
      refine hideG fun G0 hG0 => ?_
      obtain ⟨V, od, kv, led, ob, ok, vb, vk, cts, kc, TT, vn, rfl, rfl, H, hDx, hob, hok, hRT, hcts, hcl⟩ := zH13
      refine hG0 ?_
      clear hG0
      --[
      try clear ret
      try clear N
      try clear F
      try clear FG
      try clear B
      try clear X
      try clear T
      try clear XB
      try clear TB
      try clear D'
      try clear H7
      try clear hD7
      try clear N10
      try clear hD10
      try clear N6
      try clear N7
      try clear N8
      try clear N9
      try clear F5
      try clear F7
      try clear F8
      try clear F9
      try clear hD9
      try clear p9
      try clear l9
      try clear htk9
      try clear htk8
      try clear htk7
      try clear htk5
      try clear hD6
      try clear hhd_
      try clear hts
      try clear hND
      try clear htk
      replace F11 : Fr g L' h _ := F11
      replace N11 : News g L' h _ := N11
      have hi8 : i < 8 := hi
      obtain ⟨p, hp⟩ : ∃ p, p = fg figs i := ⟨_, rfl⟩
      have hfp : figs[i]? = some p := by
        rw [hp]; unfold fg
        rw [List.getD_eq_getElem?_getD, List.getElem?_eq_getElem (by first | decide | omega)]
        rfl
      have hpb := hfb i hi8
      rw [← hp] at hpb
      obtain ⟨hpb0, hpb1⟩ := hpb
      have hvPl := hysP.length
      obtain ⟨tp, hvp⟩ : ∃ tp, ysP[i]? = some (.int p tp) := by
        have h7 : i < ysP.length := by first | decide | omega
        refine hideG fun G0 hG0 => ?_
        obtain ⟨q, tq, e1, e2⟩ := hysP.at i _ (List.getElem?_eq_getElem h7)
        refine hG0 ?_
        clear hG0
        rw [hfp] at e2
        rw [Option.some.inj e2]
        exact ⟨tq, by rw [List.getElem?_eq_getElem h7, e1]⟩
      have hPk : Keep (IntsAre ysP figs) := hysP
      clear hysP
      have hipos : (0 : Int) ≤ (i : Int) := by first | decide | omega
      have hilt : (i : Int) < ysP.length := by first | decide | omega
      obtain ⟨Z, hZ⟩ : ∃ Z, Z = led ++ TT := ⟨_, rfl⟩
      rw [← hZ] at N11 hDx hoff
      have hmD : (D, listOf ysP.toArray ysP.length) ∈ Z := by rw [hZ]; exact List.mem_append_right _ (hRT _ hmP)
      refine hideG fun G0 hG0 => ?_
      obtain ⟨⟨g12, g13, g14, g15, g23, g24, g25, g34, g35, g45⟩, gZ1, gZ2, gZ3, gZ4, gZ5⟩ := dis5 hDx
      refine hG0 ?_
      clear hG0
      have gI : ∀ q ∈ (L' + 1 + 1, op2) :: (L' + 1 + 1 + 1 + 1, ob) :: (L' + 1 + 1 + 1, ok) :: (L' + 1, os') :: (CL, listOf cts.toArray kc) :: Z, @Ne Nat q.1 I := hoff
      have gI1 : @Ne Nat (L' + 1 + 1) I := gI _ (.head _)
      have gI2 : @Ne Nat (L' + 1 + 1 + 1 + 1) I := gI _ (.tail _ (.head _))
      have gI3 : @Ne Nat (L' + 1 + 1 + 1) I := gI _ (.tail _ (.tail _ (.head _)))
      have gI4 : @Ne Nat (L' + 1) I := gI _ (.tail _ (.tail _ (.tail _ (.head _))))
      have gI5 : @Ne Nat CL I := gI _ (.tail _ (.tail _ (.tail _ (.tail _ (.head _)))))
      have gIZ : ∀ q ∈ Z, q.1 ≠ I := fun q hq => gI q (.tail _ (.tail _ (.tail _ (.tail _ (.tail _ hq)))))
      clear gI
      have htk11 : 1 ≤ tk := Nat.le_trans htv1 (Nat.le_of_lt htv2)
      refine keep_tok (n := 1) htk11 ?_
      walk_at "M stepsX"
      rename_i h12 ok2 F12 N12 hok2 htk12
      refine tok_gen (n := 1) htk12 fun tk12 htk12 => ?_
      dsimp only
      walk1
      walk_at "M stepsE"
      refine' ListComp_M (h₀ := g) (L := L') (m := fun y => if y = Str.ofString "needs" then vn else m9 y) (by with_unfolding_all rfl) (by decide) (by rfl) (by rfl) (by decide) ?_
      refine keep_tok (n := 1) htk12 ?_
      k_steps
      rename _ ≤ _ => htk13
      rename IsRange _ _ _ _ _ _ _ _ => hr13
      rename Fr g L' _ _ => F13
      rename News g L' _ _ => N13
      obtain ⟨LB, hLB⟩ : ∃ LB, LB = (I, oi) :: (L' + 1 + 1, op2) :: (L' + 1 + 1 + 1 + 1, ob) :: (L' + 1 + 1 + 1, ok2) :: (L' + 1, os') :: (CL, listOf cts.toArray kc) :: Z := ⟨_, rfl⟩
      refine srcM_range (n := 6) rfl F13 N13 hr13 (by decide) (by rfl) (by rw [sizeLine_eq]; first | decide | omega) fun g14 F14 N14 => ?_
      dsimp only
      rw [← hLB] at N14 ⊢
      have bm1 : (L' + 1 + 1, op2) ∈ LB := by rw [hLB]; exact .tail _ (.head _)
      have bm2 : (L' + 1 + 1 + 1, ok2) ∈ LB := by rw [hLB]; exact .tail _ (.tail _ (.tail _ (.head _)))
      have bm3 : (D, listOf ysP.toArray ysP.length) ∈ LB := by rw [hLB]; exact .tail _ (.tail _ (.tail _ (.tail _ (.tail _ (.tail _ hmD)))))
      refine ⟨fun j ys nx N => nx = LB ∧ IntsAre ys ((List.range j).map fun i => p / 2 ^ i % 2) ∧ TI 1 N ys ∧ 1 ≤ N, 1, htk13, ⟨rfl, .nil, .nil, Nat.le_refl _⟩, ?_, ?_⟩
      · rintro ysB nx NB zH3
        walk_at "M hide"
        refine hideG fun G0 hG0 => ?_
        obtain ⟨rfl, hysB, hTB, hNB⟩ := zH3
        refine hG0 ?_
        clear hG0
        intro DB hB tkB hNB2 FB NNB offB
        walk_at "M hide"
        dsimp only
        rw [hLB] at NNB offB
        have hDB : ∀ q ∈ (I, oi) :: (L' + 1 + 1, op2) :: (L' + 1 + 1 + 1 + 1, ob) :: (L' + 1 + 1 + 1, ok2) :: (L' + 1, os') :: (CL, listOf cts.toArray kc) :: Z, @Ne Nat q.1 DB := offB
        have gB0 : @Ne Nat I DB := hDB _ (.head _)
        have gB1 : @Ne Nat (L' + 1 + 1) DB := hDB _ (.tail _ (.head _))
        have gB2 : @Ne Nat (L' + 1 + 1 + 1 + 1) DB := hDB _ (.tail _ (.tail _ (.head _)))
        have gB3 : @Ne Nat (L' + 1 + 1 + 1) DB := hDB _ (.tail _ (.tail _ (.tail _ (.head _))))
        have gB4 : @Ne Nat (L' + 1) DB := hDB _ (.tail _ (.tail _ (.tail _ (.tail _ (.head _)))))
        have gB5 : @Ne Nat CL DB := hDB _ (.tail _ (.tail _ (.tail _ (.tail _ (.tail _ (.head _))))))
        have gBZ : ∀ q ∈ Z, q.1 ≠ DB := fun q hq => hDB q (.tail _ (.tail _ (.tail _ (.tail _ (.tail _ (.tail _ hq))))))
        clear hDB F13 N13 F14 N14
        have hBk : Keep (IntsAre ysB ((List.range 6).map fun i => p / 2 ^ i % 2)) := hysB
        have hBl := hysB.length
        clear hysB
        refine keep_tok (n := NB) hNB2 ?_
        walk_at "M stepsX"
        rename_i h21 ob2 F21 N21 hob2 htk21
        refine tok_gen (n := NB) htk21 fun tk21 htk21 => ?_
        dsimp only
        walk1
        refine' Assign_MT (h₀ := g) (L := L') (m := fun y => if y = Str.ofString "needs" then vn else m9 y) rfl (by with_unfolding_all rfl) (by with_unfolding_all rfl) (by decide) (by rfl) (by rfl) (by decide) (by rfl) (by rfl) ?_
        refine keep_tok (n := NB) htk21 ?_
        k_steps
        rename _ ≤ _ => htk22
        rename IsRange _ _ _ _ _ _ _ _ => hr22
        rename Fr g L' _ _ => F22
        rename News g L' _ _ => N22
        obtain ⟨LN, hLN⟩ : ∃ LN, LN = (DB, listOf ysB.toArray ysB.length) :: (I, oi) :: (L' + 1 + 1, op2) :: (L' + 1 + 1 + 1 + 1, ob2) :: (L' + 1 + 1 + 1, ok2) :: (L' + 1, os') :: (CL, listOf cts.toArray kc) :: Z := ⟨_, rfl⟩
        refine srcM_range (n := 6) rfl F22 N22 hr22 (by decide) (by rfl) (by rw [sizeLine_eq]; first | decide | omega) fun g23 F23 N23 => ?_
        dsimp only
        rw [← hLN] at N23 ⊢
        have nm1 : (L' + 1 + 1 + 1 + 1, ob2) ∈ LN := by rw [hLN]; exact .tail _ (.tail _ (.tail _ (.head _)))
        have nm2 : (DB, listOf ysB.toArray ysB.length) ∈ LN := by rw [hLN]; exact .head _
        refine ⟨fun j zs nx N => nx = LN ∧ IntsAre zs (needsTo figs i j) ∧ NB ≤ N, NB, htk22, ⟨rfl, .nil, Nat.le_refl _⟩, ?_, ?_⟩
        · rintro zs nx NN ⟨rfl, hzs, hNN1⟩
          intro DN hN tkN hNN FN NNN offN
          walk_at "M hide"
          dsimp only
          rw [hLN] at NNN offN
          have hDN : ∀ q ∈ (DB, listOf ysB.toArray ysB.length) :: (I, oi) :: (L' + 1 + 1, op2) :: (L' + 1 + 1 + 1 + 1, ob2) :: (L' + 1 + 1 + 1, ok2) :: (L' + 1, os') :: (CL, listOf cts.toArray kc) :: Z, @Ne Nat q.1 DN := offN
          have gN0 : @Ne Nat DB DN := hDN _ (.head _)
          have gN1 : @Ne Nat I DN := hDN _ (.tail _ (.head _))
          have gN2 : @Ne Nat (L' + 1 + 1) DN := hDN _ (.tail _ (.tail _ (.head _)))
          have gN3 : @Ne Nat (L' + 1 + 1 + 1 + 1) DN := hDN _ (.tail _ (.tail _ (.tail _ (.head _))))
          have gN4 : @Ne Nat (L' + 1 + 1 + 1) DN := hDN _ (.tail _ (.tail _ (.tail _ (.tail _ (.head _)))))
          have gN5 : @Ne Nat (L' + 1) DN := hDN _ (.tail _ (.tail _ (.tail _ (.tail _ (.tail _ (.head _))))))
          have gN6 : @Ne Nat CL DN := hDN _ (.tail _ (.tail _ (.tail _ (.tail _ (.tail _ (.tail _ (.head _)))))))
          have gNZ : ∀ q ∈ Z, q.1 ≠ DN := fun q hq => hDN q (.tail _ (.tail _ (.tail _ (.tail _ (.tail _ (.tail _ (.tail _ hq)))))))
          clear hDN F22 N22 F23 N23
          have hzk : Keep (IntsAre zs (needsTo figs i 6)) := hzs
          have hzl := hzs.length
          clear hzs
          replace FN : Fr g L' hN (fun y => if y = Str.ofString "needs" then some (.ref DN) else m9 y) := by
            refine (show (fun y => if y = Str.ofString "needs" then some (Value.ref DN) else m9 y) = _ from ?_) ▸ FN
            funext y
            by_cases z : y = Str.ofString "needs"
            · rw [if_pos z, if_pos z]
            · rw [if_neg z, if_neg z]; exact (if_neg z).symm
          replace FN : Fr g L' hN (fun y => if y = Str.ofString "needs" then some (.ref DN) else if y = Str.ofString "counts" then some (Value.ref CL) else if y = Str.ofString "sorter" then some (Value.ref self) else if y = Str.ofString "octets" then some (Value.bytes bs tb) else none) := by
            rw [hm9] at FN
            exact FN
          refine tok_gen (n := NB) (Nat.le_trans hNN1 hNN) fun tk31 htk31 => ?_
          dsimp only
          walk1
          refine keep_tok (n := NB) htk31 ?_
          walk_at "M stepsX"
          refine keep_tok (n := NB) (by show NB ≤ tk31 + 1; omega) ?_
          refine countOf_c (l := DB) (vs := ysB) (ns := (List.range 6).map fun i => p / 2 ^ i % 2) (.tail _ (.head _)) hBk (by rw [hBl]; simp) (by first | decide | omega) (hTB.above (by decide) htk31 hBk ?hb01) (Y := ⟨B', X', T', rfl, rfl, ?hdp6, ?hun6⟩) FN NNN ?_
          case hb01 =>
            intro x hx
            obtain ⟨q, _, rfl⟩ := List.mem_map.mp hx
            have := Int.emod_two_eq (p / 2 ^ q)
            omega
          case hdp6 => exact h_d600
          case hun6 => exact h_u5
          intro h32 t32 tk32 F32 N32 htk32
          rw [zeros_six]
          dsimp only
          walk_at "M stepsX"
          refine countOf_c (l := D) (vs := ysP) (ns := figs) (by exact .tail _ (.tail _ (.tail _ (.tail _ (.tail _ (.tail _ (.tail _ (.tail _ hmD)))))))) hPk (by first | decide | omega) (hTI.apart (by decide) hPk ?hfb2 hvp).1 (hTI.apart (by decide) hPk ?hfb2 hvp).2 (Y := ⟨B', X', T', rfl, rfl, ?hdp7, ?hun7⟩) F32 N32 ?_
          case hfb2 =>
            intro x hx
            walk_at "M hide"
            obtain ⟨q, hq, rfl⟩ := List.mem_iff_getElem.mp hx
            have := hfb q (by first | decide | omega)
            unfold fg at this
            rw [List.getD_eq_getElem?_getD, List.getElem?_eq_getElem hq] at this
            simp only [Option.getD_some] at this
            omega
          case hdp7 => exact h_d600
          case hun7 => exact h_u5
          intro h33 t33 tk33 F33 N33
          walk_at "M hide"
          dsimp only
          walk_at "M stepsX"
          rename_i T hx34 l34 h34 F34 N34 hk34
          refine tok_gen (n := NB) hk34 fun tk35 htk35 => ?_
          dsimp only
          have hself : (self, instObj 195 dx) ∈ Z := by rw [hZ, H.led_, hhd]; exact .head _
          have hdxm : (dx, dictOf [⟨w1, .str (Str.ofString "_node2info") t1, .ref d⟩, ⟨w2, .str (Str.ofString "_ready_nodes") t2, .none⟩, ⟨w3, .str (Str.ofString "_npassedout") t3, .int 0 t5⟩, ⟨w4, .str (Str.ofString "_nfinished") t4, .int 0 t6⟩] 4) ∈ Z := by rw [hZ, H.led_, hhd]; exact .tail _ (.head _)
          have hz6 : zs.length ≤ 6 := by rw [hzl]; exact needs_len ..
          have hzz : zs.toArray.size ≤ sizeLine := by rw [List.size_toArray, sizeLine_eq]; omega
          k_steps
          rename_i q40 h40a l40 D40 us40 h40b hl40 he40 l41 h40 F40 N40
          simp only [List.append_nil]
          have hTS := toldSt_ok figs i (by first | decide | omega)
          have hpush : cts.toArray.push (Value.ref T) = (cts ++ [Value.ref T]).toArray := by simp
          rw [hpush] at N40
          obtain ⟨tup, htup⟩ : ∃ tup : Obj, tup = ({ cls := Value.type "tuple", data := Data.seq #[Value.int (6 - (List.map (fun i => p / 2 ^ i % 2) (List.range 6)).sum) t32, Value.int (↑(List.filter (fun y => decide (y = p)) figs).length) t33] } : Obj) := ⟨_, rfl⟩
          have hus40 : IntsAre us40 ((needsTo figs i 6).take 1) := by rw [he40, pick_take hz6]; exact ints_take hzk 1
          have N41 : News g L' h40 ((T, tup) :: (DN, listOf zs.toArray zs.length) :: (I, oi) :: (L' + 1 + 1, op2) :: (L' + 1 + 1 + 1 + 1, ob2) :: (L' + 1 + 1 + 1, ok2) :: (L' + 1, os') :: (CL, listOf (cts ++ [Value.ref T]).toArray (kc + 1)) :: Z) := news_sub N40 fun q hq => by
            rw [htup] at hq
            rcases List.mem_cons.mp hq with hq | hq
            · rw [hq]; exact .tail _ (.tail _ (.head _))
            rcases List.mem_cons.mp hq with hq | hq
            · rw [hq]; exact .tail _ (.tail _ (.tail _ (.head _)))
            rcases List.mem_cons.mp hq with hq | hq
            · rw [hq]; exact .tail _ (.tail _ (.tail _ (.tail _ (.tail _ (.head _)))))
            rcases List.mem_cons.mp hq with hq | hq
            · rw [hq]; exact .tail _ (.tail _ (.tail _ (.tail _ (.tail _ (.tail _ (.head _))))))
            rcases List.mem_cons.mp hq with hq | hq
            · rw [hq]; exact .tail _ (.tail _ (.tail _ (.tail _ (.tail _ (.tail _ (.tail _ (.head _)))))))
            rcases List.mem_cons.mp hq with hq | hq
            · rw [hq]; exact .tail _ (.tail _ (.tail _ (.tail _ (.tail _ (.tail _ (.tail _ (.tail _ (.head _))))))))
            rcases List.mem_cons.mp hq with hq | hq
            · rw [hq]; exact .tail _ (.tail _ (.tail _ (.tail _ (.tail _ (.tail _ (.tail _ (.tail _ (.tail _ (.head _)))))))))
            rcases List.mem_cons.mp hq with hq | hq
            · rw [hq]; exact .tail _ (.tail _ (.tail _ (.tail _ (.tail _ (.tail _ (.tail _ (.tail _ (.tail _ (.tail _ (.head _))))))))))
            exact .tail _ (.tail _ (.tail _ (.tail _ (.tail _ (.tail _ (.tail _ (.tail _ (.tail _ (.tail _ (.tail _ (hq)))))))))))
          have offI : ∀ q ∈ (I, oi) :: (L' + 1 + 1, op2) :: (L' + 1 + 1 + 1 + 1, ob2) :: (L' + 1 + 1 + 1, ok2) :: (L' + 1, os') :: (CL, listOf cts.toArray kc) :: Z, q.1 ≠ DN := fun q hq => offN q (.tail _ hq)
          have DX0 : Dis ((L' + 1 + 1, op2) :: (L' + 1 + 1 + 1 + 1, ob2) :: (L' + 1 + 1 + 1, ok2) :: (L' + 1, os') :: (CL, listOf (cts ++ [Value.ref T]).toArray (kc + 1)) :: Z) := hDx
          have DX1 : Dis ((I, oi) :: (L' + 1 + 1, op2) :: (L' + 1 + 1 + 1 + 1, ob2) :: (L' + 1 + 1 + 1, ok2) :: (L' + 1, os') :: (CL, listOf (cts ++ [Value.ref T]).toArray (kc + 1)) :: Z) := DX0.cons (off_map (by rfl) hoff)
          have DX2 : Dis ((DN, listOf zs.toArray zs.length) :: (I, oi) :: (L' + 1 + 1, op2) :: (L' + 1 + 1 + 1 + 1, ob2) :: (L' + 1 + 1 + 1, ok2) :: (L' + 1, os') :: (CL, listOf (cts ++ [Value.ref T]).toArray (kc + 1)) :: Z) := DX1.cons (off_map (by rfl) offI)
          have D41 : Dis ((T, tup) :: (DN, listOf zs.toArray zs.length) :: (I, oi) :: (L' + 1 + 1, op2) :: (L' + 1 + 1 + 1 + 1, ob2) :: (L' + 1 + 1 + 1, ok2) :: (L' + 1, os') :: (CL, listOf (cts ++ [Value.ref T]).toArray (kc + 1)) :: Z) := DX2.cons fun q hq => by
            rcases List.mem_cons.mp hq with hq | hq
            · rw [hq]; exact Nat.ne_of_lt l34.1
            rcases List.mem_cons.mp hq with hq | hq
            · rw [hq]; exact Nat.ne_of_lt l34.2.2.1
            rcases List.mem_cons.mp hq with hq | hq
            · rw [hq]; exact Nat.ne_of_lt l34.2.2.2.1
            rcases List.mem_cons.mp hq with hq | hq
            · rw [hq]; exact Nat.ne_of_lt l34.2.2.2.2.1
            rcases List.mem_cons.mp hq with hq | hq
            · rw [hq]; exact Nat.ne_of_lt l34.2.2.2.2.2.1
            rcases List.mem_cons.mp hq with hq | hq
            · rw [hq]; exact Nat.ne_of_lt l34.2.2.2.2.2.2.1
            rcases List.mem_cons.mp hq with hq | hq
            · rw [hq]; exact Nat.ne_of_lt l34.2.2.2.2.2.2.2.1
            exact Nat.ne_of_lt (tb_ltOf l34.2.2.2.2.2.2.2.2 q hq)
          clear DX0 DX1 DX2
          rw [hZ] at N41 D41
          rw [hhd] at H
          refine call_meth N40 (.tail _ (.head _)) ?_
          refine add_c (Y := ⟨B', X', T', rfl, rfl, ?hdp8, ?hun8⟩) F40 (news_mid (A := [(T, tup), (DN, listOf zs.toArray zs.length), (I, oi), (L' + 1 + 1, op2), (L' + 1 + 1 + 1 + 1, ob2), (L' + 1 + 1 + 1, ok2), (L' + 1, os'), (CL, listOf (cts ++ [Value.ref T]).toArray (kc + 1))]) N41) H (dis_mid (A := [(T, tup), (DN, listOf zs.toArray zs.length), (I, oi), (L' + 1 + 1, op2), (L' + 1 + 1 + 1 + 1, ob2), (L' + 1 + 1 + 1, ok2), (L' + 1, os'), (CL, listOf (cts ++ [Value.ref T]).toArray (kc + 1))]) D41) lo (Nat.le_trans hTS.len (by decide)) hus40 (Nat.le_trans hl40 hz6) (fun y => Nat.le_trans (hTS.lens y) (by first | decide | omega)) ?hdp9 ?hun9 ?_
          case hdp8 => exact h_d600
          case hun8 => exact h_u5
          case hdp9 => exact h_d500
          case hun9 => exact h_u4
          intro h42 tk42 V2 od2 kv2 led2 F42 N42 H42 D42
          walk_at "M hide"
          have N43 : News g L' h42 ((T, tup) :: (DN, listOf zs.toArray zs.length) :: (I, oi) :: (L' + 1 + 1, op2) :: (L' + 1 + 1 + 1 + 1, ob2) :: (L' + 1 + 1 + 1, ok2) :: (L' + 1, os') :: (CL, listOf (cts ++ [Value.ref T]).toArray (kc + 1)) :: (led2 ++ TT)) := news_mid (B := [(T, tup), (DN, listOf zs.toArray zs.length), (I, oi), (L' + 1 + 1, op2), (L' + 1 + 1 + 1 + 1, ob2), (L' + 1 + 1 + 1, ok2), (L' + 1, os'), (CL, listOf (cts ++ [Value.ref T]).toArray (kc + 1))]) N42
          have D43 : Dis ((T, tup) :: (DN, listOf zs.toArray zs.length) :: (I, oi) :: (L' + 1 + 1, op2) :: (L' + 1 + 1 + 1 + 1, ob2) :: (L' + 1 + 1 + 1, ok2) :: (L' + 1, os') :: (CL, listOf (cts ++ [Value.ref T]).toArray (kc + 1)) :: (led2 ++ TT)) := dis_mid (B := [(T, tup), (DN, listOf zs.toArray zs.length), (I, oi), (L' + 1 + 1, op2), (L' + 1 + 1 + 1 + 1, ob2), (L' + 1 + 1 + 1, ok2), (L' + 1, os'), (CL, listOf (cts ++ [Value.ref T]).toArray (kc + 1))]) D42
          obtain ⟨Z2, hZ2⟩ : ∃ Z2, Z2 = led2 ++ TT := ⟨_, rfl⟩
          rw [← hZ2] at N43 D43
          have hself2 : (self, instObj 195 dx) ∈ Z2 := by rw [hZ2, H42.led_]; exact .head _
          have hdxm2 : (dx, dictOf [⟨w1, .str (Str.ofString "_node2info") t1, .ref d⟩, ⟨w2, .str (Str.ofString "_ready_nodes") t2, .none⟩, ⟨w3, .str (Str.ofString "_npassedout") t3, .int 0 t5⟩, ⟨w4, .str (Str.ofString "_nfinished") t4, .int 0 t6⟩] 4) ∈ Z2 := by rw [hZ2, H42.led_]; exact .tail _ (.head _)
          clear hself hdxm
          dsimp only
          k_steps
          rename_i q50 h50a l50 D50 us50 h50b hl50 he50 l51 h50 F50 N50
          simp only [List.append_nil]
          have hus50 : IntsAre us50 ((needsTo figs i 6).drop 1) := by rw [he50, pick_drop hz6]; exact ints_drop hzk 1
          have N51 : News g L' h50 ((I, oi) :: (L' + 1 + 1, op2) :: (L' + 1 + 1 + 1 + 1, ob2) :: (L' + 1 + 1 + 1, ok2) :: (L' + 1, os') :: (CL, listOf (cts ++ [Value.ref T]).toArray (kc + 1)) :: (led2 ++ (T, tup) :: TT)) := news_sub N50 fun q hq => by
            rcases List.mem_cons.mp hq with hq | hq
            · rw [hq]; exact .tail _ (.tail _ (.tail _ (.tail _ (.head _))))
            rcases List.mem_cons.mp hq with hq | hq
            · rw [hq]; exact .tail _ (.tail _ (.tail _ (.tail _ (.tail _ (.head _)))))
            rcases List.mem_cons.mp hq with hq | hq
            · rw [hq]; exact .tail _ (.tail _ (.tail _ (.tail _ (.tail _ (.tail _ (.head _))))))
            rcases List.mem_cons.mp hq with hq | hq
            · rw [hq]; exact .tail _ (.tail _ (.tail _ (.tail _ (.tail _ (.tail _ (.tail _ (.head _)))))))
            rcases List.mem_cons.mp hq with hq | hq
            · rw [hq]; exact .tail _ (.tail _ (.tail _ (.tail _ (.tail _ (.tail _ (.tail _ (.tail _ (.head _))))))))
            rcases List.mem_cons.mp hq with hq | hq
            · rw [hq]; exact .tail _ (.tail _ (.tail _ (.tail _ (.tail _ (.tail _ (.tail _ (.tail _ (.tail _ (.head _)))))))))
            rcases List.mem_append.mp hq with hq | hq
            · refine .tail _ (.tail _ (.tail _ (.tail _ (.tail _ (.tail _ (.tail _ (.tail _ (.tail _ (.tail _ (?_))))))))))
              rw [hZ2]; exact List.mem_append_left _ hq
            rcases List.mem_cons.mp hq with hq | hq
            · rw [hq]; exact .tail _ (.tail _ (.head _))
            · refine .tail _ (.tail _ (.tail _ (.tail _ (.tail _ (.tail _ (.tail _ (.tail _ (.tail _ (.tail _ (?_))))))))))
              rw [hZ2]; exact List.mem_append_right _ hq
          rw [hZ2] at D43
          have D51 : Dis ((I, oi) :: (L' + 1 + 1, op2) :: (L' + 1 + 1 + 1 + 1, ob2) :: (L' + 1 + 1 + 1, ok2) :: (L' + 1, os') :: (CL, listOf (cts ++ [Value.ref T]).toArray (kc + 1)) :: (led2 ++ (T, tup) :: TT)) :=
            ((D43.tl.tl).cons (o := tup) fun q hq => D43.ne q (.tail _ hq)).perm (List.perm_middle (l₁ := [(I, oi), (L' + 1 + 1, op2), (L' + 1 + 1 + 1 + 1, ob2), (L' + 1 + 1 + 1, ok2), (L' + 1, os'), (CL, listOf (cts ++ [Value.ref T]).toArray (kc + 1))] ++ led2) (l₂ := TT) (a := (T, tup))).symm
          refine call_meth N50 (.tail _ (.head _)) ?_
          refine add_c (Y := ⟨B', X', T', rfl, rfl, ?hdp10, ?hun10⟩) F50 (news_mid (A := [(I, oi), (L' + 1 + 1, op2), (L' + 1 + 1 + 1 + 1, ob2), (L' + 1 + 1 + 1, ok2), (L' + 1, os'), (CL, listOf (cts ++ [Value.ref T]).toArray (kc + 1))]) (C := (T, tup) :: TT) N51) H42 (dis_mid (A := [(I, oi), (L' + 1 + 1, op2), (L' + 1 + 1 + 1 + 1, ob2), (L' + 1 + 1 + 1, ok2), (L' + 1, os'), (CL, listOf (cts ++ [Value.ref T]).toArray (kc + 1))]) (C := (T, tup) :: TT) D51) lo (hTS.mid hi8).1 hus50 (Nat.le_trans hl50 hz6) (hTS.mid hi8).2 ?hdp11 ?hun11 ?_
          case hdp10 => exact h_d600
          case hun10 => exact h_u5
          case hdp11 => exact h_d500
          case hun11 => exact h_u4
          intro h52 tk52 V3 od3 kv3 led3 F52 N52 H52 D52
          walk_at "M hide"
          have N53 : News g L' h52 ((I, oi) :: (L' + 1 + 1, op2) :: (L' + 1 + 1 + 1 + 1, ob2) :: (L' + 1 + 1 + 1, ok2) :: (L' + 1, os') :: (CL, listOf (cts ++ [Value.ref T]).toArray (kc + 1)) :: (led3 ++ (T, tup) :: TT)) := news_mid (B := [(I, oi), (L' + 1 + 1, op2), (L' + 1 + 1 + 1 + 1, ob2), (L' + 1 + 1 + 1, ok2), (L' + 1, os'), (CL, listOf (cts ++ [Value.ref T]).toArray (kc + 1))]) N52
          have D53 : Dis ((I, oi) :: (L' + 1 + 1, op2) :: (L' + 1 + 1 + 1 + 1, ob2) :: (L' + 1 + 1 + 1, ok2) :: (L' + 1, os') :: (CL, listOf (cts ++ [Value.ref T]).toArray (kc + 1)) :: (led3 ++ (T, tup) :: TT)) := dis_mid (B := [(I, oi), (L' + 1 + 1, op2), (L' + 1 + 1 + 1 + 1, ob2), (L' + 1 + 1 + 1, ok2), (L' + 1, os'), (CL, listOf (cts ++ [Value.ref T]).toArray (kc + 1))]) D52
          dsimp only
          k_steps
          try (refine unQ (by with_reducible assumption) ?_)
          refine LpEnd.intro F52 N53 (fun q hq => D53.ne q hq) ⟨V3, od3, kv3, led3, ob2, ok2, _, _, cts ++ [Value.ref T], kc + 1, (T, tup) :: TT, some (.ref DN), rfl, ?_, ?_, D53.tl, hob2, hok2, fun p hp => .tail _ (hRT p hp), ?_, ?_⟩
          · rw [hm9]
          · rw [hhd]; exact H52
          · rw [List.take_add_one, hfp, List.map_append]
            refine DatAll.append (hcts.mono fun q hq => .tail _ hq) ?_
            show DatAll _ _ [cntD figs p]
            unfold cntD
            rw [htup]
            exact .cons (.tuple (.head _) (.cons (.int _ _) (.cons (.int _ _) .nil))) .nil
          · rw [List.length_append, hcl]; rfl
        · rintro j zs nx N03 v2 I2 oI2 C2 oC2 D3 m₂ h2 v0 v1 tk2 E2 hj zH17 hN03 zH19 ht12 ht22 hC2 hCx2 F24 N24 off24 nd24
          walk_at "M hide"
          refine hideG fun G0 hG0 => ?_
          obtain ⟨rfl, hzs, hN31⟩ := zH17
          obtain ⟨u, rfl, hu1, hu2⟩ := zH19
          refine hG0 ?_
          clear hG0
          clear F22 N22 F23 N23
          dsimp only [List.cons_append, List.nil_append] at N24
          have hj6 : j < 6 := hj
          have hCy : m₂ (Str.ofString "i") = some (.int (j : Int) u) := by rw [← Int.zero_add (j : Int)]; exact hCx2
          clear hCx2
          obtain ⟨bj, tbj, hvb, hbj⟩ : ∃ bj tbj, ysB[j]? = some (.int bj tbj) ∧ bj = p / 2 ^ j % 2 := by
            have h7 : j < ysB.length := by rw [hBl]; simpa using hj6
            refine hideG fun G0 hG0 => ?_
            obtain ⟨q, tq, e1, e2⟩ := IntsAre.at hBk j _ (List.getElem?_eq_getElem h7)
            refine hG0 ?_
            clear hG0
            refine ⟨q, tq, by rw [List.getElem?_eq_getElem h7, e1], ?_⟩
            rw [List.getElem?_map, List.getElem?_range hj6] at e2
            exact (Option.some.inj e2).symm
          have hN3k : @LE.le Nat _ N03 tk2 := Nat.le_trans hN03 (Nat.le_trans ht12 ht22)
          have hw : wts figs i j = decide (p / 2 ^ j % 2 = 1) := by
            unfold wts
            rw [Int.toNat_natCast, Int.toNat_natCast, ← hp]
            simp only [show ((j : Int) < 6) from by omega, decide_true, Bool.true_and]
          k_steps
          · rename _ = (1 : Int) => e9
            try (refine unQ (by with_reducible assumption) ?_)
            refine EndM.intro _ N03 (Nat.le_trans hN3k (by first | exact Nat.le_refl _ | exact Nat.le_succ _ | exact Nat.le_add_right _ _)) F24 N24 off24 trivial ⟨rfl, ?_, hN31⟩
            rw [needs_pos (by rw [hw, ← hbj, e9]; rfl)]
            exact ints_snoc hzs
          · rename _ ≠ (1 : Int) => e9
            try (refine unQ (by with_reducible assumption) ?_)
            refine EndM.intro _ N03 (Nat.le_trans hN3k (by first | exact Nat.le_refl _ | exact Nat.le_succ _ | exact Nat.le_add_right _ _)) F24 N24 off24 trivial ⟨rfl, ?_, hN31⟩
            rw [needs_neg (by rw [hw, ← hbj]; exact decide_eq_false e9)]
            exact hzs
      · rintro j ys2 nx N02 v2 I2 oI2 C2 oC2 D2 m₂ h2 v0 v1 tk2 E2 hj zH17 hN02 zH19 ht12 ht22 hC2 hCx2 F15 N15 off15 nd15
        walk_at "M hide"
        refine hideG fun G0 hG0 => ?_
        obtain ⟨rfl, hys2, hT2, hN2⟩ := zH17
        obtain ⟨u, rfl, hu1, hu2⟩ := zH19
        refine hG0 ?_
        clear hG0
        clear F13 N13 F14 N14
        dsimp only [List.cons_append, List.nil_append] at N15
        have hN2k : @LE.le Nat _ N02 tk2 := Nat.le_trans hN02 (Nat.le_trans ht12 ht22)
        have hj6 : j < 6 := hj
        have hj0 : (0 : Int) ≤ (j : Int) := by first | decide | omega
        have hj1 : (j : Int) < 6 := by first | decide | omega
        have hCy : m₂ (Str.ofString "i") = some (.int (j : Int) u) := by rw [← Int.zero_add (j : Int)]; exact hCx2
        clear hCx2
        k_steps
        refine keep_tok (n := tk2) (by show tk2 ≤ tk2 + 1 + 1; omega) ?_
        refine and_c (Y := ⟨B', X', T', rfl, rfl, ?hdp4, ?hun4⟩) F15 N15 ?_
        case hdp4 => exact h_d600
        case hun4 => exact h_u5
        intro h3 t3 tk3 F16 N16 htk3
        walk_at "M hide"
        replace htk3 : tk2 ≤ tk3 := htk3
        dsimp only
        k_steps
        refine rshift_c (by first | decide | omega) (by first | decide | omega) (Y := ⟨B', X', T', rfl, rfl, ?hdp5, ?hun5⟩) F16 N16 ?_
        case hdp5 => exact h_d600
        case hun5 => exact h_u5
        intro h4 t4 tk4 F17 N17 hb5 hb6
        walk_at "M hide"
        replace hb5 : tk3 ≤ t4 := hb5
        try (refine unQ (by with_reducible assumption) ?_)
        refine EndM.intro _ tk4 (Nat.le_refl _) F17 N17 off15 trivial ⟨rfl, ?_, hT2.snoc (Nat.le_trans hN2k (Nat.le_trans htk3 hb5)) (Nat.le_trans hN2 (Nat.le_trans hN2k (Nat.le_trans htk3 hb5))) hb6, Nat.le_trans hN2 (Nat.le_trans hN2k (Nat.le_trans htk3 (Nat.le_trans hb5 (Nat.le_of_lt hb6))))⟩
        rw [List.range_succ, List.map_append]
        show IntsAre _ (_ ++ [p / 2 ^ j % 2])
        rw [← bit_of hpb0 hpb1 hj6]
        exact ints_snoc hys2
      --]
    case done =>
      rintro m₁ nx h tk htk zH5 F11 N11
      walk_at "M hide"
      refine hideG fun G0 hG0 => ?_
      obtain ⟨V, od, kv, led, ob, ok, vb, vk, cts, kc, TT, vn, rfl, rfl, H, hDx, hob, hok, hRT, hcts, hcl⟩ := zH5
      refine hG0 ?_
      clear hG0
      dsimp only
      replace F11 : Fr g L' h _ := F11
      replace N11 : News g L' h _ := N11
      have T8 := toldSt_ok figs 8 (by decide)
      obtain ⟨Z, hZ⟩ : ∃ Z, Z = led ++ TT := ⟨_, rfl⟩
      have hcts8 : DatAll TT cts (figs.map (cntD figs)) := by
        rw [← hfl, List.take_length] at hcts
        exact hcts
      clear hcts
      have hself : (self, instObj 195 dx) ∈ Z := by rw [hZ, H.led_, hhd]; exact .head _
      rw [← hZ] at N11 hDx
      replace F11 : Fr g L' h (fun y => if y = Str.ofString "needs" then vn else if y = Str.ofString "counts" then some (Value.ref CL) else if y = Str.ofString "sorter" then some (Value.ref self) else if y = Str.ofString "octets" then some (Value.bytes bs tb) else none) := by
        rw [hm9] at F11
        exact F11
      walk1
      refine keep_tok (n := 1) htk ?_
      walk_at "M stepsX"
      rename_i h61 F61 N61 htk61
      refine tok_gen (n := 1) htk61 fun tk61 htk61 => ?_
      dsimp only
      obtain ⟨RT, hRT2⟩ : ∃ RT, RT = (L' + 1 + 1, op2) :: (L' + 1 + 1 + 1 + 1, ob) :: (L' + 1 + 1 + 1, ok) :: (L' + 1, os') :: (CL, listOf cts.toArray kc) :: TT := ⟨_, rfl⟩
      rw [hZ] at N61 hDx
      have N62 : News g L' h61 (led ++ RT) := by
        rw [hRT2]
        exact news_mid (A := [(L' + 1 + 1, op2), (L' + 1 + 1 + 1 + 1, ob), (L' + 1 + 1 + 1, ok), (L' + 1, os'), (CL, listOf cts.toArray kc)]) N61
      have D62 : Dis (led ++ RT) := by
        rw [hRT2]
        exact dis_mid (A := [(L' + 1 + 1, op2), (L' + 1 + 1 + 1 + 1, ob), (L' + 1 + 1 + 1, ok), (L' + 1, os'), (CL, listOf cts.toArray kc)]) hDx
      have Z5 : Gd (hd17.heap_1 w.params) view17 (looseW view17 [Str.ofString "b2a_base64", Str.ofString "b64encode", Str.ofString "_NodeInfo"]) mean mg mb (Ar dp un gd (envOf cn cs L a₀ ccd) []) base [envOf cn cs L a₀ ccd] g g := ⟨B', X', T', XB, TB, D', .refl⟩
      clear N61
      walk1
      refine wpAny_mono (Q := fun f s' => Keep (f = Flow.next ∧ ∃ g1 h1 tk1 rl rs kr led1 br, s' = { s with heap := h1, toks := tk1 } ∧ 1 ≤ tk1 ∧ Gd (hd17.heap_1 w.params) view17 (looseW view17 [Str.ofString "b2a_base64", Str.ofString "b64encode", Str.ofString "_NodeInfo"]) mean mg mb (Ar dp un gd (envOf cn cs L a₀ ccd) []) base [envOf cn cs L a₀ ccd] g g1 ∧
        Fr g1 L' h1 (fun y => if y = Str.ofString "ring" then some (Value.bool br) else if y = Str.ofString "needs" then vn else if y = Str.ofString "counts" then some (Value.ref CL) else if y = Str.ofString "sorter" then some (Value.ref self) else if y = Str.ofString "octets" then some (Value.bytes bs tb) else none) ∧
        News g1 L' h1 (led1 ++ RT) ∧ SAt PySem.Challenge.rw_il0017_01.row.prog w [(self, instObj 195 dx), (dx, dictOf [⟨w1, .str (Str.ofString "_node2info") t1, .ref d⟩, ⟨w2, .str (Str.ofString "_ready_nodes") t2, .ref rl⟩, ⟨w3, .str (Str.ofString "_npassedout") t3, .int 0 t5⟩, ⟨w4, .str (Str.ofString "_nfinished") t4, .int 0 t6⟩] 4), (rl, listOf rs.toArray kr)] d (toldSt figs 8) V od kv led1 ∧ IntsAre rs ((toldSt figs 8).order.filter fun x => decide ((toldSt figs 8).np x = 0)) ∧ Dis (led1 ++ RT) ∧ (br = true ↔ Ring (toldSt figs 8).ss (toldSt figs 8).order))) ?tri (fun f s' hJ => ?_) (fun _ _ e => e)
      case tri =>
        --[
        refine keep_tok (n := 1) htk61 ?_
        rw [hhd] at H
        have hself3 : (self, instObj 195 dx) ∈ led := by rw [H.led_]; exact .head _
        have hself4 : (self, instObj 195 dx) ∈ led ++ RT := List.mem_append_left _ hself3
        have hdx4 : (dx, dictOf [⟨w1, .str (Str.ofString "_node2info") t1, .ref d⟩, ⟨w2, .str (Str.ofString "_ready_nodes") t2, .none⟩, ⟨w3, .str (Str.ofString "_npassedout") t3, .int 0 t5⟩, ⟨w4, .str (Str.ofString "_nfinished") t4, .int 0 t6⟩] 4) ∈ led ++ RT := List.mem_append_left _ (by rw [H.led_]; exact .tail _ (.head _))
        refine wpAny_Try_except ?_
        k_steps
        refine prepare_c Z5 rfl ?hdpp ?hunp F61 N62 H D62 lo T8.len T8.clos ?ret0 ?ret1
        case hdpp => exact h_d500
        case hunp => exact h_u4
        case ret0 =>
          intro g1 h1 tk1 rl rs kr led1 hnr Z6 F6 N6 H6 hrs6 D6 
          walk_at "M hide"
          dsimp only
          k_steps
          rename 1 ≤ _ => htk71
          exact ⟨rfl, g1, h1, tk1, rl, rs, kr, led1, false, rfl, htk71, Z6, F6, N6, H6, hrs6, D6, ⟨fun q => (nomatch q), fun q => absurd q hnr⟩⟩
        case ret1 =>
          intro g1 G h1 tk1 rl rs kr led1 nw e9 t9 vs9 hr Z6 F6 R6 U6 hnw H6 hrs6 D6
          dsimp only
          refine caught_cell Z6 R6 F6 U6 (by k_is) (by kts_isx) fun h2 g2 Z7 F7 N7 => ?_
          have N8 := news_sub N7 hnw
          clear N7 F6
          dsimp only
          have X7 := Z7.X
          have T7 := Z7.T
          have B7 := Z7.B
          k_steps
          rename 1 ≤ _ => htk71
          rename Fr g2 L' _ _ => F9
          rename News g2 L' _ _ => N9
          refine ⟨rfl, g2, _, _, rl, rs, kr, led1, true, rfl, htk71, Z7, ?_, N9, H6, hrs6, D6, ⟨fun _ => hr, fun _ => rfl⟩⟩
          refine (show (fun y => if y = Str.ofString "ring" then some (Value.bool true) else if y = Str.ofString "needs" then vn else if y = Str.ofString "counts" then some (Value.ref CL) else if y = Str.ofString "sorter" then some (Value.ref self) else if y = Str.ofString "octets" then some (Value.bytes bs tb) else none) = _ from ?_) ▸ F9
          funext y
          by_cases z : y = Str.ofString "ring"
          · rw [if_pos z, if_pos z]
          · rw [if_neg z, if_neg z, if_neg z]
        --]
      refine hideG fun G0 hG0 => ?_
      obtain ⟨rfl, g1, h71, tk71, rl, rs, kr, led1, br, rfl, htk71, Z6, F71, N71, H71, hrs71, D71, hbr⟩ := hJ
      refine hG0 ?_
      clear hG0
      dsimp only
      have Z6' := Z6
      have B1 := Z6.B
      have T1 := Z6.T
      have D1 := Z6.D
      have U1 := Z6.U
      have X1 := Z6.X
      clear B' X' T' D' Z5 XB TB Z6
      walk1
      refine keep_tok (n := 1) htk71 ?_
      walk_at "M stepsX"
      rename_i RL h72a l72 h72 F72 N72 htk72
      refine tok_gen (n := 1) htk72 fun tk72 htk72 => ?_
      dsimp only
      walk1
      refine keep_tok (n := 1) htk72 ?_
      obtain ⟨mB, hmB⟩ : ∃ mB : PySem.Str → Option Value, mB = fun y => if y = Str.ofString "rounds" then some (Value.ref RL) else if y = Str.ofString "ring" then some (Value.bool br) else if y = Str.ofString "needs" then vn else if y = Str.ofString "counts" then some (Value.ref CL) else if y = Str.ofString "sorter" then some (Value.ref self) else if y = Str.ofString "octets" then some (Value.bytes bs tb) else none := ⟨_, rfl⟩
      rw [← hmB] at F72
      have D72 : Dis ((RL, listOf ([] : List Value).toArray 0) :: (led1 ++ RT)) := D71.cons fun q hq => Nat.ne_of_lt (l72 q hq)
      have mTT : ∀ p ∈ TT, p ∈ RT := fun p hp => by rw [hRT2]; exact .tail _ (.tail _ (.tail _ (.tail _ (.tail _ hp))))
      have mPL : (D, listOf ysP.toArray ysP.length) ∈ RT := mTT _ (hRT _ hmP)
      have mCL : (CL, listOf cts.toArray kc) ∈ RT := by rw [hRT2]; exact .tail _ (.tail _ (.tail _ (.tail _ (.head _))))
      have mCp : (L' + 1 + 1, op2) ∈ RT := by rw [hRT2]; exact .head _
      have mCs : (L' + 1, os') ∈ RT := by rw [hRT2]; exact .tail _ (.tail _ (.tail _ (.head _)))
      have mNw : ∀ p ∈ news, p ∈ RT := fun p hp => mTT p (hRT p (hRn p hp))
      have hysPk : Keep (IntsAre ysP figs) := hysP
      have hmr : mB (Str.ofString "ready") = none := by rw [hmB]; rfl
      refine wh_inv (h₀ := g1) (L := L') (n₀ := 8) (ToldW w figs self dx d rl RL w1 w2 w3 w4 t1 t2 t3 t4 od kv RT mB) F72 N72 ?hJW ?turnW
      case hJW =>
        refine ⟨V, led1, eight, (toldSt figs 8).np, _, rs, kr, 0, t5, t6, [], [], 0, RT, none, rfl, ?_, rfl, H71, D72, T8.start, hrs71, .nil, .nil, rfl, fun p hp => hp, by decide⟩
        funext y
        by_cases z : y = Str.ofString "ready"
        · rw [z, hmr]; rfl
        · rw [if_neg z]
      case turnW =>
        clear F72 N72
        try clear FG
        try clear H71
        try clear D71
        try clear D72
        try clear hrs71
        try clear H
        try clear D62
        try clear N62
        try clear F61
        try clear hDx
        try clear hlow
        try clear hts
        try clear hTI
        try clear hvk
        try clear htk61
        try clear htk71
        try clear htk72
        try clear hcl
        try clear vb
        try clear vk
        rintro n m₁ nx h tk F81 N81 zH7
        walk_at "M hide"
        refine hideG fun G0 hG0 => ?_
        obtain ⟨V, led, left, np, rn, rs, kr, pn, tp, tq, rds, rvs, krr, RR, vr, rfl, rfl, rfl, H, hDx, hRS, hrs, hrz, hrvs, hrl, hRT1, hsl⟩ := zH7
        refine hG0 ?_
        clear hG0
        replace F81 : Fr g1 L' h (fun y => if y = Str.ofString "ready" then vr else if y = Str.ofString "rounds" then some (Value.ref RL) else if y = Str.ofString "ring" then some (Value.bool br) else if y = Str.ofString "needs" then vn else if y = Str.ofString "counts" then some (Value.ref CL) else if y = Str.ofString "sorter" then some (Value.ref self) else if y = Str.ofString "octets" then some (Value.bytes bs tb) else none) := by
          rw [hmB] at F81
          exact F81
        obtain ⟨HDL, hHDL⟩ : ∃ HDL : List (Addr × Obj), HDL = (d, od) :: nodesL V (toldSt figs 8).order := ⟨_, rfl⟩
        have hled : led = (self, instObj 195 dx) :: (dx, dictOf [⟨w1, .str (Str.ofString "_node2info") t1, .ref d⟩, ⟨w2, .str (Str.ofString "_ready_nodes") t2, .ref rl⟩, ⟨w3, .str (Str.ofString "_npassedout") t3, .int pn tp⟩, ⟨w4, .str (Str.ofString "_nfinished") t4, .int pn tq⟩] 4) :: (rl, listOf rs.toArray kr) :: HDL := by rw [H.led_, hHDL]; rfl
        have D82 : Dis (led ++ ((RL, listOf rvs.toArray krr) :: RR)) := dis_mid (A := [(RL, listOf rvs.toArray krr)]) hDx
        have N82 : News g1 L' h (led ++ ((RL, listOf rvs.toArray krr) :: RR)) := news_mid (A := [(RL, listOf rvs.toArray krr)]) N81
        have N83 : News g1 L' h ((self, instObj 195 dx) :: (dx, dictOf [⟨w1, .str (Str.ofString "_node2info") t1, .ref d⟩, ⟨w2, .str (Str.ofString "_ready_nodes") t2, .ref rl⟩, ⟨w3, .str (Str.ofString "_npassedout") t3, .int pn tp⟩, ⟨w4, .str (Str.ofString "_nfinished") t4, .int pn tq⟩] 4) :: (rl, listOf rs.toArray kr) :: (HDL ++ ((RL, listOf rvs.toArray krr) :: RR))) := by
          rw [hled] at N82
          exact N82
        have hrl8 := hrz.len
        have hle8 : eight.length = 8 := rfl
        have hrsl : rs.length = rn.length := hrs.length
        have hrnl : rn.length ≤ 8 := by
          have := nd_len hRS.rnd (fun x hx => hRS.sub x ((hRS.rmem x).mp hx).1)
          omega
        have hrsk : Keep (IntsAre rs rn) := hrs
        have hrs62 : Keep (rs.length < 2 ^ 62) := show rs.length < 2 ^ 62 by omega
        have hrs80 : Keep (rs.length ≤ 8) := show rs.length ≤ 8 by omega
        clear N81 N82 hrs
        k_steps
        refine is_active (n := 0) (Y := ⟨B1, X1, T1, rfl, rfl, ?hdpa, ?huna⟩) F81 N83 hrs62 ?_
        case hdpa => exact h_d600
        case huna => exact h_u5
        intro h84 tk84 F84 N84
        walk_at "M hide"
        have hnb : (decide (pn < pn) || !rs.isEmpty) = !rs.isEmpty := by simp
        rw [hnb]
        dsimp only
        cases hemp : rs.isEmpty with
        | true =>
          have hrs0 : rs = [] := List.isEmpty_iff.mp hemp
          have hrn0 : rn = [] := by
            have h0 : rs.length = rn.length := IntsAre.length hrsk
            rw [hrs0] at h0
            exact List.eq_nil_of_length_eq_zero h0.symm
          have hfix : later figs left = left := hRS.empty.mp hrn0
          have mE : ∀ p ∈ RT, p ∈ HDL ++ (RL, listOf rvs.toArray krr) :: RR := fun p hp => List.mem_append_right _ (.tail _ (hRT1 p hp))
          have mE1 := mE _ mCp
          have mE2 := mE _ mCs
          iterate 3 (first | walk1 | ((repeat (refine unQ (by with_reducible assumption) ?_)); (try dsimp only); walk1))
          walk_at "M hide"
          intro htk85
          replace htk85 : 1 ≤ tk84 := htk85
          dsimp only
          k_steps
          refine lacks_c (x := 61) (tx := tk84) ?hno (by first | decide | omega) (Nat.lt_succ_self _) Z6' rfl ?hdpl ?hunl F84 N84 ?_
          case hno =>
            intro i c hc
            walk_at "M hide"
            have h0 : ∀ c ∈ B64L, (c.toNat : Int) ≠ 61 := by decide
            refine h0 c ?_
            have h1 := Array.mem_of_getElem? hc
            exact Array.mem_toList_iff.mpr h1
          case hdpl => exact h_d400
          case hunl => exact h_u3
          intro g2 h91 tk91 Z8 F91 N91
          walk_at "M hide"
          clear B1 X1 T1 D1 U1 F84 N84
          have B8 := Z8.B
          have T8' := Z8.T
          have U8 := Z8.U
          have X8 := Z8.X
          dsimp only
          k_steps
          rename Fr h₀ L _ _ => kF
          rename News h₀ L _ _ => kN
          have hfinR := hrz.fin hfix
          have hbr2 : br = decide (left ≠ []) := by
            rw [Bool.eq_iff_iff, decide_eq_true_iff]
            exact hbr.trans (ring_iff T8 hfinR)
          refine ret _ _ _ _ rds left kF kN (fun p hp => in4 (mE p (mNw p hp))) hfinR ?_
          unfold dueD
          rw [← hbr2]
          exact .list (.head _) (.cons (.list (in4 (mE _ mPL)) (ints_dat hysPk)) (.cons (.list (in4 (mE _ mCL)) (hcts8.mono fun p hp => in4 (mE _ (mTT p hp)))) (.cons (.bool _) (.cons (.list (in4 (List.mem_append_right _ (.head _))) (hrvs.mono fun p hp => in4 (List.mem_append_right _ (.tail _ hp)))) (.cons (.bool true) .nil)))))
        | false =>
          have hrs1 : rs ≠ [] := fun e => by rw [e] at hemp; cases hemp
          iterate 3 (first | walk1 | ((repeat (refine unQ (by with_reducible assumption) ?_)); (try dsimp only); walk1))
          walk_at "M hide"
          clear N83
          k_steps
          have N85 : News g1 L' h84 (led ++ ((RL, listOf rvs.toArray krr) :: RR)) := by
            rw [hled]
            exact N84
          refine get_ready (n := 0) (Y := ⟨B1, X1, T1, rfl, rfl, ?hdpg, ?hung⟩) F84 N85 H D82 lo (Nat.le_trans T8.len (by decide)) hrsk (Nat.le_trans hrs80 (by decide)) (fun e => hrs1 (List.eq_nil_of_length_eq_zero e)) (fun x hx => T8.order_mem.mpr (hRS.sub x ((hRS.rmem x).mp hx).1)) ?hdpg2 ?hung2 ?_
          case hdpg => exact h_d600
          case hung => exact h_u5
          case hdpg2 => exact h_d500
          case hung2 => exact h_u4
          intro h86 tk86 V2 led2 D0 tpq F86 N86 H86 D86
          walk_at "M hide"
          obtain ⟨HD2, hHD2⟩ : ∃ HD2 : List (Addr × Obj), HD2 = (d, od) :: nodesL V2 (toldSt figs 8).order := ⟨_, rfl⟩
          have hled2 : led2 = (self, instObj 195 dx) :: (dx, dictOf [⟨w1, .str (Str.ofString "_node2info") t1, .ref d⟩, ⟨w2, .str (Str.ofString "_ready_nodes") t2, .ref rl⟩, ⟨w3, .str (Str.ofString "_npassedout") t3, .int (pn + (rs.length : Int)) tpq⟩, ⟨w4, .str (Str.ofString "_nfinished") t4, .int pn tq⟩] 4) :: (rl, listOf ([] : List Value).toArray (kr + 1)) :: HD2 := by rw [H86.led_, hHD2]; rfl
          obtain ⟨ZZ, hZZ⟩ : ∃ ZZ, ZZ = HD2 ++ RR := ⟨_, rfl⟩
          have P87 : (led2 ++ (D0, ({ cls := Value.type "tuple", data := Data.seq rs.toArray } : Obj)) :: (RL, listOf rvs.toArray krr) :: RR).Perm ((RL, listOf rvs.toArray krr) :: (D0, ({ cls := Value.type "tuple", data := Data.seq rs.toArray } : Obj)) :: (self, instObj 195 dx) :: (dx, dictOf [⟨w1, .str (Str.ofString "_node2info") t1, .ref d⟩, ⟨w2, .str (Str.ofString "_ready_nodes") t2, .ref rl⟩, ⟨w3, .str (Str.ofString "_npassedout") t3, .int (pn + (rs.length : Int)) tpq⟩, ⟨w4, .str (Str.ofString "_nfinished") t4, .int pn tq⟩] 4) :: (rl, listOf ([] : List Value).toArray (kr + 1)) :: ZZ) := by
            rw [hled2, hZZ]
            refine (List.perm_append_comm_assoc ((self, instObj 195 dx) :: (dx, dictOf [⟨w1, .str (Str.ofString "_node2info") t1, .ref d⟩, ⟨w2, .str (Str.ofString "_ready_nodes") t2, .ref rl⟩, ⟨w3, .str (Str.ofString "_npassedout") t3, .int (pn + (rs.length : Int)) tpq⟩, ⟨w4, .str (Str.ofString "_nfinished") t4, .int pn tq⟩] 4) :: (rl, listOf ([] : List Value).toArray (kr + 1)) :: HD2) [(D0, ({ cls := Value.type "tuple", data := Data.seq rs.toArray } : Obj)), (RL, listOf rvs.toArray krr)] RR).trans ?_
            exact List.Perm.swap _ _ _
          have N87 := news_sub N86 (fun q hq => P87.symm.subset hq)
          have D87 := D86.perm P87
          refine hideG fun G0 hG0 => ?_
          obtain ⟨⟨a12, a13, a14, a15, a23, a24, a25, a34, a35, a45⟩, aZ1, aZ2, aZ3, aZ4, aZ5⟩ := dis5 D87
          refine hG0 ?_
          clear hG0
          have hrv8 : rvs.length ≤ 8 := by first | decide | omega
          clear N84 N85 N86 F84
          dsimp only
          k_steps
          rename_i S vS nS cS h88 F88 N88 iS pS oS lS
          have iSk : Keep (IntsAre vS nS) := iS
          have N89 : News g1 L' h88 ((self, instObj 195 dx) :: (dx, dictOf [⟨w1, .str (Str.ofString "_node2info") t1, .ref d⟩, ⟨w2, .str (Str.ofString "_ready_nodes") t2, .ref rl⟩, ⟨w3, .str (Str.ofString "_npassedout") t3, .int (pn + (rs.length : Int)) tpq⟩, ⟨w4, .str (Str.ofString "_nfinished") t4, .int pn tq⟩] 4) :: (rl, listOf ([] : List Value).toArray (kr + 1)) :: ((S, listOf vS.toArray cS) :: (RL, listOf rvs.toArray krr) :: (D0, ({ cls := Value.type "tuple", data := Data.seq rs.toArray } : Obj)) :: ZZ)) := news_sub N88 fun q hq => by
            rcases List.mem_cons.mp hq with hq | hq
            · rw [hq]; exact .tail _ (.tail _ (.tail _ (.head _)))
            rcases List.mem_cons.mp hq with hq | hq
            · rw [hq]; exact .tail _ (.tail _ (.tail _ (.tail _ (.head _))))
            rcases List.mem_cons.mp hq with hq | hq
            · rw [hq]; exact .tail _ (.tail _ (.tail _ (.tail _ (.tail _ (.head _)))))
            rcases List.mem_cons.mp hq with hq | hq
            · rw [hq]; exact .head _
            rcases List.mem_cons.mp hq with hq | hq
            · rw [hq]; exact .tail _ (.head _)
            rcases List.mem_cons.mp hq with hq | hq
            · rw [hq]; exact .tail _ (.tail _ (.head _))
            exact .tail _ (.tail _ (.tail _ (.tail _ (.tail _ (.tail _ (hq))))))
          refine is_active (n := 0) (rs := []) (Y := ⟨B1, X1, T1, rfl, rfl, ?hdpb, ?hunb⟩) F88 N89 (by decide) ?_
          case hdpb => exact h_d600
          case hunb => exact h_u5
          intro h90 tk90 F90 N90
          have hb1 : (decide (pn < pn + (rs.length : Int)) || !([] : List Value).isEmpty) = true := by
            have : 0 < rs.length := List.length_pos_iff.mpr hrs1
            rw [decide_eq_true (by first | decide | omega)]
            rfl
          rw [hb1]
          dsimp only
          have lS1 : @Ne Nat S RL := Nat.ne_of_gt lS.1
          clear N88 N89 F88 iS
          k_steps
          rename_i T hxa lT hxb q92 hxc lq h92 F92 N92
          dsimp only
          have hpush : rvs.toArray.push (Value.ref T) = (rvs ++ [Value.ref T]).toArray := by simp
          rw [hpush] at N92
          have N93 : News g1 L' h92 (led2 ++ ((T, ({ cls := Value.type "tuple", data := Data.seq #[Value.ref S, Value.bool true] } : Obj)) :: (S, listOf vS.toArray cS) :: (RL, listOf (rvs ++ [Value.ref T]).toArray (krr + 1)) :: (D0, ({ cls := Value.type "tuple", data := Data.seq rs.toArray } : Obj)) :: RR)) := by
            rw [hled2]
            refine news_sub N92 fun q hq => ?_
            rcases List.mem_cons.mp hq with hq | hq
            · rw [hq]; exact .tail _ (.tail _ (.head _))
            rcases List.mem_cons.mp hq with hq | hq
            · rw [hq]; exact .tail _ (.tail _ (.tail _ (.head _)))
            rcases List.mem_cons.mp hq with hq | hq
            · rw [hq]; exact .tail _ (.tail _ (.tail _ (.tail _ (.head _))))
            rcases List.mem_append.mp hq with hq | hq
            · refine .tail _ (.tail _ (.tail _ (.tail _ (.tail _ (.tail _ (.tail _ (.tail _ (?_))))))))
              rw [hZZ]; exact List.mem_append_left _ hq
            rcases List.mem_cons.mp hq with hq | hq
            · rw [hq]; exact .tail _ (.head _)
            rcases List.mem_cons.mp hq with hq | hq
            · rw [hq]; exact .tail _ (.tail _ (.tail _ (.tail _ (.tail _ (.head _)))))
            rcases List.mem_cons.mp hq with hq | hq
            · rw [hq]; exact .tail _ (.tail _ (.tail _ (.tail _ (.tail _ (.tail _ (.head _))))))
            rcases List.mem_cons.mp hq with hq | hq
            · rw [hq]; exact .tail _ (.tail _ (.tail _ (.tail _ (.tail _ (.tail _ (.tail _ (.head _)))))))
            refine .tail _ (.tail _ (.tail _ (.tail _ (.tail _ (.tail _ (.tail _ (.tail _ (?_))))))))
            rw [hZZ]; exact List.mem_append_right _ hq
          have E0 : Dis ((RL, listOf (rvs ++ [Value.ref T]).toArray (krr + 1)) :: (D0, ({ cls := Value.type "tuple", data := Data.seq rs.toArray } : Obj)) :: (self, instObj 195 dx) :: (dx, dictOf [⟨w1, .str (Str.ofString "_node2info") t1, .ref d⟩, ⟨w2, .str (Str.ofString "_ready_nodes") t2, .ref rl⟩, ⟨w3, .str (Str.ofString "_npassedout") t3, .int (pn + (rs.length : Int)) tpq⟩, ⟨w4, .str (Str.ofString "_nfinished") t4, .int pn tq⟩] 4) :: (rl, listOf ([] : List Value).toArray (kr + 1)) :: ZZ) := D87
          have E1 : Dis ((S, listOf vS.toArray cS) :: (RL, listOf (rvs ++ [Value.ref T]).toArray (krr + 1)) :: (D0, ({ cls := Value.type "tuple", data := Data.seq rs.toArray } : Obj)) :: (self, instObj 195 dx) :: (dx, dictOf [⟨w1, .str (Str.ofString "_node2info") t1, .ref d⟩, ⟨w2, .str (Str.ofString "_ready_nodes") t2, .ref rl⟩, ⟨w3, .str (Str.ofString "_npassedout") t3, .int (pn + (rs.length : Int)) tpq⟩, ⟨w4, .str (Str.ofString "_nfinished") t4, .int pn tq⟩] 4) :: (rl, listOf ([] : List Value).toArray (kr + 1)) :: ZZ) := E0.cons fun q hq => by
            rcases List.mem_cons.mp hq with hq | hq
            · rw [hq]; exact Nat.ne_of_lt lS.1
            rcases List.mem_cons.mp hq with hq | hq
            · rw [hq]; exact Nat.ne_of_lt lS.2.1
            rcases List.mem_cons.mp hq with hq | hq
            · rw [hq]; exact Nat.ne_of_lt lS.2.2.1
            rcases List.mem_cons.mp hq with hq | hq
            · rw [hq]; exact Nat.ne_of_lt lS.2.2.2.1
            rcases List.mem_cons.mp hq with hq | hq
            · rw [hq]; exact Nat.ne_of_lt lS.2.2.2.2.1
            exact Nat.ne_of_lt (tb_ltOf lS.2.2.2.2.2 q hq)
          have E2 : Dis ((T, ({ cls := Value.type "tuple", data := Data.seq #[Value.ref S, Value.bool true] } : Obj)) :: (S, listOf vS.toArray cS) :: (RL, listOf (rvs ++ [Value.ref T]).toArray (krr + 1)) :: (D0, ({ cls := Value.type "tuple", data := Data.seq rs.toArray } : Obj)) :: (self, instObj 195 dx) :: (dx, dictOf [⟨w1, .str (Str.ofString "_node2info") t1, .ref d⟩, ⟨w2, .str (Str.ofString "_ready_nodes") t2, .ref rl⟩, ⟨w3, .str (Str.ofString "_npassedout") t3, .int (pn + (rs.length : Int)) tpq⟩, ⟨w4, .str (Str.ofString "_nfinished") t4, .int pn tq⟩] 4) :: (rl, listOf ([] : List Value).toArray (kr + 1)) :: ZZ) := E1.cons fun q hq => by
            rcases List.mem_cons.mp hq with hq | hq
            · rw [hq]; exact Nat.ne_of_lt lT.2.2.2.1
            rcases List.mem_cons.mp hq with hq | hq
            · rw [hq]; exact Nat.ne_of_lt lT.2.2.2.2.1
            rcases List.mem_cons.mp hq with hq | hq
            · rw [hq]; exact Nat.ne_of_lt lT.2.2.2.2.2.1
            rcases List.mem_cons.mp hq with hq | hq
            · rw [hq]; exact Nat.ne_of_lt lT.1
            rcases List.mem_cons.mp hq with hq | hq
            · rw [hq]; exact Nat.ne_of_lt lT.2.1
            rcases List.mem_cons.mp hq with hq | hq
            · rw [hq]; exact Nat.ne_of_lt lT.2.2.1
            exact Nat.ne_of_lt (tb_ltOf lT.2.2.2.2.2.2 q hq)
          have D93 : Dis (led2 ++ ((T, ({ cls := Value.type "tuple", data := Data.seq #[Value.ref S, Value.bool true] } : Obj)) :: (S, listOf vS.toArray cS) :: (RL, listOf (rvs ++ [Value.ref T]).toArray (krr + 1)) :: (D0, ({ cls := Value.type "tuple", data := Data.seq rs.toArray } : Obj)) :: RR)) := by
            rw [hled2]
            rw [hZZ] at E2
            exact dis_mid (A := [(T, ({ cls := Value.type "tuple", data := Data.seq #[Value.ref S, Value.bool true] } : Obj)), (S, listOf vS.toArray cS), (RL, listOf (rvs ++ [Value.ref T]).toArray (krr + 1)), (D0, ({ cls := Value.type "tuple", data := Data.seq rs.toArray } : Obj))]) (B := (self, instObj 195 dx) :: (dx, dictOf [⟨w1, .str (Str.ofString "_node2info") t1, .ref d⟩, ⟨w2, .str (Str.ofString "_ready_nodes") t2, .ref rl⟩, ⟨w3, .str (Str.ofString "_npassedout") t3, .int (pn + (rs.length : Int)) tpq⟩, ⟨w4, .str (Str.ofString "_nfinished") t4, .int pn tq⟩] 4) :: (rl, listOf ([] : List Value).toArray (kr + 1)) :: HD2) E2
          clear E0 E1 E2
          have hneq : later figs left ≠ left := fun e => by
            have h0 := hRS.empty.mpr e
            have h1 : rs.length = rn.length := IntsAre.length hrsk
            rw [h0] at h1
            exact hrs1 (List.eq_nil_of_length_eq_zero h1)
          refine call_meth N92 (.head _) ?_
          refine done_c (ps := rs) (rs := []) (rn := []) (Y := ⟨B1, X1, T1, rfl, rfl, ?hdpd, ?hund⟩) F92 N93 H86 D93 lo (Nat.le_trans T8.len (by decide)) .nil hrsk hrs80 ?hdpd2 ?hund2 (fun x hx => T8.order_mem.mpr (hRS.sub x ((hRS.rmem x).mp hx).1)) T8.clos (fun y => Nat.le_trans (T8.lens y) (by decide)) (by decide) (fun i x hx => hRS.out T8.ssok i x hx) ?_
          case hdpd => exact h_d600
          case hund => exact h_u5
          case hdpd2 => exact h_d500
          case hund2 => exact h_u4
          intro h94 tk94 V3 led3 tqq rs3 kr3 F94 N94 H94 I94 D94
          walk_at "M hide"
          dsimp only
          k_steps
          have heq94 : led3 ++ ((T, ({ cls := Value.type "tuple", data := Data.seq #[Value.ref S, Value.bool true] } : Obj)) :: (S, listOf vS.toArray cS) :: (RL, listOf (rvs ++ [Value.ref T]).toArray (krr + 1)) :: (D0, ({ cls := Value.type "tuple", data := Data.seq rs.toArray } : Obj)) :: RR) = (led3 ++ [(T, ({ cls := Value.type "tuple", data := Data.seq #[Value.ref S, Value.bool true] } : Obj)), (S, listOf vS.toArray cS)]) ++ (RL, listOf (rvs ++ [Value.ref T]).toArray (krr + 1)) :: ((D0, ({ cls := Value.type "tuple", data := Data.seq rs.toArray } : Obj)) :: RR) := by simp
          have heq95 : led3 ++ ((T, ({ cls := Value.type "tuple", data := Data.seq #[Value.ref S, Value.bool true] } : Obj)) :: (S, listOf vS.toArray cS) :: (D0, ({ cls := Value.type "tuple", data := Data.seq rs.toArray } : Obj)) :: RR) = (led3 ++ [(T, ({ cls := Value.type "tuple", data := Data.seq #[Value.ref S, Value.bool true] } : Obj)), (S, listOf vS.toArray cS)]) ++ ((D0, ({ cls := Value.type "tuple", data := Data.seq rs.toArray } : Obj)) :: RR) := by simp
          have P95 : (led3 ++ ((T, ({ cls := Value.type "tuple", data := Data.seq #[Value.ref S, Value.bool true] } : Obj)) :: (S, listOf vS.toArray cS) :: (RL, listOf (rvs ++ [Value.ref T]).toArray (krr + 1)) :: (D0, ({ cls := Value.type "tuple", data := Data.seq rs.toArray } : Obj)) :: RR)).Perm ((RL, listOf (rvs ++ [Value.ref T]).toArray (krr + 1)) :: (led3 ++ ((T, ({ cls := Value.type "tuple", data := Data.seq #[Value.ref S, Value.bool true] } : Obj)) :: (S, listOf vS.toArray cS) :: (D0, ({ cls := Value.type "tuple", data := Data.seq rs.toArray } : Obj)) :: RR))) := by
            rw [heq94, heq95]
            exact List.perm_middle
          try (refine unQ (by with_reducible assumption) ?_)
          refine WhEnd.intro (n' := (later figs left).length) F94 (nx := (RL, listOf (rvs ++ [Value.ref T]).toArray (krr + 1)) :: (led3 ++ ((T, ({ cls := Value.type "tuple", data := Data.seq #[Value.ref S, Value.bool true] } : Obj)) :: (S, listOf vS.toArray cS) :: (D0, ({ cls := Value.type "tuple", data := Data.seq rs.toArray } : Obj)) :: RR))) (news_sub N94 fun q hq => P95.symm.subset hq) (later_lt hneq) ⟨V3, led3, later figs left, _, _, rs3, kr3, pn + (rs.length : Int), tpq, tqq, rds ++ [left.filter fun k => !(later figs left).contains k], rvs ++ [Value.ref T], krr + 1, _, some (.ref D0), rfl, ?_, rfl, H94, D94.perm P95, hRS.next T8.ssok, I94, hrz.snoc hneq, ?_, ?_, fun p hp => .tail _ (.tail _ (.tail _ (hRT1 p hp))), hsl.filter _⟩
          · rw [hmB]
            funext y
            by_cases z : y = Str.ofString "ready"
            · rw [if_pos z, if_pos z]
            · rw [if_neg z, if_neg z, if_neg z]
          · rw [List.map_append]
            refine DatAll.append (hrvs.mono fun p hp => .tail _ (.tail _ (.tail _ hp))) ?_
            have hsrt := hRS.sorted hsl pS oS
            have iS2 : IntsAre vS (left.filter fun k => !(later figs left).contains k) := by rw [← hsrt]; exact iSk
            exact .cons (.tuple (.head _) (.cons (.list (.tail _ (.head _)) (ints_dat iS2)) (.cons (.bool true) .nil))) .nil
          · rw [List.length_append, List.length_append, hrl]; rfl
  · rintro i ys nx N0 v I oI C oC D m₂ h t0 t1 tk E' hi zH17 hN0 zH19 ht1 ht2 hC hCx F4 N4 off4 nd4
    walk_at "M hide"
    refine hideG fun G0 hG0 => ?_
    obtain ⟨rfl, hys, hTI, hNN⟩ := zH17
    obtain ⟨c, u, hc, rfl, hu1, hu2⟩ := zH19
    refine hG0 ?_
    clear hG0
    --[
    clear N3 F3
    have hCy : m₂ (Str.ofString "x") = some (.int (c.toNat : Int) u) := hCx
    clear hCx
    dsimp only [List.cons_append, List.nil_append] at N4
    iterate 8 (first | walk1 | (k_unfold; (try dsimp only)))
    refine keep_tok (n := tk) (Nat.le_refl _) ?_
    walk1
    dsimp only
    intro hk9
    rename_i t9 k9
    have hk9' : tk ≤ k9 := hk9
    clear hk9
    k_steps
    have hi8 : i < 8 := by first | decide | omega
    have hu0 : @LE.le Nat _ 1 u := Nat.le_trans hNN (Nat.le_trans hN0 hu1)
    have huk : @LT.lt Nat _ u k9 := Nat.lt_of_lt_of_le hu2 (Nat.le_trans ht2 hk9')
    have hNk : @LE.le Nat _ N0 k9 := Nat.le_trans hN0 (Nat.le_trans ht1 (Nat.le_trans ht2 hk9'))
    obtain ⟨p, hp, hcp⟩ : ∃ p, figs[i]? = some p ∧ (c.toNat : Int) = sg p := by
      have h7 : i < figs.length := by first | decide | omega
      refine ⟨figs[i], List.getElem?_eq_getElem h7, ?_⟩
      have e := congrArg (fun l => l[i]?) has
      unfold KBw.bInts at e
      rw [List.getElem?_map, List.getElem?_map, Array.getElem?_toList, hc, List.getElem?_eq_getElem h7] at e
      exact Option.some.inj e
    have hpf : p = fg figs i := by
      unfold fg
      rw [List.getD_eq_getElem?_getD, hp]
      rfl
    have hpb := hfb i hi8
    rw [← hpf] at hpb
    obtain ⟨hs1, hs2⟩ := sign_at hpb.1 hpb.2 (bs := _) (by exact rfl) hcp
    refine indexOf_c hs1 rfl hs2 (Nat.ne_of_gt (Nat.lt_of_lt_of_le (by decide) hu0)) huk (Y := ⟨B', X', T', rfl, rfl, ?hdp, ?hun⟩) F4 N4 ?_
    case hdp => exact h_d600
    case hun => exact h_u5
    intro h5 t5 tk5 F5 N5 hb5 hb6
    walk_at "M hide"
    replace hb5 : k9 ≤ t5 := hb5
    have hpt : ((p.toNat : Nat) : Int) = p := by first | decide | omega
    rw [hpt]
    try (refine unQ (by with_reducible assumption) ?_)
    refine EndM.intro _ tk5 (Nat.le_refl _) F5 N5 off4 trivial ⟨rfl, ?_, hTI.snoc (Nat.le_trans hNk hb5) (Nat.le_trans hNN (Nat.le_trans hNk hb5)) hb6, Nat.le_trans hNN (Nat.le_trans hNk (Nat.le_trans hb5 (Nat.le_of_lt hb6)))⟩
    rw [List.take_add_one, hp]
    exact ints_snoc hys
    --]
end
section
theorem flush_E13 : (1 : Nat) ≤ 2 := by
  w_top off
  first | walk1 | decide
local macro_rules | `(tactic| k_qdec) => `(tactic| decide +kernel)
local macro_rules | `(tactic| walk_at "M stepsR") => `(tactic| repeat' (first | (fail_if_success (with_reducible show wpAny _ _ (call (Value.ref _) _ _) _ _ _)); walk_at "M one"))
theorem claim : PySem.Challenge.rw_il0017_01.Holds := hd17 (by
  k_go0
  (all_goals try k_fold)
  walk_at "M stepsR"
  rename_i D1 ws1 h1 F1 N1 hI1 hC1 hL1 l1
  refine keep_tok (n := 1) (by first | exact Nat.succ_pos _ | exact Nat.le_add_left _ _ | omega) ?_
  refine figures_c (.head _) hI1 (by first | decide | omega) (by decide) (by decide) ?_ (Y := ⟨by assumption, by assumption, by assumption, rfl, rfl, by decide, by decide⟩) F1 N1
  intro h2 tk2 D2 ys2 figs F2 N2 hys2 hfl hfb htk2
  replace htk2 : 1 ≤ tk2 := htk2
  dsimp only
  have hyk : Keep (IntsAre ys2 figs) := hys2
  clear hys2
  refine keep_tok (n := 1) htk2 ?_
  walk_at "M stepsX"
  rename 1 ≤ _ => htk3
  refine tok_gen (n := 1) htk3 fun tk3 htk3 => ?_
  dsimp only
  walk_at "M stepsR"
  rename Fr _ _ _ _ => F3
  rename News _ _ _ _ => N3
  refine keep_tok (n := 1) (by first | exact htk3 | (show 1 ≤ tk3 + 1; omega)) ?_
  refine octets_c (.head _) hyk hfl hfb (by decide) (by decide) ?_ (Y := ⟨by assumption, by assumption, by assumption, rfl, rfl, by decide, by decide⟩) F3 N3
  intro h4 tk4 t4 bs F4 N4 hbs hb0 hb1 hb2 htk4
  replace htk4 : 1 ≤ tk4 := htk4
  dsimp only
  have N5 := news_sub N4 (b := [(D2, PyProof.Rows.LCg.lst ys2)]) (fun q hq => by rw [List.mem_singleton.mp hq]; exact .head _)
  clear N4 F3 N3
  walk_at "M stepsR"
  refine told_c (by assumption) (by assumption) (by assumption) (by assumption) (by assumption) rfl (by decide) (by decide) htk4 F4 N5 (List.nodup_cons.mpr ⟨List.not_mem_nil, List.nodup_nil⟩) hfl hfb hbs hb0 hb1 hb2 ?_
  intro h6 tk6 V6 nx6 rs6 fin6 F6 N6 hsub6 hR6 hD6
  dsimp only
  clear N5 F4
  walk_at "M stepsR"
  refine due_c (hsub6 _ (.head _)) hyk hfl hfb (by decide) (by decide) ?_ (Y := ⟨by assumption, by assumption, by assumption, rfl, rfl, by decide, by decide⟩) F6 N6
  intro h7 tk7 D7 nx7 rs7 fin7 F7 N7 hsub7 hR7 hD7
  obtain ⟨rfl, rfl⟩ := hR6.det hR7
  cases hD6 with | list hm hall =>
  dsimp only
  clear F6 N6
  refine eq_same N7 (.list (hsub7 _ hm) (hall.mono hsub7)) hD7 (dueD_ok _ _ _) (by units_room) ?_
  clear hm hall hD7
  k_steps
)
end
end
end
end
end Mine
theorem PySem.Challenge.cw_il0017_01_holds : PySem.Challenge.rw_il0017_01.Holds := by
  exact Mine.claim
