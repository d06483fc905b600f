import PyProof.Rows.All
import Wide.All
import OpenK.AllK
import Wide.FinOn
import PySem.Challenge.RW_uq0007_01
open PySem PySem.W PyProof.Rows PySem.Calls
set_option Elab.async false
set_option maxRecDepth 100000
set_option maxHeartbeats 8000000
namespace Mine
open_top hd for PySem.Challenge.rw_uq0007_01
end Mine
namespace Mine
local macro_rules | `(tactic| walk_at $s:str) => `(tactic| k_extra $s)
section
abbrev PR : Program := PySem.Challenge.rw_uq0007_01.row.prog
abbrev AT (d u : Nat) (fr : Option (List Env)) (gd : Option (List Code)) : Around := { handled := none, depth := d, frames := fr, guards := gd, units := u }
def Keep (h h' : Heap) : Prop := ∀ b o, h.get? b = some o → h'.get? b = some o
theorem Keep.refl (h : Heap) : Keep h h := fun _ _ e => e
theorem Keep.trans {a b c : Heap} (x : Keep a b) (y : Keep b c) : Keep a c := fun p o e => y p o (x p o e)
theorem at_mono {α : Type} {M : Model} {A : Around} {t : Sem α} {Q : α → Shared → Prop} {E : Value → Shared → Prop} {s : Shared} (d u : Nat)
    (hh : A.handled = none) (hd : A.depth ≤ d) (hu : A.units ≤ u) (h : wpAny M (AT d u A.frames A.guards) t Q E s) : wpAny M A t Q E s :=
  fun Γ p hΓ => h Γ p ⟨hΓ.1.trans hh, Nat.le_trans hΓ.2.1 hd, hΓ.2.2.1, hΓ.2.2.2.1, Nat.le_trans hΓ.2.2.2.2 hu⟩
theorem q_int {Q : Value → Shared → Prop} {x y : Int} {t : Tok} {s : Shared} (e : x = y) (h : Q (.int x t) s) : Q (.int y t) s := e ▸ h
theorem q_cast {Q : Value → Shared → Prop} {x y : Value} {s : Shared} (e : x = y) (h : Q x s) : Q y s := e ▸ h
/-- a word that k_fill reads -/
def Ask (_ : OpenLaw) (_ : Params → Frag) : Prop := True
theorem ask_in {P : Prop} (h : Ask PySem.Challenge.rw_uq0007_01 Mine.hd.heap_39 → P) : P := h True.intro
def Halt (P : Prop) : Prop := P
theorem halt {P : Prop} (h : Halt P) : P := h
/-- what a call has made, above all that stood before it -/
def Made (h h' : Heap) (new : List (Addr × Obj)) : Prop := Keep h h' ∧ ∀ p ∈ new, h'.get? p.1 = some p.2 ∧ h.get? p.1 = none
theorem Made.fr {h h' h₀ : Heap} {L : Addr} {m : Str → Option Value} {new : List (Addr × Obj)} (x : Made h h' new) (F : Fr h₀ L h m) : Fr h₀ L h' m := F.keeps x.1
theorem Made.news {h h' h₀ : Heap} {L : Addr} {m : Str → Option Value} {new news : List (Addr × Obj)} (x : Made h h' new) (F : Fr h₀ L h m) (N : News h₀ L h news) : News h₀ L h' (new ++ news) := fun p hp => by
  rcases List.mem_append.mp hp with hp | hp
  · obtain ⟨h1, h2⟩ := x.2 p hp
    refine ⟨h1, fun e => ?_, ?_⟩
    · obtain ⟨o, _, _, ho, _⟩ := F.ns
      rw [e, ho] at h2; cases h2
    · cases q : h₀.get? p.1 with
      | none => rfl
      | some o => rw [F.keep _ _ q] at h2; cases h2
  · exact ⟨x.1 _ _ (N p hp).1, (N p hp).2⟩
theorem Made.ne {h h' h₀ : Heap} {L : Addr} {new news : List (Addr × Obj)} (x : Made h h' new) (N : News h₀ L h news) {q : Addr × Obj} (hq : q ∈ new) : ∀ p ∈ news, p.1 ≠ q.1 := fun p hp e => by
  have h1 := (N p hp).1
  rw [e, (x.2 q hq).2] at h1; cases h1
theorem made_of {h₀ h' : Heap} {L : Addr} {m : Str → Option Value} {news new : List (Addr × Obj)} (F : Fr h₀ L h' m) (N : News h₀ L h' news) (hs : ∀ p ∈ new, p ∈ news) : Made h₀ h' new :=
  ⟨F.keep, fun p hp => ⟨(N p (hs p hp)).1, (N p (hs p hp)).2.2⟩⟩
abbrev tupOf (its : List Value) (n : Nat) : Obj := { cls := .type "tuple", data := .seq its.toArray n }
def sortI (l : List Int) : List Int := l.mergeSort (fun a b => decide (a ≤ b))
theorem sortI_of {l p : List Int} (h : p.Perm l) (hs : p.Pairwise (· ≤ ·)) : p = sortI l := by
  refine ksm_same (h.trans (List.mergeSort_perm l _).symm) hs ?_
  have := List.pairwise_mergeSort (le := fun a b : Int => decide (a ≤ b)) (by intro a b c; simp; omega) (by intro a b; simp; omega) l
  simpa [sortI] using this
end
section
theorem reg_num : True := by
  w_top off
  k_with_none
  (k_with "binaryOp LShift int int" => (k_here; refine lshift_int (numB_nn (by assumption) (by assumption) (by assumption) (by assumption)) (numB_sz (by assumption) (by assumption) (by assumption) (by assumption)) ?_))
  exact True.intro
def numOf (W : Int) (ns : List Int) : Int := (ns.map fun k => (2 : Int) ^ (W * k).toNat).sum
theorem numB_nn {W k : Int} {ns : List Int} (h : ∀ k ∈ ns, 0 ≤ k ∧ k ≤ 64) (h0 : 0 ≤ W) (_h1 : W ≤ 64) (hk : k ∈ ns) : 0 ≤ W * k := Int.mul_nonneg h0 (h k hk).1
theorem numB_sz {W k : Int} {ns : List Int} (h : ∀ k ∈ ns, 0 ≤ k ∧ k ≤ 64) (h0 : 0 ≤ W) (h1 : W ≤ 64) (hk : k ∈ ns) : (Builtin.Int.intBits 1 : Int) + W * k ≤ 2 ^ 27 := by
  have e : (Builtin.Int.intBits 1 : Int) = 1 := by decide
  have := h k hk
  have h2 : W * k ≤ 64 * 64 := Int.mul_le_mul h1 this.2 this.1 (by decide)
  rw [e]; lia
theorem num_end {W : Int} {ns : List Int} : numOf W ns = (ns.map fun k => 1 * (2 : Int) ^ (W * k).toNat).sum := by
  unfold numOf
  simp only [Int.one_mul]
theorem num_spec {w : World} {p : Program} {loose : List Str} {mean : ExcName → Option Value} {mg mb : Str → Option Value}
   {A : Around} {s : Shared} {Q E : Value → Shared → Prop} {l : Addr} {vs : List Value} {ns : List Int} {W : Int} {tW : Tok}
   (X : (Mine.hd.heap_39 w.params).In s.heap) (T : Top p loose mean mg mb s.heap)
   (hA : A.handled = none) (hd : A.depth ≤ 600) (hu : A.units ≤ 900)
   (hl : s.heap.IsList l vs.toArray) (hi : IntsAre vs ns) (hlen : ns.length < 1000) (hb : ∀ k ∈ ns, 0 ≤ k ∧ k ≤ 64) (hW0 : 0 ≤ W) (hW1 : W ≤ 64)
   (hR : ∀ (t : Tok) (h' : Heap) (tk' : Nat), Keep s.heap h' → Q (.int (numOf W ns) t) { s with heap := h', toks := tk' }) :
   wpAny (model PR w) A (call (.ref 128) [.ref l, .int W tW]) Q E s := by
  refine ask_in ?_
  k_fill
  intro _
  refine at_mono 600 900 hA hd hu ?_
  have ho := X 128 _ rfl
  refine' wpAny_call (call_cellsN_ret ?hroom ho ?hdata T.nolimit ?hcd ?hbind ?hkind ?hnd ?_ ?hco ?hgen ?hk)
  case hdata => exact rfl
  case hroom => show (600:Nat) < recursionLimit; decide
  case hcd => exact codeRec_of X rfl
  case hbind => exact rfl
  case hkind => exact (kindsX (by rfl) _)
  case hnd => decide
  case hco => exact rfl
  case hgen => exact rfl
  case hk => exact rfl
  intro h₁ tk cells F N C
  clear ho
  generalize hL : s.heap.objs.size = L at *
  generalize hh0 : s.heap = h₀ at *
  obtain ⟨o1, rfl, d1⟩ := C.one
  clear C
  k_steps
  exact q_int num_end (hR _ _ _ (Fr.keep (by assumption)))
end
section
/-- the end of a loop's turn: the state that the next turn finds -/
def TurnAt (h₀ : Heap) (L I : Addr) (oI : Obj) (J : (Str → Option Value) → List (Addr × Obj) → Prop) (s₁ s₂ : Shared) : Prop :=
  ∃ h' tk' m' nx news', s₂ = { s₁ with heap := h', toks := tk' } ∧ Fr h₀ L h' m' ∧ News h₀ L h' news' ∧ (∀ p ∈ nx, p ∈ news') ∧ (I, oI) ∈ news' ∧ (∀ p ∈ nx, p.1 ≠ I) ∧ J m' nx
def TurnEnd (h₀ : Heap) (L I : Addr) (oI : Obj) (J : (Str → Option Value) → List (Addr × Obj) → Prop) (s₁ : Shared) (Q : Flow → Shared → Prop) (f : Flow) (s₂ : Shared) : Prop :=
  match f with
  | .ret v => Q (.ret v) s₂
  | .brk => Q .next s₂
  | _ => TurnAt h₀ L I oI J s₁ s₂
theorem turn_next {h₀ h' : Heap} {L I : Addr} {oI : Obj} {J : (Str → Option Value) → List (Addr × Obj) → Prop} {s₁ : Shared} {Q : Flow → Shared → Prop} {tk' : Nat} {m' : Str → Option Value} {nx news' : List (Addr × Obj)}
    (F : Fr h₀ L h' m') (N : News h₀ L h' news') (hJ : J m' nx) (sub : ∀ p ∈ nx, p ∈ news') (mI : (I, oI) ∈ news') (ne : ∀ p ∈ nx, p.1 ≠ I) : TurnEnd h₀ L I oI J s₁ Q .next { s₁ with heap := h', toks := tk' } :=
  ⟨h', tk', m', nx, news', rfl, F, N, sub, mI, ne, hJ⟩
inductive LoopT (prog : Program) (w : World) (A : Around) (h₀ : Heap) (env : Env) (target : Expr) (body orelse : List Stmt) (Q : Flow → Shared → Prop) (E : Value → Shared → Prop) (it : Value) (s₂ : Shared) : Prop
  | mk (I : Addr) (fp : List Addr) (n : Nat) (P : Nat → Value → Prop) (St : Nat → Heap → Prop) (m : Str → Option Value) (news : List (Addr × Obj)) (J : Nat → (Str → Option Value) → List (Addr × Obj) → Prop)
    (e : it = .ref I) (W : Walks prog w A I fp [I] n P St) (hob : ∀ i h, St i h → ∃ o, h.get? I = some o) (hIL : I ≠ env.locals) (hI0 : h₀.get? I = none) (hLf : env.locals ∉ fp)
    (hfp : ∀ b ∈ fp, b = I ∨ (∃ o, h₀.get? b = some o) ∨ ∃ o, ∀ i m nx, J i m nx → (b, o) ∈ nx) (hnw : ∀ p ∈ news, p.1 ≠ I) (hst : St 0 s₂.heap) (F : Fr h₀ env.locals s₂.heap m) (N : News h₀ env.locals s₂.heap news) (h0 : J 0 m news)
    (turn : ∀ i v m₁ nx oI h tk, i < n → P i v → J i m₁ nx → (∀ p ∈ nx, p.1 ≠ I) → Fr h₀ env.locals h m₁ → News h₀ env.locals h (nx ++ [(I, oI)]) →
      wpAny (model prog w) A (assign target env v) (fun _ s' => wpAny (model prog w) A (execs body env) (TurnEnd h₀ env.locals I oI (J (i + 1)) { s₂ with heap := h, toks := tk } Q) E s') E { s₂ with heap := h, toks := tk })
    (done : ∀ m₁ nx h tk, J n m₁ nx → Fr h₀ env.locals h m₁ → News h₀ env.locals h nx → wpAny (model prog w) A (execs orelse env) Q E { s₂ with heap := h, toks := tk }) : LoopT prog w A h₀ env target body orelse Q E it s₂

section
variable {prog : Program} {w : World} {A : Around} {s : Shared} {env : Env} {E : Value → Shared → Prop} {Q : Flow → Shared → Prop} {target iter : Expr} {body orelse : List Stmt} {pos : Pos}
theorem forT {h₀ : Heap} {L₀ : Addr} {m₀ : Str → Option Value} (_F : Fr h₀ L₀ s.heap m₀) (h : wpAny (model prog w) A (eval iter env) (fun xv s₁ => wpAny (model prog w) A (pyIter xv) (fun it s₂ => LoopT prog w A h₀ env target body orelse Q E it s₂) E s₁) E s)
    (ht : ∀ it v, letOwnedTupleGo target it v = pure ()) (hs : ∀ x, foldedSetIterable iter env x = pure x) (hE : PassesOwn (model prog w) A env E) :
    wpAny (model prog w) A (exec (.For target iter body orelse pos) env) Q E s := by
  refine wpAny_For (wpAny_mono h (fun xv s₁ h₁ => wpAny_mono h₁ (fun it s₂ h₂ => ?_) fun _ _ e => e) fun _ _ e => e) hs
  obtain ⟨I, fp, n, P, St, m, news, J, rfl, W, hob, hIL, hI0, hLf, hfp, hnw, hst, F, N, h0, turn, done⟩ := h₂
  refine codeAny_forLoop_any
    (fun k s' => ∃ h' tk m' nx i, s' = { s₂ with heap := h', toks := tk } ∧ St i h' ∧ Fr h₀ env.locals h' m' ∧ News h₀ env.locals h' nx ∧ (∀ p ∈ nx, p.1 ≠ I) ∧ J i m' nx ∧ i ≤ n ∧ k = n + 1 - i) ?_ (n + 1)
    ⟨s₂.heap, s₂.toks, m, news, 0, rfl, hst, F, N, hnw, h0, Nat.zero_le _, rfl⟩
  rintro k s' ⟨h', tk, m', nx, i, rfl, hst', F', N', hnw', hJ, hi, rfl⟩
  have next : ∀ h₁ : Heap, (∀ b o, b ∉ [I] → h'.get? b = some o → h₁.get? b = some o) → Fr h₀ env.locals h₁ m' ∧ News h₀ env.locals h₁ nx := fun h₁ hk₁ =>
    ⟨⟨F'.ns.at' fun o e => hk₁ _ o (fun q => hIL (List.mem_singleton.mp q).symm) e, fun b o e => hk₁ b o (fun q => by rw [List.mem_singleton.mp q, hI0] at e; cases e) (F'.keep b o e), F'.above⟩,
      fun p hp => ⟨hk₁ _ _ (fun q => hnw' p hp (List.mem_singleton.mp q)) (N' p hp).1, (N' p hp).2⟩⟩
  by_cases hlt : i < n
  · refine W.item i _ _ _ hlt hst' fun v h₁ tk₁ hP hst₁ hk₁ => ?_
    obtain ⟨F₁, N₁⟩ := next h₁ hk₁
    obtain ⟨oI, hoI⟩ := hob _ _ hst₁
    have NI : News h₀ env.locals h₁ (nx ++ [(I, oI)]) := fun p hp => by
      rcases List.mem_append.mp hp with hp | hp
      · exact N₁ p hp
      · rw [List.mem_singleton.mp hp]; exact ⟨hoI, hIL, hI0⟩
    refine wpAny_of_eq (ht _ _) ?_
    refine wpAny_passesOwn hE (wpAny_mono (turn i v m' nx oI h₁ tk₁ hlt hP hJ hnw' F₁ NI) (fun _ s₃ h₃ => ?_) fun _ _ e => e)
    refine wpAny_passesOwn hE (wpAny_mono h₃ (fun f s₄ h₄ => ?_) fun _ _ e => e)
    have fin : TurnAt h₀ env.locals I oI (J (i + 1)) { s₂ with heap := h₁, toks := tk₁ } s₄ → ∃ j, j < n + 1 - i ∧ ∃ h' tk m' nx i, s₄ = { s₂ with heap := h', toks := tk } ∧ St i h' ∧ Fr h₀ env.locals h' m' ∧ News h₀ env.locals h' nx ∧ (∀ p ∈ nx, p.1 ≠ I) ∧ J i m' nx ∧ i ≤ n ∧ j = n + 1 - i := by
      rintro ⟨h', tk', m₂, nx₂, news₂, rfl, F₂, N₂, hsub, hmI, hnw₂, hJ₂⟩
      refine ⟨n + 1 - (i + 1), by lia, h', tk', m₂, nx₂, i + 1, rfl, ?_, F₂, fun p hp => N₂ p (hsub p hp), hnw₂, hJ₂, hlt, rfl⟩
      refine W.frame _ _ _ hst₁ fun b hb o e => ?_
      rcases hfp b hb with rfl | ⟨o₀, ho₀⟩ | ⟨o₀, ho₀⟩
      · rw [hoI] at e; cases e; exact (N₂ _ hmI).1
      · have := F₁.keep b o₀ ho₀
        rw [e] at this; cases this
        exact F₂.keep b _ ho₀
      · have h5 := (N₁ _ (ho₀ i m' nx hJ)).1
        rw [e] at h5; cases h5
        exact (N₂ _ (hsub _ (ho₀ _ _ _ hJ₂))).1
    cases f with
    | ret v => exact h₄
    | brk => exact h₄
    | next => exact fin h₄
    | cont => exact fin h₄
  · have hin : i = n := by lia
    subst hin
    refine W.done _ _ _ hst' fun h₁ tk₁ hk₁ => ?_
    obtain ⟨F₁, N₁⟩ := next h₁ hk₁
    exact wpAny_passesOwn hE (wpAny_mono (done m' nx h₁ tk₁ hJ F₁ N₁) (fun _ _ x => x) fun _ _ e => e)

/-- over a list of the base -/
theorem iterBase {L : Addr} (hLe : env.locals = L) {l : Addr} {vs : List Value} {m₀ : Str → Option Value} {news : List (Addr × Obj)} {h₀ : Heap} (J : Nat → (Str → Option Value) → List (Addr × Obj) → Prop)
    (hh : A.handled = none) (hl : h₀.IsList l vs.toArray) (F : Fr h₀ L s.heap m₀) (N : News h₀ L s.heap news) (hj : J 0 m₀ news)
    (turn : ∀ i v m₁ nx I oI h tk, vs[i]? = some v → J i m₁ nx → (∀ p ∈ nx, p.1 ≠ I) → Fr h₀ L h m₁ → News h₀ L h (nx ++ [(I, oI)]) →
      wpAny (model prog w) A (assign target env v) (fun _ s' => wpAny (model prog w) A (execs body env) (TurnEnd h₀ L I oI (J (i + 1)) { s with heap := h, toks := tk } Q) E s') E { s with heap := h, toks := tk })
    (done : ∀ m₁ nx h tk, J vs.length m₁ nx → Fr h₀ L h m₁ → News h₀ L h nx → wpAny (model prog w) A (execs orelse env) Q E { s with heap := h, toks := tk }) :
    wpAny (model prog w) A (pyIter (.ref l)) (fun it s₂ => LoopT prog w A h₀ env target body orelse Q E it s₂) E s := by
  subst hLe
  have hls : s.heap.IsList l vs.toArray := hl.at fun o e => F.keep l o e
  obtain ⟨ol, hol, _⟩ := id hl
  have hlt : l < h₀.objs.size := Heap.lt_size hol
  have hne : l ≠ s.heap.objs.size := Nat.ne_of_lt (Nat.lt_trans (Nat.lt_of_lt_of_le hlt F.above) F.ns.lt)
  refine wpAny_pyIter_list hls ?_
  have W := Walks.list (prog := prog) (w := w) hh s.heap.objs.size l hne vs.toArray
  have hsz : vs.toArray.size = vs.length := by simp
  rw [hsz] at W
  refine ⟨s.heap.objs.size, _, vs.length, _, _, m₀, news, J, rfl, W, ?_, Nat.ne_of_gt F.ns.lt, next_is_new F, ?_, ?_, ?_, ⟨⟨_, Heap.get?_push_size _ rfl, rfl, rfl⟩, hls.at fun o e => Heap.get?_push_of_some _ e⟩, F.push _, (fun p hp => ⟨Heap.get?_push_of_some _ (N p hp).1, (N p hp).2⟩), hj, ?_, done⟩
  · rintro i h ⟨⟨o, ho, _⟩, _⟩; exact ⟨o, ho⟩
  · intro hm
    rcases List.mem_cons.mp hm with e | hm
    · exact absurd F.ns.lt (e ▸ Nat.lt_irrefl _)
    · exact absurd (Nat.lt_of_lt_of_le hlt F.above) ((List.mem_singleton.mp hm) ▸ Nat.lt_irrefl _)
  · intro b hb
    rcases List.mem_cons.mp hb with e | hm
    · exact .inl e
    · exact .inr (.inl (by rw [List.mem_singleton.mp hm]; exact ⟨ol, hol⟩))
  · intro p hp e
    exact absurd (Heap.lt_size (N p hp).1) (e ▸ Nat.lt_irrefl _)
  · rintro i v m₁ nx oI h tk _ hP hJ hoff F₁ N₁
    exact turn i v m₁ nx _ oI h tk (by simpa using hP) hJ hoff F₁ N₁

/-- backwards over a list of the call's own -/
theorem iterRev {L : Addr} (hLe : env.locals = L) {I l : Addr} {ol : Obj} {vs : List Value} {m₀ : Str → Option Value} {news : List (Addr × Obj)} {h₀ : Heap} (J : Nat → (Str → Option Value) → List (Addr × Obj) → Prop)
    (hh : A.handled = none) (hm : (l, ol) ∈ news) (hc : ol.cls = .type "list") (hdt : ∃ k, ol.data = .seq vs.toArray k) (F : Fr h₀ L s.heap m₀) (N : News h₀ L s.heap ((I, revObj l ((vs.length : Int) - 1)) :: news)) (hoff : ∀ p ∈ news, p.1 ≠ I) (hj : J 0 m₀ news)
    (hJm : ∀ i m nx, J i m nx → (l, ol) ∈ nx)
    (turn : ∀ i v m₁ nx I oI h tk, i < vs.length → vs[vs.length - 1 - i]? = some v → J i m₁ nx → (∀ p ∈ nx, p.1 ≠ I) → Fr h₀ L h m₁ → News h₀ L h (nx ++ [(I, oI)]) →
      wpAny (model prog w) A (assign target env v) (fun _ s' => wpAny (model prog w) A (execs body env) (TurnEnd h₀ L I oI (J (i + 1)) { s with heap := h, toks := tk } Q) E s') E { s with heap := h, toks := tk })
    (done : ∀ m₁ nx h tk, J vs.length m₁ nx → Fr h₀ L h m₁ → News h₀ L h nx → wpAny (model prog w) A (execs orelse env) Q E { s with heap := h, toks := tk }) :
    wpAny (model prog w) A (pyIter (.ref I)) (fun it s₂ => LoopT prog w A h₀ env target body orelse Q E it s₂) E s := by
  subst hLe
  obtain ⟨k, hk⟩ := hdt
  have hIx := N _ (List.mem_cons_self ..)
  have hax := N _ (List.mem_cons_of_mem _ hm)
  have hl : s.heap.IsList l vs.toArray := ⟨ol, hax.1, hc, k, hk⟩
  have hit : s.heap.IsRevIter I l ((vs.length : Int) - 1) := ⟨_, hIx.1, rfl, rfl⟩
  refine wpAny_pyIter_revIter hit ?_
  have W := Walks.listRev (prog := prog) (w := w) hh I l (hoff _ hm) vs.toArray
  have hlen : vs.toArray.size = vs.length := by simp
  rw [hlen] at W
  refine ⟨I, _, vs.length, _, _, m₀, news, J, rfl, W, ?_, hIx.2.1, hIx.2.2, ?_, ?_, hoff, ⟨Nat.zero_le _, ?_, hl⟩, F, (fun p hp => N p (List.mem_cons_of_mem _ hp)), hj, ?_, done⟩
  · rintro i h ⟨_, ⟨o, ho, _⟩, _⟩; exact ⟨o, ho⟩
  · intro hmm
    rcases List.mem_cons.mp hmm with e | hmm
    · exact hIx.2.1 e.symm
    · exact hax.2.1 (List.mem_singleton.mp hmm).symm
  · intro b hb
    rcases List.mem_cons.mp hb with e | hm'
    · exact .inl e
    · exact .inr (.inr (by rw [List.mem_singleton.mp hm']; exact ⟨ol, hJm⟩))
  · have e : (vs.length : Int) - 1 - ((0 : Nat) : Int) = (vs.length : Int) - 1 := by lia
    rw [e]; exact hit
  · rintro i v m₁ nx oI h tk hin hP hJ hoff F₁ N₁
    exact turn i v m₁ nx _ oI h tk hin (by simpa using hP) hJ hoff F₁ N₁

/-- over a range by ones -/
theorem iterRange {L : Addr} (hLe : env.locals = L) {r : Addr} {a₀ b₀ : Int} {t₀ u₀ v₀ : Tok} {n : Nat} {m₀ : Str → Option Value} {news : List (Addr × Obj)} {h₀ : Heap} (J : Nat → (Str → Option Value) → List (Addr × Obj) → Prop)
    (hh : A.handled = none) (hr : IsRange s.heap r a₀ b₀ 1 t₀ u₀ v₀) (hsmall : Builtin.Range.small a₀ b₀ 1 = true) (hn : Builtin.Range.rangeSize a₀ b₀ 1 = (n : Int)) (F : Fr h₀ L s.heap m₀) (N : News h₀ L s.heap news) (hj : J 0 m₀ news)
    (turn : ∀ i t m₁ nx I oI h tk, i < n → J i m₁ nx → (∀ p ∈ nx, p.1 ≠ I) → Fr h₀ L h m₁ → News h₀ L h (nx ++ [(I, oI)]) →
      wpAny (model prog w) A (assign target env (.int (a₀ + (i : Int)) t)) (fun _ s' => wpAny (model prog w) A (execs body env) (TurnEnd h₀ L I oI (J (i + 1)) { s with heap := h, toks := tk } Q) E s') E { s with heap := h, toks := tk })
    (done : ∀ m₁ nx h tk, J n m₁ nx → Fr h₀ L h m₁ → News h₀ L h nx → wpAny (model prog w) A (execs orelse env) Q E { s with heap := h, toks := tk }) :
    wpAny (model prog w) A (pyIter (.ref r)) (fun it s₂ => LoopT prog w A h₀ env target body orelse Q E it s₂) E s := by
  subst hLe
  refine wpAny_pyIter_range hr hsmall ?_
  have W : Walks prog w A s.heap.objs.size [s.heap.objs.size] [s.heap.objs.size] n (fun i v => i < n ∧ ∃ t, v = .int (a₀ + i * 1) t)
      (fun i h => IsRangeIter h s.heap.objs.size (a₀ + (i : Nat) * 1) ((n : Int) - (i : Nat)) 1) := (Walks.range hh _ a₀ 1 n).bound
  refine ⟨s.heap.objs.size, _, n, _, _, m₀, news, J, rfl, W, ?_, Nat.ne_of_gt F.ns.lt, next_is_new F, ?_, ?_, ?_, (by show IsRangeIter _ _ _ _ _; rw [hn]; simpa using Heap.get?_push_size _ rfl), F.push _, (fun p hp => ⟨Heap.get?_push_of_some _ (N p hp).1, (N p hp).2⟩), hj, ?_, done⟩
  · intro i h hi; exact ⟨_, hi⟩
  · intro hm
    exact absurd F.ns.lt ((List.mem_singleton.mp hm) ▸ Nat.lt_irrefl _)
  · intro b hb
    exact .inl (List.mem_singleton.mp hb)
  · intro p hp e
    exact absurd (Heap.lt_size (N p hp).1) (e ▸ Nat.lt_irrefl _)
  · rintro i v m₁ nx oI h tk hi ⟨_, t, rfl⟩ hJ hoff F₁ N₁
    have e1 : a₀ + (i : Int) * 1 = a₀ + (i : Int) := by lia
    rw [e1]
    exact turn i t m₁ nx _ oI h tk hi hJ hoff F₁ N₁
end

def WhileEnd (h₀ : Heap) (L : Addr) (J : (Str → Option Value) → List (Addr × Obj) → Prop) (s₁ : Shared) (Q : Flow → Shared → Prop) (f : Flow) (s₂ : Shared) : Prop :=
  match f with
  | .ret v => Q (.ret v) s₂
  | .brk => Q .next s₂
  | _ => ∃ h' tk' m' nx news', s₂ = { s₁ with heap := h', toks := tk' } ∧ Fr h₀ L h' m' ∧ News h₀ L h' news' ∧ (∀ p ∈ nx, p ∈ news') ∧ J m' nx
theorem while_next {h₀ h' : Heap} {L : Addr} {J : (Str → Option Value) → List (Addr × Obj) → Prop} {s₁ : Shared} {Q : Flow → Shared → Prop} {tk' : Nat} {m' : Str → Option Value} {nx news' : List (Addr × Obj)}
    (F : Fr h₀ L h' m') (N : News h₀ L h' news') (hJ : J m' nx) (sub : ∀ p ∈ nx, p ∈ news') : WhileEnd h₀ L J s₁ Q .next { s₁ with heap := h', toks := tk' } :=
  ⟨h', tk', m', nx, news', rfl, F, N, sub, hJ⟩
section
variable {prog : Program} {w : World} {A : Around} {s : Shared} {env : Env} {E : Value → Shared → Prop} {Q : Flow → Shared → Prop} {test : Expr} {body orelse : List Stmt} {pos : Pos}
theorem whileT {h₀ : Heap} {L : Addr} {m₀ : Str → Option Value} {news : List (Addr × Obj)} (J : Nat → (Str → Option Value) → List (Addr × Obj) → Prop) (k₀ : Nat)
    (F : Fr h₀ L s.heap m₀) (N : News h₀ L s.heap news) (hj : J k₀ m₀ news)
    (turn : ∀ k m nx h tk, J k m nx → Fr h₀ L h m → News h₀ L h nx →
      wpAny (model prog w) A (isTrue test env (eval test env)) (fun b s₁ => if b = true then wpAny (model prog w) A (execs body env) (WhileEnd h₀ L (fun m' nx' => ∃ j, j < k ∧ J j m' nx') s Q) E s₁
        else wpAny (model prog w) A (execs orelse env) Q E s₁) E { s with heap := h, toks := tk })
    (hE : PassesOwn (model prog w) A env E) :
    wpAny (model prog w) A (exec (.While test body orelse pos) env) Q E s := by
  refine wpAny_While (codeAny_whileLoop (fun k s' => ∃ h' tk m' nx, s' = { s with heap := h', toks := tk } ∧ Fr h₀ L h' m' ∧ News h₀ L h' nx ∧ J k m' nx) ?_ k₀ ⟨s.heap, s.toks, m₀, news, rfl, F, N, hj⟩)
  rintro k s' ⟨h', tk, m', nx, rfl, F', N', hJ⟩
  refine wpAny_passesOwn hE (wpAny_mono (turn k m' nx h' tk hJ F' N') (fun b s₁ h₁ => ?_) fun _ _ e => e)
  cases b with
  | false =>
    simp only [Bool.false_eq_true, if_false] at h₁ ⊢
    exact wpAny_passesOwn hE (wpAny_mono h₁ (fun _ _ x => x) fun _ _ e => e)
  | true =>
    simp only [if_true] at h₁ ⊢
    refine wpAny_passesOwn hE (wpAny_mono h₁ (fun f s₂ h₂ => ?_) fun _ _ e => e)
    have fin : (∃ h' tk' m' nx news', s₂ = { s with heap := h', toks := tk' } ∧ Fr h₀ L h' m' ∧ News h₀ L h' news' ∧ (∀ p ∈ nx, p ∈ news') ∧ ∃ j, j < k ∧ J j m' nx) →
        ∃ j, j < k ∧ ∃ h' tk m' nx, s₂ = { s with heap := h', toks := tk } ∧ Fr h₀ L h' m' ∧ News h₀ L h' nx ∧ J j m' nx := by
      rintro ⟨h', tk', m₂, nx₂, news₂, rfl, F₂, N₂, hsub, j, hj, hJ₂⟩
      exact ⟨j, hj, h', tk', m₂, nx₂, rfl, F₂, fun p hp => N₂ p (hsub p hp), hJ₂⟩
    cases f with
    | ret v => exact h₂
    | brk => exact h₂
    | next => exact fin h₂
    | cont => exact fin h₂
end
end
section
local macro_rules | `(tactic| omega) => `(tactic| lia)
theorem reg_doubled : True := by
  w_top off
  k_with_none
  (k_with "exec While" => (k_here; refine halt ?_))
  (k_with "exec While Compare cons nil" => (k_here; refine halt ?_))
  (k_with "pyIter ref" => (k_here; refine halt ?_))
  (k_with "exec FunctionDef" => (k_here; refine halt ?_))
  (k_with "call builtin:list.reverse" => (k_here; refine halt ?_))
  (k_with "call builtin:dict.get" => (k_here; refine halt ?_))
  (k_with "call builtin:iter" => (k_here; refine halt ?_))
  (k_with "call builtin:next" => (k_here; refine halt ?_))
  (k_with "exec For" => (k_here; refine forT (by assumption) ?_ (fun _ _ => rfl) (fun _ => rfl) PassesOwn.never))
  (k_with "exec For Name Call cons nil" => (k_here; refine forT (by assumption) ?_ (fun _ _ => rfl) (fun _ => rfl) PassesOwn.never))
  (k_with "exec For Name Name cons nil" => (k_here; refine forT (by assumption) ?_ (fun _ _ => rfl) (fun _ => rfl) PassesOwn.never))
  (k_with "eval Name" => (k_here; k_dflt (refine nameX_L (by assumption) (by first | rfl | assumption) ?_; k_whole)))
  (k_with "execs cons" => ((with_reducible refine wpAny_execs_cons ?_); try dsimp only))
  (k_with "execs nil" => (with_reducible refine wpAny_execs_nil ?_))
  (k_with "storeName" => (k_here; k_dflt (first | (refine storeX_L (by assumption) (by assumption) ?_; k_whole; intro _ _ _; (try k_sweep)) | (refine storeX_C (by k_asm) (by k_asm) (by rfl) (by k_updF) (by k_asm) ?_; k_whole; intro _ _ _ N' d'; (try dsimp only at N'); revert N' d'; intro _ _; (try k_sweep)))))
  (k_with "assign Name" => (k_here; refine wpAny_assign_Name ?_))
  (k_with "binaryOp LShift int int" => (k_here; refine lshift_int (by assumption) (by assumption) ?_))
  exact True.intro
def dblStep (p : List Int × List Int) (x : Int) : List Int × List Int := (p.1 ++ p.2.map (fun y => y + x), p.2 ++ p.1.map (fun y => y + x))
def dbl (ns : List Int) : List Int × List Int := ns.foldl dblStep ([0], [])
theorem dbl_take {ns : List Int} {i : Nat} {x : Int} (h : ns[i]? = some x) : dbl (ns.take (i + 1)) = dblStep (dbl (ns.take i)) x := by
  unfold dbl
  rw [List.take_add_one, h]; simp
theorem ints_at {vs : List Value} {ns : List Int} {i : Nat} {v : Value} (hi : IntsAre vs ns) (hv : vs[i]? = some v) : ∃ n t, ns[i]? = some n ∧ v = .int n t := by
  induction hi generalizing i with
  | nil => simp at hv
  | cons n t _ ih =>
    cases i with
    | zero => simp at hv; exact ⟨n, t, by simp, hv.symm⟩
    | succ i => simpa using ih (by simpa using hv)

theorem dbl_len (ns : List Int) : (dbl ns).1.length + (dbl ns).2.length = 2 ^ ns.length := by
  have key : ∀ (ns : List Int) (p : List Int × List Int), (ns.foldl dblStep p).1.length + (ns.foldl dblStep p).2.length = (p.1.length + p.2.length) * 2 ^ ns.length := by
    intro ns
    induction ns with
    | nil => intro p; simp
    | cons a r ih =>
      intro p
      rw [List.foldl_cons, ih, List.length_cons, Nat.pow_succ]
      simp only [dblStep, List.length_append, List.length_map]
      rw [show p.1.length + p.2.length + (p.2.length + p.1.length) = (p.1.length + p.2.length) * 2 by lia, Nat.mul_assoc, Nat.mul_comm 2]
  have := key ns ([0], [])
  simpa [dbl] using this
theorem dbl_le {ns : List Int} {i : Nat} (h : ns.length ≤ 4) : (dbl (ns.take i)).1.length ≤ 16 ∧ (dbl (ns.take i)).2.length ≤ 16 := by
  have h1 := dbl_len (ns.take i)
  have h2 : (ns.take i).length ≤ 4 := by rw [List.length_take]; lia
  have h3 : 2 ^ (ns.take i).length ≤ 2 ^ 4 := Nat.pow_le_pow_right (by decide) h2
  lia
inductive DblJ (ns : List Int) (L : Addr) (i : Nat) (m : Str → Option Value) (nx : List (Addr × Obj)) : Prop
  | mk (le lo : Nat) (ve vo : List Value) (ke ko : Nat) (os : Obj) (c : Option Value) (q0 : m "even" = some (.ref le)) (q1 : m "odd" = some (.ref lo)) (q2 : IntsAre ve (dbl (ns.take i)).1) (q3 : IntsAre vo (dbl (ns.take i)).2) (q4 : os.data = .cell c) (q5 : nx = [(lo, W.listOf vo.toArray ko), (le, W.listOf ve.toArray ke), (L + 1, os)]) (q6 : @Ne Nat (L + 1) lo) (q7 : @Ne Nat (L + 1) le) (q8 : @Ne Nat lo le) : DblJ ns L i m nx

theorem doubled_spec {w : World} {p : Program} {loose : List Str} {mean : ExcName → Option Value} {mg mb : Str → Option Value}
   {A : Around} {s : Shared} {Q E : Value → Shared → Prop} {l : Addr} {vs : List Value} {ns : List Int}
   (X : (Mine.hd.heap_39 w.params).In s.heap) (T : Top p loose mean mg mb s.heap)
   (hA : A.handled = none) (hd : A.depth ≤ 600) (hu : A.units ≤ 900)
   (hl : s.heap.IsList l vs.toArray) (hi : IntsAre vs ns) (hlen : ns.length ≤ 4)
   (hR : ∀ (r le lo : Nat) (ve vo : List Value) (kr ke ko : Nat) (h' : Heap) (tk' : Nat), Made s.heap h' [(r, tupOf [.ref le, .ref lo] kr), (le, W.listOf ve.toArray ke), (lo, W.listOf vo.toArray ko)] →
     IntsAre ve (sortI (dbl ns).1) → IntsAre vo (sortI (dbl ns).2) → Q (.ref r) { s with heap := h', toks := tk' }) :
   wpAny (model PR w) A (call (.ref 116) [.ref l]) Q E s := by
  refine ask_in ?_
  k_fill
  intro _
  refine at_mono 600 900 hA hd hu ?_
  have ho := X 116 _ rfl
  (refine' wpAny_call (call_cellsN_ret ?hroom (by assumption) ?hdata (Top.nolimit (by assumption)) ?hcd ?hbind ?hkind ?hnd ?_ ?hco ?hgen ?hk); (case hdata => exact rfl); (case hroom => exact Nat.le_of_ble_eq_true rfl); (case hcd => exact codeRec_of (by assumption) rfl); (case hbind => exact rfl); (case hkind => exact (kindsX (by rfl) _)); (case hnd => decide); (case hco => exact rfl); (case hgen => exact rfl); (case hk => exact rfl))
  intro h₁ tk cells F N C
  clear ho
  generalize hL : s.heap.objs.size = L at *
  generalize hh0 : s.heap = h₀ at *
  obtain ⟨o1, rfl, d1⟩ := C.one
  clear C
  k_steps
  refine iterBase (L := L) rfl (DblJ ns L) rfl hl (by assumption) (by assumption) ?_ ?_ ?_
  · exact ⟨_, _, _, _, _, _, _, _, rfl, rfl, .cons _ _ .nil, .nil, d1, rfl, by lia, by lia, by lia⟩
  · rintro i v m₁ nx I oI h tk hv ⟨le, lo, ve, vo, ke, ko, os, c, me, mo, ie, io, hos, rfl, g1, g2, g3⟩ hne F N
    obtain ⟨x, t, hx, rfl⟩ := ints_at hi hv
    simp only [List.cons_append, List.nil_append] at N
    have hI := gnNe_of hne
    simp only [GnNe, and_true] at hI
    clear hne
    have hve : ve.length ≤ 16 := by rw [ie.length]; exact (dbl_le hlen).1
    have hvo : vo.length ≤ 16 := by rw [io.length]; exact (dbl_le hlen).2
    replace F := Fr.known0 (Fr.known0 F mo) (n := "even") me
    k_steps
    refine' turn_next (by assumption) (by assumption) ?J ?s ?m ?n
    case' J => refine ⟨_, _, _, _, ?ke, ?ko, _, _, rfl, rfl, by rw [dbl_take hx]; assumption, by rw [dbl_take hx]; assumption, by assumption, rfl, by lia, by lia, by lia⟩
    case s => kcf_all
    case m => kcf_m
    case n => k_all
  · rintro m₁ nx h tk ⟨le, lo, ve, vo, ke, ko, os, c, me, mo, ie, io, hos, rfl, g1, g2, g3⟩ F N
    have hve : ve.length ≤ 16 := by rw [ie.length]; exact (dbl_le hlen).1
    have hvo : vo.length ≤ 16 := by rw [io.length]; exact (dbl_le hlen).2
    rw [hi.length, List.take_length] at ie io
    have hd1 := dbl_le (i := ns.length) hlen
    rw [List.take_length] at hd1
    obtain ⟨hd1, hd2⟩ := hd1
    replace F := Fr.known0 (Fr.known0 F mo) (n := "even") me
    k_steps
    refine' hR _ _ _ _ _ _ _ _ _ _ (made_of (by assumption) (by assumption) ?s) ?e ?o
    case s => kcf_all
    case e => rw [← sortI_of (l := (dbl ns).1) (by assumption) (by assumption)]; assumption
    case o => rw [← sortI_of (l := (dbl ns).2) (by assumption) (by assumption)]; assumption
end
section
local macro_rules | `(tactic| omega) => `(tactic| lia)
theorem reg_pairs : True := by
  w_top off
  k_with_none
  (k_with "exec While" => (k_here; refine halt ?_))
  (k_with "exec While Compare cons nil" => (k_here; refine halt ?_))
  (k_with "pyIter ref" => (k_here; refine halt ?_))
  (k_with "exec FunctionDef" => (k_here; refine halt ?_))
  (k_with "call builtin:list.reverse" => (k_here; refine halt ?_))
  (k_with "call builtin:dict.get" => (k_here; refine halt ?_))
  (k_with "call builtin:iter" => (k_here; refine halt ?_))
  (k_with "call builtin:next" => (k_here; refine halt ?_))
  (k_with "exec For" => (k_here; refine forT (by assumption) ?_ (fun _ _ => rfl) (fun _ => rfl) PassesOwn.never))
  (k_with "exec For Name Call cons nil" => (k_here; refine forT (by assumption) ?_ (fun _ _ => rfl) (fun _ => rfl) PassesOwn.never))
  (k_with "exec For Name Name cons nil" => (k_here; refine forT (by assumption) ?_ (fun _ _ => rfl) (fun _ => rfl) PassesOwn.never))
  (k_with "eval Name" => (k_here; k_dflt (refine nameX_L (by assumption) (by first | rfl | assumption) ?_; k_whole)))
  (k_with "execs cons" => ((with_reducible refine wpAny_execs_cons ?_); try dsimp only))
  (k_with "execs nil" => (with_reducible refine wpAny_execs_nil ?_))
  (k_with "storeName" => (k_here; k_dflt (first | (refine storeX_L (by assumption) (by assumption) ?_; k_whole; intro _ _ _; (try k_sweep)) | (refine storeX_C (by k_asm) (by k_asm) (by rfl) (by k_updF) (by k_asm) ?_; k_whole; intro _ _ _ N' d'; (try dsimp only at N'); revert N' d'; intro _ _; (try k_sweep)))))
  (k_with "assign Name" => (k_here; refine wpAny_assign_Name ?_))
  (k_with "binaryOp LShift int int" => (k_here; refine lshift_int (by assumption) (by assumption) ?_))
  (k_with "subscriptTail Name BinOp ref int" => (k_here; k_dflt (refine ksa_sub (by assumption) (by k_mem) (by assumption) (by assumption) (by assumption) (by lia) ?_; k_whole); intro _))
  (k_with "setItem ref int int" => (k_here; k_dflt (refine ksa_set (by assumption) (by assumption) (by k_upd) (by assumption) (by assumption) (by assumption) (by lia) ?_; k_whole); intro _ _ _ _ _ _; (try k_sweep)))
  (k_with "subscriptTail Name UnaryOp ref int" => (k_here; k_dflt (refine item_list_ints_neg (by exact News.isList (by assumption) (by k_mem)) (by assumption) (by decide) (by exact pairs_neg (by assumption)) (by decide) ?_; k_whole); intro _))
  (k_with "call builtin:list.pop" => (k_here; k_dflt (refine kpa_pop (by assumption) (by assumption) (by k_upd) (by assumption) (by exact pairs_pos (by assumption) (by assumption)) (by kpa_room) ?_; k_whole); (intro _ _ _ N' hI'; (try dsimp only [List.nil_append, List.cons_append] at N'); revert N' hI'; intro _ _)))
  exact True.intro
def incAt (t : List Int) (i : Int) : List Int := t.set i.toNat (t.getD i.toNat 0 + 1)
def pairsIn (ns : List Int) (j : Nat) (t : List Int) (k : Nat) : List Int := (List.range k).foldl (fun t k => incAt t (ns.getD j 0 + ns.getD k 0)) t
def pairsOut (ns : List Int) (M : Int) (j : Nat) : List Int := (List.range j).foldl (fun t j => pairsIn ns j t j) (List.replicate (2 * M + 1).toNat 0)
def trim (l : List Int) : List Int := (l.reverse.dropWhile (· == 0)).reverse
theorem trim_z (xs : List Int) : trim (xs ++ [0]) = trim xs := by simp [trim]
theorem trim_nz (xs : List Int) {x : Int} (h : x ≠ 0) : trim (xs ++ [x]) = xs ++ [x] := by simp [trim, h]
theorem snoc_of {cs : List Int} (h : decide (cs = []) = false) : ∃ xs x, cs = xs ++ [x] := by
  rcases List.eq_nil_or_concat cs with e | ⟨xs, x, e⟩
  · rw [e] at h; cases h
  · exact ⟨xs, x, by rw [e]; simp⟩
theorem trim_last {cs : List Int} (h : decide (cs = []) = false) (hl : cs.getD ((-1 : Int) + (cs.length : Nat)).toNat 0 = 0) : trim cs.dropLast = trim cs := by
  obtain ⟨xs, x, rfl⟩ := snoc_of h
  rw [getD_last] at hl
  rw [hl, trim_z]; simp
theorem trim_keep {cs : List Int} (h : decide (cs = []) = false) (hl : cs.getD ((-1 : Int) + (cs.length : Nat)).toNat 0 ≠ 0) : trim cs = cs := by
  obtain ⟨xs, x, rfl⟩ := snoc_of h
  rw [getD_last] at hl
  exact trim_nz xs hl
theorem trim_none {cs : List Int} (h : decide (cs = []) = true) : trim cs = cs := by
  rw [of_decide_eq_true h]; rfl

theorem pairs_neg {cs : List Int} (h : decide (cs = []) = false) : -(cs.length : Int) ≤ -1 := by
  cases cs with
  | nil => cases h
  | cons a r => rw [List.length_cons]; lia
theorem pairs_pos {vs : List Value} {cs : List Int} (h : decide (cs = []) = false) (hi : IntsAre vs cs) : 0 < vs.length := by
  have := pairs_neg h
  rw [hi.length]; lia
theorem incAt_len (t : List Int) (i : Int) : (incAt t i).length = t.length := by simp [incAt]
theorem pairsIn_len (ns : List Int) (j : Nat) (t : List Int) (k : Nat) : (pairsIn ns j t k).length = t.length := by
  unfold pairsIn
  induction k with
  | zero => rfl
  | succ k ih => rw [List.range_succ, List.foldl_append]; simp only [List.foldl_cons, List.foldl_nil, incAt_len, ih]
theorem pairsIn_succ (ns : List Int) (j : Nat) (t : List Int) (k : Nat) : pairsIn ns j t (k + 1) = incAt (pairsIn ns j t k) (ns.getD j 0 + ns.getD k 0) := by
  unfold pairsIn; rw [List.range_succ, List.foldl_append]; rfl
theorem pairsOut_succ (ns : List Int) (M : Int) (j : Nat) : pairsOut ns M (j + 1) = pairsIn ns j (pairsOut ns M j) j := by
  unfold pairsOut; rw [List.range_succ, List.foldl_append]; rfl
theorem pairsOut_len (ns : List Int) (M : Int) (j : Nat) : (pairsOut ns M j).length = (2 * M + 1).toNat := by
  induction j with
  | zero => simp [pairsOut]
  | succ j ih => rw [pairsOut_succ, pairsIn_len, ih]
theorem getD_mem {ns : List Int} {j : Nat} (h : j < ns.length) : ns.getD j 0 ∈ ns := by
  rw [List.getD_eq_getElem?_getD, List.getElem?_eq_getElem h]; exact List.getElem_mem h
theorem pairs_idx {ns : List Int} {M : Int} {j k : Nat} {t : List Int} (hb : ∀ x ∈ ns, 0 ≤ x ∧ x ≤ M) (hj : j < ns.length) (hk : k < ns.length) (ht : t.length = (2 * M + 1).toNat) :
    0 ≤ ns.getD (0 + (j : Int)).toNat 0 + ns.getD (0 + (k : Int)).toNat 0 ∧ ns.getD (0 + (j : Int)).toNat 0 + ns.getD (0 + (k : Int)).toNat 0 < (t.length : Int) := by
  have e1 : (0 + (j : Int)).toNat = j := by lia
  have e2 : (0 + (k : Int)).toNat = k := by lia
  rw [e1, e2, ht]
  have h1 := hb _ (getD_mem hj)
  have h2 := hb _ (getD_mem hk)
  lia
theorem pairs_turn {ns : List Int} {M : Int} {j k : Nat} : pairsIn ns j (pairsOut ns M j) (k + 1) =
    (pairsIn ns j (pairsOut ns M j) k).set (ns.getD (0 + (j : Int)).toNat 0 + ns.getD (0 + (k : Int)).toNat 0).toNat ((pairsIn ns j (pairsOut ns M j) k).getD (ns.getD (0 + (j : Int)).toNat 0 + ns.getD (0 + (k : Int)).toNat 0).toNat 0 + 1) := by
  have e1 : (0 + (j : Int)).toNat = j := by lia
  have e2 : (0 + (k : Int)).toNat = k := by lia
  rw [e1, e2, pairsIn_succ]; rfl
theorem pairs_start {ns : List Int} {M : Int} : pairsOut ns M 0 = (List.replicate (2 * M + 1).toNat [0]).flatten := by simp [pairsOut]
inductive PairsJ (ns : List Int) (M : Int) (L l : Addr) (i : Nat) (m : Str → Option Value) (nx : List (Addr × Obj)) : Prop
  | mk (lt : Nat) (vt : List Value) (kt : Nat) (q0 : m "told" = some (.ref lt)) (q1 : m "row" = some (.ref l)) (q2 : IntsAre vt (pairsOut ns M i)) (q3 : nx = [(lt, W.listOf vt.toArray kt)]) : PairsJ ns M L l i m nx

inductive PairsK (ns : List Int) (M : Int) (L l I : Addr) (oI : Obj) (j : Nat) (t : Tok) (k : Nat) (m : Str → Option Value) (nx : List (Addr × Obj)) : Prop
  | mk (lt : Nat) (vt : List Value) (kt : Nat) (q0 : m "told" = some (.ref lt)) (q1 : m "row" = some (.ref l)) (q2 : m "j" = some (.int (0 + (j : Int)) t)) (q3 : IntsAre vt (pairsIn ns j (pairsOut ns M j) k)) (q4 : nx = [(lt, W.listOf vt.toArray kt), (I, oI)]) (q5 : @Ne Nat lt I) : PairsK ns M L l I oI j t k m nx

inductive PairsW (full : List Int) (k : Nat) (m : Str → Option Value) (nx : List (Addr × Obj)) : Prop
  | mk (lt : Nat) (vt : List Value) (kt : Nat) (cs : List Int) (q0 : m "told" = some (.ref lt)) (q1 : IntsAre vt cs) (q2 : cs.length = k) (q3 : k ≤ 57) (q4 : trim cs = trim full) (q5 : nx = [(lt, W.listOf vt.toArray kt)]) : PairsW full k m nx

theorem pairs_spec {w : World} {p : Program} {loose : List Str} {mean : ExcName → Option Value} {mg mb : Str → Option Value}
   {A : Around} {s : Shared} {Q E : Value → Shared → Prop} {l : Addr} {vs : List Value} {ns : List Int} {M : Int} {tM : Tok}
   (X : (Mine.hd.heap_39 w.params).In s.heap) (T : Top p loose mean mg mb s.heap)
   (hA : A.handled = none) (hd : A.depth ≤ 600) (hu : A.units ≤ 900)
   (hl : s.heap.IsList l vs.toArray) (hi : IntsAre vs ns) (hlen : ns.length ≤ 8) (hM : 0 ≤ M ∧ M ≤ 28) (hb : ∀ x ∈ ns, 0 ≤ x ∧ x ≤ M)
   (hR : ∀ (r : Nat) (ve : List Value) (kr : Nat) (h' : Heap) (tk' : Nat), Made s.heap h' [(r, W.listOf ve.toArray kr)] →
     IntsAre ve (trim (pairsOut ns M ns.length)) → Q (.ref r) { s with heap := h', toks := tk' }) :
   wpAny (model PR w) A (call (.ref 123) [.ref l, .int M tM]) Q E s := by
  refine ask_in ?_
  k_fill
  intro _
  refine at_mono 600 900 hA hd hu ?_
  have ho := X 123 _ rfl
  (refine' wpAny_call (call_plain_ret ?hroom (by assumption) ?hdata (Top.nolimit (by assumption)) ?hcd ?hbind ?hloc ?_ ?hco ?hgen ?hk ?hcell); (case hdata => exact rfl); (case hroom => exact Nat.le_of_ble_eq_true rfl); (case hcd => exact codeRec_of (by assumption) rfl); (case hbind => exact rfl); (case hloc => exact locs rfl); (case hco => exact rfl); (case hgen => exact rfl); (case hk => exact rfl); (case hcell => decide))
  intro h₁ F
  have N : News s.heap s.heap.objs.size h₁ [] := News.nil
  clear ho
  generalize hL : s.heap.objs.size = L at *
  generalize hh0 : s.heap = h₀ at *
  have hlv := hi.length
  obtain ⟨hM0, hM1⟩ := hM
  k_steps
  refine' iterRange (L := L) rfl (n := ns.length) (PairsJ ns M L l) rfl (by assumption) (small_one (by lia) (by lia) (by lia) (by lia)) (rangeSize_nat _ _) (by assumption) (cb_drop (by assumption) ?sub) ?J0 ?turn ?done
  case' J0 => refine ⟨_, _, ?kt, rfl, rfl, (by rw [pairs_start]; assumption), rfl⟩
  case sub => kcf_all
  case turn =>
    rintro j t m₁ nx I oI h tk hj ⟨lt, vt, kt, mt, mr, it, rfl⟩ hne F N
    have hI := gnNe_of hne
    simp only [GnNe, and_true] at hI
    clear hne
    simp only [List.cons_append, List.nil_append] at N
    replace F := Fr.known0 (Fr.known0 F mr) (n := "told") mt
    k_steps
    refine' iterRange (L := L) rfl (n := j) (PairsK ns M L l I oI j t) rfl (by assumption) (small_one (by lia) (by lia) (by lia) (by lia)) (by rw [rangeSize_nat]; lia) (by assumption) (by assumption) ?K0 ?Kt ?Kd
    case K0 => exact ⟨_, _, _, rfl, rfl, rfl, it, rfl, hI⟩
    case Kt =>
      rintro k t' m₁ nx I' oI' h tk hk ⟨lt, vt, kt, mt, mr, mj, it, rfl, hI⟩ hne F N
      have hI' := gnNe_of hne
      simp only [GnNe, and_true] at hI'
      clear hne
      simp only [List.cons_append, List.nil_append] at N
      replace F := Fr.known0 (Fr.known0 (Fr.known0 F mj) (n := "row") mr) (n := "told") mt
      have hlt := pairsIn_len ns j (pairsOut ns M j) k
      rw [pairsOut_len] at hlt
      obtain ⟨hx0, hx1⟩ := pairs_idx (k := k) hb hj (by lia) hlt
      k_steps
      refine' turn_next (by assumption) (by assumption) ?Tj ?Ts ?Tm ?Tn
      case' Tj => refine ⟨_, _, ?Tk, rfl, rfl, rfl, by rw [pairs_turn]; assumption, rfl, by lia⟩
      case Ts => kcf_all
      case Tm => kcf_m
      case Tn => k_all
    case Kd =>
      rintro m₁ nx h tk ⟨lt, vt, kt, mt, mr, mj, it, rfl, hI⟩ F N
      replace F := Fr.known0 (Fr.known0 F mr) (n := "told") mt
      k_steps
      refine' turn_next (by assumption) (by assumption) ?Uj ?Us ?Um ?Un
      case' Uj => refine ⟨_, _, ?Uk, rfl, rfl, by rw [pairsOut_succ]; assumption, rfl⟩
      case Us => kcf_all
      case Um => kcf_m
      case Un => k_all
  case done =>
    rintro m₁ nx h tk ⟨lt, vt, kt, mt, mr, it, rfl⟩ F N
    replace F := Fr.known0 (Fr.known0 F mr) (n := "told") mt
    k_steps
    have hfl := pairsOut_len ns M ns.length
    refine' whileT (PairsW (pairsOut ns M ns.length)) _ (by assumption) (by assumption) ⟨_, _, _, _, rfl, it, rfl, (by lia), rfl, rfl⟩ ?Wt PassesOwn.never
    case Wt =>
      rintro k m nx h tk ⟨lt, vt, kt, cs, mt, it, hk, hk7, htr, rfl⟩ F N
      replace F := Fr.known0 F mt
      have hvl := it.length
      k_steps
      · refine' hR _ _ _ _ _ (made_of (by assumption) (by assumption) ?s1) ?e1
        case s1 => kcf_all
        case e1 => rw [← htr, trim_none (by assumption)]; assumption
      · refine' while_next (by assumption) (by assumption) ?Vj ?Vs
        case' Vj => refine ⟨_, ?_, _, _, ?Vk, _, rfl, by assumption, rfl, ?_, (trim_last (by assumption) (by assumption)).trans htr, rfl⟩
        case Vs => kcf_all
        all_goals (have := pairs_neg (cs := cs) (by assumption); rw [List.length_dropLast]; lia)
      · refine' hR _ _ _ _ _ (made_of (by assumption) (by assumption) ?s2) ?e2
        case s2 => kcf_all
        case e2 => rw [← htr, trim_keep (by assumption) (by assumption)]; assumption
end
section
/-- a code's table of the defs that its body makes: none made yet, or the one -/
def TabS (P : Addr) (line col : Int) (qual : Str) (h : Heap) (ps : Array Value) : Prop :=
  h.get? P = some (tabObj ps) ∧ (ps = #[] ∨ ∃ c', ps = #[rawInt line, rawInt col, .ref c'] ∧ h.CodeRec (.ref c') qual)
def KeepBut (bs : List Addr) (h h' : Heap) : Prop := ∀ b o, b ∉ bs → h.get? b = some o → h'.get? b = some o
theorem KeepBut.trans {bs : List Addr} {a b c : Heap} (x : KeepBut bs a b) (y : KeepBut bs b c) : KeepBut bs a c := fun p o n e => y p o n (x p o n e)
theorem CodeRec.but {d : Addr} {h h' : Heap} {cd : Value} {q : Str} {its : Array Value} {k : Nat} (x : h.CodeRec cd q) (hk : KeepBut [d] h h') (hd : h.get? d = some (W.listOf its k)) : h'.CodeRec cd q := by
  obtain ⟨c, o, vs, t, e1, e2, e3, e4⟩ := x
  refine ⟨c, o, vs, t, e1, hk _ _ (fun q => ?_) e2, e3, e4⟩
  rw [List.mem_singleton.mp q, hd] at e2
  cases e2; cases e3

section
variable {prog : Program} {w : World} {A : Around} {s : Shared} {R : Result → Shared → Prop} {name qual : Str} {params : Arguments} {body : List Stmt} {scope : Scope} {cl : List (Str × Addr)} {dV kV doc pm cdv ct : Value} {an : Option Addr} {fo : Obj} {f : Addr} {args : Args} {binds : List (Str × Value)}
theorem call_clos_ret (hroom : A.depth < recursionLimit) (ho : s.heap.get? f = some fo) (hd : fo.data = .func (fnX name qual params body scope cl dV kV doc pm an cdv ct)) (hlim : s.heap.NoLimit) (hcd : s.heap.CodeRec cdv qual)
    (hbind : BindsTo s (fnX name qual params body scope cl dV kV doc pm an cdv ct) args binds) (hloc : ∀ y ∈ binds, scope.names.lookup y.1 = some .local)
    (h : ∀ h₁, Fr s.heap s.heap.objs.size h₁ (fun y => binds.reverse.lookup y) →
      wpAny (model prog w) (A.deeper (envX qual scope s.heap.objs.size f cdv cl)) (execs body (envX qual scope s.heap.objs.size f cdv cl))
        (fun fl s' => R (.ok (.ret (match fl with | .ret v => v | _ => .none))) s') (fun _ _ => False) { s with heap := h₁, toks := s.toks + binds.length })
    (hcell : ∀ x ∈ scope.names, x.2 ≠ .cell) (hco : scope.isCoroutine = false) (hgen : scope.isGenerator = false) (hk : scope.kind = .function) : codeAny (model prog w) A (.call (.ref f) args) R s := by
  refine codeAny_call_def (fd := fnX name qual params body scope cl dV kV doc pm an cdv ct) (body := body) (binds := binds) hroom ho hd hlim hcd rfl hbind hcell hloc (fun h₁ hns hk₁ => ?_) hco hgen hk
  exact wpAny_mono (h h₁ ⟨hns, hk₁, Nat.le_refl _⟩) (fun _ _ x => x) fun _ _ x => x.elim
end

section
variable {M : Model} {A : Around} {E : Value → Shared → Prop} {s : Shared} {h₀ : Heap} {L a : Addr} {m mg mb : Str → Option Value} {cn : Str} {cs : Scope} {ccd : Value} {cl : List (Str × Addr)} {p : Program} {loose : List Str} {mean : ExcName → Option Value}
  {news : List (Addr × Obj)} {g : Obj → List (Addr × Obj)} {name qual : Str} {params : Arguments} {body : List Stmt} {scope : Scope} {clos : List (Str × Addr)} {c P : Addr} {ps : Array Value} {pos : Pos} {firstLine : Nat}
theorem nest_both {Q : Value → Shared → Prop} (F : Fr h₀ L s.heap m) (N : News h₀ L s.heap news) (T : Top p loose mean mg mb h₀) (C : CodeHd h₀ c P) (hcd : ccd = .ref c) (U : UpdF P (tabObj ps) news g)
    (hps : ps = #[] ∨ ∃ c', ps = #[rawInt pos.line, rawInt pos.col, .ref c'] ∧ h₀.CodeRec (.ref c') qual)
    (hcl : closureFor scope (envX cn cs L a ccd cl) = pure clos)
    (h : ∀ f c' ctv doc e1 e2 h' tk, Fr h₀ L h' m → News h₀ L h' ((f, fnMade name qual params body scope clos doc ((mg "__name__").getD .none) c' ctv) :: (e1, e2) :: g (tabObj #[rawInt pos.line, rawInt pos.col, .ref c'])) →
      (∀ h₂ m₂ N₂, Fr h₀ L h₂ m₂ → News h₀ L h₂ N₂ → (e1, e2) ∈ N₂ → h₂.CodeRec (.ref c') qual) → (∀ q ∈ news, q.1 < f) → (∀ q ∈ news, q.1 < e1) → Q (.ref f) { s with heap := h', toks := tk }) :
    wpAny M A (makeFunction name qual params (.stmts body) scope (envX cn cs L a ccd cl) [] [] [] pos firstLine) Q E s := by
  rcases hps with rfl | ⟨c', rfl, hrec⟩
  · refine nest_K F N T C hcd U (by simp [TriplesOk]) rfl hcl fun f c' oc vs t ctv doc h' tk F' N' d1 d2 l1 l2 => ?_
    refine h f c' ctv doc c' oc h' tk F' (fun q hq => N' q ?_) ?_ (fun q hq => Nat.lt_trans (l1 q hq) l2) l1
    · rcases List.mem_cons.mp hq with rfl | hq
      · exact List.mem_cons_self
      · rcases List.mem_cons.mp hq with rfl | hq
        · exact List.mem_cons_of_mem _ List.mem_cons_self
        · exact List.mem_cons_of_mem _ (List.mem_cons_of_mem _ (by simpa using hq))
    · exact fun h₂ m₂ N₂ _ N2 hm => codeRec_news N2 hm d1 d2
  · obtain ⟨own, rest, e, hgr, h1, h2⟩ := U.split
    refine nestHit_K (ps := #[rawInt pos.line, rawInt pos.col, .ref c']) (c' := c') F N T C hcd (by rw [e]; exact List.mem_append_right _ (.head _)) (by simp [TriplesOk, rawInt]) (by simp [codeAmong, rawInt]) hcl fun f ctv doc h' tk F' N' l1 => ?_
    refine h f c' ctv doc f (fnMade name qual params body scope clos doc ((mg "__name__").getD .none) c' ctv) h' tk F' (fun q hq => N' q ?_) (fun h₂ m₂ N₂ F2 _ _ => hrec.keeps F2.keep) l1 l1
    rcases List.mem_cons.mp hq with rfl | hq
    · exact List.mem_cons_self
    · rcases List.mem_cons.mp hq with rfl | hq
      · exact List.mem_cons_self
      · rw [hgr, ← e] at hq; exact List.mem_cons_of_mem _ hq
end
theorem Fr.but {h₀ h h' : Heap} {L D : Addr} {m : Str → Option Value} (F : Fr h₀ L h m) (hD : h₀.get? D = none) (hL : L ≠ D) (k : KeepBut [D] h h') : Fr h₀ L h' m :=
  ⟨F.ns.at' fun o e => k _ o (fun q => hL (List.mem_singleton.mp q)) e, fun b o e => k b o (fun q => by rw [List.mem_singleton.mp q, hD] at e; cases e) (F.keep b o e),
    F.above⟩
theorem hide_in {h h₁ : Heap} {L : Addr} {m : Str → Option Value} (F : Fr h L h₁ m) (news : List (Addr × Obj)) (hL : h.objs.size ≤ L) (hn : ∀ p ∈ news, h.get? p.1 = some p.2) :
    Fr (hideAll h (news.map (·.1))) L h₁ m ∧ News (hideAll h (news.map (·.1))) L h₁ news :=
  ⟨⟨F.ns, fun b o e => F.keep b o (of_hideAll _ e), Nat.le_trans (Nat.le_of_eq (hideAll_size _ _)) F.above⟩,
    fun p hp => ⟨F.keep _ _ (hn p hp), Nat.ne_of_lt (Nat.lt_of_lt_of_le (Heap.lt_size (hn p hp)) hL), hideAll_none _ (List.mem_map_of_mem hp)⟩⟩
theorem hide_keep {g h : Heap} (news : List (Addr × Obj)) (k : Keep g h) (hn : ∀ p ∈ news, g.get? p.1 = none) : Keep g (hideAll h (news.map (·.1))) := fun b o e =>
  hideAll_get _ (k b o e) fun q => by
    obtain ⟨p, hp, rfl⟩ := List.mem_map.mp q
    rw [hn p hp] at e; cases e
theorem hide_out {h h' : Heap} {L D : Addr} {m : Str → Option Value} {news N' : List (Addr × Obj)} (F : Fr (hideAll h (news.map (·.1))) L h' m) (hn : ∀ p ∈ news, h.get? p.1 = some p.2)
    (N : News (hideAll h (news.map (·.1))) L h' N') (sub : ∀ p ∈ news, p.1 ≠ D → p ∈ N') : KeepBut [D] h h' := fun b o hb e => by
  by_cases q : b ∈ news.map (·.1)
  · obtain ⟨p, hp, rfl⟩ := List.mem_map.mp q
    rw [hn p hp] at e; cases e
    exact (N p (sub p hp fun z => hb (List.mem_singleton.mpr z))).1
  · exact F.keep _ _ (hideAll_get _ e q)
theorem keep_but {g h h' : Heap} {D : Addr} (k : Keep g h) (hD : g.get? D = none) (b : KeepBut [D] h h') : Keep g h' := fun p o e => b p o (fun q => by rw [List.mem_singleton.mp q, hD] at e; cases e) (k p o e)
theorem News.but {h₀ h h' : Heap} {L D : Addr} {o o' : Obj} {news : List (Addr × Obj)} {g : Obj → List (Addr × Obj)} (N : News h₀ L h news) (U : UpdF D o news g) (k : KeepBut [D] h h') (hD : h'.get? D = some o') : News h₀ L h' (g o') := by
  obtain ⟨pre, post, rfl, e, a, b⟩ := U.split
  rw [e]
  intro p hp
  rcases List.mem_append.mp hp with hp | hp
  · exact ⟨k _ _ (fun q => a p hp (List.mem_singleton.mp q)) (N p (List.mem_append_left _ hp)).1, (N p (List.mem_append_left _ hp)).2⟩
  · rcases List.mem_cons.mp hp with rfl | hp
    · exact ⟨hD, (N (D, o) (List.mem_append_right _ (.head _))).2⟩
    · exact ⟨k _ _ (fun q => b p hp (List.mem_singleton.mp q)) (N p (List.mem_append_right _ (.tail _ hp))).1, (N p (List.mem_append_right _ (.tail _ hp))).2⟩
theorem hide_all {g h h₁ : Heap} {L : Addr} {m : Str → Option Value} {news : List (Addr × Obj)} (F : Fr h L h₁ m) (hL : h.objs.size ≤ L) (k : Keep g h) (D : Addr) (hn : ∀ p ∈ news, h.get? p.1 = some p.2 ∧ g.get? p.1 = none) :
    ∃ B, Fr B L h₁ m ∧ News B L h₁ news ∧ Keep g B ∧ ∀ h' m' N', Fr B L h' m' → News B L h' N' → (∀ p ∈ news, p.1 ≠ D → p ∈ N') → KeepBut [D] h h' := by
  obtain ⟨a, b⟩ := hide_in F news hL fun p hp => (hn p hp).1
  exact ⟨_, a, b, hide_keep news k fun p hp => (hn p hp).2, fun h' m' N' x y z => hide_out x (fun p hp => (hn p hp).1) y z⟩
theorem CodeRec.hide {h : Heap} {P : Addr} {ps : Array Value} {cd : Value} {q : Str} (x : h.CodeRec cd q) (hP : h.get? P = some (tabObj ps)) (hne : ∀ q t, ps[1]? ≠ some (.str q t)) : (hideAll h [P]).CodeRec cd q := by
  obtain ⟨c, o, vs, t, e1, e2, e3, e4⟩ := x
  refine ⟨c, o, vs, t, e1, hideAll_get _ e2 (fun q => ?_), e3, e4⟩
  rw [List.mem_singleton.mp q, hP] at e2
  cases e2; cases e3
  exact hne _ _ e4
theorem tab_but {g1 h₀ h' : Heap} {P L : Addr} {m : Str → Option Value} (e : hideAll g1 [P] = h₀) (F : Fr h₀ L h' m) : KeepBut [P] g1 h' := fun b o hb q => F.keep b o (e ▸ hideAll_get _ q hb)
theorem tab_fresh {g1 h₀ : Heap} {P D : Addr} (e : hideAll g1 [P] = h₀) (hD : h₀.get? D = none) (hlt : P < D) : g1.get? D = none := by
  cases q : g1.get? D with
  | none => rfl
  | some o =>
    have := hideAll_get [P] q (fun z => Nat.ne_of_gt hlt (List.mem_singleton.mp z))
    rw [e, hD] at this; cases this
theorem news_at {h₀ h : Heap} {L b : Addr} {o : Obj} {N : List (Addr × Obj)} (x : News h₀ L h N) (hm : (b, o) ∈ N) : h.get? b = some o := (x _ hm).1
theorem hide_all0 {g h h₁ : Heap} {L : Addr} {m : Str → Option Value} {news : List (Addr × Obj)} (F : Fr h L h₁ m) (hL : h.objs.size ≤ L) (k : Keep g h) (hn : ∀ p ∈ news, h.get? p.1 = some p.2 ∧ g.get? p.1 = none) :
    ∃ B, Fr B L h₁ m ∧ News B L h₁ news ∧ Keep g B ∧ ∀ h' m' N', Fr B L h' m' → News B L h' N' → (∀ p ∈ news, p ∈ N') → Keep h h' := by
  obtain ⟨a, b⟩ := hide_in F news hL fun p hp => (hn p hp).1
  refine ⟨_, a, b, hide_keep news k fun p hp => (hn p hp).2, fun h' m' N' x y z b o e => ?_⟩
  by_cases q : b ∈ news.map (·.1)
  · obtain ⟨p, hp, rfl⟩ := List.mem_map.mp q
    rw [(hn p hp).1] at e; cases e
    exact (y p (z p hp)).1
  · exact x.keep _ _ (hideAll_get _ e q)
theorem all4 {P : Addr × Obj → Prop} {a b c d : Addr × Obj} (ha : P a) (hb : P b) (hc : P c) (hd : P d) : ∀ p ∈ [a, b, c, d], P p := by
  intro p hp
  simp only [List.mem_cons, List.not_mem_nil, or_false] at hp
  rcases hp with rfl | rfl | rfl | rfl <;> assumption
theorem News.keep {h₀ h h' : Heap} {L : Addr} {news : List (Addr × Obj)} (N : News h₀ L h news) (k : Keep h h') : News h₀ L h' news := fun p hp => ⟨k _ _ (N p hp).1, (N p hp).2⟩
theorem hide_allB {g h h₁ : Heap} {L : Addr} {m : Str → Option Value} {news : List (Addr × Obj)} (F : Fr h L h₁ m) (hL : h.objs.size ≤ L) (k : Keep g h) (hn : ∀ p ∈ news, h.get? p.1 = some p.2 ∧ g.get? p.1 = none) :
    ∃ B, Fr B L h₁ m ∧ News B L h₁ news ∧ Keep g B ∧ Keep B h ∧ (∀ a o, h.get? a = some o → a ∉ news.map (·.1) → B.get? a = some o) ∧ ∀ h' m', Fr B L h' m' → KeepBut (news.map (·.1)) h h' := by
  obtain ⟨a, b⟩ := hide_in F news hL fun p hp => (hn p hp).1
  refine ⟨_, a, b, hide_keep news k fun p hp => (hn p hp).2, fun b o e => of_hideAll _ e, fun a o q hm => hideAll_get _ q hm, fun h' m' x b o hb e => x.keep _ _ (hideAll_get _ e hb)⟩
theorem CodeRec.butTab {P : Addr} {h h' : Heap} {cd : Value} {q : Str} {ps : Array Value} (x : h.CodeRec cd q) (hk : KeepBut [P] h h') (hP : h.get? P = some (tabObj ps)) (hne : ∀ q t, ps[1]? ≠ some (.str q t)) : h'.CodeRec cd q := by
  obtain ⟨c, o, vs, t, e1, e2, e3, e4⟩ := x
  refine ⟨c, o, vs, t, e1, hk _ _ (fun q => ?_) e2, e3, e4⟩
  rw [List.mem_singleton.mp q, hP] at e2
  cases e2; cases e3
  exact hne _ _ e4
theorem TabS.ns {P : Addr} {line col : Int} {qual : Str} {h : Heap} {ps : Array Value} (x : TabS P line col qual h ps) : ∀ q t, ps[1]? ≠ some (.str q t) := by
  intro q t
  rcases x.2 with rfl | ⟨c', rfl, _⟩
  · simp
  · simp [rawInt]
theorem TabS.keeps {P : Addr} {line col : Int} {qual : Str} {h h' : Heap} {ps : Array Value} (x : TabS P line col qual h ps) (k : Keep h h') : TabS P line col qual h' ps := by
  refine ⟨k _ _ x.1, ?_⟩
  rcases x.2 with e | ⟨c', e, r⟩
  · exact .inl e
  · exact .inr ⟨c', e, r.keeps k⟩
theorem TabS.but {P P' : Addr} {line col line' col' : Int} {qual qual' : Str} {h h' : Heap} {ps ps' : Array Value} (x : TabS P line col qual h ps) (y : TabS P' line' col' qual' h ps') (hne : P ∉ [P']) (k : KeepBut [P'] h h') : TabS P line col qual h' ps := by
  refine ⟨k _ _ hne x.1, ?_⟩
  rcases x.2 with e | ⟨c', e, r⟩
  · exact .inl e
  · exact .inr ⟨c', e, CodeRec.butTab r k y.1 y.ns⟩
def TabK (B : Heap) (L : Addr) (e : List (Addr × Obj)) (P : Addr) (line col : Int) (qual : Str) (ps : Array Value) : Prop :=
  ∀ h m N, Fr B L h m → News B L h N → (∀ x ∈ e, x ∈ N) → (P, tabObj ps) ∈ N → TabS P line col qual h ps
theorem TabS.base {B h : Heap} {L P : Addr} {line col : Int} {qual : Str} {ps : Array Value} (x : TabS P line col qual h ps) (hB : ∀ c o, h.get? c = some o → (∃ vs t, o.data = .fields vs ∧ vs[1]? = some (.str qual t)) → B.get? c = some o) : TabK B L [] P line col qual ps := by
  intro h' m N F N' _ hm
  refine ⟨(N' _ hm).1, ?_⟩
  rcases x.2 with e | ⟨c', e, r⟩
  · exact .inl e
  · refine .inr ⟨c', e, ?_⟩
    obtain ⟨c, o, vs, t, e1, e2, e3, e4⟩ := r
    exact ⟨c, o, vs, t, e1, F.keep _ _ (hB c o e2 ⟨vs, t, e3, e4⟩), e3, e4⟩
theorem TabS.led {B h : Heap} {L P D : Addr} {oD : Obj} {line col : Int} {qual : Str} {ps : Array Value} {m : Str → Option Value} {N : List (Addr × Obj)} (x : TabS P line col qual h ps) (F : Fr B L h m) (N' : News B L h N) (hD : (D, oD) ∈ N) :
    ∃ e1 e2, News B L h ((e1, e2) :: N) ∧ TabK B L [(e1, e2)] P line col qual ps := by
  have dup : News B L h ((D, oD) :: N) := fun q hq => by
    rcases List.mem_cons.mp hq with rfl | hq
    · exact N' _ hD
    · exact N' _ hq
  obtain ⟨x1, e | ⟨c', e, r⟩⟩ := x
  · exact ⟨D, oD, dup, fun h' m' N2 F2 N3 _ hm => ⟨(N3 _ hm).1, .inl e⟩⟩
  · obtain ⟨c, o, vs, t, e1, e2, e3, e4⟩ := r
    cases e1
    cases q : B.get? c' with
    | some o' =>
      refine ⟨D, oD, dup, fun h' m' N2 F2 N3 _ hm => ⟨(N3 _ hm).1, .inr ⟨c', e, c', o, vs, t, rfl, F2.keep _ _ ?_, e3, e4⟩⟩⟩
      have := F.keep _ _ q
      rw [e2] at this; cases this; exact q
    | none =>
      refine ⟨c', o, fun q' hq => ?_, fun h' m' N2 F2 N3 he hm => ⟨(N3 _ hm).1, .inr ⟨c', e, c', o, vs, t, rfl, (N3 _ (he _ (.head _))).1, e3, e4⟩⟩⟩
      rcases List.mem_cons.mp hq with rfl | hq
      · refine ⟨e2, fun z => ?_, q⟩
        obtain ⟨oL, ob, _, ho, hd, _⟩ := F.ns
        subst z
        rw [e2] at ho; cases ho
        rw [e3] at hd; cases hd
      · exact N' _ hq
theorem TabS.led2 {B h : Heap} {L P D : Addr} {oD : Obj} {line col : Int} {qual : Str} {ps : Array Value} {m : Str → Option Value} {N : List (Addr × Obj)} (x : TabS P line col qual h ps) (F : Fr B L h m) (N' : News B L h N) (hD : (D, oD) ∈ N) {P2 : Addr} {qs : Array Value} (h2 : h.get? P2 = some (tabObj qs)) (hne : ∀ q t, qs[1]? ≠ some (.str q t)) (hD2 : D ≠ P2) :
    ∃ e1 e2, News B L h ((e1, e2) :: N) ∧ TabK B L [(e1, e2)] P line col qual ps ∧ e1 ≠ P2 := by
  have dup : News B L h ((D, oD) :: N) := fun q hq => by
    rcases List.mem_cons.mp hq with rfl | hq
    · exact N' _ hD
    · exact N' _ hq
  obtain ⟨x1, e | ⟨c', e, r⟩⟩ := x
  · exact ⟨D, oD, dup, fun h' m' N2 F2 N3 _ hm => ⟨(N3 _ hm).1, .inl e⟩, hD2⟩
  · obtain ⟨c, o, vs, t, e1, e2, e3, e4⟩ := r
    cases e1
    cases q : B.get? c' with
    | some o' =>
      refine ⟨D, oD, dup, fun h' m' N2 F2 N3 _ hm => ⟨(N3 _ hm).1, .inr ⟨c', e, c', o, vs, t, rfl, F2.keep _ _ ?_, e3, e4⟩⟩, hD2⟩
      have := F.keep _ _ q
      rw [e2] at this; cases this; exact q
    | none =>
      refine ⟨c', o, fun q' hq => ?_, fun h' m' N2 F2 N3 he hm => ⟨(N3 _ hm).1, .inr ⟨c', e, c', o, vs, t, rfl, (N3 _ (he _ (.head _))).1, e3, e4⟩⟩, fun z => ?_⟩
      rcases List.mem_cons.mp hq with rfl | hq
      · refine ⟨e2, fun z => ?_, q⟩
        obtain ⟨oL, ob, _, ho, hd, _⟩ := F.ns
        subst z
        rw [e2] at ho; cases ho
        rw [e3] at hd; cases hd
      · exact N' _ hq
      · subst z
        rw [e2] at h2; cases h2; cases e3
        exact hne _ _ e4
theorem Fr.butL {h₀ h h' : Heap} {L : Addr} {bs : List Addr} {m : Str → Option Value} (F : Fr h₀ L h m) (hD : ∀ b ∈ bs, h₀.get? b = none) (hL : L ∉ bs) (k : KeepBut bs h h') : Fr h₀ L h' m :=
  ⟨F.ns.at' fun o e => k _ o hL e, fun b o e => k b o (fun q => by rw [hD b q] at e; cases e) (F.keep b o e), F.above⟩
theorem keep_butL {g h h' : Heap} {bs : List Addr} (k : Keep g h) (b : KeepBut bs h h') : KeepBut bs g h' := fun p o hp e => b p o hp (k p o e)
theorem fresh_of {g h : Heap} (k : Keep g h) {r : Addr} (hr : h.get? r = none) : g.get? r = none := by
  cases q : g.get? r with
  | none => rfl
  | some o => rw [k _ _ q] at hr; cases hr
end
section
theorem tn_succ {n : Int} (hn : 0 ≤ n) (k : Nat) : (n * ((k + 1 : Nat) : Int)).toNat = n.toNat + (n * k).toNat := by
  have h : n * ((k + 1 : Nat) : Int) = n + n * k := by rw [Int.natCast_add, Int.mul_add, Int.add_comm]; show n * 1 + _ = _; rw [Int.mul_one]
  rw [h, Int.toNat_add hn (Int.mul_nonneg hn (Int.natCast_nonneg k))]
theorem tn_join {n a b : Int} (hn : 0 ≤ n) (ha : 0 ≤ a) (hb : 0 ≤ b) : (n * a).toNat + (n * b).toNat = (n * (a + b)).toNat := by
  rw [Int.mul_add, Int.toNat_add (Int.mul_nonneg hn ha) (Int.mul_nonneg hn hb)]
theorem sub_to (a b c : Int) : c - b + (b - a) = c - a := by lia
theorem sub_sub_to (a b c : Int) : b - a + (c - b) = c - a := by rw [Int.add_comm, sub_to]
theorem intBits_le {x : Int} {m : Nat} (h0 : 0 ≤ x) (h : x < 2 ^ m) : Builtin.Int.intBits x ≤ m := by
  unfold Builtin.Int.intBits
  split
  · exact Nat.zero_le _
  · rename_i hx
    have hx' : x.natAbs ≠ 0 := by simpa using hx
    have : x.natAbs < 2 ^ m := by
      have e : ((x.natAbs : Nat) : Int) = x := Int.natAbs_of_nonneg h0
      have : ((x.natAbs : Nat) : Int) < ((2 ^ m : Nat) : Int) := by rw [e]; simpa using h
      exact Int.ofNat_lt.mp this
    exact (Nat.log2_lt hx').mpr this
theorem lt_intBits {x : Int} (h0 : 0 ≤ x) : x < 2 ^ Builtin.Int.intBits x := by
  have h := natAbs_lt_pow_bits x
  have e : ((x.natAbs : Nat) : Int) = x := Int.natAbs_of_nonneg h0
  have : ((x.natAbs : Nat) : Int) < ((2 ^ Builtin.Int.intBits x : Nat) : Int) := Int.ofNat_lt.mpr h
  rw [e] at this; simpa using this
theorem nat_low (x m : Nat) : x &&& (x / 2 ^ m * 2 ^ m) = x / 2 ^ m * 2 ^ m := by
  apply Nat.eq_of_testBit_eq
  intro i
  rw [Nat.testBit_and, Nat.mul_comm, Nat.testBit_two_pow_mul, Nat.testBit_div_two_pow]
  by_cases h : i ≥ m
  · simp [h, Nat.sub_add_cancel h]
  · simp [h]
theorem xor_low {x : Int} (m : Nat) (h0 : 0 ≤ x) : Builtin.bitXor x (x / 2 ^ m * 2 ^ m) = x % 2 ^ m := by
  rw [bitXor_and]
  obtain ⟨k, rfl⟩ : ∃ k : Nat, x = k := ⟨x.toNat, by lia⟩
  have e : (k : Int) / 2 ^ m * 2 ^ m = ((k / 2 ^ m * 2 ^ m : Nat) : Int) := by push_cast; rfl
  have h1 : Builtin.bitAnd (k : Int) ((k / 2 ^ m * 2 ^ m : Nat) : Int) = ((k / 2 ^ m * 2 ^ m : Nat) : Int) := by
    have := nat_low k m
    rw [bitAnd_pp (Int.natCast_nonneg _) (Int.natCast_nonneg _)]
    simp only [Int.toNat_natCast]
    exact congrArg _ this
  rw [e, h1]
  have := Nat.div_add_mod k (2 ^ m)
  have h2 : (k : Int) % 2 ^ m = ((k % 2 ^ m : Nat) : Int) := by push_cast; rfl
  rw [h2]
  have h3 : 2 ^ m * (k / 2 ^ m) = k / 2 ^ m * 2 ^ m := Nat.mul_comm _ _
  lia
def setDig (n : Int) (ds : List Int) (x lo hi : Int) : List Int := ds.mapIdx fun i d => if lo ≤ i ∧ (i : Int) < hi then x / 2 ^ (n * (i - lo)).toNat % 2 ^ n.toNat else d
theorem setDig_len {n : Int} {ds : List Int} {x lo hi : Int} : (setDig n ds x lo hi).length = ds.length := by simp [setDig]
theorem nat_mod_div (x M a b : Nat) (h : a + b ≤ M) : x % 2 ^ M / 2 ^ a % 2 ^ b = x / 2 ^ a % 2 ^ b := by
  apply Nat.eq_of_testBit_eq
  intro i
  simp only [Nat.testBit_mod_two_pow, Nat.testBit_div_two_pow]
  by_cases hi : i < b
  · have : i + a < M := by lia
    simp [hi, this]
  · simp [hi]
theorem int_mod_div {x : Int} (hx : 0 ≤ x) (M a b : Nat) (h : a + b ≤ M) : x % 2 ^ M / 2 ^ a % 2 ^ b = x / 2 ^ a % 2 ^ b := by
  obtain ⟨k, rfl⟩ : ∃ k : Nat, x = k := ⟨x.toNat, by lia⟩
  have := nat_mod_div k M a b h
  exact_mod_cast this
theorem setDig_one {n : Int} {ds : List Int} {x lo hi : Int} (hn : 0 ≤ n) (h0 : 0 ≤ lo) (h : lo + 1 = hi) (hx : 0 ≤ x) (hx2 : x < 2 ^ (n * (hi - lo)).toNat) : setDig n ds x lo hi = ds.set lo.toNat x := by
  have e1 : hi - lo = 1 := by lia
  rw [e1, Int.mul_one] at hx2
  apply List.ext_getElem (by simp [setDig])
  intro i h1 h2
  simp only [setDig, List.getElem_mapIdx, List.getElem_set]
  by_cases hi2 : lo.toNat = i
  · subst hi2
    have e2 : ((lo.toNat : Nat) : Int) = lo := by lia
    rw [e2, if_pos ⟨Int.le_refl _, by lia⟩, if_pos rfl, Int.sub_self, Int.mul_zero]
    simp only [Int.toNat_zero, Int.pow_zero, Int.ediv_one]
    exact Int.emod_eq_of_lt hx hx2
  · rw [if_neg (by lia), if_neg hi2]
theorem setDig_two {n : Int} {ds : List Int} {x lo mid hi : Int} (hn : 0 ≤ n) (h1 : lo ≤ mid) (h2 : mid ≤ hi) (hx : 0 ≤ x) :
    setDig n (setDig n ds (x % 2 ^ (n * (mid - lo)).toNat) lo mid) (x / 2 ^ (n * (mid - lo)).toNat) mid hi = setDig n ds x lo hi := by
  apply List.ext_getElem (by simp [setDig])
  intro i h3 h4
  simp only [setDig, List.getElem_mapIdx]
  by_cases a1 : mid ≤ i ∧ (i : Int) < hi
  · rw [if_pos a1, if_pos ⟨by lia, a1.2⟩, Int.ediv_ediv_of_nonneg (by exact Int.pow_nonneg (by decide)), ← Int.pow_add]
    rw [tn_join hn (Int.sub_nonneg.mpr h1) (Int.sub_nonneg.mpr a1.1), sub_sub_to]
  · rw [if_neg a1]
    by_cases a2 : lo ≤ i ∧ (i : Int) < mid
    · rw [if_pos a2, if_pos ⟨a2.1, by lia⟩]
      refine int_mod_div hx _ _ _ ?_
      have e1 := Int.mul_nonneg hn (show 0 ≤ (i : Int) - lo by lia)
      have e2 : n * ((i : Int) - lo) + n * 1 ≤ n * (mid - lo) := by rw [← Int.mul_add]; exact Int.mul_le_mul_of_nonneg_left (by lia) hn
      lia
    · rw [if_neg a2, if_neg (by lia)]
theorem half_fdiv {lo hi : Int} (h : lo + 1 < hi) : lo < (lo + hi).fdiv (2 ^ Int.toNat 1) ∧ (lo + hi).fdiv (2 ^ Int.toNat 1) < hi := by
  have e : (2 : Int) ^ Int.toNat 1 = 2 := rfl
  rw [e, Int.fdiv_eq_ediv_of_nonneg _ (by decide)]
  lia
end
section
local macro_rules | `(tactic| omega) => `(tactic| lia)
theorem reg_i2d : True := by
  w_top off
  k_with_none
  (k_with "exec While" => (k_here; refine halt ?_))
  (k_with "exec While Compare cons nil" => (k_here; refine halt ?_))
  (k_with "pyIter ref" => (k_here; refine halt ?_))
  (k_with "exec FunctionDef" => (k_here; refine halt ?_))
  (k_with "call builtin:list.reverse" => (k_here; refine halt ?_))
  (k_with "call builtin:dict.get" => (k_here; refine halt ?_))
  (k_with "call builtin:iter" => (k_here; refine halt ?_))
  (k_with "call builtin:next" => (k_here; refine halt ?_))
  (k_with "exec For" => (k_here; refine forT (by assumption) ?_ (fun _ _ => rfl) (fun _ => rfl) PassesOwn.never))
  (k_with "exec For Name Call cons nil" => (k_here; refine forT (by assumption) ?_ (fun _ _ => rfl) (fun _ => rfl) PassesOwn.never))
  (k_with "exec For Name Name cons nil" => (k_here; refine forT (by assumption) ?_ (fun _ _ => rfl) (fun _ => rfl) PassesOwn.never))
  (k_with "eval Name" => (k_here; k_dflt (refine nameX_L (by assumption) (by first | rfl | assumption) ?_; k_whole)))
  (k_with "execs cons" => ((with_reducible refine wpAny_execs_cons ?_); try dsimp only))
  (k_with "execs nil" => (with_reducible refine wpAny_execs_nil ?_))
  (k_with "storeName" => (k_here; k_dflt (first | (refine storeX_L (by assumption) (by assumption) ?_; k_whole; intro _ _ _; (try k_sweep)) | (refine storeX_C (by k_asm) (by k_asm) (by rfl) (by k_updF) (by k_asm) ?_; k_whole; intro _ _ _ N' d'; (try dsimp only at N'); revert N' d'; intro _ _; (try k_sweep)))))
  (k_with "assign Name" => (k_here; refine wpAny_assign_Name ?_))
  (k_with "binaryOp LShift int int" => (k_here; refine lshift_int (by assumption) (by assumption) ?_))
  exact True.intro
theorem all5 {P : Addr × Obj → Prop} {a b c d e : Addr × Obj} (ha : P a) (hb : P b) (hc : P c) (hd : P d) (he : P e) : ∀ p ∈ [a, b, c, d, e], P p := by
  intro p hp
  simp only [List.mem_cons, List.not_mem_nil, or_false] at hp
  rcases hp with rfl | rfl | rfl | rfl | rfl <;> assumption
theorem shift_eq {n lo hi x : Int} (hn : 1 ≤ n) (h1 : lo < hi) (h4 : 0 ≤ x) :
    x.fdiv (2 ^ (((lo + hi).fdiv (2 ^ Int.toNat 1) - lo) * n).toNat) = x / 2 ^ (n * ((lo + hi).fdiv (2 ^ Int.toNat 1) - lo)).toNat := by
  rw [Int.mul_comm, Int.fdiv_eq_ediv_of_nonneg _ (Int.pow_nonneg (by decide))]
theorem dig_ok {n lo hi x : Int} {k : Nat} (hn : 1 ≤ n) (hn2 : n ≤ 4000) (h1 : lo < hi) (h2 : hi ≤ lo + (k + 1 : Nat)) (h4 : 0 ≤ x) (h5 : x < 2 ^ (n * (hi - lo)).toNat) (hk : k + 1 ≤ 900) :
    0 ≤ ((lo + hi).fdiv (2 ^ Int.toNat 1) - lo) * n ∧
    (Builtin.Int.intBits (x.fdiv (2 ^ (((lo + hi).fdiv (2 ^ Int.toNat 1) - lo) * n).toNat)) : Int) + ((lo + hi).fdiv (2 ^ Int.toNat 1) - lo) * n ≤ 2 ^ 27 := by
  have e : (lo + hi).fdiv (2 ^ Int.toNat 1) = (lo + hi) / 2 := by
    rw [show (2 : Int) ^ Int.toNat 1 = 2 from rfl, Int.fdiv_eq_ediv_of_nonneg _ (by decide)]
  rw [shift_eq hn h1 h4, e]
  have b0 : 0 ≤ (lo + hi) / 2 - lo := by lia
  have b1 : (lo + hi) / 2 - lo ≤ 900 := by lia
  have c0 : 0 ≤ ((lo + hi) / 2 - lo) * n := Int.mul_nonneg b0 (by lia)
  have c1 : ((lo + hi) / 2 - lo) * n ≤ 900 * 4000 := Int.mul_le_mul b1 hn2 (by lia) (by decide)
  have d1 : n * (hi - lo) ≤ 4000 * 900 := Int.mul_le_mul hn2 (by lia) (by lia) (by decide)
  have d0 : 0 ≤ n * (hi - lo) := Int.mul_nonneg (by lia) (by lia)
  have x1 : x / 2 ^ (n * ((lo + hi) / 2 - lo)).toNat ≤ x := Int.ediv_le_self _ h4
  have x0 : 0 ≤ x / 2 ^ (n * ((lo + hi) / 2 - lo)).toNat := Int.ediv_nonneg h4 (Int.pow_nonneg (by decide))
  have := Mine.intBits_le x0 (Int.lt_of_le_of_lt x1 h5)
  exact ⟨c0, by lia⟩
theorem lowUp {n lo hi x : Int} {k : Nat} (hn : 1 ≤ n) (hn2 : n ≤ 4000) (h1 : lo < hi) (h2 : hi ≤ lo + (k + 1 : Nat)) (h4 : 0 ≤ x) (h5 : x < 2 ^ (n * (hi - lo)).toNat) (hlt : lo + 1 < hi) :
    let mid := (lo + hi).fdiv (2 ^ Int.toNat 1)
    let lower := Builtin.bitXor x (x.fdiv (2 ^ ((mid - lo) * n).toNat) * 2 ^ ((mid - lo) * n).toNat)
    let upper := x.fdiv (2 ^ ((mid - lo) * n).toNat)
    0 ≤ lower ∧ lower < 2 ^ (n * (mid - lo)).toNat ∧ 0 ≤ upper ∧ upper < 2 ^ (n * (hi - mid)).toNat ∧ ∀ ds, setDig n (setDig n ds lower lo mid) upper mid hi = setDig n ds x lo hi := by
  intro mid lower upper
  obtain ⟨m0, m1⟩ := half_fdiv hlt
  have m0' : lo < mid := m0
  have m1' : mid < hi := m1
  have eu : upper = x / 2 ^ (n * (mid - lo)).toNat := shift_eq hn h1 h4
  have el : lower = x % 2 ^ (n * (mid - lo)).toNat := by
    show Builtin.bitXor x (upper * _) = _
    rw [eu, Int.mul_comm (mid - lo) n]
    exact xor_low _ h4
  have pp : (0 : Int) < 2 ^ (n * (mid - lo)).toNat := Int.pow_pos (by decide)
  rw [eu, el]
  refine ⟨Int.emod_nonneg _ (Int.ne_of_gt pp), Int.emod_lt_of_pos _ pp, Int.ediv_nonneg h4 (Int.le_of_lt pp), ?_, fun ds => setDig_two (by lia) (by lia) (by lia) h4⟩
  refine Int.ediv_lt_of_lt_mul pp ?_
  rw [← Int.pow_add]
  rw [tn_join (Int.le_trans (by decide) hn) (Int.sub_nonneg.mpr (Int.le_of_lt m1')) (Int.sub_nonneg.mpr (Int.le_of_lt m0')), sub_to]
  exact h5
def digitsOf (n a : Int) : List Int := setDig n (List.replicate (((Builtin.Int.intBits a : Int) + n - 1).fdiv n).toNat 0) a 0 (((Builtin.Int.intBits a : Int) + n - 1).fdiv n)
theorem q_pos {n a : Int} (hn : 1 ≤ n) (ha : 0 ≤ a) (ha0 : a ≠ 0) : 0 < ((Builtin.Int.intBits a : Int) + n - 1).fdiv n := by
  have h := lt_intBits ha
  have : Builtin.Int.intBits a ≠ 0 := fun e => by rw [e] at h; simp at h; lia
  rw [Int.fdiv_eq_ediv_of_nonneg _ (by lia)]
  exact Int.lt_of_lt_of_le (by decide : (0 : Int) < 1) (Int.le_ediv_of_mul_le (by lia) (by lia))
theorem q_lt {n a : Int} (hn : 1 ≤ n) (ha : 0 ≤ a) : a < 2 ^ (n * (((Builtin.Int.intBits a : Int) + n - 1).fdiv n - 0)).toNat := by
  refine Int.lt_of_lt_of_le (lt_intBits ha) ?_
  have e : (Builtin.Int.intBits a : Int) ≤ n * (((Builtin.Int.intBits a : Int) + n - 1).fdiv n - 0) := by
    rw [Int.fdiv_eq_ediv_of_nonneg _ (Int.le_trans (by decide) hn), Int.sub_zero]
    have h1 := Int.lt_mul_ediv_self_add (x := (Builtin.Int.intBits a : Int) + n - 1) (k := n) hn
    revert h1
    generalize n * (((Builtin.Int.intBits a : Int) + n - 1) / n) = y
    lia
  have h2 : Builtin.Int.intBits a ≤ (n * (((Builtin.Int.intBits a : Int) + n - 1).fdiv n - 0)).toNat := (Int.le_toNat (Int.le_trans (Int.natCast_nonneg _) e)).mpr e
  exact_mod_cast Nat.pow_le_pow_right (n := 2) (by decide) h2
theorem digits_zero {n a : Int} (hn : 1 ≤ n) (h : a = 0) : digitsOf n a = (List.replicate (((Builtin.Int.intBits a : Int) + n - 1).fdiv n).toNat [(0 : Int)]).flatten := by
  subst h
  have e : ((Builtin.Int.intBits 0 : Int) + n - 1).fdiv n = 0 := by
    rw [show (Builtin.Int.intBits 0 : Int) = 0 from rfl, Int.fdiv_eq_ediv_of_nonneg _ (by lia)]
    exact Int.ediv_eq_zero_of_lt (by lia) (by lia)
  unfold digitsOf
  rw [e]; rfl
theorem i2d_spec {w : World} {p : Program} {loose : List Str} {mean : ExcName → Option Value} {mg mb : Str → Option Value}
   {A : Around} {s : Shared} {Q E : Value → Shared → Prop} {g : Heap} {a n : Int} {ta tn : Tok} {ps : Array Value}
   (X0 : (Mine.hd.heap_39 w.params).In g) (T0 : Top p loose mean mg mb g) (hg : Keep g s.heap) (hgP : g.get? 45 = none) (C0 : CodeHd g 49 45)
   (hps : TabS 45 54 4 (Str.ofString "_int2digits.<locals>.inner") s.heap ps)
   (hA : A.handled = none) (hd : A.depth ≤ 600) (hu : A.units ≤ 900)
   (ha : 0 ≤ a) (hab : Builtin.Int.intBits a ≤ 4000) (hn : 1 ≤ n) (hn2 : n ≤ 4000)
   (hqq : ((Builtin.Int.intBits a : Int) + n - 1).fdiv n ≤ 250)
   (hR : ∀ (D : Addr) (ve : List Value) (kr : Nat) (ps' : Array Value) (h' : Heap) (tk' : Nat), KeepBut [45] s.heap h' → s.heap.get? D = none → h'.get? D = some (W.listOf ve.toArray kr) → IntsAre ve (digitsOf n a) →
     TabS 45 54 4 (Str.ofString "_int2digits.<locals>.inner") h' ps' → Q (.ref D) { s with heap := h', toks := tk' }) :
   wpAny (model PR w) A (call (.ref 50) [.int a ta, .int n tn]) Q E s := by
  refine ask_in ?_
  k_fill
  intro _
  refine at_mono 600 900 hA hd hu ?_
  have X1 := X0.keeps hg
  have T1 := T0.keeps hg
  have ho := X1 50 _ rfl
  (refine' wpAny_call (call_cellsN_ret ?hroom (by assumption) ?hdata (Top.nolimit (by assumption)) ?hcd ?hbind ?hkind ?hnd ?_ ?hco ?hgen ?hk); (case hdata => exact rfl); (case hroom => exact Nat.le_of_ble_eq_true rfl); (case hcd => exact codeRec_of (by assumption) rfl); (case hbind => exact rfl); (case hkind => exact (kindsX (by rfl) _)); (case hnd => decide); (case hco => exact rfl); (case hgen => exact rfl); (case hk => exact rfl))
  intro h₁ tk cells F N C
  clear ho
  generalize hL : s.heap.objs.size = L at *
  generalize hh1 : s.heap = g1 at *
  obtain ⟨o1, o2, o3, rfl, d1, d2, d3⟩ := C.three
  clear C
  have kg : Keep g (hideAll g1 [45]) := fun b o e => hideAll_get _ (hg b o e) (fun q => by rw [List.mem_singleton.mp q, hgP] at e; cases e)
  have F2 : Fr (hideAll g1 [45]) L h₁ _ := ⟨F.ns, fun b o e => F.keep b o (of_hideAll _ e), Nat.le_trans (Nat.le_of_eq (hideAll_size _ _)) F.above⟩
  have N2 : News (hideAll g1 [45]) L h₁ (_ ++ [(45, tabObj ps)]) := fun q hq => by
    rcases List.mem_append.mp hq with hq | hq
    · refine ⟨(N q hq).1, (N q hq).2.1, ?_⟩
      cases z : (hideAll g1 [45]).get? q.1 with
      | none => rfl
      | some o => have := of_hideAll _ z; rw [(N q hq).2.2] at this; cases this
    · rw [List.mem_singleton.mp hq]
      exact ⟨F.keep _ _ hps.1, Nat.ne_of_lt (Nat.lt_of_lt_of_le (Heap.lt_size hps.1) F.above), hideAll_none _ (List.mem_singleton.mpr rfl)⟩
  have h45 : @LT.lt Nat _ 45 L := Nat.lt_of_lt_of_le (Heap.lt_size hps.1) F.above
  clear F N
  have X := X0.keeps kg
  have T := T0.keeps kg
  have C : CodeHd (hideAll g1 [45]) 49 45 := C0.keeps kg
  generalize hh0 : hideAll g1 [45] = h₀ at *
  simp only [List.cons_append, List.nil_append] at N2
  clear X0 X1 T0 T1
  have hbz : (0 : Int) ≤ (Builtin.Int.intBits a : Int) := Int.natCast_nonneg _
  have hbk : (Builtin.Int.intBits a : Int) ≤ 4000 := by lia
  have hq0 : 0 ≤ ((Builtin.Int.intBits a : Int) + n - 1).fdiv n := by
    rw [Int.fdiv_eq_ediv_of_nonneg _ (by lia)]; exact Int.ediv_nonneg (by lia) (by lia)
  have hq1 : ((Builtin.Int.intBits a : Int) + n - 1).fdiv n ≤ 8000 := by
    rw [Int.fdiv_eq_ediv_of_nonneg _ (by lia)]; exact Int.ediv_le_of_le_mul (by lia) (by lia)
  k_steps
  obtain ⟨hps1, hps2⟩ := hps
  unfold Halt
  have hps3 : ps = #[] ∨ ∃ c', ps = #[rawInt 54, rawInt 4, .ref c'] ∧ h₀.CodeRec (.ref c') (Str.ofString "_int2digits.<locals>.inner") := by
    rcases hps2 with h | ⟨c', e, h⟩
    · exact .inl h
    · refine .inr ⟨c', e, ?_⟩
      exact hh0 ▸ CodeRec.hide h hps1 (by rw [e]; simp [rawInt])
  refine' nestDef_K ?d0 ?k0 ?a0 ?_; (case d0 => exact rfl); (case k0 => exact rfl); (case a0 => exact rfl)
  refine' nest_both ?F ?N ?T ?C ?cd ?U ?hps ?cl ?_; (case F => k_asm); (case N => k_asm); (case T => k_asm); (case cd => exact rfl); (case C => kn_code); (case U => k_updF); (case hps => exact hps3); (case cl => exact rfl)
  intro f' c' ctv dc e1 e2 h' tk' F' N' hrec l1 l2
  try dsimp only at N'
  k_lt l1
  k_lt l2
  k_steps
  · rename_i l' hz1 l1z D hz2 i1 n1 s1 x1 x2 x3 lD hz3 oA dA hH oI Fa Na dI ha0
    have hf := (Na _ (.head _)).1
    have cN : o3.data = .cell (some (.int n tn)) := d3
    have hrc := hrec _ _ _ Fa Na (.tail _ (.head _))
    have inner : ∀ (k : Nat) (A : Around) (s : Shared) (Q E : Value → Shared → Prop) (x lo hi : Int) (tx tl th : Tok) (vs : List Value) (kv : Nat) (ds : List Int),
        A.handled = none → A.depth + k ≤ 900 → A.units + 3 * k ≤ 4000 → KeepBut [D] hH s.heap → s.heap.get? D = some (W.listOf vs.toArray kv) → IntsAre vs ds →
        0 ≤ lo → lo < hi → hi ≤ lo + (k : Nat) → hi ≤ ds.length → ds.length ≤ 900 → 0 ≤ x → x < 2 ^ (n * (hi - lo)).toNat →
        (∀ vs' kv' h' tk', KeepBut [D] s.heap h' → h'.get? D = some (W.listOf vs'.toArray kv') → IntsAre vs' (setDig n ds x lo hi) → Q .none { s with heap := h', toks := tk' }) →
        wpAny (model PR w) A (call (.ref f') [.int x tx, .int lo tl, .int hi th]) Q E s := by
      intro k
      induction k with
      | zero => intros; lia
      | succ k ih =>
        intro A s Q E x lo hi tx tl th vs kv ds hA hd hu hkb hDs hiv h0 h1 h2 h3 hsz h4 h5 hR

        refine at_mono (900 - (k + 1)) (4000 - 3 * (k + 1)) hA (by lia) (by lia) ?_
        have nD : ∀ {b : Addr}, @Ne Nat b D → b ∉ [D] := fun h q => h (List.mem_singleton.mp q)
        have g1 := hkb _ _ (nD (Nat.ne_of_gt l1.1)) hf
        have g2 := hkb _ _ (nD (Nat.ne_of_lt lD.2.1)) (Na (L + 1 + 1 + 1, oI) (.tail _ (.tail _ (.tail _ (.tail _ (.head _)))))).1
        have g3 := hkb _ _ (nD (Nat.ne_of_lt lD.2.2.1)) (Na (L + 1 + 1, oA) (.tail _ (.tail _ (.tail _ (.tail _ (.tail _ (.head _))))))).1
        have g4 := hkb _ _ (nD (Nat.ne_of_lt lD.2.2.2.1)) (Na (L + 1, o3) (.tail _ (.tail _ (.tail _ (.tail _ (.tail _ (.tail _ (.head _)))))))).1
        have hN := all5 (P := fun p => s.heap.get? p.1 = some p.2 ∧ h₀.get? p.1 = none) (a := (f', _)) (b := (D, W.listOf vs.toArray kv)) (c := (L + 1 + 1 + 1, oI)) (d := (L + 1 + 1, oA)) (e := (L + 1, o3))
          ⟨g1, (Na _ (.head _)).2.2⟩ ⟨hDs, (Na _ (.tail _ (.tail _ (.head _)))).2.2⟩ ⟨g2, (Na (L + 1 + 1 + 1, oI) (.tail _ (.tail _ (.tail _ (.tail _ (.head _)))))).2.2⟩
          ⟨g3, (Na (L + 1 + 1, oA) (.tail _ (.tail _ (.tail _ (.tail _ (.tail _ (.head _))))))).2.2⟩ ⟨g4, (Na (L + 1, o3) (.tail _ (.tail _ (.tail _ (.tail _ (.tail _ (.tail _ (.head _)))))))).2.2⟩
        have hks : Keep h₀ s.heap := keep_but Fa.keep (Na _ (.tail _ (.tail _ (.head _)))).2.2 hkb
        have hcr := CodeRec.but hrc hkb (Na _ (.tail _ (.tail _ (.head _)))).1
        have Ts := T.keeps hks
        (refine' wpAny_call (call_clos_ret ?hroom (by assumption) ?hdata (Top.nolimit (by assumption)) ?hcd ?hbind ?hloc ?_ ?hcell ?hco ?hgen ?hk); (case hdata => exact rfl); (case hroom => exact Nat.lt_of_le_of_lt (Nat.sub_le 900 _) (Nat.le_of_ble_eq_true rfl)); (case hcd => assumption); (case hbind => exact BindsTo.of_eq rfl); (case hloc => exact locs rfl); (case hco => exact rfl); (case hgen => exact rfl); (case hk => exact rfl); (case hcell => decide))
        intro hE FE
        obtain ⟨B, FE, NE, kE, hout⟩ := hide_all FE (Nat.le_refl _) hks D hN
        have XE := X.keeps kE
        have TE := T.keeps kE
        have hDB : B.get? D = none := (NE _ (.tail _ (.head _))).2.2
        have hDM := (NE _ (.tail _ (.head _))).2.1
        generalize hLE : s.heap.objs.size = M at *
        have hlv : lo < (ds.length : Int) := by lia
        have hl63 : lo < 2 ^ 63 := by have : (2 : Int) ^ 63 = 9223372036854775808 := rfl; rw [this]; have := hsz; lia
        obtain ⟨hmid, hbit⟩ := dig_ok hn hn2 h1 h2 h4 h5 (show k + 1 ≤ 900 by lia)
        clear i1 n1 s1 x1 x2 x3 hz1 hz2 hz3 hq0 hq1 hbz hbk hrec Na Fa hf hps1 hps2 hps3 hks hcr g1 g2 g3 g4 nD X T C
        k_steps
        · rename Fr B M _ _ => F1
          rename News B M _ _ => N1
          have hD1 := news_at N1 (.tail _ (.head _))
          have kb := hout _ _ _ F1 N1 (all5 (P := fun p => p.1 ≠ D → p ∈ _) (fun _ => .head _) (fun h => (h rfl).elim) (fun _ => .tail _ (.tail _ (.head _))) (fun _ => .tail _ (.tail _ (.tail _ (.head _)))) (fun _ => .tail _ (.tail _ (.tail _ (.tail _ (.head _))))))
          exact hR _ _ _ _ kb hD1 (by rw [setDig_one (by lia) h0 (by assumption) h4 h5]; assumption)
        · have hlt : lo + 1 < hi := by rename_i hne; lia
          obtain ⟨m0, m1⟩ := half_fdiv hlt
          rename Fr B M _ _ => F1
          rename News B M _ _ => N1
          have hD1 := news_at N1 (.tail _ (.head _))
          have kb1 := hout _ _ _ F1 N1 (all5 (P := fun p => p.1 ≠ D → p ∈ _) (fun _ => .head _) (fun h => (h rfl).elim) (fun _ => .tail _ (.tail _ (.head _))) (fun _ => .tail _ (.tail _ (.tail _ (.head _)))) (fun _ => .tail _ (.tail _ (.tail _ (.tail _ (.head _))))))
          have q1 := lowUp hn hn2 h1 h2 h4 h5 hlt
          refine ih _ _ _ _ _ _ _ _ _ _ _ _ _ rfl (by show 900 - (k + 1) + 1 + k ≤ 900; lia) (by show 4000 - 3 * (k + 1) + 3 + 3 * k ≤ 4000; lia) (hkb.trans kb1) hD1 hiv h0 m0 (by lia) (by lia) hsz q1.1 q1.2.1 ?_
          intro vs1 kv1 hh1 tk1 KB1 hD2 hi1
          have F2 := Fr.but F1 hDB (Ne.symm hDM) KB1
          have N2 := News.but N1 (by k_updF) KB1 hD2
          try dsimp only at N2
          have kb2 := kb1.trans KB1
          clear F1 N1 kb1 KB1
          k_steps
          refine ih _ _ _ _ _ _ _ _ _ _ _ _ _ rfl (by show 900 - (k + 1) + 1 + k ≤ 900; lia) (by show 4000 - 3 * (k + 1) + 3 + 3 * k ≤ 4000; lia) (hkb.trans kb2) hD2 hi1 (by lia) m1 (by lia) (by rw [setDig_len]; exact h3) (by rw [setDig_len]; exact hsz) q1.2.2.1 q1.2.2.2.1 ?_
          intro vs2 kv2 hh2 tk2 KB2 hD3 hi2
          have F3 := Fr.but F2 hDB (Ne.symm hDM) KB2
          have N3 := News.but N2 (by k_updF) KB2 hD3
          try dsimp only at N3
          have kb3 := kb2.trans KB2
          rw [q1.2.2.2.2] at hi2
          clear F2 N2 kb2 KB2
          k_steps
          exact hR _ _ _ _ kb3 hD3 hi2
    have hq' : ((((Builtin.Int.intBits a : Int) + n - 1).fdiv n).toNat : Int) = ((Builtin.Int.intBits a : Int) + n - 1).fdiv n := Int.toNat_of_nonneg hq0
    have hqp := q_pos hn ha ha0
    have en : (n1 : Int) = ((Builtin.Int.intBits a : Int) + n - 1).fdiv n := by have := x3 hq0; simpa using this
    have el : (List.replicate (((Builtin.Int.intBits a : Int) + n - 1).fdiv n).toNat [(0 : Int)]).flatten = List.replicate (((Builtin.Int.intBits a : Int) + n - 1).fdiv n).toNat 0 := by simp
    rw [el] at i1
    refine inner (((Builtin.Int.intBits a : Int) + n - 1).fdiv n).toNat _ _ _ _ _ _ _ _ _ _ _ _ _ rfl (by show 600 + 1 + _ ≤ 900; lia) (by show 900 + 3 + _ ≤ 4000; lia) (fun _ _ _ e => e) (news_at Na (.tail _ (.tail _ (.head _)))) i1 (Int.le_refl _) (by rw [en]; exact hqp) (by rw [en]; lia) (by rw [List.length_replicate]; lia) (by rw [List.length_replicate]; lia) ha (by rw [en]; exact q_lt hn ha) ?_
    intro vs1 kv1 hh1 tk1 KB1 hD1 hi1
    rw [en] at hi1
    have hDh : h₀.get? D = none := (Na _ (.tail _ (.tail _ (.head _)))).2.2
    have F2 := Fr.but Fa hDh (Ne.symm (Na _ (.tail _ (.tail _ (.head _)))).2.1) KB1
    have N2 := News.but Na (by k_updF) KB1 hD1
    try dsimp only at N2
    clear Fa Na inner
    k_steps
    exact hR D _ _ _ _ _ (tab_but hh0 F2) (tab_fresh hh0 hDh lD.2.2.2.2) hD1 hi1 ⟨news_at N2 (.tail _ (.tail _ (.tail _ (.tail _ (.tail _ (.tail _ (.tail _ (.head _)))))))), .inr ⟨c', rfl, hrec _ _ _ F2 N2 (.tail _ (.head _))⟩⟩
  · rename_i l' hz1 l1z D hz2 i1 n1 s1 x1 x2 x3 lD hz3 oA dA hH oI Fa Na dI ha0
    have hDh : h₀.get? D = none := (Na _ (.tail _ (.tail _ (.head _)))).2.2
    refine hR D _ _ _ _ _ (tab_but hh0 Fa) (tab_fresh hh0 hDh lD.2.2.2.2) (news_at Na (.tail _ (.tail _ (.head _)))) ?_ ⟨news_at Na (.tail _ (.tail _ (.tail _ (.tail _ (.tail _ (.tail _ (.tail _ (.head _)))))))), .inr ⟨c', rfl, hrec _ _ _ Fa Na (.tail _ (.head _))⟩⟩
    rw [digits_zero hn ha0]; exact i1
end
section
local macro_rules | `(tactic| omega) => `(tactic| lia)
theorem reg_d2i : True := by
  w_top off
  k_with_none
  (k_with "exec While" => (k_here; refine halt ?_))
  (k_with "exec While Compare cons nil" => (k_here; refine halt ?_))
  (k_with "pyIter ref" => (k_here; refine halt ?_))
  (k_with "exec FunctionDef" => (k_here; refine halt ?_))
  (k_with "call builtin:list.reverse" => (k_here; refine halt ?_))
  (k_with "call builtin:dict.get" => (k_here; refine halt ?_))
  (k_with "call builtin:iter" => (k_here; refine halt ?_))
  (k_with "call builtin:next" => (k_here; refine halt ?_))
  (k_with "exec For" => (k_here; refine forT (by assumption) ?_ (fun _ _ => rfl) (fun _ => rfl) PassesOwn.never))
  (k_with "exec For Name Call cons nil" => (k_here; refine forT (by assumption) ?_ (fun _ _ => rfl) (fun _ => rfl) PassesOwn.never))
  (k_with "exec For Name Name cons nil" => (k_here; refine forT (by assumption) ?_ (fun _ _ => rfl) (fun _ => rfl) PassesOwn.never))
  (k_with "eval Name" => (k_here; k_dflt (refine nameX_L (by assumption) (by first | rfl | assumption) ?_; k_whole)))
  (k_with "execs cons" => ((with_reducible refine wpAny_execs_cons ?_); try dsimp only))
  (k_with "execs nil" => (with_reducible refine wpAny_execs_nil ?_))
  (k_with "storeName" => (k_here; k_dflt (first | (refine storeX_L (by assumption) (by assumption) ?_; k_whole; intro _ _ _; (try k_sweep)) | (refine storeX_C (by k_asm) (by k_asm) (by rfl) (by k_updF) (by k_asm) ?_; k_whole; intro _ _ _ N' d'; (try dsimp only at N'); revert N' d'; intro _ _; (try k_sweep)))))
  (k_with "assign Name" => (k_here; refine wpAny_assign_Name ?_))
  (k_with "binaryOp LShift int int" => (k_here; refine lshift_int (by assumption) (by assumption) ?_))
  exact True.intro
def dval (n : Int) : List Int → Int
  | [] => 0
  | d :: r => d + 2 ^ n.toNat * dval n r
def dseg (n : Int) (ds : List Int) (lo hi : Int) : Int := dval n ((ds.drop lo.toNat).take (hi - lo).toNat)
theorem dval_app {n : Int} (hn : 0 ≤ n) : ∀ a b : List Int, dval n (a ++ b) = dval n a + 2 ^ (n * a.length).toNat * dval n b
  | [], b => by simp [dval]
  | d :: r, b => by
    rw [List.cons_append, dval, dval, dval_app hn r b, List.length_cons]
    have e := tn_succ hn r.length
    rw [e, Int.pow_add, Int.mul_add, Int.mul_assoc, Int.add_assoc]
theorem dval_bd {n : Int} (hn : 0 ≤ n) : ∀ a : List Int, (∀ d ∈ a, 0 ≤ d ∧ d < 2 ^ n.toNat) → 0 ≤ dval n a ∧ dval n a < 2 ^ (n * a.length).toNat
  | [], _ => by simp [dval]
  | d :: r, h => by
    obtain ⟨h1, h2⟩ := dval_bd hn r (fun x hx => h x (List.mem_cons_of_mem _ hx))
    obtain ⟨h3, h4⟩ := h d List.mem_cons_self
    have pp : (0 : Int) < 2 ^ n.toNat := Int.pow_pos (by decide)
    have e := tn_succ hn r.length
    rw [dval, List.length_cons, e, Int.pow_add]
    have h5 := Int.mul_nonneg (Int.le_of_lt pp) h1
    have h6 : 2 ^ n.toNat * dval n r + 2 ^ n.toNat ≤ 2 ^ n.toNat * 2 ^ (n * (r.length : Int)).toNat := by
      rw [← Int.mul_one (2 ^ n.toNat), Int.mul_assoc, Int.mul_assoc, Int.one_mul, ← Int.mul_add]
      exact Int.mul_le_mul_of_nonneg_left (by lia) (Int.le_of_lt pp)
    lia
theorem dseg_one {n : Int} {ds : List Int} {lo hi : Int} (h0 : 0 ≤ lo) (h : lo + 1 = hi) (hl : hi ≤ ds.length) : dseg n ds lo hi = ds.getD lo.toNat 0 := by
  have e : (hi - lo).toNat = 1 := by lia
  have hlt : lo.toNat < ds.length := by lia
  rw [dseg, e, List.drop_eq_getElem_cons hlt, List.take_succ_cons, List.take_zero]
  simp [dval, List.getD_eq_getElem?_getD, hlt]
theorem dseg_two {n : Int} {ds : List Int} {lo mid hi : Int} (hn : 0 ≤ n) (h0 : 0 ≤ lo) (h1 : lo ≤ mid) (h2 : mid ≤ hi) (hl : hi ≤ ds.length) : dseg n ds lo hi = dseg n ds mid hi * 2 ^ ((mid - lo) * n).toNat + dseg n ds lo mid := by
  obtain ⟨a, rfl⟩ := Int.eq_ofNat_of_zero_le h0
  obtain ⟨b, rfl⟩ := Int.le.dest h1
  obtain ⟨c, rfl⟩ := Int.le.dest h2
  have e1 : (a : Int) + b - a = (b : Nat) := by rw [Int.add_comm, Int.add_sub_cancel]
  have e2 : (a : Int) + b + c - a = ((b + c : Nat) : Int) := by rw [Int.add_assoc, Int.add_comm, Int.add_sub_cancel]; rfl
  have e3 : (a : Int) + b + c - (a + b) = (c : Nat) := by rw [Int.add_comm, Int.add_sub_cancel]
  have hl' : a + b + c ≤ ds.length := Int.ofNat_le.mp hl
  have el : ((ds.drop a).take b).length = b := by
    rw [List.length_take, List.length_drop]
    exact Nat.min_eq_left (Nat.le_sub_of_add_le (by rw [Nat.add_comm]; exact Nat.le_trans (Nat.le_add_right _ c) hl'))
  unfold dseg
  rw [e1, e2, e3]
  show dval n ((ds.drop a).take (b + c)) = dval n ((ds.drop (a + b)).take c) * _ + dval n ((ds.drop a).take b)
  rw [List.take_add, List.drop_drop, dval_app hn, el, Int.add_comm, Int.mul_comm, Int.mul_comm n]
theorem dseg_bd {n : Int} {ds : List Int} {lo hi : Int} (hn : 0 ≤ n) (h : ∀ d ∈ ds, 0 ≤ d ∧ d < 2 ^ n.toNat) (h0 : 0 ≤ lo) (h1 : lo ≤ hi) : 0 ≤ dseg n ds lo hi ∧ dseg n ds lo hi < 2 ^ (n * (hi - lo)).toNat := by
  obtain ⟨a, b⟩ := dval_bd hn ((ds.drop lo.toNat).take (hi - lo).toNat) (fun d hd => h d (List.mem_of_mem_drop (List.mem_of_mem_take hd)))
  refine ⟨a, Int.lt_of_lt_of_le b ?_⟩
  have : (n * (((ds.drop lo.toNat).take (hi - lo).toNat).length : Int)).toNat ≤ (n * (hi - lo)).toNat := by
    have e1 : (((ds.drop lo.toNat).take (hi - lo).toNat).length : Int) ≤ hi - lo := by rw [List.length_take]; lia
    have := Int.mul_le_mul_of_nonneg_left e1 hn
    lia
  exact_mod_cast Nat.pow_le_pow_right (n := 2) (by decide) this
theorem dsh_ok {n lo hi : Int} {ds : List Int} {k : Nat} (hn : 1 ≤ n) (hn2 : n ≤ 4000) (h0 : 0 ≤ lo) (h1 : lo < hi) (h2 : hi ≤ lo + (k + 1 : Nat)) (hk : k + 1 ≤ 900) (h : ∀ d ∈ ds, 0 ≤ d ∧ d < 2 ^ n.toNat) :
    0 ≤ ((lo + hi).fdiv (2 ^ Int.toNat 1) - lo) * n ∧
    (Builtin.Int.intBits (dseg n ds ((lo + hi).fdiv (2 ^ Int.toNat 1)) hi) : Int) + ((lo + hi).fdiv (2 ^ Int.toNat 1) - lo) * n ≤ 2 ^ 27 := by
  have e : (lo + hi).fdiv (2 ^ Int.toNat 1) = (lo + hi) / 2 := by
    rw [show (2 : Int) ^ Int.toNat 1 = 2 from rfl, Int.fdiv_eq_ediv_of_nonneg _ (by decide)]
  rw [e]
  have b0 : 0 ≤ (lo + hi) / 2 - lo := by lia
  have b1 : (lo + hi) / 2 - lo ≤ 900 := by lia
  have c0 : 0 ≤ ((lo + hi) / 2 - lo) * n := Int.mul_nonneg b0 (by lia)
  have c1 : ((lo + hi) / 2 - lo) * n ≤ 900 * 4000 := Int.mul_le_mul b1 hn2 (by lia) (by decide)
  have d1 : n * (hi - (lo + hi) / 2) ≤ 4000 * 900 := Int.mul_le_mul hn2 (by lia) (by lia) (by decide)
  have d0 : 0 ≤ n * (hi - (lo + hi) / 2) := Int.mul_nonneg (by lia) (by lia)
  have q := dseg_bd (n := n) (ds := ds) (lo := (lo + hi) / 2) (hi := hi) (by lia) h (by lia) (by lia)
  have := Mine.intBits_le q.1 q.2
  exact ⟨c0, by lia⟩
theorem dseg_all {n : Int} {ds : List Int} {hi : Int} (h : hi = ds.length) : dseg n ds 0 hi = dval n ds := by
  subst h
  simp [dseg]
theorem d2i_spec {w : World} {p : Program} {loose : List Str} {mean : ExcName → Option Value} {mg mb : Str → Option Value}
   {A : Around} {s : Shared} {Q E : Value → Shared → Prop} {g : Heap} {l : Addr} {vs : List Value} {ds : List Int} {n : Int} {tn : Tok} {ps : Array Value}
   (X0 : (Mine.hd.heap_39 w.params).In g) (T0 : Top p loose mean mg mb g) (hg : Keep g s.heap) (hgP : g.get? 52 = none) (C0 : CodeHd g 56 52)
   (hps : TabS 52 69 4 (Str.ofString "_digits2int.<locals>.inner") s.heap ps)
   (hA : A.handled = none) (hd : A.depth ≤ 600) (hu : A.units ≤ 900)
   (hl : s.heap.IsList l vs.toArray) (hi : IntsAre vs ds) (hlen : ds.length ≤ 250) (hdg : ∀ d ∈ ds, 0 ≤ d ∧ d < 2 ^ n.toNat) (hn : 1 ≤ n) (hn2 : n ≤ 4000)
   (hR : ∀ (ps' : Array Value) (t : Tok) (h' : Heap) (tk' : Nat), KeepBut [52] s.heap h' →
     TabS 52 69 4 (Str.ofString "_digits2int.<locals>.inner") h' ps' → Q (.int (dval n ds) t) { s with heap := h', toks := tk' }) :
   wpAny (model PR w) A (call (.ref 57) [.ref l, .int n tn]) Q E s := by
  refine ask_in ?_
  k_fill
  intro _
  refine at_mono 600 900 hA hd hu ?_
  have X1 := X0.keeps hg
  have T1 := T0.keeps hg
  have ho := X1 57 _ rfl
  (refine' wpAny_call (call_cellsN_ret ?hroom (by assumption) ?hdata (Top.nolimit (by assumption)) ?hcd ?hbind ?hkind ?hnd ?_ ?hco ?hgen ?hk); (case hdata => exact rfl); (case hroom => exact Nat.le_of_ble_eq_true rfl); (case hcd => exact codeRec_of (by assumption) rfl); (case hbind => exact rfl); (case hkind => exact (kindsX (by rfl) _)); (case hnd => decide); (case hco => exact rfl); (case hgen => exact rfl); (case hk => exact rfl))
  intro h₁ tk cells F N C
  clear ho
  generalize hL : s.heap.objs.size = L at *
  generalize hh1 : s.heap = g1 at *
  obtain ⟨o1, o2, o3, rfl, d1, d2, d3⟩ := C.three
  clear C
  obtain ⟨hps1, hps2⟩ := hps
  have kg : Keep g (hideAll g1 [52]) := fun b o e => hideAll_get _ (hg b o e) (fun q => by rw [List.mem_singleton.mp q, hgP] at e; cases e)
  have F2 : Fr (hideAll g1 [52]) L h₁ _ := ⟨F.ns, fun b o e => F.keep b o (of_hideAll _ e), Nat.le_trans (Nat.le_of_eq (hideAll_size _ _)) F.above⟩
  have N2 : News (hideAll g1 [52]) L h₁ (_ ++ [(52, tabObj ps)]) := fun q hq => by
    rcases List.mem_append.mp hq with hq | hq
    · refine ⟨(N q hq).1, (N q hq).2.1, ?_⟩
      cases z : (hideAll g1 [52]).get? q.1 with
      | none => rfl
      | some o => have := of_hideAll _ z; rw [(N q hq).2.2] at this; cases this
    · rw [List.mem_singleton.mp hq]
      exact ⟨F.keep _ _ hps1, Nat.ne_of_lt (Nat.lt_of_lt_of_le (Heap.lt_size hps1) F.above), hideAll_none _ (List.mem_singleton.mpr rfl)⟩
  have h52 : @LT.lt Nat _ 52 L := Nat.lt_of_lt_of_le (Heap.lt_size hps1) F.above
  have hps3 : ps = #[] ∨ ∃ c', ps = #[rawInt 69, rawInt 4, .ref c'] ∧ (hideAll g1 [52]).CodeRec (.ref c') (Str.ofString "_digits2int.<locals>.inner") := by
    rcases hps2 with h | ⟨c', e, h⟩
    · exact .inl h
    · refine .inr ⟨c', e, ?_⟩
      exact CodeRec.hide h hps1 (by rw [e]; simp [rawInt])
  have hl2 : (hideAll g1 [52]).IsList l vs.toArray := by
    obtain ⟨o, e1, e2⟩ := hl
    refine ⟨o, hideAll_get _ e1 (fun q => ?_), e2⟩
    rw [List.mem_singleton.mp q, hps1] at e1; cases e1; cases e2.1
  clear F N hl
  have X := X0.keeps kg
  have T := T0.keeps kg
  have C : CodeHd (hideAll g1 [52]) 56 52 := C0.keeps kg
  generalize hh0 : hideAll g1 [52] = h₀ at *
  simp only [List.cons_append, List.nil_append] at N2
  clear X0 X1 T0 T1
  have hvl := hi.length
  k_steps
  unfold Halt
  refine' nestDef_K ?d0 ?k0 ?a0 ?_; (case d0 => exact rfl); (case k0 => exact rfl); (case a0 => exact rfl)
  refine' nest_both ?F ?N ?T ?C ?cd ?U ?hps ?cl ?_; (case F => k_asm); (case N => k_asm); (case T => k_asm); (case cd => exact rfl); (case C => kn_code); (case U => k_updF); (case hps => exact hps3); (case cl => exact rfl)
  intro f' c' ctv dc e1 e2 h' tk' F' N' hrec l1 l2
  try dsimp only at N'
  k_lt l1
  k_lt l2
  k_steps
  · rename_i hH oI Fa Na dI hd0
    have hf := (Na _ (.head _)).1
    have cN : o2.data = .cell (some (.int n tn)) := d2
    have cD : o3.data = .cell (some (.ref l)) := d3
    have hrc := hrec _ _ _ Fa Na (.tail _ (.head _))
    have inner : ∀ (k : Nat) (A : Around) (s : Shared) (Q E : Value → Shared → Prop) (lo hi : Int) (tl th : Tok),
        A.handled = none → A.depth + k ≤ 900 → A.units + 3 * k ≤ 4000 → Keep hH s.heap → 0 ≤ lo → lo < hi → hi ≤ lo + (k : Nat) → hi ≤ ds.length →
        (∀ t h' tk', Keep s.heap h' → Q (.int (dseg n ds lo hi) t) { s with heap := h', toks := tk' }) →
        wpAny (model PR w) A (call (.ref f') [.int lo tl, .int hi th]) Q E s := by
      intro k
      induction k with
      | zero => intros; lia
      | succ k ih =>
        intro A s Q E lo hi tl th hA hd hu hkb h0 h1 h2 h3 hR
        refine at_mono (900 - (k + 1)) (4000 - 3 * (k + 1)) hA (by lia) (by lia) ?_
        have ho := hkb _ _ hf
        have hN := all4 (P := fun p => s.heap.get? p.1 = some p.2 ∧ h₀.get? p.1 = none) (a := (f', _)) (b := (L + 1 + 1 + 1, oI)) (c := (L + 1 + 1, o2)) (d := (L + 1, o3))
          ⟨ho, (Na _ (.head _)).2.2⟩ ⟨hkb _ _ (Na (L + 1 + 1 + 1, oI) (.tail _ (.tail _ (.head _)))).1, (Na (L + 1 + 1 + 1, oI) (.tail _ (.tail _ (.head _)))).2.2⟩
          ⟨hkb _ _ (Na (L + 1 + 1, o2) (.tail _ (.tail _ (.tail _ (.head _))))).1, (Na (L + 1 + 1, o2) (.tail _ (.tail _ (.tail _ (.head _))))).2.2⟩
          ⟨hkb _ _ (Na (L + 1, o3) (.tail _ (.tail _ (.tail _ (.tail _ (.head _)))))).1, (Na (L + 1, o3) (.tail _ (.tail _ (.tail _ (.tail _ (.head _)))))).2.2⟩
        have hks : Keep h₀ s.heap := Keep.trans Fa.keep hkb
        have hcr := hrc.keeps hkb
        have Ts := T.keeps hks
        (refine' wpAny_call (call_clos_ret ?hroom (by assumption) ?hdata (Top.nolimit (by assumption)) ?hcd ?hbind ?hloc ?_ ?hcell ?hco ?hgen ?hk); (case hdata => exact rfl); (case hroom => exact Nat.lt_of_le_of_lt (Nat.sub_le 900 _) (Nat.le_of_ble_eq_true rfl)); (case hcd => assumption); (case hbind => exact BindsTo.of_eq rfl); (case hloc => exact locs rfl); (case hco => exact rfl); (case hgen => exact rfl); (case hk => exact rfl); (case hcell => decide))
        intro hE FE
        obtain ⟨B, FE, NE, kE, hout⟩ := hide_all0 FE (Nat.le_refl _) hks hN
        have XE := X.keeps kE
        have TE := T.keeps kE
        have hlB : B.IsList l vs.toArray := hl2.at fun o e => kE l o e
        generalize hLE : s.heap.objs.size = M at *
        have hlv : lo < (ds.length : Int) := by lia
        have hl63 : lo < 2 ^ 63 := by have : (2 : Int) ^ 63 = 9223372036854775808 := rfl; rw [this]; lia
        obtain ⟨hmid, hbit⟩ := dsh_ok hn hn2 h0 h1 h2 (show k + 1 ≤ 900 by lia) hdg
        clear hrec Na Fa hf hps1 hps2 hps3 hks hcr X T C hl2
        k_steps
        · exact q_int (Q := Q) (dseg_one h0 (by assumption) h3) (hR _ _ _ (hout _ _ _ FE NE (all4 (P := fun p => p ∈ _) (.head _) (.tail _ (.head _)) (.tail _ (.tail _ (.head _))) (.tail _ (.tail _ (.tail _ (.head _)))))))
        · have hlt : lo + 1 < hi := by rename_i hne _ _ _ _; lia
          obtain ⟨m0, m1⟩ := half_fdiv hlt
          have hkw : A.frames = A.frames := rfl
          rename Fr B M _ _ => F1
          rename News B M _ _ => N1
          have kb1 := hout _ _ _ F1 N1 (all4 (P := fun p => p ∈ _) (.head _) (.tail _ (.head _)) (.tail _ (.tail _ (.head _))) (.tail _ (.tail _ (.tail _ (.head _)))))
          refine ih _ _ _ _ _ _ _ _ rfl (by show 900 - (k + 1) + 1 + k ≤ 900; lia) (by show 4000 - 3 * (k + 1) + 3 + 3 * k ≤ 4000; lia) (hkb.trans kb1) (by lia) m1 (by lia) h3 ?_
          intro t1 hh1 tk1 KB1
          have F2 := F1.keeps KB1
          have N2 := News.keep N1 KB1
          have kb2 := kb1.trans KB1
          clear F1 N1 kb1 KB1
          k_steps
          refine ih _ _ _ _ _ _ _ _ rfl (by show 900 - (k + 1) + 1 + k ≤ 900; lia) (by show 4000 - 3 * (k + 1) + 3 + 3 * k ≤ 4000; lia) (hkb.trans kb2) h0 m0 (by lia) (by lia) ?_
          intro t2 hh2 tk2 KB2
          have F3 := F2.keeps KB2
          have N3 := News.keep N2 KB2
          have kb3 := kb2.trans KB2
          clear F2 N2 kb2 KB2
          k_steps
          exact q_int (Q := Q) (dseg_two (by lia) h0 (by lia) (by lia) h3) (hR _ _ _ kb3)
    have hl3 : (ds.length : Int) = ds.length := rfl
    refine inner ds.length _ _ _ _ _ _ _ _ rfl (by show 600 + 1 + _ ≤ 900; lia) (by show 900 + 3 + _ ≤ 4000; lia) (Keep.refl _) (Int.le_refl _) (by lia) (by lia) (by lia) ?_
    intro t1 hh1 tk1 KB1
    have F2 := Fa.keeps KB1
    have N2 := News.keep Na KB1
    exact q_int (Q := Q) (dseg_all rfl).symm (hR _ _ _ _ (tab_but hh0 F2) ⟨news_at N2 (.tail _ (.tail _ (.tail _ (.tail _ (.tail _ (.head _)))))), .inr ⟨c', rfl, hrec _ _ _ F2 N2 (.tail _ (.head _))⟩⟩)
  · rename_i hH oI Fa Na dI hd0
    have : ds = [] := List.eq_nil_of_length_eq_zero (by lia)
    subst this
    exact hR _ _ _ _ (tab_but hh0 Fa) ⟨news_at Na (.tail _ (.tail _ (.tail _ (.tail _ (.tail _ (.head _)))))), .inr ⟨c', rfl, hrec _ _ _ Fa Na (.tail _ (.head _))⟩⟩
end
section
theorem reg_div : True := by
  w_top off
  k_with_none
  (k_with "exec While" => (k_here; refine halt ?_))
  (k_with "exec While Compare cons nil" => (k_here; refine halt ?_))
  (k_with "pyIter ref" => (k_here; refine halt ?_))
  (k_with "exec FunctionDef" => (k_here; refine halt ?_))
  (k_with "call builtin:list.reverse" => (k_here; refine halt ?_))
  (k_with "call builtin:dict.get" => (k_here; refine halt ?_))
  (k_with "call builtin:iter" => (k_here; refine halt ?_))
  (k_with "call builtin:next" => (k_here; refine halt ?_))
  (k_with "exec For" => (k_here; refine forT (by assumption) ?_ (fun _ _ => rfl) (fun _ => rfl) PassesOwn.never))
  (k_with "exec For Name Call cons nil" => (k_here; refine forT (by assumption) ?_ (fun _ _ => rfl) (fun _ => rfl) PassesOwn.never))
  (k_with "exec For Name Name cons nil" => (k_here; refine forT (by assumption) ?_ (fun _ _ => rfl) (fun _ => rfl) PassesOwn.never))
  (k_with "eval Name" => (k_here; k_dflt (refine nameX_L (by assumption) (by first | rfl | assumption) ?_; k_whole)))
  (k_with "execs cons" => ((with_reducible refine wpAny_execs_cons ?_); try dsimp only))
  (k_with "execs nil" => (with_reducible refine wpAny_execs_nil ?_))
  (k_with "storeName" => (k_here; k_dflt (first | (refine storeX_L (by assumption) (by assumption) ?_; k_whole; intro _ _ _; (try k_sweep)) | (refine storeX_C (by k_asm) (by k_asm) (by rfl) (by k_updF) (by k_asm) ?_; k_whole; intro _ _ _ N' d'; (try dsimp only at N'); revert N' d'; intro _ _; (try k_sweep)))))
  (k_with "assign Name" => (k_here; refine wpAny_assign_Name ?_))
  (k_with "binaryOp LShift int int" => (k_here; refine lshift_int (by assumption) (by assumption) ?_))
  exact True.intro
theorem bits_log {b : Int} (hb : b ≠ 0) (h : Builtin.Int.intBits b ≤ 4000) : b.natAbs.log2 < 9000 := by
  unfold Builtin.Int.intBits at h
  rw [if_neg (by simpa using hb)] at h
  omega
theorem made_one {h₀ h' : Heap} {L : Addr} {m : Str → Option Value} {p : Addr × Obj} {r : List (Addr × Obj)} (F : Fr h₀ L h' m) (N : News h₀ L h' (p :: r)) : Made h₀ h' [p] :=
  made_of F N fun q hq => by rw [List.mem_singleton.mp hq]; exact List.mem_cons_self
theorem div_spec {w : World} {p : Program} {loose : List Str} {mean : ExcName → Option Value} {mg mb : Str → Option Value}
   {A : Around} {s : Shared} {Q E : Value → Shared → Prop} {a b n : Int} {ta tb tn : Tok}
   (X : (Mine.hd.heap_39 w.params).In s.heap) (T : Top p loose mean mg mb s.heap)
   (hA : A.handled = none) (hd : A.depth ≤ 600) (hu : A.units ≤ 900)
   (hab : (Builtin.Int.intBits a : Int) - n ≤ 4000) (hb : 0 < b) (hbb : Builtin.Int.intBits b ≤ 4000)
   (hR : ∀ (r : Addr) (t1 t2 : Tok) (kr : Nat) (h' : Heap) (tk' : Nat), Made s.heap h' [(r, tupOf [.int (a / b) t1, .int (a % b) t2] kr)] → Q (.ref r) { s with heap := h', toks := tk' }) :
   wpAny (model PR w) A (call (.ref 36) [.int a ta, .int b tb, .int n tn]) Q E s := by
  refine ask_in ?_
  k_fill
  intro _
  refine at_mono 600 900 hA hd hu ?_
  have ho := X 36 _ rfl
  (refine' wpAny_call (call_plain_ret ?hroom (by assumption) ?hdata (Top.nolimit (by assumption)) ?hcd ?hbind ?hloc ?_ ?hco ?hgen ?hk ?hcell); (case hdata => exact rfl); (case hroom => exact Nat.le_of_ble_eq_true rfl); (case hcd => exact codeRec_of (by assumption) rfl); (case hbind => exact rfl); (case hloc => exact locs rfl); (case hco => exact rfl); (case hgen => exact rfl); (case hk => exact rfl); (case hcell => decide))
  intro h₁ F
  have N : News s.heap s.heap.objs.size h₁ [] := News.nil
  clear ho
  generalize hL : s.heap.objs.size = L at *
  generalize hh0 : s.heap = h₀ at *
  have hb0 : b ≠ 0 := by omega
  k_steps
  refine divmod_N (by assumption) (by assumption) hb0 ?_ (.inl (PyProof.noPylong_of_log2 (bits_log hb0 hbb)))
  intro h' F' N'
  rw [Int.fdiv_eq_ediv_of_nonneg _ (by omega), Int.fmod_eq_emod_of_nonneg _ (by omega)] at N'
  exact hR _ _ _ 0 _ _ (made_one F' N')
end
section
def dg (n : Int) : Int → Nat → List Int
  | _, 0 => []
  | x, k + 1 => x % 2 ^ n.toNat :: dg n (x / 2 ^ n.toNat) k
theorem dg_len {n : Int} : ∀ (k : Nat) (x : Int), (dg n x k).length = k
  | 0, _ => rfl
  | k + 1, x => by rw [dg, List.length_cons, dg_len k]
theorem dg_bd {n : Int} : ∀ (k : Nat) (x : Int), ∀ d ∈ dg n x k, 0 ≤ d ∧ d < 2 ^ n.toNat
  | 0, _ => fun d hd => by cases hd
  | k + 1, x => fun d hd => by
    have pp : (0 : Int) < 2 ^ n.toNat := Int.pow_pos (by decide)
    rcases List.mem_cons.mp hd with rfl | hd
    · exact ⟨Int.emod_nonneg _ (Int.ne_of_gt pp), Int.emod_lt_of_pos _ pp⟩
    · exact dg_bd k _ d hd
theorem dval_dg {n : Int} (hn : 0 ≤ n) : ∀ (k : Nat) (x : Int), 0 ≤ x → x < 2 ^ (n * k).toNat → dval n (dg n x k) = x
  | 0, x, h0, h1 => by
    simp at h1
    show (0 : Int) = x
    lia
  | k + 1, x, h0, h1 => by
    have pp : (0 : Int) < 2 ^ n.toNat := Int.pow_pos (by decide)
    have e : (n * ((k + 1 : Nat) : Int)).toNat = (n * k).toNat + n.toNat := by rw [tn_succ hn, Nat.add_comm]
    rw [e, Int.pow_add] at h1
    rw [dg, dval, dval_dg hn k _ (Int.ediv_nonneg h0 (Int.le_of_lt pp)) (Int.ediv_lt_of_lt_mul pp h1)]
    exact Int.emod_add_mul_ediv x _
theorem dg_get {n : Int} (hn : 0 ≤ n) : ∀ (k : Nat) (x : Int) (i : Nat), 0 ≤ x → i < k → (dg n x k)[i]? = some (x / 2 ^ (n * i).toNat % 2 ^ n.toNat)
  | 0, _, i, _, h => by lia
  | k + 1, x, 0, _, _ => by simp [dg]
  | k + 1, x, i + 1, h0, h => by
    have pp : (0 : Int) < 2 ^ n.toNat := Int.pow_pos (by decide)
    rw [dg, List.getElem?_cons_succ, dg_get hn k _ i (Int.ediv_nonneg h0 (Int.le_of_lt pp)) (by lia), Int.ediv_ediv_of_nonneg (Int.le_of_lt pp), ← Int.pow_add]
    have e := tn_succ hn i
    rw [e]
theorem digits_dg {n a : Int} (hn : 1 ≤ n) (ha : 0 ≤ a) : digitsOf n a = dg n a (((Builtin.Int.intBits a : Int) + n - 1).fdiv n).toNat := by
  have hq0 : 0 ≤ ((Builtin.Int.intBits a : Int) + n - 1).fdiv n := by
    rw [Int.fdiv_eq_ediv_of_nonneg _ (by lia)]; exact Int.ediv_nonneg (by lia) (by lia)
  unfold digitsOf
  generalize ((Builtin.Int.intBits a : Int) + n - 1).fdiv n = q at *
  apply List.ext_getElem?
  intro i
  by_cases hi : i < q.toNat
  · rw [dg_get (by lia) _ _ _ ha hi]
    have h2 : i < (setDig n (List.replicate q.toNat 0) a 0 q).length := by rw [setDig_len, List.length_replicate]; exact hi
    rw [List.getElem?_eq_getElem h2]
    simp only [setDig, List.getElem_mapIdx]
    rw [if_pos (by lia), Int.sub_zero]
  · rw [List.getElem?_eq_none (by rw [setDig_len, List.length_replicate]; lia), List.getElem?_eq_none (by rw [dg_len]; lia)]
theorem digits_len {n a : Int} (hn : 1 ≤ n) (ha : 0 ≤ a) : (digitsOf n a).length = (((Builtin.Int.intBits a : Int) + n - 1).fdiv n).toNat := by rw [digits_dg hn ha, dg_len]
theorem digits_bd {n a : Int} (hn : 1 ≤ n) (ha : 0 ≤ a) : ∀ d ∈ digitsOf n a, 0 ≤ d ∧ d < 2 ^ n.toNat := by rw [digits_dg hn ha]; exact dg_bd _ _
theorem digits_val {n a : Int} (hn : 1 ≤ n) (ha : 0 ≤ a) : dval n (digitsOf n a) = a := by
  have hq0 : 0 ≤ ((Builtin.Int.intBits a : Int) + n - 1).fdiv n := by
    rw [Int.fdiv_eq_ediv_of_nonneg _ (by lia)]; exact Int.ediv_nonneg (by lia) (by lia)
  rw [digits_dg hn ha]
  refine dval_dg (by lia) _ _ ha ?_
  have := q_lt hn ha
  rw [Int.sub_zero] at this
  rw [Int.toNat_of_nonneg hq0]
  exact this
/-- one turn of the long division -/
theorem turn_div {n b d P : Int} (hn : 0 ≤ n) (hb : 0 < b) (hbn : b < 2 ^ n.toNat) (hd : 0 ≤ d ∧ d < 2 ^ n.toNat) :
    let x := P % b * 2 ^ n.toNat + d
    (0 ≤ x ∧ x < 2 ^ (n + n).toNat ∧ x % b = (d + 2 ^ n.toNat * P) % b ∧ x / b + 2 ^ n.toNat * (P / b) = (d + 2 ^ n.toNat * P) / b ∧ 0 ≤ x / b ∧ x / b < 2 ^ n.toNat) := by
  intro x
  have pp : (0 : Int) < 2 ^ n.toNat := Int.pow_pos (by decide)
  have r0 := Int.emod_nonneg P (Int.ne_of_gt hb)
  have r1 := Int.emod_lt_of_pos P hb
  have hPb := Int.emod_add_mul_ediv P b
  have hx0 : 0 ≤ x := by have := Int.mul_nonneg r0 (Int.le_of_lt pp); show 0 ≤ P % b * 2 ^ n.toNat + d; lia
  have hx1 : x < b * 2 ^ n.toNat := by
    have h1 : (P % b + 1) * 2 ^ n.toNat ≤ b * 2 ^ n.toNat := Int.mul_le_mul_of_nonneg_right (by lia) (Int.le_of_lt pp)
    rw [Int.add_mul, Int.one_mul] at h1
    show P % b * 2 ^ n.toNat + d < _; lia
  have ex : d + 2 ^ n.toNat * P = x + b * (2 ^ n.toNat * (P / b)) := by
    show _ = P % b * 2 ^ n.toNat + d + b * (2 ^ n.toNat * (P / b))
    have e : 2 ^ n.toNat * P = 2 ^ n.toNat * (P % b + b * (P / b)) := by rw [hPb]
    rw [e, Int.mul_add, Int.mul_comm (2 ^ n.toNat) (P % b), Int.mul_left_comm (2 ^ n.toNat) b]
    lia
  refine ⟨hx0, ?_, ?_, ?_, Int.ediv_nonneg hx0 (Int.le_of_lt hb), Int.ediv_lt_of_lt_mul hb (by rw [Int.mul_comm]; exact hx1)⟩
  · have e : (n + n).toNat = n.toNat + n.toNat := by lia
    rw [e, Int.pow_add]
    have : b * 2 ^ n.toNat ≤ 2 ^ n.toNat * 2 ^ n.toNat := Int.mul_le_mul_of_nonneg_right (Int.le_of_lt hbn) (Int.le_of_lt pp)
    lia
  · rw [ex, Int.add_mul_emod_self_left]
  · rw [ex, Int.add_mul_ediv_left _ _ (Int.ne_of_gt hb)]
end
section
local macro_rules | `(tactic| omega) => `(tactic| lia)
theorem reg_posdiv : True := by
  w_top off
  k_with_none
  (k_with "exec While" => (k_here; refine halt ?_))
  (k_with "exec While Compare cons nil" => (k_here; refine halt ?_))
  (k_with "pyIter ref" => (k_here; refine halt ?_))
  (k_with "exec FunctionDef" => (k_here; refine halt ?_))
  (k_with "call builtin:list.reverse" => (k_here; refine halt ?_))
  (k_with "call builtin:dict.get" => (k_here; refine halt ?_))
  (k_with "call builtin:iter" => (k_here; refine halt ?_))
  (k_with "call builtin:next" => (k_here; refine halt ?_))
  (k_with "exec For" => (k_here; refine forT (by assumption) ?_ (fun _ _ => rfl) (fun _ => rfl) PassesOwn.never))
  (k_with "exec For Name Call cons nil" => (k_here; refine forT (by assumption) ?_ (fun _ _ => rfl) (fun _ => rfl) PassesOwn.never))
  (k_with "exec For Name Name cons nil" => (k_here; refine forT (by assumption) ?_ (fun _ _ => rfl) (fun _ => rfl) PassesOwn.never))
  (k_with "eval Name" => (k_here; k_dflt (refine nameX_L (by assumption) (by first | rfl | assumption) ?_; k_whole)))
  (k_with "execs cons" => ((with_reducible refine wpAny_execs_cons ?_); try dsimp only))
  (k_with "execs nil" => (with_reducible refine wpAny_execs_nil ?_))
  (k_with "storeName" => (k_here; k_dflt (first | (refine storeX_L (by assumption) (by assumption) ?_; k_whole; intro _ _ _; (try k_sweep)) | (refine storeX_C (by k_asm) (by k_asm) (by rfl) (by k_updF) (by k_asm) ?_; k_whole; intro _ _ _ N' d'; (try dsimp only at N'); revert N' d'; intro _ _; (try k_sweep)))))
  (k_with "assign Name" => (k_here; refine wpAny_assign_Name ?_))
  (k_with "binaryOp LShift int int" => (k_here; refine lshift_int (by assumption) (by assumption) ?_))
  exact True.intro
abbrev Q45 : Str := Str.ofString "_int2digits.<locals>.inner"
abbrev Q52 : Str := Str.ofString "_digits2int.<locals>.inner"
theorem all2 {P : Addr × Obj → Prop} {a b : Addr × Obj} (ha : P a) (hb : P b) : ∀ p ∈ [a, b], P p := by
  intro p hp
  simp only [List.mem_cons, List.not_mem_nil, or_false] at hp
  rcases hp with rfl | rfl <;> assumption
theorem bits_pos {b : Int} (hb : 0 < b) : 1 ≤ Builtin.Int.intBits b := by
  unfold Builtin.Int.intBits
  rw [if_neg (by simp; lia)]
  lia
theorem call_led2 {B h h' : Heap} {L D : Addr} {m : Str → Option Value} {o : Obj} {ps ps' qs : Array Value} (N : News B L h [(45, tabObj ps), (52, tabObj qs)]) (F : Fr B L h m) (KB : KeepBut [45] h h') (h45 : h'.get? 45 = some (tabObj ps')) (hf : h.get? D = none) (hD : h'.get? D = some o) :
    News B L h' [(D, o), (45, tabObj ps'), (52, tabObj qs)] := by
  intro q hq
  simp only [List.mem_cons, List.not_mem_nil, or_false] at hq
  rcases hq with rfl | rfl | rfl
  · refine ⟨hD, fun z => ?_, ?_⟩
    · obtain ⟨oL, _, _, ho, _⟩ := F.ns
      subst z
      rw [hf] at ho; cases ho
    · cases z : B.get? D with
      | none => rfl
      | some o' => have := F.keep _ _ z; rw [hf] at this; cases this
  · exact ⟨h45, (N _ (.head _)).2⟩
  · exact ⟨KB 52 _ (fun z => by cases List.mem_singleton.mp z) (N _ (.tail _ (.head _))).1, (N _ (.tail _ (.head _))).2⟩
/-- the loop of the long division, after i turns -/
inductive DivJ (b : Int) (ds : List Int) (_L lq : Addr) (rest : List (Addr × Obj)) (i : Nat) (m : Str → Option Value) (nx : List (Addr × Obj)) : Prop
  | mk (vq : List Value) (kq : Nat) (qd : List Int) (t : Tok) (q0 : m "q_digits" = some (.ref lq)) (q1 : (∃ tb, m "b" = some (.int b tb))) (q2 : (∃ tn, m "n" = some (.int (Builtin.Int.intBits b : Int) tn))) (q3 : m "r" = some (.int (dval (Builtin.Int.intBits b : Int) (ds.drop (ds.length - i)) % b) t)) (q4 : IntsAre vq qd) (q5 : qd.length = i) (q6 : (∀ d ∈ qd, 0 ≤ d ∧ d < 2 ^ (Builtin.Int.intBits b : Int).toNat)) (q7 : dval (Builtin.Int.intBits b : Int) qd.reverse = dval (Builtin.Int.intBits b : Int) (ds.drop (ds.length - i)) / b) (q8 : nx = (lq, W.listOf vq.toArray kq) :: rest) : DivJ b ds _L lq rest i m nx
theorem div_zero {b : Int} {ds : List Int} : dval (Builtin.Int.intBits b : Int) (ds.drop (ds.length - 0)) = 0 := by
  rw [Nat.sub_zero, List.drop_length]; rfl
theorem drop_turn {n : Int} {ds : List Int} {i : Nat} {d : Int} (hi : i < ds.length) (hd : ds[ds.length - 1 - i]? = some d) : dval n (ds.drop (ds.length - (i + 1))) = d + 2 ^ n.toNat * dval n (ds.drop (ds.length - i)) := by
  have e1 : ds.length - (i + 1) = ds.length - 1 - i := by lia
  have e2 : ds.length - i = ds.length - 1 - i + 1 := by lia
  have hlt : ds.length - 1 - i < ds.length := by lia
  rw [List.getElem?_eq_getElem hlt] at hd
  rw [e1, e2, List.drop_eq_getElem_cons hlt, dval]
  rw [Option.some.inj hd]
theorem fresh2 {B h : Heap} {r : Addr} {ps qs : Array Value} (hfr : ∀ a o, h.get? a = some o → a ∉ [((45 : Addr), tabObj ps), (52, tabObj qs)].map (·.1) → B.get? a = some o) (hr : B.get? r = none) (h1 : @Ne Nat r 45) (h2 : @Ne Nat r 52) : h.get? r = none := by
  cases q : h.get? r with
  | none => rfl
  | some o =>
    have := hfr r o q (by
      simp only [List.map_cons, List.map_nil, List.mem_cons, List.not_mem_nil, or_false]
      rintro (e | e)
      · exact h1 e
      · exact h2 e)
    rw [hr] at this; cases this
theorem pdiv_spec {w : World} {p : Program} {loose : List Str} {mean : ExcName → Option Value} {mg mb : Str → Option Value}
   {A : Around} {s : Shared} {Q E : Value → Shared → Prop} {g : Heap} {a b : Int} {ta tb : Tok} {ps qs : Array Value}
   (X0 : (Mine.hd.heap_39 w.params).In g) (T0 : Top p loose mean mg mb g) (hg : Keep g s.heap) (hg45 : g.get? 45 = none) (hg52 : g.get? 52 = none) (C45 : CodeHd g 49 45) (C52 : CodeHd g 56 52)
   (t45 : TabS 45 54 4 Q45 s.heap ps) (t52 : TabS 52 69 4 Q52 s.heap qs)
   (hA : A.handled = none) (hd : A.depth ≤ 590) (hu : A.units ≤ 800)
   (ha : 0 ≤ a) (hb : 0 < b) (hab : Builtin.Int.intBits a ≤ 4000) (hbb : Builtin.Int.intBits b ≤ 4000)
   (hqq : ((Builtin.Int.intBits a : Int) + (Builtin.Int.intBits b : Int) - 1).fdiv (Builtin.Int.intBits b : Int) ≤ 250)
   (hR : ∀ (r : Addr) (t1 t2 : Tok) (kr : Nat) (ps' qs' : Array Value) (h' : Heap) (tk' : Nat), KeepBut [45, 52] s.heap h' → s.heap.get? r = none → h'.get? r = some (tupOf [.int (a / b) t1, .int (a % b) t2] kr) →
     TabS 45 54 4 Q45 h' ps' → TabS 52 69 4 Q52 h' qs' → Q (.ref r) { s with heap := h', toks := tk' }) :
   wpAny (model PR w) A (call (.ref 64) [.int a ta, .int b tb]) Q E s := by
  refine ask_in ?_
  k_fill
  intro _
  refine at_mono 590 800 hA hd hu ?_
  have X1 := X0.keeps hg
  have T1 := T0.keeps hg
  have ho := X1 64 _ rfl
  (refine' wpAny_call (call_plain_ret ?hroom (by assumption) ?hdata (Top.nolimit (by assumption)) ?hcd ?hbind ?hloc ?_ ?hco ?hgen ?hk ?hcell); (case hdata => exact rfl); (case hroom => exact Nat.le_of_ble_eq_true rfl); (case hcd => exact codeRec_of (by assumption) rfl); (case hbind => exact rfl); (case hloc => exact locs rfl); (case hco => exact rfl); (case hgen => exact rfl); (case hk => exact rfl); (case hcell => decide))
  intro h₁ F1
  clear ho
  have t45' := t45.keeps F1.keep
  have t52' := t52.keeps F1.keep
  obtain ⟨B, F, N, kE, kB, hfr, hout⟩ := hide_allB F1 (Nat.le_refl _) hg (all2 (P := fun p => s.heap.get? p.1 = some p.2 ∧ g.get? p.1 = none) (a := (45, tabObj ps)) (b := (52, tabObj qs)) ⟨t45.1, hg45⟩ ⟨t52.1, hg52⟩)
  have h45 : @LT.lt Nat _ 45 s.heap.objs.size := Heap.lt_size t45.1
  have h52 : @LT.lt Nat _ 52 s.heap.objs.size := Heap.lt_size t52.1
  have X := X0.keeps kE
  have T := T0.keeps kE
  have C1 : CodeHd B 49 45 := C45.keeps kE
  have C2 : CodeHd B 56 52 := C52.keeps kE
  have hB45 : B.get? 45 = none := (N _ (.head _)).2.2
  have hB52 : B.get? 52 = none := (N _ (.tail _ (.head _))).2.2
  have k52 : TabK B s.heap.objs.size [] 52 69 4 Q52 qs := TabS.base t52 (fun c o e hne => hfr c o e (fun z => by
    obtain ⟨vs, t, e3, e4⟩ := hne
    simp only [List.map_cons, List.map_nil, List.mem_cons, List.not_mem_nil, or_false] at z
    rcases z with rfl | rfl
    · rw [t45.1] at e; cases e; cases e3; exact t45.ns _ _ e4
    · rw [t52.1] at e; cases e; cases e3; exact t52.ns _ _ e4))
  have k45 : TabK B s.heap.objs.size [] 45 54 4 Q45 ps := TabS.base t45 (fun c o e hne => hfr c o e (fun z => by
    obtain ⟨vs, t, e3, e4⟩ := hne
    simp only [List.map_cons, List.map_nil, List.mem_cons, List.not_mem_nil, or_false] at z
    rcases z with rfl | rfl
    · rw [t45.1] at e; cases e; cases e3; exact t45.ns _ _ e4
    · rw [t52.1] at e; cases e; cases e3; exact t52.ns _ _ e4))
  have ns52 := t52.ns
  clear F1 X0 T0 C45 C52 X1 T1 t45' t52' t45 t52
  generalize hL : s.heap.objs.size = L at *
  have hn1 : (1 : Int) ≤ (Builtin.Int.intBits b : Int) := by have := bits_pos hb; lia
  have hn2 : (Builtin.Int.intBits b : Int) ≤ 4000 := by lia
  k_steps
  rename Fr B L _ _ => F2
  rename News B L _ _ => N2
  refine i2d_spec (g := B) X T F2.keep hB45 C1 (k45 _ _ _ F2 N2 (by simp) (.head _)) rfl (by show 590 + 1 ≤ 600; lia) (by show 800 + 3 ≤ 900; lia) ha hab hn1 hn2 hqq ?_
  intro D ve kr ps' h2 tk2 KB hfre hD hi hT
  have F3 := Fr.but F2 hB45 (Ne.symm (N2 _ (.head _)).2.1) KB
  have N3 := call_led2 N2 F2 KB hT.1 hfre hD
  have hD52 : D ≠ 52 := fun z => by rw [z] at hfre; rw [(N2 _ (.tail _ (.head _))).1] at hfre; cases hfre
  have hD45 : D ≠ 45 := fun z => by rw [z] at hfre; rw [(N2 _ (.head _)).1] at hfre; cases hfre
  obtain ⟨e1, e2, N4, k45', he52⟩ := TabS.led2 hT F3 N3 (.head _) (N3 _ (.tail _ (.tail _ (.head _)))).1 ns52 hD52
  clear N3 F2 N2 k45 KB hT hfre hD
  have hvl := hi.length
  have hdl := digits_len (n := (Builtin.Int.intBits b : Int)) hn1 ha
  have hdv := digits_val (n := (Builtin.Int.intBits b : Int)) hn1 ha
  have hdb := digits_bd (n := (Builtin.Int.intBits b : Int)) hn1 ha
  generalize digitsOf (Builtin.Int.intBits b : Int) a = ds at *
  k_steps
  rename_i hz1 hz2 hz3 lq hz4 lz1 hz5 I hz6 F5 N5 lz2
  unfold Halt
  have hbn : b < 2 ^ (Builtin.Int.intBits b : Int).toNat := by rw [Int.toNat_natCast]; exact lt_intBits (by lia)
  refine' iterRev (L := L) (l := D) (ol := W.listOf ve.toArray kr) rfl (DivJ b ds L lq [(e1, e2), (D, W.listOf ve.toArray kr), (45, tabObj ps'), (52, tabObj qs)]) rfl ?Jm rfl ⟨_, rfl⟩ (by assumption) (by assumption) ?Jo ?J0 ?JD ?turn ?done
  case Jm => exact .tail _ (.tail _ (.head _))
  case Jo => k_all
  case' J0 => refine ⟨_, 0, [], _, rfl, ⟨_, rfl⟩, ⟨_, rfl⟩, (by rw [div_zero, Int.zero_emod]; rfl), .nil, rfl, (fun _ h => nomatch h), (by rw [div_zero, Int.zero_ediv]; rfl), rfl⟩
  case JD =>
    rintro i m nx ⟨_, _, _, _, _, _, _, _, _, _, _, _, rfl⟩
    exact .tail _ (.tail _ (.head _))
  case turn =>
    rintro i v m₁ nx I2 oI h tk hlt hv ⟨vq, kq, qd, t, mq, ⟨tb', mb⟩, ⟨tn', mn⟩, mr, iq, lqd, bq, dq, rfl⟩ hne F N
    obtain ⟨d, td, hd', rfl⟩ := ints_at hi hv
    rw [hvl] at hd' hlt
    simp only [List.cons_append, List.nil_append] at N
    have hI := gnNe_of hne
    simp only [GnNe, and_true] at hI
    clear hne
    have htd := turn_div (n := (Builtin.Int.intBits b : Int)) (b := b) (d := d) (P := dval (Builtin.Int.intBits b : Int) (ds.drop (ds.length - i))) (by lia) hb hbn (hdb _ (List.mem_of_getElem? hd'))
    have hdt := drop_turn (n := (Builtin.Int.intBits b : Int)) hlt hd'
    generalize hP : dval (Builtin.Int.intBits b : Int) (ds.drop (ds.length - i)) = P at *
    have hr0 := Int.emod_nonneg P (Int.ne_of_gt hb)
    have hr1 := Int.emod_lt_of_pos P hb
    have hshl : (Builtin.Int.intBits (P % b) : Int) + (Builtin.Int.intBits b : Int) ≤ 2 ^ 27 := by
      have := Mine.intBits_le hr0 (Int.lt_of_lt_of_le hr1 (Int.le_of_lt hbn))
      rw [Int.toNat_natCast] at this
      lia
    have hn0 : (0 : Int) ≤ (Builtin.Int.intBits b : Int) := Int.natCast_nonneg _
    replace F := Fr.known0 (Fr.known0 (Fr.known0 (Fr.known0 F mr) (n := "n") mn) (n := "b") mb) (n := "q_digits") mq
    k_steps
    rename Fr B L _ _ => F6
    rename News B L _ _ => N6
    have hxb : (Builtin.Int.intBits (P % b * 2 ^ (Builtin.Int.intBits b : Int).toNat + d) : Int) - (Builtin.Int.intBits b : Int) ≤ 4000 := by
      have := Mine.intBits_le htd.1 htd.2.1
      have e : ((Builtin.Int.intBits b : Int) + (Builtin.Int.intBits b : Int)).toNat = Builtin.Int.intBits b + Builtin.Int.intBits b := by lia
      rw [e] at this
      lia
    refine div_spec (X.keeps F6.keep) (T.keeps F6.keep) rfl (by show 590 + 1 ≤ 600; lia) (by show 800 + 3 ≤ 900; lia) hxb hb hbb ?_
    intro r t1 t2 kr' h7 tk7 MM
    have F7 := MM.fr F6
    have N7 := MM.news F6 N6
    have hrn := MM.ne N6 (.head _)
    simp only [List.cons_append, List.nil_append] at N7
    simp only [List.forall_mem_cons, List.not_mem_nil, false_implies, implies_true, and_true] at hrn
    clear F6 N6 MM
    have hrn1 : @Ne Nat r lq := fun z => hrn.1 z.symm
    k_steps
    rename News B L _ _ => N8
    simp only [List.push_toArray] at N8
    refine' turn_next (by assumption) N8 ?Tj ?Ts ?Tm ?Tn
    case' Tj => refine ⟨_, ?Tk, qd ++ [(P % b * 2 ^ (Builtin.Int.intBits b : Int).toNat + d) / b], t2, rfl, ⟨_, rfl⟩, ⟨_, rfl⟩, (by rw [hdt, ← htd.2.2.1]; rfl), iq.append (.cons _ t1 .nil), by rw [List.length_append, lqd]; rfl, ?Tb, ?Tv, rfl⟩
    case Ts => kcf_all
    case Tm => kcf_m
    case Tn => k_all
    case Tb =>
      intro z hz
      rcases List.mem_append.mp hz with hz | hz
      · exact bq z hz
      · rw [List.mem_singleton.mp hz]; exact htd.2.2.2.2
    case Tv =>
      rw [hdt, List.reverse_append, List.reverse_cons, List.reverse_nil, List.nil_append, List.cons_append, List.nil_append, dval, dq]
      exact htd.2.2.2.1
  case done =>
    rintro m₁ nx h tk ⟨vq, kq, qd, t, mq, ⟨tb', mb⟩, ⟨tn', mn⟩, mr, iq, lqd, bq, dq, rfl⟩ F N
    rw [hvl, Nat.sub_self, List.drop_zero, hdv] at mr dq
    replace F := Fr.known0 (Fr.known0 (Fr.known0 (Fr.known0 F mr) (n := "n") mn) (n := "b") mb) (n := "q_digits") mq
    have hvq := iq.length
    k_steps
    unfold Halt
    rename Fr B L _ _ => F6
    rename News B L _ _ => N6
    refine kl_reverse (its := vq.toArray) (l := vq.reverse) F6 N6 (by simp) (by k_upd) (by rw [sizeLine_eq]; simp; lia) ?_
    intro h7 F7 N7
    try dsimp only [List.nil_append, List.cons_append] at N7
    clear F6 N6
    k_steps
    rename Fr B L _ _ => F8
    rename News B L _ _ => N8
    refine d2i_spec (g := B) X T F8.keep hB52 C2 (k52 _ _ _ F8 N8 (by simp) (.tail _ (.tail _ (.tail _ (.tail _ (.head _)))))) rfl (by show 590 + 1 ≤ 600; lia) (by show 800 + 3 ≤ 900; lia) ⟨_, (N8 (lq, W.listOf vq.reverse.toArray _) (.head _)).1, rfl, _, rfl⟩ (PyProof.Rows.IntsAre.reverse iq) (by rw [List.length_reverse]; lia) (fun d hd => bq d (List.mem_reverse.mp hd)) hn1 hn2 ?_
    intro qs' t9 h9 tk9 KB9 hT9
    rw [dq]
    have F9 := Fr.but F8 hB52 (Ne.symm (N8 (52, tabObj qs) (.tail _ (.tail _ (.tail _ (.tail _ (.head _)))))).2.1) KB9
    have zq : @Ne Nat lq 52 := Nat.ne_of_gt lz1.2.2.2
    have z45 : @Ne Nat 45 52 := by decide
    have N9 := News.but N8 (by k_updF) KB9 hT9.1
    try dsimp only at N9
    obtain ⟨f1, f2, N10, k52'⟩ := TabS.led hT9 F9 N9 (.head _)
    clear F8 N8 N9 k52
    k_steps
    rename Fr B L _ _ => F12
    rename News B L _ _ => N12
    refine hR _ _ _ 0 ps' qs' _ _ (hout _ _ F12) ?fresh (N12 _ (.head _)).1 (k45' _ _ _ F12 N12 (fun x hx => ?m1) (.tail _ (.tail _ (.tail _ (.tail _ (.tail _ (.head _))))))) (k52' _ _ _ F12 N12 (fun x hx => ?m2) (.tail _ (.tail _ (.tail _ (.tail _ (.tail _ (.tail _ (.head _))))))))
    case m1 => rw [List.mem_singleton.mp hx]; exact .tail _ (.tail _ (.tail _ (.head _)))
    case m2 => rw [List.mem_singleton.mp hx]; exact .tail _ (.head _)
    case fresh =>
      rename_i D9 _ _ l9
      exact fresh2 hfr (N12 _ (.head _)).2.2 (Nat.ne_of_gt l9.2.2.2.2.1) (Nat.ne_of_gt l9.2.2.2.2.2)
end
section
theorem reg_idm : True := by
  w_top off
  k_with_none
  (k_with "exec While" => (k_here; refine halt ?_))
  (k_with "exec While Compare cons nil" => (k_here; refine halt ?_))
  (k_with "pyIter ref" => (k_here; refine halt ?_))
  (k_with "exec FunctionDef" => (k_here; refine halt ?_))
  (k_with "call builtin:list.reverse" => (k_here; refine halt ?_))
  (k_with "call builtin:dict.get" => (k_here; refine halt ?_))
  (k_with "call builtin:iter" => (k_here; refine halt ?_))
  (k_with "call builtin:next" => (k_here; refine halt ?_))
  (k_with "exec For" => (k_here; refine forT (by assumption) ?_ (fun _ _ => rfl) (fun _ => rfl) PassesOwn.never))
  (k_with "exec For Name Call cons nil" => (k_here; refine forT (by assumption) ?_ (fun _ _ => rfl) (fun _ => rfl) PassesOwn.never))
  (k_with "exec For Name Name cons nil" => (k_here; refine forT (by assumption) ?_ (fun _ _ => rfl) (fun _ => rfl) PassesOwn.never))
  (k_with "eval Name" => (k_here; k_dflt (refine nameX_L (by assumption) (by first | rfl | assumption) ?_; k_whole)))
  (k_with "execs cons" => ((with_reducible refine wpAny_execs_cons ?_); try dsimp only))
  (k_with "execs nil" => (with_reducible refine wpAny_execs_nil ?_))
  (k_with "storeName" => (k_here; k_dflt (first | (refine storeX_L (by assumption) (by assumption) ?_; k_whole; intro _ _ _; (try k_sweep)) | (refine storeX_C (by k_asm) (by k_asm) (by rfl) (by k_updF) (by k_asm) ?_; k_whole; intro _ _ _ N' d'; (try dsimp only at N'); revert N' d'; intro _ _; (try k_sweep)))))
  (k_with "assign Name" => (k_here; refine wpAny_assign_Name ?_))
  (k_with "binaryOp LShift int int" => (k_here; refine lshift_int (by assumption) (by assumption) ?_))
  exact True.intro
theorem call_led3 {B h h' : Heap} {L D : Addr} {m : Str → Option Value} {o : Obj} {ps ps' qs qs' : Array Value} (N : News B L h [(45, tabObj ps), (52, tabObj qs)]) (F : Fr B L h m) (h45 : h'.get? 45 = some (tabObj ps')) (h52 : h'.get? 52 = some (tabObj qs')) (hf : h.get? D = none) (hD : h'.get? D = some o) :
    News B L h' [(D, o), (45, tabObj ps'), (52, tabObj qs')] := by
  intro q hq
  simp only [List.mem_cons, List.not_mem_nil, or_false] at hq
  rcases hq with rfl | rfl | rfl
  · refine ⟨hD, fun z => ?_, ?_⟩
    · obtain ⟨oL, _, _, ho, _⟩ := F.ns
      subst z
      rw [hf] at ho; cases ho
    · cases z : B.get? D with
      | none => rfl
      | some o' => have := F.keep _ _ z; rw [hf] at this; cases this
  · exact ⟨h45, (N _ (.head _)).2⟩
  · exact ⟨h52, (N _ (.tail _ (.head _))).2⟩
theorem idpos_spec {w : World} {p : Program} {loose : List Str} {mean : ExcName → Option Value} {mg mb : Str → Option Value}
   {A : Around} {s : Shared} {Q E : Value → Shared → Prop} {g : Heap} {a b q : Int} {ta tb : Tok} {ps qs : Array Value}
   (X0 : (Mine.hd.heap_39 w.params).In g) (T0 : Top p loose mean mg mb g) (hg : Keep g s.heap) (hg45 : g.get? 45 = none) (hg52 : g.get? 52 = none) (C45 : CodeHd g 49 45) (C52 : CodeHd g 56 52)
   (t45 : TabS 45 54 4 Q45 s.heap ps) (t52 : TabS 52 69 4 Q52 s.heap qs)
   (hA : A.handled = none) (hd : A.depth ≤ 580) (hu : A.units ≤ 700)
   (hb : 0 < b) (hq : 0 ≤ q) (hab : a = b * q) (ha4 : Builtin.Int.intBits a ≤ 4000) (hbb : Builtin.Int.intBits b ≤ 4000)
   (hqq : ((Builtin.Int.intBits a : Int) + (Builtin.Int.intBits b : Int) - 1).fdiv (Builtin.Int.intBits b : Int) ≤ 250)
   (hR : ∀ (r : Addr) (t1 t2 : Tok) (kr : Nat) (ps' qs' : Array Value) (h' : Heap) (tk' : Nat), KeepBut [45, 52] s.heap h' → s.heap.get? r = none → h'.get? r = some (tupOf [.int q t1, .int 0 t2] kr) →
     TabS 45 54 4 Q45 h' ps' → TabS 52 69 4 Q52 h' qs' → Q (.ref r) { s with heap := h', toks := tk' }) :
   wpAny (model PR w) A (call (.ref 71) [.int a ta, .int b tb]) Q E s := by
  refine ask_in ?_
  k_fill
  intro _
  refine at_mono 580 700 hA hd hu ?_
  have X := X0.keeps hg
  have T := T0.keeps hg
  have ho := X 71 _ rfl
  (refine' wpAny_call (call_plain_ret ?hroom (by assumption) ?hdata (Top.nolimit (by assumption)) ?hcd ?hbind ?hloc ?_ ?hco ?hgen ?hk ?hcell); (case hdata => exact rfl); (case hroom => exact Nat.le_of_ble_eq_true rfl); (case hcd => exact codeRec_of (by assumption) rfl); (case hbind => exact rfl); (case hloc => exact locs rfl); (case hco => exact rfl); (case hgen => exact rfl); (case hk => exact rfl); (case hcell => decide))
  intro h₁ F
  have N : News s.heap s.heap.objs.size h₁ [] := News.nil
  clear ho
  generalize hL : s.heap.objs.size = L at *
  have hb0 : b ≠ 0 := by lia
  have hb1 : ¬ b < 0 := by lia
  have ha0 : 0 ≤ a := by rw [hab]; exact Int.mul_nonneg (by lia) hq
  have ha1 : ¬ a < 0 := by lia
  k_steps
  · exact absurd (by assumption) hb0
  rename Fr s.heap L _ _ => F2
  refine pdiv_spec (g := g) X0 T0 (hg.trans F2.keep) hg45 hg52 C45 C52 (t45.keeps F2.keep) (t52.keeps F2.keep) rfl (by show 580 + 1 ≤ 590; lia) (by show 700 + 3 ≤ 800; lia) ha0 hb ha4 hbb hqq ?_
  intro r t1 t2 kr ps' qs' h' tk' KB hf hr T1 T2
  have e1 : a / b = q := by rw [hab]; exact Int.mul_ediv_cancel_left _ hb0
  have e2 : a % b = 0 := by rw [hab]; exact Int.mul_emod_right _ _
  rw [e1, e2] at hr
  exact hR r t1 t2 kr ps' qs' h' tk' (keep_butL F2.keep KB) (fresh_of F2.keep hf) hr T1 T2
theorem idm_spec {w : World} {p : Program} {loose : List Str} {mean : ExcName → Option Value} {mg mb : Str → Option Value}
   {A : Around} {s : Shared} {Q E : Value → Shared → Prop} {g : Heap} {a b q : Int} {ta tb : Tok} {ps qs : Array Value}
   (X0 : (Mine.hd.heap_39 w.params).In g) (T0 : Top p loose mean mg mb g) (hg : Keep g s.heap) (hg45 : g.get? 45 = none) (hg52 : g.get? 52 = none) (C45 : CodeHd g 49 45) (C52 : CodeHd g 56 52)
   (t45 : TabS 45 54 4 Q45 s.heap ps) (t52 : TabS 52 69 4 Q52 s.heap qs)
   (hA : A.handled = none) (hd : A.depth ≤ 570) (hu : A.units ≤ 600)
   (hb : b ≠ 0) (hq : 0 ≤ q) (hab : a = b * q) (ha4 : Builtin.Int.intBits a ≤ 4000) (hbb : Builtin.Int.intBits b ≤ 4000)
   (hqq : ((Builtin.Int.intBits a : Int) + (Builtin.Int.intBits b : Int) - 1).fdiv (Builtin.Int.intBits b : Int) ≤ 250)
   (hR : ∀ (r : Addr) (t1 t2 : Tok) (kr : Nat) (ps' qs' : Array Value) (h' : Heap) (tk' : Nat), KeepBut [45, 52] s.heap h' → s.heap.get? r = none → h'.get? r = some (tupOf [.int q t1, .int 0 t2] kr) →
     TabS 45 54 4 Q45 h' ps' → TabS 52 69 4 Q52 h' qs' → Q (.ref r) { s with heap := h', toks := tk' }) :
   wpAny (model PR w) A (call (.ref 71) [.int a ta, .int b tb]) Q E s := by
  rcases Int.lt_or_gt_of_ne hb.symm with hb | hb
  · exact idpos_spec X0 T0 hg hg45 hg52 C45 C52 t45 t52 hA (by lia) (by lia) hb hq hab ha4 hbb hqq hR
  refine ask_in ?_
  k_fill
  intro _
  refine at_mono 570 600 hA hd hu ?_
  have X1 := X0.keeps hg
  have T1 := T0.keeps hg
  have ho := X1 71 _ rfl
  (refine' wpAny_call (call_plain_ret ?hroom (by assumption) ?hdata (Top.nolimit (by assumption)) ?hcd ?hbind ?hloc ?_ ?hco ?hgen ?hk ?hcell); (case hdata => exact rfl); (case hroom => exact Nat.le_of_ble_eq_true rfl); (case hcd => exact codeRec_of (by assumption) rfl); (case hbind => exact rfl); (case hloc => exact locs rfl); (case hco => exact rfl); (case hgen => exact rfl); (case hk => exact rfl); (case hcell => decide))
  intro h₁ F1
  clear ho
  obtain ⟨B, F, N, kE, kB, hfr, hout⟩ := hide_allB F1 (Nat.le_refl _) hg (all2 (P := fun p => s.heap.get? p.1 = some p.2 ∧ g.get? p.1 = none) (a := (45, tabObj ps)) (b := (52, tabObj qs)) ⟨t45.1, hg45⟩ ⟨t52.1, hg52⟩)
  have h45 : @LT.lt Nat _ 45 s.heap.objs.size := Heap.lt_size t45.1
  have h52 : @LT.lt Nat _ 52 s.heap.objs.size := Heap.lt_size t52.1
  have X := X0.keeps kE
  have T := T0.keeps kE
  have C1 : CodeHd B 49 45 := C45.keeps kE
  have C2 : CodeHd B 56 52 := C52.keeps kE
  have hB45 : B.get? 45 = none := (N _ (.head _)).2.2
  have hB52 : B.get? 52 = none := (N _ (.tail _ (.head _))).2.2
  have k52 : TabK B s.heap.objs.size [] 52 69 4 Q52 qs := TabS.base t52 (fun c o e hne => hfr c o e (fun z => by
    obtain ⟨vs, t, e3, e4⟩ := hne
    simp only [List.map_cons, List.map_nil, List.mem_cons, List.not_mem_nil, or_false] at z
    rcases z with rfl | rfl
    · rw [t45.1] at e; cases e; cases e3; exact t45.ns _ _ e4
    · rw [t52.1] at e; cases e; cases e3; exact t52.ns _ _ e4))
  have k45 : TabK B s.heap.objs.size [] 45 54 4 Q45 ps := TabS.base t45 (fun c o e hne => hfr c o e (fun z => by
    obtain ⟨vs, t, e3, e4⟩ := hne
    simp only [List.map_cons, List.map_nil, List.mem_cons, List.not_mem_nil, or_false] at z
    rcases z with rfl | rfl
    · rw [t45.1] at e; cases e; cases e3; exact t45.ns _ _ e4
    · rw [t52.1] at e; cases e; cases e3; exact t52.ns _ _ e4))
  clear F1 X0 T0 C45 C52 X1 T1 t45 t52
  generalize hL : s.heap.objs.size = L at *
  have hb0 : b ≠ 0 := by lia
  k_steps
  · exact absurd (by assumption) hb0
  rename Fr B L _ _ => F2
  rename News B L _ _ => N2
  have bn : Builtin.Int.intBits (-b) = Builtin.Int.intBits b := by simp [Builtin.Int.intBits]
  have an : Builtin.Int.intBits (-a) = Builtin.Int.intBits a := by simp [Builtin.Int.intBits]
  refine idpos_spec (q := q) X T F2.keep hB45 hB52 C1 C2 (k45 _ _ _ F2 N2 (by simp) (.head _)) (k52 _ _ _ F2 N2 (by simp) (.tail _ (.head _))) rfl (by show 570 + 1 ≤ 580; lia) (by show 600 + 3 ≤ 700; lia) (by lia) hq (by rw [hab, Int.neg_mul]) (by rw [an]; exact ha4) (by rw [bn]; exact hbb) (by rw [an, bn]; exact hqq) ?_
  intro r t1 t2 kr ps' qs' h2 tk2 KB hf hr T1 T2
  have F3 := Fr.butL F2 (by intro b hb; simp only [List.mem_cons, List.not_mem_nil, or_false] at hb; rcases hb with rfl | rfl <;> assumption) (by intro hb; simp only [List.mem_cons, List.not_mem_nil, or_false] at hb; rcases hb with e | e <;> (subst e; first | exact absurd h45 (Nat.lt_irrefl _) | exact absurd h52 (Nat.lt_irrefl _))) KB
  have N3 : News B L h2 [(r, tupOf [.int q t1, .int 0 t2] kr), (45, tabObj ps'), (52, tabObj qs')] := call_led3 N2 F2 T1.1 T2.1 hf hr
  obtain ⟨e1, e2, N4, k45'⟩ := TabS.led T1 F3 N3 (.head _)
  obtain ⟨f1, f2, N5, k52'⟩ := TabS.led T2 F3 N4 (.tail _ (.head _))
  clear N2 F2 N3 N4 k45 k52 KB
  k_steps
  rename Fr B L _ _ => F12
  rename News B L _ _ => N12
  rename_i D9 _ l9
  exact hR _ t1 _ 0 ps' qs' _ _ (hout _ _ F12) (fresh2 hfr (N12 _ (.head _)).2.2 (Nat.ne_of_gt l9.2.2.2.1) (Nat.ne_of_gt l9.2.2.2.2)) (N12 _ (.head _)).1
    (k45' _ _ _ F12 N12 (fun x hx => by rw [List.mem_singleton.mp hx]; exact .tail _ (.tail _ (.head _))) (.tail _ (.tail _ (.tail _ (.tail _ (.head _))))))
    (k52' _ _ _ F12 N12 (fun x hx => by rw [List.mem_singleton.mp hx]; exact .tail _ (.head _)) (.tail _ (.tail _ (.tail _ (.tail _ (.tail _ (.head _)))))))
end
section
local macro_rules | `(tactic| omega) => `(tactic| lia)
theorem reg_packed : True := by
  w_top off
  k_with_none
  (k_with "exec While" => (k_here; refine halt ?_))
  (k_with "exec While Compare cons nil" => (k_here; refine halt ?_))
  (k_with "pyIter ref" => (k_here; refine halt ?_))
  (k_with "exec FunctionDef" => (k_here; refine halt ?_))
  (k_with "call builtin:list.reverse" => (k_here; refine halt ?_))
  (k_with "call builtin:dict.get" => (k_here; refine halt ?_))
  (k_with "call builtin:iter" => (k_here; refine halt ?_))
  (k_with "call builtin:next" => (k_here; refine halt ?_))
  (k_with "exec For" => (k_here; refine forT (by assumption) ?_ (fun _ _ => rfl) (fun _ => rfl) PassesOwn.never))
  (k_with "exec For Name Call cons nil" => (k_here; refine forT (by assumption) ?_ (fun _ _ => rfl) (fun _ => rfl) PassesOwn.never))
  (k_with "exec For Name Name cons nil" => (k_here; refine forT (by assumption) ?_ (fun _ _ => rfl) (fun _ => rfl) PassesOwn.never))
  (k_with "eval Name" => (k_here; k_dflt (refine nameX_L (by assumption) (by first | rfl | assumption) ?_; k_whole)))
  (k_with "execs cons" => ((with_reducible refine wpAny_execs_cons ?_); try dsimp only))
  (k_with "execs nil" => (with_reducible refine wpAny_execs_nil ?_))
  (k_with "storeName" => (k_here; k_dflt (first | (refine storeX_L (by assumption) (by assumption) ?_; k_whole; intro _ _ _; (try k_sweep)) | (refine storeX_C (by k_asm) (by k_asm) (by rfl) (by k_updF) (by k_asm) ?_; k_whole; intro _ _ _ N' d'; (try dsimp only at N'); revert N' d'; intro _ _; (try k_sweep)))))
  (k_with "assign Name" => (k_here; refine wpAny_assign_Name ?_))
  (k_with "binaryOp LShift int int" => (k_here; refine lshift_int (by assumption) (by assumption) ?_))
  exact True.intro
def pk : Nat → Int → List Int → List Int
  | 0, _, acc => acc
  | k + 1, r, acc => if 0 < r then pk k (r / 64) ((64 + r % 64) :: acc) else acc
def packed (x : Int) : List Int := pk 4 (x / 64) [x % 64]
theorem pk_len : ∀ (k : Nat) (r : Int) (acc : List Int), (pk k r acc).length ≤ acc.length + k
  | 0, _, _ => by simp [pk]
  | k + 1, r, acc => by
    unfold pk
    split
    · have := pk_len k (r / 64) ((64 + r % 64) :: acc); simp only [List.length_cons] at this; lia
    · lia
theorem packed_len (x : Int) : (packed x).length ≤ 5 := pk_len 4 _ _
theorem packedAll_len (ns : List Int) : (ns.flatMap packed).length ≤ 5 * ns.length := by
  induction ns with
  | nil => simp
  | cons a r ih => have := packed_len a; rw [List.flatMap_cons, List.length_append, List.length_cons]; lia
theorem pk_stop {k : Nat} {r : Int} {acc : List Int} (h : ¬ 0 < r) : pk k r acc = acc := by
  cases k with
  | zero => rfl
  | succ k => unfold pk; rw [if_neg h]
theorem pk_turn {k : Nat} {r : Int} {acc : List Int} (h : 0 < r) : pk (k + 1) r acc = pk k (r / 64) ((64 + r % 64) :: acc) := by rw [pk, if_pos h]
theorem packed_take {ns : List Int} {i : Nat} {x : Int} (h : ns[i]? = some x) : (ns.take (i + 1)).flatMap packed = (ns.take i).flatMap packed ++ packed x := by
  rw [List.take_add_one, h]; simp
inductive PackJ (ns : List Int) (i : Nat) (m : Str → Option Value) (nx : List (Addr × Obj)) : Prop
  | mk (lo : Nat) (vo : List Value) (ko : Nat) (q0 : m "octets" = some (.ref lo)) (q1 : IntsAre vo ((ns.take i).flatMap packed)) (q2 : nx = [(lo, W.listOf vo.toArray ko)]) : PackJ ns i m nx
inductive PackW (x : Int) (lo : Nat) (vo : List Value) (ko : Nat) (I : Addr) (oI : Obj) (k : Nat) (m : Str → Option Value) (nx : List (Addr × Obj)) : Prop
  | mk (lp : Nat) (vp : List Value) (kp : Nat) (r : Int) (cs : List Int) (tr : Tok) (q0 : m "piece" = some (.ref lp)) (q1 : m "rest" = some (.int r tr)) (q2 : m "octets" = some (.ref lo)) (q3 : IntsAre vp cs) (q4 : pk k r cs = packed x) (q5 : cs.length + k = 5) (q6 : 0 ≤ r) (q7 : r < 64 ^ k) (q8 : nx = [(lp, W.listOf vp.toArray kp), (lo, W.listOf vo.toArray ko), (I, oI)]) : PackW x lo vo ko I oI k m nx
theorem packed_spec {w : World} {p : Program} {loose : List Str} {mean : ExcName → Option Value} {mg mb : Str → Option Value}
   {A : Around} {s : Shared} {Q E : Value → Shared → Prop} {l : Addr} {vs : List Value} {ns : List Int}
   (X : (Mine.hd.heap_39 w.params).In s.heap) (T : Top p loose mean mg mb s.heap)
   (hA : A.handled = none) (hd : A.depth ≤ 600) (hu : A.units ≤ 900)
   (hl : s.heap.IsList l vs.toArray) (hi : IntsAre vs ns) (hlen : ns.length ≤ 8) (hb : ∀ x ∈ ns, 0 ≤ x ∧ x < 262144)
   (hR : ∀ (r : Nat) (ve : List Value) (kr : Nat) (h' : Heap) (tk' : Nat), Made s.heap h' [(r, W.listOf ve.toArray kr)] → IntsAre ve (ns.flatMap packed) → Q (.ref r) { s with heap := h', toks := tk' }) :
   wpAny (model PR w) A (call (.ref 85) [.ref l]) Q E s := by
  refine ask_in ?_
  k_fill
  intro _
  refine at_mono 600 900 hA hd hu ?_
  have ho := X 85 _ rfl
  (refine' wpAny_call (call_plain_ret ?hroom (by assumption) ?hdata (Top.nolimit (by assumption)) ?hcd ?hbind ?hloc ?_ ?hco ?hgen ?hk ?hcell); (case hdata => exact rfl); (case hroom => exact Nat.le_of_ble_eq_true rfl); (case hcd => exact codeRec_of (by assumption) rfl); (case hbind => exact rfl); (case hloc => exact locs rfl); (case hco => exact rfl); (case hgen => exact rfl); (case hk => exact rfl); (case hcell => decide))
  intro h₁ F
  have N : News s.heap s.heap.objs.size h₁ [] := News.nil
  clear ho
  generalize hL : s.heap.objs.size = L at *
  generalize hh0 : s.heap = h₀ at *
  k_steps
  refine iterBase (L := L) rfl (PackJ ns) rfl hl (by assumption) (by assumption) ⟨_, _, _, rfl, .nil, rfl⟩ ?_ ?_
  · rintro i v m₁ nx I oI h tk hv ⟨lo, vo, ko, mo, io, rfl⟩ hne F N
    obtain ⟨x, t, hx, rfl⟩ := ints_at hi hv
    simp only [List.cons_append, List.nil_append] at N
    have hI := gnNe_of hne
    simp only [GnNe, and_true] at hI
    clear hne
    replace F := Fr.known0 F mo
    obtain ⟨hx0, hx1⟩ := hb x (List.mem_of_getElem? hx)
    have hvo2 : ((ns.take i).flatMap packed).length ≤ 40 := by
      have := packedAll_len (ns.take i); rw [List.length_take] at this; lia
    have hvo : vo.length ≤ 40 := by rw [io.length]; exact hvo2
    k_steps
    unfold Halt
    have ex : x.fmod 64 = x % 64 := Int.fmod_eq_emod_of_nonneg _ (by decide)
    have ed : x.fdiv 64 = x / 64 := Int.fdiv_eq_ediv_of_nonneg _ (by decide)
    refine' whileT (PackW x lo vo ko I oI) 4 (by assumption) (by assumption) ?W0 ?Wt PassesOwn.never
    case W0 =>
      exact ⟨_, _, 0, _, _, _, rfl, rfl, rfl, .cons _ _ .nil, (by rw [ed, ex]; rfl), rfl, (by rw [ed]; lia), (by rw [ed]; lia), rfl⟩
    case Wt =>
      rintro k m nx h tk ⟨lp, vp, kp, r, cs, tr, mp, mr, mo, ip, hpk, hk, hr0, hr1, rfl⟩ F N
      replace F := Fr.known0 (Fr.known0 (Fr.known0 F mo) (n := "rest") mr) (n := "piece") mp
      have hvp : vp.length ≤ 5 := by rw [ip.length]; lia
      have hcs : cs.length ≤ 5 := by lia
      have er : r.fmod 64 = r % 64 := Int.fmod_eq_emod_of_nonneg _ (by decide)
      have ef : r.fdiv 64 = r / 64 := Int.fdiv_eq_ediv_of_nonneg _ (by decide)
      have hk0 : 0 < r → ∃ k', k = k' + 1 := fun h => by
        cases k with
        | zero => simp at hr1; lia
        | succ k' => exact ⟨k', rfl⟩
      k_steps
      · obtain ⟨k', rfl⟩ := hk0 (by lia)
        refine' while_next (by assumption) (by assumption) ?Vj ?Vs
        case' Vj => refine ⟨k', Nat.lt_succ_self _, _, _, ?Vk, _, _, _, rfl, rfl, rfl, by assumption, ?Vp, by simp; lia, by rw [ef]; lia, ?Vr, rfl⟩
        case Vs => kcf_all
        case Vp => rw [← hpk, pk_turn (by lia), ef, er]; rfl
        case Vr => rw [ef]; rw [Int.pow_succ] at hr1; exact Int.ediv_lt_of_lt_mul (by decide) hr1
      · have hfin := pk_stop (k := k) (acc := cs) (show ¬ 0 < r by lia)
        rw [hfin] at hpk
        refine' turn_next (by assumption) (by assumption) ?Uj ?Us ?Um ?Un
        case' Uj => refine ⟨_, _, ?Uk, rfl, by rw [packed_take hx, ← hpk]; assumption, rfl⟩
        case Us => kcf_all
        case Um => kcf_m
        case Un => k_all
  · rintro m₁ nx h tk ⟨lo, vo, ko, mo, io, rfl⟩ F N
    rw [hi.length, List.take_length] at io
    replace F := Fr.known0 F mo
    k_steps
    refine' hR _ _ _ _ _ (made_of (by assumption) (by assumption) ?s) io
    case s => kcf_all
end
section
local macro_rules | `(tactic| omega) => `(tactic| lia)
theorem reg_pretty : True := by
  w_top off
  k_with_none
  (k_with "exec While" => (k_here; refine halt ?_))
  (k_with "exec While Compare cons nil" => (k_here; refine halt ?_))
  (k_with "pyIter ref" => (k_here; refine halt ?_))
  (k_with "exec FunctionDef" => (k_here; refine halt ?_))
  (k_with "call builtin:list.reverse" => (k_here; refine halt ?_))
  (k_with "call builtin:dict.get" => (k_here; refine halt ?_))
  (k_with "call builtin:iter" => (k_here; refine halt ?_))
  (k_with "call builtin:next" => (k_here; refine halt ?_))
  (k_with "exec For" => (k_here; refine forT (by assumption) ?_ (fun _ _ => rfl) (fun _ => rfl) PassesOwn.never))
  (k_with "exec For Name Call cons nil" => (k_here; refine forT (by assumption) ?_ (fun _ _ => rfl) (fun _ => rfl) PassesOwn.never))
  (k_with "exec For Name Name cons nil" => (k_here; refine forT (by assumption) ?_ (fun _ _ => rfl) (fun _ => rfl) PassesOwn.never))
  (k_with "eval Name" => (k_here; k_dflt (refine nameX_L (by assumption) (by first | rfl | assumption) ?_; k_whole)))
  (k_with "execs cons" => ((with_reducible refine wpAny_execs_cons ?_); try dsimp only))
  (k_with "execs nil" => (with_reducible refine wpAny_execs_nil ?_))
  (k_with "storeName" => (k_here; k_dflt (first | (refine storeX_L (by assumption) (by assumption) ?_; k_whole; intro _ _ _; (try k_sweep)) | (refine storeX_C (by k_asm) (by k_asm) (by rfl) (by k_updF) (by k_asm) ?_; k_whole; intro _ _ _ N' d'; (try dsimp only at N'); revert N' d'; intro _ _; (try k_sweep)))))
  (k_with "assign Name" => (k_here; refine wpAny_assign_Name ?_))
  (k_with "binaryOp LShift int int" => (k_here; refine lshift_int (by assumption) (by assumption) ?_))
  (k_with "call builtin:hex" => (k_here; refine P.hex_of_int ?_ (hexFits (by assumption))))
  (k_with "call builtin:str.join" => (k_here; refine halt ?_))
  exact True.intro
theorem hexFits0 : ∀ i, i < 32 → (baseText "0x" 16 (1 * 2 ^ ((0 : Int) + (i : Nat)).toNat)).length ≤ 20 := by decide +kernel
theorem hexFits {i : Nat} (h : i < 32) : (baseText "0x" 16 (1 * 2 ^ ((0 : Int) + (i : Nat)).toNat)).length ≤ sizeLine := by
  have := hexFits0 i h
  rw [sizeLine_eq]; lia
def tenNames : List Str := ["OPTIMIZED", "NEWLOCALS", "VARARGS", "VARKEYWORDS", "NESTED", "GENERATOR", "NOFREE", "COROUTINE", "ITERABLE_COROUTINE", "ASYNC_GENERATOR"].map Str.ofString
def flagName (i : Nat) : Str := tenNames.getD i (baseText "0x" 16 (2 ^ i))
def bitsBelow (a : Int) (i : Nat) : List Nat := (List.range i).filter fun j => a.toNat.testBit j
def PrettyI (a f : Int) (i : Nat) : Prop := f = a / 2 ^ i * 2 ^ i ∧ (a = 0 ∨ f ≠ 0)
def flagTab : List (Int × PyData) := (List.range 10).map fun i => ((2 : Int) ^ i, PyData.str (tenNames.getD i (Str.ofString "")))
theorem flag_get : ∀ i : Nat, i < 32 → (PySem.Spec.lookup (PyData.int (1 * 2 ^ ((0 : Int) + (i : Nat)).toNat)) (flagTab.map fun p => (PyData.int p.1, p.2))).getD (PyData.str (baseText "0x" 16 (1 * 2 ^ ((0 : Int) + (i : Nat)).toNat))) = PyData.str (flagName i)
  | 0, _ => rfl
  | 1, _ => rfl
  | 2, _ => rfl
  | 3, _ => rfl
  | 4, _ => rfl
  | 5, _ => rfl
  | 6, _ => rfl
  | 7, _ => rfl
  | 8, _ => rfl
  | 9, _ => rfl
  | 10, _ => rfl
  | 11, _ => rfl
  | 12, _ => rfl
  | 13, _ => rfl
  | 14, _ => rfl
  | 15, _ => rfl
  | 16, _ => rfl
  | 17, _ => rfl
  | 18, _ => rfl
  | 19, _ => rfl
  | 20, _ => rfl
  | 21, _ => rfl
  | 22, _ => rfl
  | 23, _ => rfl
  | 24, _ => rfl
  | 25, _ => rfl
  | 26, _ => rfl
  | 27, _ => rfl
  | 28, _ => rfl
  | 29, _ => rfl
  | 30, _ => rfl
  | 31, _ => rfl
  | n + 32, h => absurd h (by lia)
theorem pret0 {a : Int} (_h : 0 ≤ a) : PrettyI a a 0 := ⟨by simp, by lia⟩
inductive PrettyJ (a : Int) (i : Nat) (m : Str → Option Value) (nx : List (Addr × Obj)) : Prop
  | mk (ln : Nat) (vn : List Value) (kn : Nat) (f : Int) (tf : Tok) (q0 : m "names" = some (.ref ln)) (q1 : m "flags" = some (.int f tf)) (q2 : PrettyI a f i) (q3 : StrsAre vn ((bitsBelow a i).map flagName)) (q4 : nx = [(ln, W.listOf vn.toArray kn)]) : PrettyJ a i m nx
theorem nat_split (n i : Nat) : n / 2 ^ i * 2 ^ i = n / 2 ^ (i + 1) * 2 ^ (i + 1) + (n.testBit i).toNat * 2 ^ i := by
  have h1 : n / 2 ^ (i + 1) = n / 2 ^ i / 2 := by rw [Nat.pow_succ, Nat.div_div_eq_div_mul]
  have h2 : (n.testBit i).toNat = n / 2 ^ i % 2 := by rw [Nat.testBit_eq_decide_div_mod_eq]; rcases Nat.mod_two_eq_zero_or_one (n / 2 ^ i) with h | h <;> simp [h]
  rw [h1, h2, Nat.pow_succ]
  generalize n / 2 ^ i = m
  have : m = m / 2 * 2 + m % 2 := by lia
  calc m * 2 ^ i = (m / 2 * 2 + m % 2) * 2 ^ i := by rw [← this]
    _ = m / 2 * (2 ^ i * 2) + m % 2 * 2 ^ i := by rw [Nat.add_mul, Nat.mul_assoc, Nat.mul_comm 2]
theorem nat_and (n i : Nat) : (n / 2 ^ i * 2 ^ i) &&& 2 ^ i = (n.testBit i).toNat * 2 ^ i := by
  apply Nat.eq_of_testBit_eq
  intro j
  rw [Nat.testBit_and, Nat.testBit_two_pow, Nat.mul_comm (n / 2 ^ i), Nat.testBit_two_pow_mul, Nat.testBit_div_two_pow]
  by_cases h : i = j
  · subst h
    cases hb : n.testBit i <;> simp [hb]
  · cases hb : n.testBit i <;> simp [h, Nat.testBit_two_pow]
theorem flag_and {a f : Int} {i : Nat} (h0 : 0 ≤ a) (hf : f = a / 2 ^ i * 2 ^ i) : Builtin.bitAnd f (1 * 2 ^ ((0 : Int) + (i : Nat)).toNat) = ((a.toNat.testBit i).toNat : Int) * 2 ^ i := by
  obtain ⟨n, rfl⟩ : ∃ n : Nat, a = n := ⟨a.toNat, by lia⟩
  subst hf
  have e : ((0 : Int) + (i : Nat)).toNat = i := by lia
  have e1 : (n : Int) / 2 ^ i * 2 ^ i = ((n / 2 ^ i * 2 ^ i : Nat) : Int) := by push_cast; rfl
  have e2 : (1 : Int) * 2 ^ i = ((2 ^ i : Nat) : Int) := by push_cast; lia
  rw [e, e1, e2, bitAnd_pp (Int.natCast_nonneg _) (Int.natCast_nonneg _)]
  simp only [Int.toNat_natCast]
  rw [nat_and]
  push_cast; rfl
theorem flag_step {a : Int} {i : Nat} (h0 : 0 ≤ a) : a / 2 ^ i * 2 ^ i = a / 2 ^ (i + 1) * 2 ^ (i + 1) + ((a.toNat.testBit i).toNat : Int) * 2 ^ i := by
  obtain ⟨n, rfl⟩ : ∃ n : Nat, a = n := ⟨a.toNat, by lia⟩
  have := nat_split n i
  simp only [Int.toNat_natCast]
  exact_mod_cast this
theorem flag_off {a f : Int} {i : Nat} (h0 : 0 ≤ a) (hf : PrettyI a f i) (h : Builtin.bitAnd f (1 * 2 ^ ((0 : Int) + (i : Nat)).toNat) = 0) : PrettyI a f (i + 1) ∧ bitsBelow a (i + 1) = bitsBelow a i := by
  rw [flag_and h0 hf.1] at h
  have pp : (0 : Int) < 2 ^ i := Int.pow_pos (by decide)
  cases hb : a.toNat.testBit i with
  | true => rw [hb] at h; simp at h; lia
  | false =>
    refine ⟨⟨?_, hf.2⟩, ?_⟩
    · have := flag_step (i := i) h0
      rw [hf.1, this, hb]; simp
    · unfold bitsBelow
      rw [List.range_succ, List.filter_append]; simp [hb]
theorem flag_on {a f : Int} {i : Nat} (h0 : 0 ≤ a) (hf : PrettyI a f i) (h : Builtin.bitAnd f (1 * 2 ^ ((0 : Int) + (i : Nat)).toNat) ≠ 0) :
    Builtin.bitXor f (1 * 2 ^ ((0 : Int) + (i : Nat)).toNat) = a / 2 ^ (i + 1) * 2 ^ (i + 1) ∧ bitsBelow a (i + 1) = bitsBelow a i ++ [i] := by
  rw [bitXor_and]
  rw [flag_and h0 hf.1] at h ⊢
  have e : ((0 : Int) + (i : Nat)).toNat = i := by lia
  rw [e]
  cases hb : a.toNat.testBit i with
  | false => rw [hb] at h; simp at h
  | true =>
    refine ⟨?_, ?_⟩
    · have := flag_step (i := i) h0
      rw [hb] at this
      rw [hf.1, this]; simp; lia
    · unfold bitsBelow
      rw [List.range_succ, List.filter_append]; simp [hb]
theorem bits_top {a : Int} {i : Nat} (h0 : 0 ≤ a) (h : a / 2 ^ (i + 1) * 2 ^ (i + 1) = 0) (hi : i < 32) : bitsBelow a (i + 1) = bitsBelow a 32 := by
  obtain ⟨n, rfl⟩ : ∃ n : Nat, a = n := ⟨a.toNat, by lia⟩
  have pp : (0 : Int) < 2 ^ (i + 1) := Int.pow_pos (by decide)
  have hz : (n : Int) / 2 ^ (i + 1) = 0 := by
    rcases Int.mul_eq_zero.mp h with h | h
    · exact h
    · lia
  have hn : n / 2 ^ (i + 1) = 0 := by exact_mod_cast hz
  have hlt : n < 2 ^ (i + 1) := by
    have := Nat.div_add_mod n (2 ^ (i + 1))
    have h2 := Nat.mod_lt n (Nat.two_pow_pos (i + 1))
    rw [hn] at this; lia
  unfold bitsBelow
  simp only [Int.toNat_natCast]
  obtain ⟨k, hk⟩ : ∃ k, 32 = i + 1 + k := ⟨32 - (i + 1), by lia⟩
  have hr : List.range 32 = List.range (i + 1) ++ (List.range k).map fun x => i + 1 + x := by rw [hk]; exact List.range_add
  rw [hr, List.filter_append]
  have : (List.filter (fun j => n.testBit j) ((List.range k).map fun x => i + 1 + x)) = [] := by
    rw [List.filter_eq_nil_iff]
    intro x hx
    obtain ⟨y, _, rfl⟩ := List.mem_map.mp hx
    rw [Nat.testBit_lt_two_pow (Nat.lt_of_lt_of_le hlt (Nat.pow_le_pow_right (by decide) (Nat.le_add_right _ _)))]
    simp
  rw [this, List.append_nil]
theorem flag_nz {a f : Int} {i : Nat} (h0 : 0 ≤ a) (hf : PrettyI a f i) (h : Builtin.bitAnd f (1 * 2 ^ ((0 : Int) + (i : Nat)).toNat) ≠ 0) : a ≠ 0 := by
  rintro rfl
  rw [flag_and h0 hf.1] at h
  simp at h
def prettyText (a : Int) : Str := Txt.join (Str.ofString ", ") (if a = 0 then [baseText "0x" 16 0] else (bitsBelow a 32).map flagName)
theorem flagLen0 : ∀ i, i < 32 → (flagName i).length ≤ 25 := by decide +kernel
theorem join_ok : ∀ l : List Nat, (∀ x ∈ l, x < 32) → ((l.map flagName).map (·.length)).sum ≤ 25 * l.length
  | [], _ => by simp
  | x :: r, h => by
    have h1 := flagLen0 x (h x List.mem_cons_self)
    have h2 := join_ok r fun y hy => h y (List.mem_cons_of_mem _ hy)
    simp only [List.map_cons, List.sum_cons, List.length_cons]
    lia
theorem bits_small {a : Int} {i : Nat} (hi : i ≤ 32) : (bitsBelow a i).length ≤ 32 ∧ ∀ x ∈ bitsBelow a i, x < 32 := by
  unfold bitsBelow
  refine ⟨?_, fun x hx => ?_⟩
  · have := List.length_filter_le (fun j => a.toNat.testBit j) (List.range i)
    rw [List.length_range] at this; lia
  · have := List.mem_range.mp (List.mem_filter.mp hx).1
    lia
theorem join_ok2 {a : Int} {i : Nat} (hi : i ≤ 32) : (((bitsBelow a i).map flagName).map (·.length)).sum + ((bitsBelow a i).map flagName).length * 64 ≤ 16777216 := by
  obtain ⟨h1, h2⟩ := bits_small (a := a) hi
  have := join_ok _ h2
  rw [List.length_map]; lia
theorem pretty_spec {w : World} {p : Program} {loose : List Str} {mean : ExcName → Option Value} {mg mb : Str → Option Value}
   {A : Around} {s : Shared} {Q E : Value → Shared → Prop} {a : Int} {ta : Tok}
   (X : (Mine.hd.heap_39 w.params).In s.heap) (T : Top p loose mean mg mb s.heap)
   (hA : A.handled = none) (hd : A.depth ≤ 600) (hu : A.units ≤ 900)
   (ha : 0 ≤ a) (ha2 : a < 4294967296)
   (hR : ∀ (t : Tok) (h' : Heap) (tk' : Nat), Keep s.heap h' → Q (.str (prettyText a) t) { s with heap := h', toks := tk' }) :
   wpAny (model PR w) A (call (.ref 22) [.int a ta]) Q E s := by
  refine ask_in ?_
  k_fill
  intro _
  refine at_mono 600 900 hA hd hu ?_
  have ho := X 22 _ rfl
  (refine' wpAny_call (call_plain_ret ?hroom (by assumption) ?hdata (Top.nolimit (by assumption)) ?hcd ?hbind ?hloc ?_ ?hco ?hgen ?hk ?hcell); (case hdata => exact rfl); (case hroom => exact Nat.le_of_ble_eq_true rfl); (case hcd => exact codeRec_of (by assumption) rfl); (case hbind => exact rfl); (case hloc => exact locs rfl); (case hco => exact rfl); (case hgen => exact rfl); (case hk => exact rfl); (case hcell => decide))
  intro h₁ F
  have N : News s.heap s.heap.objs.size h₁ [] := News.nil
  clear ho
  generalize hL : s.heap.objs.size = L at *
  generalize hh0 : s.heap = h₀ at *
  k_steps
  refine' iterRange (L := L) rfl (n := 32) (PrettyJ a) rfl (by assumption) (small_one (by lia) (by lia) (by lia) (by lia)) (by rfl) (by assumption) (cb_drop (by assumption) ?sub) ?J0 ?turn ?done
  case' J0 => exact ⟨_, _, 0, _, _, rfl, rfl, pret0 ha, .nil, rfl⟩
  case sub => kcf_all
  case turn =>
    rintro i t m₁ nx I oI h tk hj ⟨ln, vn, kn, f, tf, mn, mf, ⟨hf, hf2⟩, sn, rfl⟩ hne F N
    have hI := gnNe_of hne
    simp only [GnNe, and_true] at hI
    clear hne
    simp only [List.cons_append, List.nil_append] at N
    replace F := Fr.known0 (Fr.known0 F mf) (n := "names") mn
    have hsh : (Builtin.Int.intBits 1 : Int) + (0 + (i : Int)) ≤ 2 ^ 27 := by
      have e : (Builtin.Int.intBits 1 : Int) = 1 := by decide
      rw [e]; have := hj; lia
    have hi0 : (0 : Int) ≤ 0 + (i : Int) := by lia
    have hvn : vn.length ≤ 32 := by
      rw [sn.len_eq, List.length_map]
      have := List.length_filter_le (fun j => a.toNat.testBit j) (List.range i)
      rw [List.length_range] at this
      have := hj
      unfold bitsBelow; lia
    k_steps
    · unfold Halt
      have KT : KTD.Keyed h₀ 15 flagTab := kt_keyed_in X (by with_unfolding_all rfl)
      rename Fr h₀ L _ _ => F2
      refine call_get2_intTab ((KTD.Keyed.keep KT F2.keep) _ _) (PyProof.V.Flat.str _ _) ?_
      intro v hv
      rw [flag_get i hj] at hv
      obtain ⟨tv, rfl⟩ := PyProof.V.Flat.str_inv hv
      clear hv
      k_steps
      · rename_i hb hz
        obtain ⟨q1, q2⟩ := flag_on ha ⟨hf, hf2⟩ (by assumption)
        rename News h₀ L _ _ => N8
        try simp only [List.push_toArray] at N8
        refine' turn_next (by assumption) N8 ?Tj ?Ts ?Tm ?Tn
        case' Tj => refine ⟨_, _, ?Tk, _, _, rfl, rfl, ⟨q1, .inr (by assumption)⟩, (by rw [q2, List.map_append]; exact StrsAre.append' sn (.cons _ tv .nil)), rfl⟩
        case Ts => kcf_all
        case Tm => kcf_m
        case Tn => k_all
      · obtain ⟨q1, q2⟩ := flag_on ha ⟨hf, hf2⟩ (by assumption)
        rename News h₀ L _ _ => N8
        try simp only [List.push_toArray] at N8
        show wpAny (model PR w) _ (execs _ _) _ _ _
        k_steps
        unfold Halt
        rename Fr h₀ L _ _ => F9
        refine join_listC (items := (vn ++ [Value.str (flagName i) tv]).toArray) (ys := (bitsBelow a (i + 1)).map flagName) (News.isList N8 (.head _)) (by rw [q2, List.map_append]; exact StrsAre.append' sn (.cons _ tv .nil)) (by decide) (join_ok2 (by lia)) ?_
        intro t' k
        have ha1 := flag_nz ha ⟨hf, hf2⟩ (by assumption)
        have ht := bits_top (i := i) ha (by rw [← q1]; assumption) hj
        refine q_cast (Q := Q) (x := .str (prettyText a) t') ?_ (hR t' _ _ F9.keep)
        unfold prettyText
        rw [if_neg ha1, ← ht]
    · obtain ⟨q1, q2⟩ := flag_off ha ⟨hf, hf2⟩ (by assumption)
      refine' turn_next (by assumption) (by assumption) ?Uj ?Us ?Um ?Un
      case' Uj => refine ⟨_, _, ?Uk, _, _, rfl, rfl, q1, (by rw [q2]; exact sn), rfl⟩
      case Us => kcf_all
      case Um => kcf_m
      case Un => k_all
  case done =>
    rintro m₁ nx h tk ⟨ln, vn, kn, f, tf, mn, mf, ⟨hf, hf2⟩, sn, rfl⟩ F N
    replace F := Fr.known0 (Fr.known0 F mf) (n := "names") mn
    have hz : a / 2 ^ 32 = 0 := Int.ediv_eq_zero_of_lt ha ha2
    rw [hz, Int.zero_mul] at hf
    have ha0 : a = 0 := by rcases hf2 with h | h; exact h; exact absurd hf h
    subst hf ha0
    have hb0 : bitsBelow 0 32 = [] := by decide
    rw [hb0] at sn
    cases sn
    k_steps
    unfold Halt
    rename Fr h₀ L _ _ => F9
    rename News h₀ L _ _ => N9
    refine join_listC (ys := [baseText "0x" 16 0]) (News.isList N9 (.head _)) (.cons _ _ .nil) (by decide) (by decide +kernel) ?_
    intro t' k
    exact hR t' _ _ F9.keep
end
section
def wordsOf (lo f : Nat) : List Str := if f = 0 then [Str.ofString "0x0"] else ((List.range 4).filter fun k => f.testBit k).map fun k => flagName (lo + k)
def comma : Str := Str.ofString ", "
theorem comma_len : comma.length = 2 := by decide +kernel
theorem comma_list : comma.cps.toList = [44, 32] := by decide +kernel
theorem comma_at {x : Str} {k : Nat} : StrLaws.At x comma x.length k ↔ ∃ T, x.cps.toList.drop k = 44 :: 32 :: T := by
  unfold StrLaws.At
  rw [StrLaws.subAt_eq, comma_len, comma_list, beq_iff_eq]
  constructor
  · rintro ⟨_, h2⟩
    refine ⟨(x.cps.toList.drop k).drop 2, ?_⟩
    have := List.take_append_drop 2 (x.cps.toList.drop k)
    rw [h2] at this
    exact this.symm
  · rintro ⟨T, h⟩
    have hl := congrArg List.length h
    rw [List.length_drop] at hl
    simp only [List.length_cons] at hl
    have : x.cps.toList.length = x.length := by simp [Str.length]
    exact ⟨by lia, by rw [h]; rfl⟩
theorem split_run (x : Str) : ∀ (w : Str) (ws : List Str) (a : Nat) (cuts : List Nat) (f : Nat), (∀ p ∈ w :: ws, 44 ∉ p.cps.toList) → x.cps.toList.drop a = (Str.join comma (w :: ws)).cps.toList →
    StrLaws.ChainG x comma x.length a cuts f → (∀ k, f ≤ k → ¬ StrLaws.At x comma x.length k) → StrLaws.partsFrom x 2 a cuts = w :: ws := by
  have hxl : x.cps.toList.length = x.length := by simp [Str.length]
  have nohit : ∀ (w T : List Nat) (a k : Nat), 44 ∉ w → x.cps.toList.drop a = w ++ T → a ≤ k → k < a + w.length → ¬ StrLaws.At x comma x.length k := by
    intro w T a k hw e h1 h2 hA
    obtain ⟨U, hU⟩ := comma_at.mp hA
    have e2 : x.cps.toList.drop k = (w ++ T).drop (k - a) := by rw [← e, List.drop_drop]; congr 1; lia
    rw [hU, List.drop_append_of_le_length (by lia)] at e2
    have e3 : (w.drop (k - a)) ≠ [] := by
      intro h; have := congrArg List.length h; rw [List.length_drop] at this; simp at this; lia
    obtain ⟨b, r, hb⟩ := List.exists_cons_of_ne_nil e3
    rw [hb, List.cons_append] at e2
    have : b = 44 := (List.cons.inj e2).1.symm
    exact hw (this ▸ List.mem_of_mem_drop (hb ▸ List.mem_cons_self))
  intro w ws
  induction ws generalizing w with
  | nil =>
    intro a cuts f hc hx ch ht
    have hx' : x.cps.toList.drop a = w.cps.toList ++ [] := by rw [List.append_nil]; exact hx
    have hlen : (x.cps.toList.drop a).length = w.cps.toList.length := congrArg List.length hx
    rw [List.length_drop] at hlen
    cases cuts with
    | nil =>
      show [_] = [_]
      congr 1
      apply Str.ext'
      apply Array.toList_inj.mp
      rw [StrLaws.strSub_toList]
      rw [show (Str.join comma [w]) = w from rfl] at hx
      rw [← hx]
      exact List.take_of_length_le (by rw [List.length_drop, hxl]; lia)
    | cons c r =>
      exfalso
      obtain ⟨hac, hA, _, _⟩ := ch
      by_cases hlt : c < a + w.cps.toList.length
      · exact nohit _ _ a c (hc w List.mem_cons_self) hx' hac hlt hA
      · obtain ⟨T, hT⟩ := comma_at.mp hA
        have := congrArg List.length hT
        rw [List.length_drop] at this
        simp only [List.length_cons] at this
        lia
  | cons w2 r ih =>
    intro a cuts f hc hx ch ht
    have hx' : x.cps.toList.drop a = w.cps.toList ++ (44 :: 32 :: (Str.join comma (w2 :: r)).cps.toList) := by
      rw [hx]
      show (w ++ comma ++ Str.join comma (w2 :: r)).cps.toList = _
      rw [Str.cps_append, Str.cps_append, Array.toList_append, Array.toList_append, comma_list, List.append_assoc]
      rfl
    have hdr : x.cps.toList.drop (a + w.cps.toList.length) = 44 :: 32 :: (Str.join comma (w2 :: r)).cps.toList := by
      rw [← List.drop_drop, hx', List.drop_left]
    have hat : StrLaws.At x comma x.length (a + w.cps.toList.length) := comma_at.mpr ⟨_, hdr⟩
    cases cuts with
    | nil =>
      have e : f = a := ch
      exact absurd hat (ht _ (by lia))
    | cons c cs =>
      obtain ⟨hac, hA, hno, hch⟩ := ch
      have hcw : c = a + w.cps.toList.length := by
        rcases Nat.lt_trichotomy c (a + w.cps.toList.length) with h | h | h
        · exact absurd hA (nohit _ _ a c (hc w List.mem_cons_self) hx' hac h)
        · exact h
        · exact absurd hat (hno _ (by lia) h)
      subst hcw
      show StrLaws.partsFrom x 2 a (_ :: cs) = _
      rw [StrLaws.partsFrom]
      congr 1
      · apply Str.ext'
        apply Array.toList_inj.mp
        rw [StrLaws.strSub_toList, hx', Nat.add_sub_cancel_left, List.take_left]
      · refine ih w2 _ _ f (fun p hp => hc p (List.mem_cons_of_mem _ hp)) ?_ (by rw [← comma_len]; exact hch) ht
        rw [← List.drop_drop, hdr]
        rfl
theorem split_join (w : Str) (ws : List Str) (hc : ∀ p ∈ w :: ws, 44 ∉ p.cps.toList) : Txt.split (Txt.join comma (w :: ws)) comma = w :: ws := by
  have e : Txt.join comma (w :: ws) = Str.join comma (w :: ws) := StrLaws.glued_eq_join _ _
  rw [e]
  generalize hx : Str.join comma (w :: ws) = x
  obtain ⟨f, h1, h2⟩ := StrLaws.occ_tight x comma (by rw [comma_len]; decide)
  have key : StrLaws.partsFrom x 2 0 (Builtin.Str.occurrences x comma 0 x.length (x.length + 1)) = w :: ws := split_run x w ws 0 _ f hc (by rw [List.drop_zero, ← hx]) h1 h2
  unfold Txt.split
  have hk : decide (Builtin.Str.strKind x < Builtin.Str.strKind comma) = false := by
    have h1 : Builtin.Str.strKind comma = 1 := by decide +kernel
    rw [h1]
    unfold Builtin.Str.strKind
    split
    · decide
    · split <;> decide
  rw [hk, Bool.or_false]
  have single : ws = [] → [x] = w :: ws := by
    rintro rfl
    rw [← hx]; rfl
  split
  · rename_i hl
    rw [decide_eq_true_eq, comma_len] at hl
    refine single ?_
    cases ws with
    | nil => rfl
    | cons w2 r =>
      exfalso
      have : (w ++ comma ++ Str.join comma (w2 :: r)).length < 2 := by rw [← hx] at hl; exact hl
      rw [Str.length_append, Str.length_append, comma_len] at this
      lia
  · split
    · rename_i hem
      rw [List.isEmpty_iff] at hem
      rw [hem] at key
      have : ws = [] := by
        have h := congrArg List.length key
        rw [StrLaws.partsFrom] at h
        simpa using h.symm
      exact single this
    · rw [comma_len, StrLaws.partsBetween_eq]
      exact key
theorem flag_free : ∀ i, i < 32 → 44 ∉ (flagName i).cps.toList ∧ (flagName i).length ≤ 18 := by decide +kernel
theorem bits_words : ∀ lo, lo < 29 → ∀ f, f < 16 → bitsBelow (((0 : Int) + (f : Nat)) * 2 ^ lo) 32 = ((List.range 4).filter fun k => f.testBit k).map (lo + ·) := by decide +kernel
theorem zero_words : ∀ lo, lo < 29 → ∀ f, f < 16 → ((((0 : Int) + (f : Nat)) * 2 ^ lo = 0) ↔ f = 0) := by decide +kernel
theorem some_words : ∀ f, f < 16 → f ≠ 0 → (List.range 4).filter (fun k => f.testBit k) ≠ [] := by decide +kernel
theorem pretty_words {lo f : Nat} (hl : lo < 29) (hf : f < 16) : prettyText (((0 : Int) + (f : Nat)) * 2 ^ lo) = Txt.join comma (wordsOf lo f) := by
  unfold prettyText wordsOf
  by_cases h : f = 0
  · rw [if_pos ((zero_words lo hl f hf).mpr h), if_pos h]
    congr 1
  · rw [if_neg (fun e => h ((zero_words lo hl f hf).mp e)), if_neg h, bits_words lo hl f hf, List.map_map]
    rfl
theorem wordsOf_flags {lo f : Nat} (hl : lo < 29) : ∀ p ∈ wordsOf lo f, 44 ∉ p.cps.toList ∧ p.length ≤ 18 := by
  intro p hp
  unfold wordsOf at hp
  split at hp
  · rw [List.mem_singleton.mp hp]; decide +kernel
  · obtain ⟨k, hk, rfl⟩ := List.mem_map.mp hp
    have := List.mem_range.mp (List.mem_filter.mp hk).1
    exact flag_free _ (by lia)
theorem wordsOf_ne {lo f : Nat} (hf : f < 16) : ∃ w ws, wordsOf lo f = w :: ws := by
  unfold wordsOf
  split
  · exact ⟨_, _, rfl⟩
  · rename_i h
    obtain ⟨a, l, e⟩ := List.exists_cons_of_ne_nil (some_words f hf h)
    rw [e]
    exact ⟨_, _, rfl⟩
theorem split_words {lo f : Nat} (hl : lo < 29) (hf : f < 16) : Txt.split (prettyText (((0 : Int) + (f : Nat)) * 2 ^ lo)) (Str.ofString ", ") = wordsOf lo f := by
  rw [pretty_words hl hf]
  obtain ⟨w, ws, e⟩ := wordsOf_ne (lo := lo) hf
  rw [e]
  exact split_join w ws fun p hp => (wordsOf_flags hl p (e ▸ hp)).1
theorem wordsOf_len {lo f : Nat} : (wordsOf lo f).length ≤ 4 := by
  unfold wordsOf
  split
  · decide
  · rw [List.length_map]
    exact Nat.le_trans (List.length_filter_le _ _) (by decide)
theorem split_len {lo f : Nat} (hl : lo < 29) (hf : f < 16) : (prettyText (((0 : Int) + (f : Nat)) * 2 ^ lo)).length ≤ 200 := by
  rw [pretty_words hl hf, show Txt.join comma (wordsOf lo f) = Str.join comma (wordsOf lo f) from StrLaws.glued_eq_join _ _]
  have h := StrLaws.join_length_le comma (wordsOf lo f)
  rw [comma_len] at h
  have h1 : ∀ l : List Str, (∀ p ∈ l, p.length ≤ 18) → (l.map (·.length)).sum ≤ l.length * 18 := by
    intro l
    induction l with
    | nil => intro _; simp
    | cons a r ih =>
      intro hp
      have := ih fun p q => hp p (List.mem_cons_of_mem _ q)
      have := hp a List.mem_cons_self
      simp only [List.map_cons, List.sum_cons, List.length_cons]
      lia
  have h2 := h1 (wordsOf lo f) fun p hp => (wordsOf_flags hl p hp).2
  have h3 := wordsOf_len (lo := lo) (f := f)
  lia
theorem flag_inj : ∀ i, i < 32 → ∀ j, j < 32 → flagName i = flagName j → i = j := by decide +kernel
theorem flag_zero : ∀ i, i < 32 → Str.ofString "0x0" ≠ flagName i := by decide +kernel
theorem testBit_small : ∀ f, f < 16 → ∀ k, f.testBit k = true → k < 4 := by
  intro f hf k h
  rcases Nat.lt_or_ge k 4 with hk | hk
  · exact hk
  · have : f < 2 ^ k := Nat.lt_of_lt_of_le hf (Nat.pow_le_pow_right (n := 2) (by decide) hk)
    rw [Nat.testBit_lt_two_pow this] at h
    cases h
theorem any_word {lo f k : Nat} (hl : lo < 29) (hf : f < 16) (hk : lo + k < 32) : (wordsOf lo f).any (· == flagName (lo + k)) = f.testBit k := by
  rw [Bool.eq_iff_iff, List.any_eq_true]
  unfold wordsOf
  constructor
  · rintro ⟨x, hx, he⟩
    have he : x = flagName (lo + k) := eq_of_beq he
    split at hx
    · rw [List.mem_singleton.mp hx] at he
      exact absurd he (flag_zero _ hk)
    · obtain ⟨j, hj, rfl⟩ := List.mem_map.mp hx
      have hj4 := List.mem_range.mp (List.mem_filter.mp hj).1
      have := flag_inj _ (by lia) _ hk he
      rw [← (by lia : j = k)]
      exact (List.mem_filter.mp hj).2
  · intro h
    refine ⟨flagName (lo + k), ?_, beq_self_eq_true _⟩
    split
    · rename_i h0
      rw [h0, Nat.zero_testBit] at h; cases h
    · exact List.mem_map.mpr ⟨k, List.mem_filter.mpr ⟨List.mem_range.mpr (testBit_small f hf k h), h⟩, rfl⟩
theorem strs_at {vs : List Value} {ys : List Str} (hi : StrsAre vs ys) : ∀ {i : Nat} {y : Str}, ys[i]? = some y → ∃ t, vs[i]? = some (.str y t) := by
  induction hi with
  | nil => intro i y h; simp at h
  | cons n t _ ih =>
    intro i y h
    cases i with
    | zero => simp at h; exact ⟨t, by simp [h]⟩
    | succ i => simpa using ih (by simpa using h)
theorem names_at {vs : List Value} {b c : Nat} (hs : StrsAre vs ((List.range c).map fun k => flagName (b + k))) {k : Nat} (hk : k < c) : ∃ t, vs[k]? = some (.str (flagName (b + k)) t) :=
  strs_at hs (by rw [List.getElem?_map, List.getElem?_range hk, Option.map_some])
end
section
section
variable {prog : Program} {w : World} {A : Around} {E : Value → Shared → Prop} {s : Shared} {l b : Addr} {vs us : List Value} {Q : Value → Shared → Prop}
theorem eqAt_strs {ys : List Str} (h1 : StrsAre vs ys) (h2 : StrsAre us ys) (A : Around) (s : Shared) : ∀ j (a1 : j < vs.toArray.size) (a2 : j < us.toArray.size), SeqAt.EqAt A s vs.toArray[j] us.toArray[j] true := by
  induction h1 generalizing us with
  | nil => intro j a1; simp at a1
  | cons y t _ ih =>
    cases h2 with
    | cons _ u h2 =>
      intro j a1 a2
      cases j with
      | zero =>
        have := SeqAt.EqAt.str_str (A := A) (s := s) y t y u
        rw [beq_self_eq_true] at this
        exact this
      | succ j => exact ih h2 j (by simpa using a1) (by simpa using a2)
theorem eqAt_ints {ys : List Int} (h1 : IntsAre vs ys) (h2 : IntsAre us ys) (A : Around) (s : Shared) : ∀ j (a1 : j < vs.toArray.size) (a2 : j < us.toArray.size), SeqAt.EqAt A s vs.toArray[j] us.toArray[j] true := by
  induction h1 generalizing us with
  | nil => intro j a1; simp at a1
  | cons y t _ ih =>
    cases h2 with
    | cons _ u h2 =>
      intro j a1 a2
      cases j with
      | zero =>
        have := SeqAt.EqAt.int_int (A := A) (s := s) y t y u
        rw [beq_self_eq_true] at this
        exact this
      | succ j => exact ih h2 j (by simpa using a1) (by simpa using a2)
theorem all_true (n : Nat) : ((List.range n).all fun _ => true) = true := by simp
theorem ne_strs {ys : List Str} (hl : s.heap.IsList l vs.toArray) (hb : s.heap.IsList b us.toArray) (h1 : StrsAre vs ys) (h2 : StrsAre us ys) (hu : A.units ≤ 2000) (h : Q (.bool false) s) :
    wpAny (model prog w) A (compareOp .NotEq (.ref l) (.ref b)) Q E s :=
  EqBoolInt.of_rcne (SeqAt.RcNeAt.lists hl hb (by rw [List.size_toArray, List.size_toArray, h1.len_eq, h2.len_eq]) (Nat.lt_of_le_of_lt hu (by decide)) (e := fun _ => true) (eqAt_strs h1 h2 _ _)) (by rw [all_true]; exact h)
theorem ne_ints {ys : List Int} (hl : s.heap.IsList l vs.toArray) (hb : s.heap.IsList b us.toArray) (h1 : IntsAre vs ys) (h2 : IntsAre us ys) (hu : A.units ≤ 2000) (h : Q (.bool false) s) :
    wpAny (model prog w) A (compareOp .NotEq (.ref l) (.ref b)) Q E s :=
  EqBoolInt.of_rcne (SeqAt.RcNeAt.lists hl hb (by rw [List.size_toArray, List.size_toArray, h1.length, h2.length]) (Nat.lt_of_le_of_lt hu (by decide)) (e := fun _ => true) (eqAt_ints h1 h2 _ _)) (by rw [all_true]; exact h)
theorem eq_ints {ys : List Int} (hl : s.heap.IsList l vs.toArray) (hb : s.heap.IsList b us.toArray) (h1 : IntsAre vs ys) (h2 : IntsAre us ys) (hu : A.units ≤ 2000) (h : Q (.bool true) s) :
    wpAny (model prog w) A (compareOp .Eq (.ref l) (.ref b)) Q E s :=
  EqBoolInt.of_rc (SeqAt.RcAt.lists hl hb (by rw [List.size_toArray, List.size_toArray, h1.length, h2.length]) (Nat.lt_of_le_of_lt hu (by decide)) (e := fun _ => true) (eqAt_ints h1 h2 _ _)) (by rw [all_true]; exact h)
theorem eqAt_lists {a b : Addr} {vs us : List Value} {ys : List Int} (hl : s.heap.IsList a vs.toArray) (hb : s.heap.IsList b us.toArray) (h1 : IntsAre vs ys) (h2 : IntsAre us ys) (A : Around) (hu : A.units < cLine) : SeqAt.EqAt A s (.ref a) (.ref b) true := by
  by_cases e : a = b
  · subst e; exact SeqAt.EqAt.same _
  · have := SeqAt.RcAt.lists (A := A) hl hb (by rw [List.size_toArray, List.size_toArray, h1.length, h2.length]) hu (e := fun _ => true) (eqAt_ints h1 h2 _ _)
    rw [all_true] at this
    exact SeqAt.EqAt.of_refs e this
theorem ne_tuples {t₁ t₂ : Addr} {x₁ x₂ y₁ y₂ : Value} (hl : s.heap.IsTuple t₁ #[x₁, x₂]) (hb : s.heap.IsTuple t₂ #[y₁, y₂]) (hu : A.units ≤ 2000) (e1 : SeqAt.EqAt A.in1 s x₁ y₁ true) (e2 : SeqAt.EqAt A.in1 s x₂ y₂ true) (h : Q (.bool false) s) :
    wpAny (model prog w) A (compareOp .NotEq (.ref t₁) (.ref t₂)) Q E s :=
  EqBoolInt.of_rcne (SeqAt.RcNeAt.tuples hl hb (Nat.lt_of_le_of_lt hu (by decide)) (e := fun _ => true) (fun j a1 a2 => by
    match j, a1 with
    | 0, _ => exact e1
    | 1, _ => exact e2
    | j + 2, a1 => exact absurd a1 (by simp))) (by rw [all_true]; exact h)
theorem ne_tup_lists {t₁ t₂ a₁ a₂ b₁ b₂ : Addr} {v₁ v₂ u₁ u₂ : List Value} {y₁ y₂ : List Int} (hl : s.heap.IsTuple t₁ #[.ref a₁, .ref a₂]) (hb : s.heap.IsTuple t₂ #[.ref b₁, .ref b₂])
    (l1 : s.heap.IsList a₁ v₁.toArray) (l2 : s.heap.IsList a₂ v₂.toArray) (l3 : s.heap.IsList b₁ u₁.toArray) (l4 : s.heap.IsList b₂ u₂.toArray)
    (i1 : IntsAre v₁ y₁) (i2 : IntsAre v₂ y₂) (i3 : IntsAre u₁ y₁) (i4 : IntsAre u₂ y₂) (hu : A.units ≤ 2000) (h : Q (.bool false) s) :
    wpAny (model prog w) A (compareOp .NotEq (.ref t₁) (.ref t₂)) Q E s :=
  have hu' : A.in1.units < cLine := Nat.lt_of_le_of_lt (show A.in1.units ≤ 2003 by show A.units + 1 ≤ _; lia) (by decide)
  ne_tuples hl hb hu (eqAt_lists l1 l3 i1 i3 _ hu') (eqAt_lists l2 l4 i2 i4 _ hu') h
theorem ne_tup_ints {t₁ t₂ : Addr} {x y : Int} {p₁ p₂ q₁ q₂ : Tok} (hl : s.heap.IsTuple t₁ #[.int x p₁, .int y p₂]) (hb : s.heap.IsTuple t₂ #[.int x q₁, .int y q₂]) (hu : A.units ≤ 2000) (h : Q (.bool false) s) :
    wpAny (model prog w) A (compareOp .NotEq (.ref t₁) (.ref t₂)) Q E s := by
  refine ne_tuples hl hb hu ?_ ?_ h
  · have := SeqAt.EqAt.int_int (A := A.in1) (s := s) x p₁ x q₁
    rw [beq_self_eq_true] at this; exact this
  · have := SeqAt.EqAt.int_int (A := A.in1) (s := s) y p₂ y q₂
    rw [beq_self_eq_true] at this; exact this
end
end
section
local macro_rules | `(tactic| omega) => `(tactic| lia)
theorem reg_names : True := by
  w_top off
  k_with_none
  (k_with "exec While" => (k_here; refine halt ?_))
  (k_with "exec While Compare cons nil" => (k_here; refine halt ?_))
  (k_with "pyIter ref" => (k_here; refine halt ?_))
  (k_with "exec FunctionDef" => (k_here; refine halt ?_))
  (k_with "call builtin:list.reverse" => (k_here; refine halt ?_))
  (k_with "call builtin:dict.get" => (k_here; refine halt ?_))
  (k_with "call builtin:iter" => (k_here; refine halt ?_))
  (k_with "call builtin:next" => (k_here; refine halt ?_))
  (k_with "exec For" => (k_here; refine forT (by assumption) ?_ (fun _ _ => rfl) (fun _ => rfl) PassesOwn.never))
  (k_with "exec For Name Call cons nil" => (k_here; refine forT (by assumption) ?_ (fun _ _ => rfl) (fun _ => rfl) PassesOwn.never))
  (k_with "exec For Name Name cons nil" => (k_here; refine forT (by assumption) ?_ (fun _ _ => rfl) (fun _ => rfl) PassesOwn.never))
  (k_with "eval Name" => (k_here; k_dflt (refine nameX_L (by assumption) (by first | rfl | assumption) ?_; k_whole)))
  (k_with "execs cons" => ((with_reducible refine wpAny_execs_cons ?_); try dsimp only))
  (k_with "execs nil" => (with_reducible refine wpAny_execs_nil ?_))
  (k_with "storeName" => (k_here; k_dflt (first | (refine storeX_L (by assumption) (by assumption) ?_; k_whole; intro _ _ _; (try k_sweep)) | (refine storeX_C (by k_asm) (by k_asm) (by rfl) (by k_updF) (by k_asm) ?_; k_whole; intro _ _ _ N' d'; (try dsimp only at N'); revert N' d'; intro _ _; (try k_sweep)))))
  (k_with "assign Name" => (k_here; refine wpAny_assign_Name ?_))
  (k_with "binaryOp LShift int int" => (k_here; refine lshift_int (by assumption) (by assumption) ?_))
  (k_with "binaryOp Add str str" => (k_here; refine PyProof.Rows.add_str ?_ (nmFit (by assumption)); intro _ _))
  exact True.intro
theorem nmFit0 : ∀ i, i < 22 → (Str.ofString "0x" ++ Txt.item (Str.ofString "1248") (((10 : Int) + (i : Nat)).fmod 4)).length + (Txt.mul (Str.ofString "0") (((10 : Int) + (i : Nat)).fdiv 4)).length ≤ 100 := by decide +kernel
theorem nmFit {i : Nat} (h : i < 22) : (Str.ofString "0x" ++ Txt.item (Str.ofString "1248") (((10 : Int) + (i : Nat)).fmod 4)).length + (Txt.mul (Str.ofString "0") (((10 : Int) + (i : Nat)).fdiv 4)).length ≤ sizeLine := by
  have := nmFit0 i h
  rw [sizeLine_eq]; lia
theorem nmEq : ∀ i : Nat, i < 22 → (Str.ofString "0x" ++ Txt.item (Str.ofString "1248") (((10 : Int) + (i : Nat)).fmod 4)) ++ Txt.mul (Str.ofString "0") (((10 : Int) + (i : Nat)).fdiv 4) = flagName (10 + i) := by decide +kernel
inductive NamesJ (a c : Int) (ta tc : Tok) (i : Nat) (m : Str → Option Value) (nx : List (Addr × Obj)) : Prop
  | mk (ln : Nat) (vn : List Value) (kn : Nat) (q0 : m "names" = some (.ref ln)) (q1 : m "lowest" = some (.int a ta)) (q2 : m "count" = some (.int c tc)) (q3 : StrsAre vn ((List.range (10 + i)).map flagName)) (q4 : nx = [(ln, W.listOf vn.toArray kn)]) : NamesJ a c ta tc i m nx
theorem pick_run {vs : List Value} {x y : Int} (h : 0 ≤ x) (h1 : x ≤ y) (h2 : y ≤ vs.length) : slicePick vs.toArray (some x) (some y) none = ((vs.drop x.toNat).take (y - x).toNat).toArray := by
  obtain ⟨a, rfl⟩ := Int.eq_ofNat_of_zero_le h
  obtain ⟨b, rfl⟩ := Int.le.dest h1
  have h3 : a + b ≤ vs.length := Int.ofNat_le.mp h2
  have c : ∀ k : Nat, k ≤ vs.length → clipAt vs.length (k : Int) = k := fun k hk => by
    unfold clipAt
    rw [if_neg (Int.not_lt.mpr (Int.natCast_nonneg k)), Int.min_eq_left (Int.ofNat_le.mpr hk), Int.max_eq_right (Int.natCast_nonneg k)]
    rfl
  have e : sliceBounds (some (a : Int)) (some ((a : Int) + b)) none vs.toArray.size = ((a : Int), ((a + b : Nat) : Int), 1) := by
    rw [sliceBounds_plain, List.size_toArray]
    show (((clipAt vs.length (a : Int) : Nat) : Int), ((clipAt vs.length ((a + b : Nat) : Int) : Nat) : Int), (1 : Int)) = _
    rw [c a (Nat.le_trans (Nat.le_add_right a b) h3), c (a + b) h3]
  rw [kmk_pick_nat vs.toArray e, Int.add_comm (a : Int) b, Int.add_sub_cancel, Nat.add_sub_cancel_left]
  rfl
theorem sub2 {a b : Addr × Obj} {r : List (Addr × Obj)} : ∀ p ∈ [b], p ∈ a :: b :: r := fun p hp => by rw [List.mem_singleton.mp hp]; exact .tail _ (.head _)
theorem names_spec {w : World} {p : Program} {loose : List Str} {mean : ExcName → Option Value} {mg mb : Str → Option Value}
   {A : Around} {s : Shared} {Q E : Value → Shared → Prop} {a c : Int} {ta tc : Tok}
   (X : (Mine.hd.heap_39 w.params).In s.heap) (T : Top p loose mean mg mb s.heap)
   (hA : A.handled = none) (hd : A.depth ≤ 600) (hu : A.units ≤ 900)
   (ha : 0 ≤ a) (hc : 0 ≤ c) (hac : a + c ≤ 32)
   (hR : ∀ (r : Nat) (ve : List Value) (kr : Nat) (h' : Heap) (tk' : Nat), Made s.heap h' [(r, W.listOf ve.toArray kr)] → StrsAre ve ((List.range c.toNat).map fun k => flagName (a.toNat + k)) → Q (.ref r) { s with heap := h', toks := tk' }) :
   wpAny (model PR w) A (call (.ref 106) [.int a ta, .int c tc]) Q E s := by
  refine ask_in ?_
  k_fill
  intro _
  refine at_mono 600 900 hA hd hu ?_
  have ho := X 106 _ rfl
  (refine' wpAny_call (call_plain_ret ?hroom (by assumption) ?hdata (Top.nolimit (by assumption)) ?hcd ?hbind ?hloc ?_ ?hco ?hgen ?hk ?hcell); (case hdata => exact rfl); (case hroom => exact Nat.le_of_ble_eq_true rfl); (case hcd => exact codeRec_of (by assumption) rfl); (case hbind => exact rfl); (case hloc => exact locs rfl); (case hco => exact rfl); (case hgen => exact rfl); (case hk => exact rfl); (case hcell => decide))
  intro h₁ F
  have N : News s.heap s.heap.objs.size h₁ [] := News.nil
  clear ho
  generalize hL : s.heap.objs.size = L at *
  generalize hh0 : s.heap = h₀ at *
  k_steps
  rename News h₀ L _ _ => N5
  refine' iterRange (L := L) rfl (n := 22) (NamesJ a c ta tc) rfl (by assumption) (small_one (by lia) (by lia) (by lia) (by lia)) (by rfl) (by assumption) N5 ?J0 ?turn ?done
  case' J0 => exact ⟨_, _, 0, rfl, rfl, rfl, (.cons _ _ (.cons _ _ (.cons _ _ (.cons _ _ (.cons _ _ (.cons _ _ (.cons _ _ (.cons _ _ (.cons _ _ (.cons _ _ .nil)))))))))), rfl⟩
  case turn =>
    rintro i t m₁ nx I oI h tk hj ⟨ln, vn, kn, mn, ma, mc, sn, rfl⟩ hne F N
    have hI := gnNe_of hne
    simp only [GnNe, and_true] at hI
    clear hne
    simp only [List.cons_append, List.nil_append] at N
    replace F := Fr.known0 (Fr.known0 (Fr.known0 F mc) (n := "lowest") ma) (n := "names") mn
    have hvn : vn.length ≤ 32 := by
      rw [sn.len_eq, List.length_map, List.length_range]; have := hj; lia
    k_steps
    rename News h₀ L _ _ => N8
    try simp only [List.push_toArray] at N8
    rw [nmEq i hj] at N8
    have hsn : ∀ t, StrsAre (vn ++ [Value.str (flagName (10 + i)) t]) ((List.range (10 + (i + 1))).map flagName) := fun t => by
      rw [← Nat.add_assoc, List.range_succ, List.map_append]; exact StrsAre.append' sn (.cons _ t .nil)
    refine' turn_next (by assumption) N8 ?Tj ?Ts ?Tm ?Tn
    case' Tj => refine ⟨_, _, ?Tk, rfl, rfl, rfl, hsn ?tt, rfl⟩
    case Ts => kcf_all
    case Tm => kcf_m
    case Tn => k_all
  case done =>
    rintro m₁ nx h tk ⟨ln, vn, kn, mn, ma, mc, sn, rfl⟩ F N
    replace F := Fr.known0 (Fr.known0 (Fr.known0 F mc) (n := "lowest") ma) (n := "names") mn
    have hvn : vn.length = 32 := by
      rw [sn.len_eq, List.length_map, List.length_range]
    k_steps
    rename News h₀ L _ _ => N8
    rw [pick_run ha (show a ≤ a + c by lia) (show a + c ≤ (vn.length : Int) by lia)] at N8
    refine' hR _ _ 0 _ _ (made_one (by assumption) N8) ?_
    have hs := (sn.drop' a.toNat).take' (a + c - a).toNat
    rw [← List.map_drop, ← List.map_take] at hs
    have e : ((List.range (10 + 22)).drop a.toNat).take (a + c - a).toNat = (List.range c.toNat).map fun k => a.toNat + k := by
      apply List.ext_getElem
      · rw [List.length_take, List.length_drop, List.length_range, List.length_map, List.length_range]; lia
      · intro n h1 h2
        rw [List.getElem_take, List.getElem_drop, List.getElem_range, List.getElem_map, List.getElem_range]
    rw [e, List.map_map] at hs
    exact hs
end
section
theorem reg_choices : True := by
  w_top off
  k_with_none
  (k_with "exec While" => (k_here; refine halt ?_))
  (k_with "exec While Compare cons nil" => (k_here; refine halt ?_))
  (k_with "pyIter ref" => (k_here; refine halt ?_))
  (k_with "exec FunctionDef" => (k_here; refine halt ?_))
  (k_with "call builtin:list.reverse" => (k_here; refine halt ?_))
  (k_with "call builtin:dict.get" => (k_here; refine halt ?_))
  (k_with "call builtin:iter" => (k_here; refine halt ?_))
  (k_with "call builtin:next" => (k_here; refine halt ?_))
  (k_with "exec For" => (k_here; refine forT (by assumption) ?_ (fun _ _ => rfl) (fun _ => rfl) PassesOwn.never))
  (k_with "exec For Name Call cons nil" => (k_here; refine forT (by assumption) ?_ (fun _ _ => rfl) (fun _ => rfl) PassesOwn.never))
  (k_with "exec For Name Name cons nil" => (k_here; refine forT (by assumption) ?_ (fun _ _ => rfl) (fun _ => rfl) PassesOwn.never))
  (k_with "eval Name" => (k_here; k_dflt (refine nameX_L (by assumption) (by first | rfl | assumption) ?_; k_whole)))
  (k_with "execs cons" => ((with_reducible refine wpAny_execs_cons ?_); try dsimp only))
  (k_with "execs nil" => (with_reducible refine wpAny_execs_nil ?_))
  (k_with "storeName" => (k_here; k_dflt (first | (refine storeX_L (by assumption) (by assumption) ?_; k_whole; intro _ _ _; (try k_sweep)) | (refine storeX_C (by k_asm) (by k_asm) (by rfl) (by k_updF) (by k_asm) ?_; k_whole; intro _ _ _ N' d'; (try dsimp only at N'); revert N' d'; intro _ _; (try k_sweep)))))
  (k_with "assign Name" => (k_here; refine wpAny_assign_Name ?_))
  (k_with "binaryOp LShift int int" => (k_here; refine lshift_int (by assumption) (by assumption) ?_))
  (k_with "exec Assign cons ListComp" => (k_here; lcg_calm; k_dflt (refine LCt.Assign_ListComp_T (F₀ := by k_asm) (by rfl) (by with_unfolding_all rfl) (by with_unfolding_all rfl) (by decide) (by rfl) (by decide) (by rfl) (by rfl) (by rfl) ?_); k_dflt lct_toSrc))
  (k_with "eval ListComp" => (k_here; lcg_calm; k_dflt (refine LCg.ListComp_U (F₀ := by k_asm) (by with_unfolding_all rfl) (by decide) (by rfl) (by decide) (by rfl) ?_)))
  (k_with "eval IfExp" => (k_here; refine halt ?_))
  (k_with "CompSrc" => (k_here; refine halt ?_))
  (k_with "CompSrcT" => (k_here; refine halt ?_))
  exact True.intro
def bitsOf (n f : Nat) : List Nat := (List.range n).filter fun k => f.testBit k
theorem fold_filter (p : Int → Bool) : ∀ (l acc : List Int), l.foldl (fun l k => if p k then l ++ [k] else l) acc = acc ++ l.filter p
  | [], acc => by simp
  | k :: r, acc => by
    rw [List.foldl_cons, fold_filter p r]
    by_cases h : p k = true
    · rw [if_pos h, List.filter_cons_of_pos h, List.append_assoc]; rfl
    · rw [if_neg h, List.filter_cons_of_neg h]
theorem picks_eq (n i : Nat) : (rangeKs 0 n).foldl (fun l k => if i.testBit k.toNat then l ++ [k] else l) [] = (bitsOf n i).map Int.ofNat := by
  rw [fold_filter (fun k : Int => i.testBit k.toNat)]
  unfold rangeKs bitsOf
  rw [List.nil_append, List.filter_map]
  congr 1
  · funext k; simp
  · congr 1
    funext k
    simp
theorem words_picks : ∀ n, n < 5 → ∀ i, i < 2 ^ n → (List.range 4).filter (fun k => i.testBit k) = bitsOf n i := by decide +kernel
theorem picks_words {n i lo : Nat} (hn : n ≤ 4) (hi : i < 2 ^ n) (h0 : i ≠ 0) : ((bitsOf n i).map Int.ofNat).map (fun k => flagName (lo + k.toNat)) = wordsOf lo i := by
  unfold wordsOf
  rw [if_neg h0, words_picks n (by lia) i hi, List.map_map]
  rfl
theorem bits_in {n i : Nat} {k : Int} (h : k ∈ (bitsOf n i).map Int.ofNat) : 0 ≤ k ∧ k < 0 + (n : Int) := by
  obtain ⟨j, hj, rfl⟩ := List.mem_map.mp h
  have := List.mem_range.mp (List.mem_filter.mp hj).1
  simp only [Int.ofNat_eq_natCast]
  lia
theorem ints_get {vs : List Value} {ns : List Int} (hi : IntsAre vs ns) : ∀ {k : Nat}, k < ns.length → ∃ t, vs[k]? = some (.int (ns.getD k 0) t) := by
  induction hi with
  | nil => intro k h; simp at h
  | cons n t _ ih =>
    intro k h
    cases k with
    | zero => exact ⟨t, rfl⟩
    | succ k => simpa using ih (by simpa using h)
inductive StrList (h₀ : Heap) (L : Addr) (m : Str → Option Value) (news : List (Addr × Obj)) (ys : List Str) (s : Shared) (v : Value) (s' : Shared) : Prop
  | mk (d : Nat) (h' : Heap) (tk' kd : Nat) (us : List Value) (q0 : v = .ref d) (q1 : s' = { s with heap := h', toks := tk' }) (q2 : StrsAre us ys) (q3 : Fr h₀ L h' m) (q4 : News h₀ L h' ((d, W.listOf us.toArray kd) :: news)) : StrList h₀ L m news ys s v s'
theorem cut_list {M : Model} {A : Around} {t : Sem Value} {E : Value → Shared → Prop} {Q : Value → Shared → Prop} {s : Shared} {h₀ : Heap} {L : Addr} {m : Str → Option Value} {news : List (Addr × Obj)} (_F : Fr h₀ L s.heap m) (_N : News h₀ L s.heap news) (ys : List Str)
    (h1 : wpAny M A t (StrList h₀ L m news ys s) E s)
    (h2 : ∀ (d : Nat) (h' : Heap) (tk' kd : Nat) (us : List Value), StrsAre us ys → Fr h₀ L h' m → News h₀ L h' ((d, W.listOf us.toArray kd) :: news) → Q (.ref d) { s with heap := h', toks := tk' }) : wpAny M A t Q E s :=
  wpAny_mono h1 (fun v s' ⟨d, h', tk', kd, us, e1, e2, h3, h4, h5⟩ => by rw [e1, e2]; exact h2 d h' tk' kd us h3 h4 h5) fun _ _ x => x
def popOdd (n f : Nat) : Bool := ((List.range n).filter fun k => f.testBit k).length % 2 == 1
def pickSum (ns : List Int) (f : Nat) : Int := (((List.range ns.length).filter fun k => f.testBit k).map fun k => ns.getD k 0).sum
def evens (ns : List Int) (i : Nat) : List Int := ((List.range i).filter fun f => !popOdd ns.length f).map (pickSum ns)
def odds (ns : List Int) (i : Nat) : List Int := ((List.range i).filter fun f => popOdd ns.length f).map (pickSum ns)
theorem news_drop2 {h₀ h : Heap} {L : Addr} {a b c : Addr × Obj} {r : List (Addr × Obj)} (N : News h₀ L h (a :: b :: c :: r)) : News h₀ L h (b :: r) := fun p hp => N p (by
  rcases List.mem_cons.mp hp with rfl | hp
  · exact .tail _ (.head _)
  · exact .tail _ (.tail _ (.tail _ hp)))
theorem evens_succ (ns : List Int) (i : Nat) : evens ns (i + 1) = if popOdd ns.length i then evens ns i else evens ns i ++ [pickSum ns i] := by
  unfold evens
  rw [List.range_succ, List.filter_append, List.map_append]
  cases h : popOdd ns.length i <;> simp [h]
theorem odds_succ (ns : List Int) (i : Nat) : odds ns (i + 1) = if popOdd ns.length i then odds ns i ++ [pickSum ns i] else odds ns i := by
  unfold odds
  rw [List.range_succ, List.filter_append, List.map_append]
  cases h : popOdd ns.length i <;> simp [h]
theorem evens_len {ns : List Int} {i : Nat} (h : i ≤ 16) : (evens ns i).length ≤ 16 := by
  unfold evens
  rw [List.length_map]
  exact Nat.le_trans (List.length_filter_le _ _) (by rw [List.length_range]; exact h)
theorem odds_len {ns : List Int} {i : Nat} (h : i ≤ 16) : (odds ns i).length ≤ 16 := by
  unfold odds
  rw [List.length_map]
  exact Nat.le_trans (List.length_filter_le _ _) (by rw [List.length_range]; exact h)
theorem pick_sum (ns : List Int) (i : Nat) : (((bitsOf ns.length i).map Int.ofNat).map fun k => ns.getD k.toNat 0).sum = pickSum ns i := by
  unfold pickSum bitsOf
  rw [List.map_map]
  rfl
theorem par_even {n i : Nat} (h : (((bitsOf n i).map Int.ofNat).length : Int).fmod 2 = 0) : popOdd n i = false := by
  rw [List.length_map] at h
  unfold popOdd
  show ((bitsOf n i).length % 2 == 1) = false
  rw [beq_eq_false_iff_ne]
  rw [Int.fmod_eq_emod_of_nonneg _ (by decide)] at h
  lia
theorem par_odd {n i : Nat} (h : (((bitsOf n i).map Int.ofNat).length : Int).fmod 2 ≠ 0) : popOdd n i = true := by
  rw [List.length_map] at h
  unfold popOdd
  show ((bitsOf n i).length % 2 == 1) = true
  rw [beq_iff_eq]
  rw [Int.fmod_eq_emod_of_nonneg _ (by decide)] at h
  lia
section
variable {ns : List Int} {i : Nat} {ve vo : List Value} {t : Tok}
theorem ie_even (h : IntsAre ve (evens ns i)) (hp : popOdd ns.length i = false) : IntsAre (ve ++ [.int (((bitsOf ns.length i).map Int.ofNat).map fun k => ns.getD k.toNat 0).sum t]) (evens ns (i + 1)) := by
  rw [evens_succ, hp, if_neg (by decide), pick_sum]; exact IntsAre.append h (.cons _ _ .nil)
theorem io_even (h : IntsAre vo (odds ns i)) (hp : popOdd ns.length i = false) : IntsAre vo (odds ns (i + 1)) := by
  rw [odds_succ, hp, if_neg (by decide)]; exact h
theorem io_odd (h : IntsAre vo (odds ns i)) (hp : popOdd ns.length i = true) : IntsAre (vo ++ [.int (((bitsOf ns.length i).map Int.ofNat).map fun k => ns.getD k.toNat 0).sum t]) (odds ns (i + 1)) := by
  rw [odds_succ, hp, if_pos rfl, pick_sum]; exact IntsAre.append h (.cons _ _ .nil)
theorem ie_odd (h : IntsAre ve (evens ns i)) (hp : popOdd ns.length i = true) : IntsAre ve (evens ns (i + 1)) := by
  rw [evens_succ, hp, if_pos rfl]; exact h
end
inductive ChJ (ns : List Int) (a : Int) (ta : Tok) (L le lo r : Addr) (on o3 orr : Obj) (i : Nat) (m : Str → Option Value) (nx : List (Addr × Obj)) : Prop
  | mk (ve : List Value) (ke : Nat) (vo : List Value) (ko : Nat) (ow : Obj) (cw : Option Value) (q0 : m "even" = some (.ref le)) (q1 : m "odd" = some (.ref lo)) (q2 : m "lowest" = some (.int a ta)) (q3 : IntsAre ve (evens ns i)) (q4 : IntsAre vo (odds ns i)) (q5 : ow.data = .cell cw) (q6 : nx = [(lo, W.listOf vo.toArray ko), (le, W.listOf ve.toArray ke), (r, orr), (L + 1 + 1 + 1, ow), (L + 1 + 1, on), (L + 1, o3)]) : ChJ ns a ta L le lo r on o3 orr i m nx
theorem chs_bd {a : Int} {i : Nat} (ha : 0 ≤ a) (ha2 : a ≤ 28) (hi : i < 16) : (Builtin.Int.intBits ((0 : Int) + (i : Nat)) : Int) + a ≤ 2 ^ 27 ∧ 0 ≤ ((0 : Int) + (i : Nat)) * 2 ^ a.toNat ∧ ((0 : Int) + (i : Nat)) * 2 ^ a.toNat < 4294967296 := by
  have pp : (0 : Int) < 2 ^ a.toNat := Int.pow_pos (by decide)
  have h1 : (2 : Int) ^ a.toNat ≤ 2 ^ 28 := by exact_mod_cast Nat.pow_le_pow_right (n := 2) (by decide) (show a.toNat ≤ 28 by lia)
  have h2 : Builtin.Int.intBits ((0 : Int) + (i : Nat)) ≤ 4 := PyProof.Rows.intBits_le (by lia)
  refine ⟨by lia, Int.mul_nonneg (by lia) (Int.le_of_lt pp), ?_⟩
  have h3 : ((0 : Int) + (i : Nat)) * 2 ^ a.toNat ≤ 15 * 2 ^ 28 := Int.mul_le_mul (by lia) h1 (Int.le_of_lt pp) (by decide)
  exact Int.lt_of_le_of_lt h3 (by decide)
theorem news_off {h₀ h : Heap} {L : Addr} {news : List (Addr × Obj)} (N : News h₀ L h news) : ∀ p ∈ news, @Ne Nat p.1 h.objs.size := fun p hp => Nat.ne_of_lt (Heap.lt_size (N p hp).1)
theorem kin {k a : Int} {n : Nat} (h0 : 0 ≤ k) (h1 : k < 0 + (n : Int)) (hn : n ≤ 4) (ha : a ≤ 28) : k.toNat < ((n : Nat) : Int).toNat ∧ a.toNat + k.toNat < 32 ∧ k < 2 ^ 63 := by
  have h2 : k < (n : Int) := by rw [Int.zero_add] at h1; exact h1
  have h3 : k.toNat < n := (Int.toNat_lt h0).mpr h2
  exact ⟨h3, Nat.add_lt_add_of_le_of_lt (Int.toNat_le.mpr ha) (Nat.lt_of_lt_of_le h3 hn), Int.lt_trans (Int.lt_of_lt_of_le h2 (Int.ofNat_le.mpr hn)) (by decide)⟩
theorem choices_spec {w : World} {p : Program} {loose : List Str} {mean : ExcName → Option Value} {mg mb : Str → Option Value}
   {A : Around} {s : Shared} {Q E : Value → Shared → Prop} {l : Addr} {vs : List Value} {ns : List Int} {a : Int} {ta : Tok}
   (X : (Mine.hd.heap_39 w.params).In s.heap) (T : Top p loose mean mg mb s.heap)
   (hA : A.handled = none) (hd : A.depth ≤ 580) (hu : A.units ≤ 800)
   (hl : s.heap.IsList l vs.toArray) (hi : IntsAre vs ns) (hlen : ns.length ≤ 4) (ha : 0 ≤ a) (ha2 : a ≤ 28)
   (hR : ∀ (r le lo : Nat) (ve vo : List Value) (kr ke ko : Nat) (h' : Heap) (tk' : Nat), Made s.heap h' [(r, tupOf [.ref le, .ref lo] kr), (le, W.listOf ve.toArray ke), (lo, W.listOf vo.toArray ko)] →
     IntsAre ve (sortI (evens ns (2 ^ ns.length))) → IntsAre vo (sortI (odds ns (2 ^ ns.length))) → Q (.ref r) { s with heap := h', toks := tk' }) :
   wpAny (model PR w) A (call (.ref 111) [.ref l, .int a ta]) Q E s := by
  refine ask_in ?_
  k_fill
  intro _
  refine at_mono 580 800 hA hd hu ?_
  have ho := X 111 _ rfl
  (refine' wpAny_call (call_cellsN_ret ?hroom (by assumption) ?hdata (Top.nolimit (by assumption)) ?hcd ?hbind ?hkind ?hnd ?_ ?hco ?hgen ?hk); (case hdata => exact rfl); (case hroom => exact Nat.le_of_ble_eq_true rfl); (case hcd => exact codeRec_of (by assumption) rfl); (case hbind => exact rfl); (case hkind => exact (kindsX (by rfl) _)); (case hnd => decide); (case hco => exact rfl); (case hgen => exact rfl); (case hk => exact rfl))
  intro h₁ tk cells F N C
  clear ho
  generalize hL : s.heap.objs.size = L at *
  generalize hh0 : s.heap = h₀ at *
  obtain ⟨o1, o2, o3, rfl, d1, d2, d3⟩ := C.three
  clear C
  have hvl := hi.length
  have d3' : o3.data = Data.cell (some (.ref l)) := d3
  k_steps
  rename Fr h₀ L _ _ => F2
  rename News h₀ L _ _ => N2
  refine names_spec (X.keeps F2.keep) (T.keeps F2.keep) rfl (by show 580 + 1 ≤ 600; lia) (by show 800 + 3 ≤ 900; lia) ha (by lia) (by lia) ?_
  intro r ve kr h3 tk3 MM hs
  have F3 := MM.fr F2
  have N3 := MM.news F2 N2
  have hrn := MM.ne N2 (.head _)
  simp only [List.cons_append, List.nil_append] at N3
  simp only [List.forall_mem_cons, List.not_mem_nil, false_implies, implies_true, and_true] at hrn
  clear F2 N2 MM
  k_steps
  rename_i hz1 on dn le hz2 l1x hz3 lo hz4 l2x hz5 hzF hzN hz6 tz tz1 tz2 tz3 hrg F5 N5 hz9
  simp only [List.cons_append, List.nil_append] at N5
  unfold Halt
  have hle1 : r < le ∧ L + 1 + 1 + 1 < le ∧ L + 1 + 1 < le ∧ L + 1 < le := by
    simp only [List.cons_append, List.nil_append, List.forall_mem_cons, List.not_mem_nil, false_implies, implies_true, and_true] at l1x
    exact l1x
  have hlo1 : le < lo ∧ r < lo ∧ L + 1 + 1 + 1 < lo ∧ L + 1 + 1 < lo ∧ L + 1 < lo := by
    simpa only [List.cons_append, List.nil_append, AllLt, and_true] using l2x
  have hd1 : @Ne Nat le (L + 1 + 1 + 1) := by lia
  have hd2 : @Ne Nat lo (L + 1 + 1 + 1) := by lia
  have hd3 : @Ne Nat r (L + 1 + 1 + 1) := Ne.symm hrn.1
  have hd4 : @Ne Nat lo le := by lia
  have h2n : (0 : Int) ≤ 2 ^ (ns.length : Int).toNat := Int.pow_nonneg (by decide)
  have h2m : (2 : Int) ^ (ns.length : Int).toNat ≤ 16 := by
    rw [Int.toNat_natCast]; exact_mod_cast Nat.pow_le_pow_right (n := 2) (by decide) hlen
  refine' iterRange (L := L) rfl (n := 2 ^ ns.length) (ChJ ns a ta L le lo r on o3 (W.listOf ve.toArray kr)) rfl (by assumption) (small_one (by lia) (by lia) (by lia) (by lia)) (by rw [Int.toNat_natCast]; exact_mod_cast rangeSize_nat _ _) F5 N5 ?J0 ?turn ?done
  case J0 => exact ⟨[], 0, [], 0, _, _, rfl, rfl, rfl, .nil, .nil, d1, rfl⟩
  case turn =>
    rintro i t m₁ nx I oI h tk hj ⟨ve', ke, vo', ko, ow, cw, me, mo, ml, ie, io, dw, rfl⟩ hne F N
    simp only [List.cons_append, List.nil_append] at N
    have hI := gnNe_of hne
    simp only [GnNe, and_true] at hI
    clear hne
    replace F := Fr.known0 (Fr.known0 (Fr.known0 F ml) (n := "odd") mo) (n := "even") me
    obtain ⟨hshift, hfl0, hfl1⟩ := chs_bd (i := i) ha ha2 (Nat.lt_of_lt_of_le hj (Nat.pow_le_pow_right (n := 2) (by decide) hlen))
    k_steps
    rename Fr h₀ L _ _ => F2
    rename News h₀ L _ _ => N2
    refine pretty_spec (X.keeps F2.keep) (T.keeps F2.keep) rfl (by show 580 + 1 ≤ 600; lia) (by show 800 + 3 ≤ 900; lia) hfl0 hfl1 ?_
    intro tp h4 tk4 KK
    have F4 := F2.keeps KK
    have N4 : News h₀ L h4 _ := fun p hp => ⟨KK _ _ (N2 p hp).1, (N2 p hp).2⟩
    clear F2 N2 KK
    k_steps
    have hlo : a.toNat < 29 := by lia
    have hi16 : i < 16 := Nat.lt_of_lt_of_le hj (Nat.pow_le_pow_right (n := 2) (by decide) hlen)
    refine splitN1A (by assumption) (by assumption) (by decide) ?_ (by rw [sizeLine_eq]; have := split_len hlo hi16; omega)
    intro lw h5 tk5 hsp hst _ _ F5 N5
    rw [hsp, split_words hlo hi16] at hst
    clear hsp
    have hrw := news_off N4
    simp only [List.forall_mem_cons, List.not_mem_nil, false_implies, implies_true, and_true] at hrw
    generalize strValues lw = vw at *
    generalize h4.objs.size = rw4 at *
    clear F4 N4
    have hr1 : @Ne Nat rw4 (L + 1 + 1 + 1) := Ne.symm hrw.2.2.2.1
    have hr2 : @Ne Nat I (L + 1 + 1 + 1) := Ne.symm hI.2.2.2.1
    k_steps
    unfold Halt
    refine LCt.CompSrcT.range rfl (by k_asm) (by k_asm) (by assumption) (small_one (by lia) (by lia) (by lia) (by lia)) (rangeSize_nat _ _) (by rw [sizeLine_eq]; lia) ?_
    intro g'
    refine' kci_range (fun l k => if i.testBit k.toNat then l ++ [k] else l) (fun k' t' I' oI' C' oC' D' m' ys' l' h' tk' E' hlo' hhi' hI' hC' hx' F' N' off' ne' => ?_) ?_ ?_
    case refine'_3 => intro l k; dsimp only; split <;> simp
    case refine'_1 =>
      intro _
      obtain ⟨k1, k2, k3⟩ := kin hlo' hhi' hlen ha2
      obtain ⟨tn, hvn⟩ : ∃ tn, ve[k'.toNat]? = some (.str (flagName (a.toNat + k'.toNat)) tn) := names_at hs k1
      refine wpAny_isTrue_Compare1 ?_
      refine Subscript_ ?_
      refine lcf_cell N' rfl (by k_mem) dn ?_ rfl rfl
      refine LCgL.ld_own N' (by k_mem) hC' hx' ?_
      refine item_listL ⟨_, N'.get (by k_mem), rfl, _, rfl⟩ hlo' k3 hvn ?_
      refine lcf_cell N' rfl (by k_mem) (by assumption) ?_ rfl rfl
      refine in_list_strs ⟨_, N'.get (by k_mem), rfl, _, rfl⟩ hst ?_
      refine wpAny_truthy_bool ?_
      rw [any_word hlo hi16 k2]
      cases hb : i.testBit k'.toNat with
      | true =>
        rw [if_pos rfl]
        refine LCgL.ld_own N' (by k_mem) hC' hx' ?_
        refine LCg.CompEnd.intro F' N' _ (fun p hp => hp) off' trivial ?_
        refine ⟨rfl, k', t', rfl, ?_⟩
        rw [if_pos rfl]
      | false =>
        rw [if_neg (by decide)]
        refine LCg.CompEnd.intro F' N' _ (fun p hp => hp) off' trivial ?_
        refine ⟨rfl, ?_⟩
        rw [if_neg (by decide)]
    case refine'_2 =>
      intro vp hp hpn
      rw [picks_eq, show ((ns.length : Int) - 0).toNat = ns.length by lia] at hp
      rw [show ((ns.length : Int) - 0).toNat = ns.length by lia] at hpn
      unfold LCg.FinA
      intro D6 h6 tk6 F6 N6 off1
      simp only [LCg.Off1, and_true] at off1
      (try dsimp only)
      k_steps
      unfold Halt
      refine cut_list F6 N6 (wordsOf a.toNat i) ?_ ?_
      · refine wpAny_IfExp ?_
        k_steps
        · rename_i hgt
          unfold Halt
          refine LCg.CompSrc.ledger rfl (by assumption) N6 (by k_mem) (by rw [sizeLine_eq, List.size_toArray]; exact Nat.le_trans hpn (Nat.le_trans hlen (by decide))) ?_
          intro g'
          refine' kct_list (fun k => flagName (a.toNat + k.toNat)) hp (fun k' t' I' oI' C' oC' D'' m' ys' h' tk' E' hk' hC' hx' F' N' off' ne' => ?_) ?_
          · intro _
            obtain ⟨q1, q2⟩ := bits_in hk'
            obtain ⟨k1, k2, k3⟩ := kin q1 q2 hlen ha2
            obtain ⟨tn, hvn⟩ : ∃ tn, ve[k'.toNat]? = some (.str (flagName (a.toNat + k'.toNat)) tn) := names_at hs k1
            refine Subscript_ ?_
            refine lcf_cell N' rfl (by k_mem) dn ?_ rfl rfl
            refine LCgL.ld_own N' (by k_mem) hC' hx' ?_
            refine item_listL ⟨_, N'.get (by k_mem), rfl, _, rfl⟩ q1 k3 hvn ?_
            exact LCg.CompEnd.intro F' N' _ (fun p hp => hp) off' (.inr ⟨_, by k_mem, rfl, _, rfl⟩) ⟨rfl, tn, rfl⟩
          · intro ys hys _
            unfold LCg.FinE
            intro D h tk F N o1
            refine ⟨D, h, tk, _, ys, rfl, rfl, ?_, F, N⟩
            rw [← picks_words hlen hj (by lia)]
            exact CarriedAll.strsOf hys
        · rename_i hgt
          have hi0 : i = 0 := by lia
          subst hi0
          refine ⟨_, _, _, _, [.str (Str.ofString "0x0") _], rfl, rfl, .cons _ _ .nil, by assumption, by assumption⟩
      · intro d h8 tk8 kd us hus F8 N8
        clear F6 N6
        refine ne_strs ⟨_, N8.get (.tail _ (.tail _ (.head _))), rfl, _, rfl⟩ ⟨_, N8.get (.head _), rfl, _, rfl⟩ hst hus (by show 800 + 3 ≤ 2000; lia) ?_
        refine wpAny_truthy_bool ?_
        rw [if_neg (by decide)]
        replace N8 := news_drop2 N8
        clear hr1 hr2 hrw
        have hvp : vp.length = (bitsOf ns.length i).length := by rw [hp.length, List.length_map]
        have hvp4 : vp.length ≤ 4 := Nat.le_trans hpn hlen
        have hvp5 : ((bitsOf ns.length i).map Int.ofNat).length ≤ 4 := by rw [← hp.length]; exact hvp4
        k_steps
        all_goals
          rename_i hpar
          unfold Halt
          rename Fr h₀ L _ _ => F9
          rename News h₀ L _ _ => N9
          refine LCg.CompSrc.ledger rfl (by assumption) N9 (by k_mem) (by rw [sizeLine_eq, List.size_toArray]; exact Nat.le_trans hpn (Nat.le_trans hlen (by decide))) ?_
          intro g'
          refine' kcf_list (fun k => ns.getD k.toNat 0) hp (fun k' t' I' oI' C' oC' D'' m' ys' h' tk' E' hk' hC' hx' F' N' off' ne' => ?_) ?_
          · intro _
            obtain ⟨q1, q2⟩ := bits_in hk'
            obtain ⟨k1, k2, k3⟩ := kin q1 q2 hlen ha2
            obtain ⟨tn, hvn⟩ := ints_get hi (k := k'.toNat) (by rw [Int.toNat_natCast] at k1; exact k1)
            refine Subscript_ ?_
            refine lcf_cell N' rfl (by k_mem) d3' ?_ rfl rfl
            refine LCgL.ld_own N' (by k_mem) hC' hx' ?_
            refine item_listL (hl.at fun o e => F'.keep l o e) q1 k3 hvn ?_
            exact LCg.CompEnd.intro F' N' _ (fun p hp => hp) off' (.inr ⟨_, by k_mem, rfl, _, rfl⟩) ⟨rfl, tn, rfl⟩
          · intro ys hys
            unfold LCg.FinE
            intro D7 h7 tk7 F N o1
            simp only [LCg.Off1, and_true] at o1
            clear F9 N9
            have f1 : @Ne Nat D7 le := Ne.symm o1.2.2.1
            have f2 : @Ne Nat D7 lo := Ne.symm o1.2.1
            have f3 : @Ne Nat D6 le := Ne.symm off1.2.2.1
            have f4 : @Ne Nat D6 lo := Ne.symm off1.2.1
            have f5 : @Ne Nat I le := Ne.symm hI.2.1
            have f6 : @Ne Nat I lo := Ne.symm hI.1
            have hIh := halt hI
            clear o1 off1 hI hd1 hd2 hd3 hd4 hrn
            have hve16 : ve'.length ≤ 16 := by rw [ie.length]; exact evens_len (by lia)
            have hvo16 : vo'.length ≤ 16 := by rw [io.length]; exact odds_len (by lia)
            have hys4 : ys.length ≤ 4 := by rw [hys.length, List.length_map]; exact hvp5
            (try dsimp only)
            k_steps
            rename News h₀ L _ _ => N11
            (try simp only [List.push_toArray] at N11)
            first
              | (have hpo := par_even hpar
                 refine' turn_next (by assumption) N11 ?J ?s ?m ?n
                 case' J => refine ⟨_, ?ke, _, ?ko, _, _, rfl, rfl, rfl, ie_even (t := ?tt) ie hpo, io_even io hpo, by assumption, rfl⟩
                 case s => kcf_all
                 case m => kcf_m
                 case n => (simp only [List.forall_mem_cons, List.not_mem_nil, false_implies, implies_true, and_true]; exact hIh))
              | (have hpo := par_odd hpar
                 refine' turn_next (by assumption) N11 ?J2 ?s2 ?m2 ?n2
                 case' J2 => refine ⟨_, ?ke2, _, ?ko2, _, _, rfl, rfl, rfl, ie_odd ie hpo, io_odd (t := ?tt2) io hpo, by assumption, rfl⟩
                 case s2 => kcf_all
                 case m2 => kcf_m
                 case n2 => (simp only [List.forall_mem_cons, List.not_mem_nil, false_implies, implies_true, and_true]; exact hIh))
  case done =>
    rintro m₁ nx h tk ⟨ve', ke, vo', ko, ow, cw, me, mo, ml, ie, io, dw, rfl⟩ F N
    have h2k : 2 ^ ns.length ≤ 16 := Nat.pow_le_pow_right (n := 2) (by decide) hlen
    have hd1 := evens_len (ns := ns) h2k
    have hd2 := odds_len (ns := ns) h2k
    have hve : ve'.length ≤ 16 := by rw [ie.length]; exact hd1
    have hvo : vo'.length ≤ 16 := by rw [io.length]; exact hd2
    replace F := Fr.known0 (Fr.known0 F mo) (n := "even") me
    k_steps
    refine' hR _ _ _ _ _ _ _ _ _ _ (made_of (by assumption) (by assumption) ?s3) ?e3 ?o3
    case s3 => kcf_all
    case e3 => rw [← sortI_of (l := evens ns (2 ^ ns.length)) (by assumption) (by assumption)]; assumption
    case o3 => rw [← sortI_of (l := odds ns (2 ^ ns.length)) (by assumption) (by assumption)]; assumption
end
section
section
variable {prog : Program} {w : World} {A : Around} {E : Value → Shared → Prop} {s : Shared} {it l : Addr} {i : Nat} {items : Array Value} {x : Value}
theorem call_iter_list {Q : Value → Shared → Prop} (hl : s.heap.IsList l items)
    (h : Q (.ref s.heap.objs.size) { s with heap := s.heap.push { cls := .type "list_iterator", data := .fields #[.ref l, .int 0 0] } }) :
    wpAny (model prog w) A (call (.builtin "iter") [.ref l]) Q E s := by
  refine call_function_entry (by decide +kernel) (by decide +kernel) kdk_entry_iter (kdk_args_iter _) ?_
  unfold Builtin.«iter»
  refine wpAny_bind (m := someArgs "iter" 1 2 _) (wpAny_of_eq (a := [Value.ref l]) (by first | rfl | kernel_rfl!) ?_)
  show wpAny _ _ (pyIter (.ref l) >>= _) _ _ _
  refine wpAny_bind (wpAny_pyIter_list hl ?_)
  exact wpAny_pure ⟨_, rfl, h⟩
theorem special_next_item {Q : Option Value → Shared → Prop} (hit : s.heap.IsListIter it l i) (hl : s.heap.IsList l items) (hx : items[i]? = some x)
    (hQ : ∀ h', h'.IsListIter it l (i + 1) → Heap.SameBut it s.heap h' → Q (some x) { s with heap := h' }) :
    wpAny (model prog w) A (callSpecial? (.ref it) (Str.ofString "__next__")) Q E s := by
  obtain ⟨o, ho, hc, hd⟩ := id hit
  obtain ⟨ol, hol, _, nl, hdl⟩ := hl
  refine wpAny_callSpecial?_slot (name := Str.ofString "__next__") hit.typeIs slot_listiter_next
    (wpAny_call_entry slot_listiter_next hit.typeIs entry_listiter_next ?_ (args_listiter_next _))
  show wpAny _ _ (field (.ref it) 0 >>= _) _ _ s
  refine wpAny_bind (wpAny_field ho hd (x := .ref l) rfl ?_)
  show wpAny _ _ (if (Value.ref l == Value.none) = true then _ else _) _ _ s
  rw [if_neg (show ¬ ((Value.ref l == Value.none) = true) from Bool.false_ne_true)]
  show wpAny _ _ (field (.ref it) 1 >>= _) _ _ s
  refine wpAny_bind (wpAny_field ho hd (x := .int i 0) rfl ?_)
  show wpAny _ _ (seqItems? (.ref l) >>= _) _ _ s
  refine wpAny_bind (wpAny_seqItems hol hdl ?_)
  simp only [Int.toNat_natCast, hx]
  refine wpAny_bind (wpAny_setField ho hd (by simp) (wpAny_pure ⟨x, rfl, hQ _ ?_ (Heap.SameBut.update ..)⟩))
  exact ⟨_, Heap.get?_update_self _ ho (Obj.isFreed_of_fields (Obj.data_mapFields hd _)), (Obj.cls_mapFields ..).trans hc, by
    rw [Obj.data_mapFields hd]; simp [rawInt]⟩
theorem special_next_end {Q : Option Value → Shared → Prop} (hh : A.handled = none) (hit : s.heap.IsListIter it l i) (hl : s.heap.IsList l items) (hx : items[i]? = none)
    (hE : ∀ h₁ h' e, Heap.SameBut it s.heap h₁ → Heap.NewExc h₁ h' e "StopIteration" → E (.ref e) { s with heap := h' }) :
    wpAny (model prog w) A (callSpecial? (.ref it) (Str.ofString "__next__")) Q E s := by
  obtain ⟨o, ho, hc, hd⟩ := id hit
  obtain ⟨ol, hol, _, nl, hdl⟩ := hl
  refine wpAny_callSpecial?_slot (name := Str.ofString "__next__") hit.typeIs slot_listiter_next
    (wpAny_call_entry slot_listiter_next hit.typeIs entry_listiter_next ?_ (args_listiter_next _))
  show wpAny _ _ (field (.ref it) 0 >>= _) _ _ s
  refine wpAny_bind (wpAny_field ho hd (x := .ref l) rfl ?_)
  show wpAny _ _ (if (Value.ref l == Value.none) = true then _ else _) _ _ s
  rw [if_neg (show ¬ ((Value.ref l == Value.none) = true) from Bool.false_ne_true)]
  show wpAny _ _ (field (.ref it) 1 >>= _) _ _ s
  refine wpAny_bind (wpAny_field ho hd (x := .int i 0) rfl ?_)
  show wpAny _ _ (seqItems? (.ref l) >>= _) _ _ s
  refine wpAny_bind (wpAny_seqItems hol hdl ?_)
  simp only [Int.toNat_natCast, hx]
  refine wpAny_bind (wpAny_rule (wpAny_bind (wpAny_setField ho hd (by simp) ?_)))
  show wpAny _ _ (newExc (.type "StopIteration") [] >>= _) _ _ _
  refine wpAny_bind ?_
  simp only [newExc, newTuple]
  refine wpAny_bind (wpAny_newObj_type ?_ (by size_fits))
  refine wpAny_bind (m := firstArgMember _ _) (wpAny_of_eq (a := Value.none) (by first | rfl | (simp only [firstArgMember]; rfl)) ?_)
  refine wpAny_newObj_type ?_ (by size_fits)
  simp only [raiseNew]
  refine wpAny_bind (wpAny_handled ?_)
  first | rw [show A.in1.handled = none from hh] | rw [hh]
  refine wpAny_bind (wpAny_pure (wpAny_throw ?_))
  refine hE _ _ _ (Heap.SameBut.update ..) ⟨fun b o e => Heap.get?_push_of_some _ (Heap.get?_push_of_some _ e), ?_, ⟨_, _, Heap.get?_push_size _ rfl, rfl, rfl⟩⟩
  exact Heap.get?_none_of_le (by rw [Heap.size_push]; exact Nat.le_succ _)
theorem call_next_item {Q : Value → Shared → Prop} (hit : s.heap.IsListIter it l i) (hl : s.heap.IsList l items) (hx : items[i]? = some x)
    (hQ : ∀ h', h'.IsListIter it l (i + 1) → Heap.SameBut it s.heap h' → Q x { s with heap := h' }) :
    wpAny (model prog w) A (call (.builtin "next") [.ref it]) Q E s := by
  refine call_function_entry (by decide +kernel) (by decide +kernel) kdk_entry_next (kdk_args_next _) ?_
  unfold Builtin.«next»
  refine wpAny_bind (m := someArgs "next" 1 2 _) (wpAny_of_eq (a := [Value.ref it]) (by first | rfl | kernel_rfl!) ?_)
  dsimp only
  refine wpAny_bind (wpAny_specialOf (name := Str.ofString "__next__") hit.typeIs slot_listiter_next.lookup ?_)
  refine wpAny_ite_split (fun hab => absurd hab (by decide)) (fun _ => ?_)
  exact wpAny_bind (special_next_item hit hl hx fun h' h1 h2 => wpAny_pure ⟨_, rfl, hQ h' h1 h2⟩)
theorem call_next_end {Q : Value → Shared → Prop} (hh : A.handled = none) (hit : s.heap.IsListIter it l i) (hl : s.heap.IsList l items) (hx : items[i]? = none)
    (hE : ∀ h₁ h' e, Heap.SameBut it s.heap h₁ → Heap.NewExc h₁ h' e "StopIteration" → E (.ref e) { s with heap := h' }) :
    wpAny (model prog w) A (call (.builtin "next") [.ref it]) Q E s := by
  refine call_function_entry (by decide +kernel) (by decide +kernel) kdk_entry_next (kdk_args_next _) ?_
  unfold Builtin.«next»
  refine wpAny_bind (m := someArgs "next" 1 2 _) (wpAny_of_eq (a := [Value.ref it]) (by first | rfl | kernel_rfl!) ?_)
  dsimp only
  refine wpAny_bind (wpAny_specialOf (name := Str.ofString "__next__") hit.typeIs slot_listiter_next.lookup ?_)
  refine wpAny_ite_split (fun hab => absurd hab (by decide)) (fun _ => ?_)
  exact wpAny_bind (special_next_end hh hit hl hx hE)
end
end
section
theorem reg_varint : True := by
  w_top off
  k_with_none
  (k_with "exec While" => (k_here; refine halt ?_))
  (k_with "exec While Compare cons nil" => (k_here; refine halt ?_))
  (k_with "pyIter ref" => (k_here; refine halt ?_))
  (k_with "exec FunctionDef" => (k_here; refine halt ?_))
  (k_with "call builtin:list.reverse" => (k_here; refine halt ?_))
  (k_with "call builtin:dict.get" => (k_here; refine halt ?_))
  (k_with "call builtin:iter" => (k_here; refine halt ?_))
  (k_with "call builtin:next" => (k_here; refine halt ?_))
  (k_with "exec For" => (k_here; refine forT (by assumption) ?_ (fun _ _ => rfl) (fun _ => rfl) PassesOwn.never))
  (k_with "exec For Name Call cons nil" => (k_here; refine forT (by assumption) ?_ (fun _ _ => rfl) (fun _ => rfl) PassesOwn.never))
  (k_with "exec For Name Name cons nil" => (k_here; refine forT (by assumption) ?_ (fun _ _ => rfl) (fun _ => rfl) PassesOwn.never))
  (k_with "eval Name" => (k_here; k_dflt (refine nameX_L (by assumption) (by first | rfl | assumption) ?_; k_whole)))
  (k_with "execs cons" => ((with_reducible refine wpAny_execs_cons ?_); try dsimp only))
  (k_with "execs nil" => (with_reducible refine wpAny_execs_nil ?_))
  (k_with "storeName" => (k_here; k_dflt (first | (refine storeX_L (by assumption) (by assumption) ?_; k_whole; intro _ _ _; (try k_sweep)) | (refine storeX_C (by k_asm) (by k_asm) (by rfl) (by k_updF) (by k_asm) ?_; k_whole; intro _ _ _ N' d'; (try dsimp only at N'); revert N' d'; intro _ _; (try k_sweep)))))
  (k_with "assign Name" => (k_here; refine wpAny_assign_Name ?_))
  (k_with "binaryOp LShift int int" => (k_here; refine lshift_int (by assumption) (by assumption) ?_))
  (k_with "inplaceOp LShift int int" => (k_here; refine ilshift_int (by decide) (by assumption) ?_))
  exact True.intro
theorem intBits_le18 {x : Int} (h0 : 0 ≤ x) (h : x < 2 ^ 18) : Builtin.Int.intBits x ≤ 18 := Mine.intBits_le h0 h
def IterOf (o : Obj) (l : Addr) (i : Nat) : Prop := o.cls = .type "list_iterator" ∧ o.data = .fields #[.ref l, .int i 0]
theorem next_N {prog : Program} {w : World} {A : Around} {E Q : Value → Shared → Prop} {s : Shared} {h₀ : Heap} {L I l : Addr} {oI : Obj} {i : Nat} {items : Array Value} {x : Value} {m : Str → Option Value} {news : List (Addr × Obj)}
    (F : Fr h₀ L s.heap m) (N : News h₀ L s.heap ((I, oI) :: news)) (hi : IterOf oI l i) (hl : h₀.IsList l items) (hx : items[i]? = some x) (off : ∀ p ∈ news, p.1 ≠ I)
    (h : ∀ h' oI', Fr h₀ L h' m → News h₀ L h' ((I, oI') :: news) → IterOf oI' l (i + 1) → Q x { s with heap := h' }) :
    wpAny (model prog w) A (call (.builtin "next") [.ref I]) Q E s := by
  have hI := N _ (.head _)
  refine call_next_item ⟨oI, hI.1, hi⟩ (hl.at fun o e => F.keep _ _ e) hx fun h' hit hs => ?_
  obtain ⟨o', ho', hc', hd'⟩ := hit
  refine h h' o' (F.change hs hI.2.1 hI.2.2) (fun p hp => ?_) ⟨hc', hd'⟩
  rcases List.mem_cons.mp hp with rfl | hp
  · exact ⟨ho', hI.2⟩
  · exact ⟨(hs.2 _ (off p hp)).trans (N p (.tail _ hp)).1, (N p (.tail _ hp)).2⟩
def vfold (P : List Int) : Int := P.foldl (fun v b => v * 64 + b % 64) 0
structure OctRun (P : List Int) (x : Int) : Prop where
  pos : 1 ≤ P.length
  len : P.length ≤ 3
  val : vfold P = x
  bit : ∀ (j : Nat) (b : Int), P[j]? = some b → 0 ≤ b ∧ b < 128 ∧ (b / 64 = 1 ↔ j + 1 < P.length)
theorem oct_hi (y : Int) {k n : Nat} (h : k + 1 < n) : 0 ≤ 64 + y % 64 ∧ 64 + y % 64 < 128 ∧ ((64 + y % 64) / 64 = 1 ↔ k + 1 < n) := by
  have h0 := Int.emod_nonneg y (b := 64) (by decide)
  have h1 := Int.emod_lt_of_pos y (b := 64) (by decide)
  refine ⟨Int.add_nonneg (by decide) h0, Int.add_lt_add_left h1 64, fun _ => h, fun _ => ?_⟩
  rw [Int.add_ediv_of_dvd_left (Int.dvd_refl 64), Int.ediv_eq_zero_of_lt h0 h1]
  rfl
theorem oct_lo (y : Int) {k n : Nat} (h : ¬ k + 1 < n) : 0 ≤ y % 64 ∧ y % 64 < 128 ∧ (y % 64 / 64 = 1 ↔ k + 1 < n) := by
  have h0 := Int.emod_nonneg y (b := 64) (by decide)
  have h1 := Int.emod_lt_of_pos y (b := 64) (by decide)
  refine ⟨h0, Int.lt_trans h1 (by decide), fun e => ?_, fun q => absurd q h⟩
  rw [Int.ediv_eq_zero_of_lt h0 h1] at e
  cases e
theorem oct_mod (y : Int) : (64 + y % 64) % 64 = y % 64 := by rw [Int.add_emod_left, Int.emod_emod_of_dvd _ (Int.dvd_refl 64)]
theorem oct_low (y : Int) : y % 64 % 64 = y % 64 := Int.emod_emod_of_dvd _ (Int.dvd_refl 64)
theorem oct_top {y : Int} (h : y / 64 = 0) : 0 * 64 + y % 64 = y := by rw [← h, Int.ediv_mul_add_emod]
theorem not_pos {y : Int} (h0 : 0 ≤ y) (h : ¬ 0 < y / 64) : y / 64 = 0 := Int.le_antisymm (Int.not_lt.mp h) (Int.ediv_nonneg h0 (by decide))
theorem octRun {x : Int} (h0 : 0 ≤ x) (h1 : x < 262144) : OctRun (packed x) x := by
  have h64 : (0 : Int) ≤ 64 := by decide
  by_cases a : 0 < x / 64
  · by_cases b : 0 < x / 64 / 64
    · have e2 : x / 64 / 64 / 64 = 0 := by
        rw [Int.ediv_ediv_of_nonneg h64, Int.ediv_ediv_of_nonneg (by decide)]
        exact Int.ediv_eq_zero_of_lt h0 h1
      have e : packed x = [64 + x / 64 / 64 % 64, 64 + x / 64 % 64, x % 64] := by
        unfold packed
        rw [pk_turn a, pk_turn b, pk_stop (by rw [e2]; decide)]
      rw [e]
      refine ⟨Nat.le_of_ble_eq_true rfl, Nat.le_of_ble_eq_true rfl, ?_, ?_⟩
      · simp only [vfold, List.foldl_cons, List.foldl_nil]
        rw [oct_mod, oct_mod, oct_low, oct_top e2, Int.ediv_mul_add_emod, Int.ediv_mul_add_emod]
      · intro j b h
        match j, h with
        | 0, h => cases h; exact oct_hi _ (Nat.le_of_ble_eq_true rfl)
        | 1, h => cases h; exact oct_hi _ (Nat.le_of_ble_eq_true rfl)
        | 2, h => cases h; exact oct_lo _ (Nat.not_lt.mpr (Nat.le_of_ble_eq_true rfl))
    · have e : packed x = [64 + x / 64 % 64, x % 64] := by
        unfold packed
        rw [pk_turn a, pk_stop b]
      rw [e]
      refine ⟨Nat.le_of_ble_eq_true rfl, Nat.le_of_ble_eq_true rfl, ?_, ?_⟩
      · simp only [vfold, List.foldl_cons, List.foldl_nil]
        rw [oct_mod, oct_low, oct_top (not_pos (Int.le_of_lt a) b), Int.ediv_mul_add_emod]
      · intro j b h
        match j, h with
        | 0, h => cases h; exact oct_hi _ (Nat.le_of_ble_eq_true rfl)
        | 1, h => cases h; exact oct_lo _ (Nat.not_lt.mpr (Nat.le_of_ble_eq_true rfl))
  · have e : packed x = [x % 64] := by
      unfold packed
      rw [pk_stop a]
    rw [e]
    refine ⟨Nat.le_of_ble_eq_true rfl, Nat.le_of_ble_eq_true rfl, ?_, ?_⟩
    · simp only [vfold, List.foldl_cons, List.foldl_nil]
      rw [oct_low, oct_top (not_pos h0 a)]
    · intro j b h
      match j, h with
      | 0, h => cases h; exact oct_lo _ (Nat.not_lt.mpr (Nat.le_of_ble_eq_true rfl))
theorem and63 {b : Int} (h0 : 0 ≤ b) (h1 : b < 128) : Builtin.bitAnd b 63 = b % 64 := by
  have key : ∀ n : Nat, n < 128 → Builtin.bitAnd (n : Int) 63 = (n : Int) % 64 := by decide +kernel
  have := key b.toNat (by lia)
  rwa [Int.toNat_of_nonneg h0] at this
theorem and64 {b : Int} (h0 : 0 ≤ b) (h1 : b < 128) : Builtin.bitAnd b 64 = b / 64 * 64 := by
  have key : ∀ n : Nat, n < 128 → Builtin.bitAnd (n : Int) 64 = (n : Int) / 64 * 64 := by decide +kernel
  have := key b.toNat (by lia)
  rwa [Int.toNat_of_nonneg h0] at this
theorem vfold_take {P : List Int} {j : Nat} {b : Int} (h : P[j]? = some b) : vfold (P.take (j + 1)) = vfold (P.take j) * 64 + b % 64 := by
  unfold vfold
  rw [List.take_add_one, h]; simp
theorem ints_val {vs : List Value} {ns : List Int} (hi : IntsAre vs ns) : ∀ {k : Nat} {n : Int}, ns[k]? = some n → ∃ t, vs[k]? = some (.int n t) := by
  induction hi with
  | nil => intro k n h; simp at h
  | cons n t _ ih =>
    intro k n' h
    cases k with
    | zero => simp at h; exact ⟨t, by simp [h]⟩
    | succ k => simpa using ih (by simpa using h)
theorem or64 {v c : Int} (h0 : 0 ≤ v) (c0 : 0 ≤ c) (c1 : c < 64) : Builtin.bitOr (v * 2 ^ (6 : Int).toNat) c = v * 64 + c := by
  have e : v * 2 ^ (6 : Int).toNat = ((v.toNat * 64 : Nat) : Int) := by
    rw [show (2 : Int) ^ (6 : Int).toNat = 64 by decide]; lia
  have e2 : c = ((c.toNat : Nat) : Int) := by lia
  rw [e, e2]
  have key : ∀ a b : Nat, Builtin.bitOr (a : Int) (b : Int) = ((a ||| b : Nat) : Int) := by
    intro a b
    have nn : ∀ x : Int, Builtin.bitNot (Builtin.bitNot x) = x := fun x => by unfold Builtin.bitNot; lia
    have ng : ∀ n : Nat, decide (0 ≤ Builtin.bitNot (n : Int)) = false := fun n => by
      rw [decide_eq_false_iff_not]; unfold Builtin.bitNot; lia
    unfold Builtin.bitOr Builtin.bitAnd
    rw [ng a, ng b]
    dsimp only
    rw [nn, nn, nn, Int.toNat_natCast, Int.toNat_natCast]
  rw [key]
  have := Nat.shiftLeft_add_eq_or_of_lt (a := v.toNat) (b := c.toNat) (i := 6) (by lia)
  rw [Nat.shiftLeft_eq] at this
  rw [show (2 : Nat) ^ 6 = 64 by decide] at this
  rw [← this]
  lia
inductive VarJ (P : List Int) (I l : Addr) (i : Nat) (e1 e2 : Addr × Obj) (k : Nat) (m : Str → Option Value) (nx : List (Addr × Obj)) : Prop
  | mk (j : Nat) (b v : Int) (tb tv : Tok) (oI : Obj) (q0 : j + 1 + k = P.length) (q1 : P[j]? = some b) (q2 : v = vfold (P.take (j + 1))) (q3 : 0 ≤ v) (q4 : v < 64 ^ (j + 1)) (q5 : m "b" = some (.int b tb)) (q6 : m "val" = some (.int v tv)) (q7 : m "iterator" = some (.ref I)) (q8 : IterOf oI l (i + (j + 1))) (q9 : nx = [(I, oI), e1, e2]) : VarJ P I l i e1 e2 k m nx
theorem pv_ok {w : World} {p : Program} {loose : List Str} {mean : ExcName → Option Value} {mg mb : Str → Option Value}
   {A : Around} {s : Shared} {Q E : Value → Shared → Prop} {G : Heap} {I l : Addr} {vs : List Value} {os P : List Int} {i : Nat} {x : Int} {oI : Obj} {a1 a2 : Addr} {o1 o2 : Obj}
   (X : (Mine.hd.heap_39 w.params).In G) (T : Top p loose mean mg mb G) (hG : Keep G s.heap) (hGs : G.objs.size ≤ s.heap.objs.size)
   (hA : A.handled = none) (hd : A.depth ≤ 600) (hu : A.units ≤ 900)
   (hl : G.IsList l vs.toArray) (hi : IntsAre vs os) (hit : IterOf oI l i) (hP : OctRun P x) (hx1 : x < 262144) (hos : ∀ j b, P[j]? = some b → os[i + j]? = some b)
   (hN : ∀ q ∈ [(I, oI), (a1, o1), (a2, o2)], s.heap.get? q.1 = some q.2 ∧ G.get? q.1 = none) (d1 : @Ne Nat a1 I) (d2 : @Ne Nat a2 I)
   (hR : ∀ (t : Tok) (h' : Heap) (tk' : Nat) (oI' : Obj), Keep G h' → (∀ q ∈ [(I, oI'), (a1, o1), (a2, o2)], h'.get? q.1 = some q.2) → IterOf oI' l (i + P.length) → Q (.int x t) { s with heap := h', toks := tk' }) :
   wpAny (model PR w) A (call (.ref 29) [.ref I]) Q E s := by
  have X0 := X.keeps hG
  have T0 := T.keeps hG
  refine ask_in ?_
  k_fill
  intro _
  refine at_mono 600 900 hA hd hu ?_
  have ho := X0 29 _ rfl
  (refine' wpAny_call (call_plain_ret ?hroom (by assumption) ?hdata (Top.nolimit (by assumption)) ?hcd ?hbind ?hloc ?_ ?hco ?hgen ?hk ?hcell); (case hdata => exact rfl); (case hroom => exact Nat.le_of_ble_eq_true rfl); (case hcd => exact codeRec_of (by assumption) rfl); (case hbind => exact rfl); (case hloc => exact locs rfl); (case hco => exact rfl); (case hgen => exact rfl); (case hk => exact rfl); (case hcell => decide))
  intro h₁ F1
  clear ho
  have F : Fr G s.heap.objs.size h₁ _ := ⟨F1.ns, fun b o e => F1.keep b o (hG b o e), hGs⟩
  have N : News G s.heap.objs.size h₁ [(I, oI), (a1, o1), (a2, o2)] := fun q hq => ⟨F1.keep _ _ (hN q hq).1, Nat.ne_of_lt (Heap.lt_size (hN q hq).1), (hN q hq).2⟩
  clear F1 X0 T0 hN hG hGs
  generalize s.heap.objs.size = L at *
  have hoff : ∀ p ∈ [(a1, o1), (a2, o2)], p.1 ≠ I := fun p hp => by
    rcases List.mem_cons.mp hp with rfl | hp
    · exact d1
    · rw [List.mem_singleton.mp hp]; exact d2
  obtain ⟨b, hb⟩ : ∃ b, P[0]? = some b := ⟨P[0]'hP.pos, List.getElem?_eq_getElem hP.pos⟩
  obtain ⟨tb, hbv⟩ := ints_val hi (hos 0 b hb)
  obtain ⟨b0, b1, b2⟩ := hP.bit 0 b hb
  k_steps
  unfold Halt
  refine next_N (by assumption) (by assumption) hit hl (by rw [List.getElem?_toArray]; exact hbv) hoff ?_
  clear F N
  intro h₂ oI₂ F N hit2
  k_steps
  unfold Halt
  have pos := hP.pos
  have len := hP.len
  refine' whileT (VarJ P I l i (a1, o1) (a2, o2)) (P.length - 1) (by assumption) (by assumption) ?j ?turn PassesOwn.never
  case j =>
    refine ⟨0, b, _, _, _, oI₂, by lia, hb, ?_, ?_, ?_, rfl, rfl, rfl, hit2, rfl⟩
    · rw [and63 b0 b1, vfold_take hb]; simp [vfold]
    · rw [and63 b0 b1]; lia
    · rw [and63 b0 b1]; lia
  case turn =>
    clear hit hit2
    rintro k m nx h tk ⟨j, b, v, tb, tv, oI, hjk, hb, hv, v0, v1, mb, mv, mi, hit, rfl⟩ F N
    replace F := Fr.known0 (Fr.known0 (Fr.known0 F mi) (n := "val") mv) (n := "b") mb
    obtain ⟨b0, b1, b2⟩ := hP.bit j b hb
    have hb64 := and64 b0 b1
    have hvs : (Builtin.Int.intBits v : Int) + 6 ≤ 2 ^ 27 := by
      have h64 : (64 : Int) ^ (j + 1) ≤ 64 ^ 3 := by exact_mod_cast Nat.pow_le_pow_right (n := 64) (by decide) (show j + 1 ≤ 3 by lia)
      have : Builtin.Int.intBits v ≤ 18 := intBits_le18 v0 (by lia)
      lia
    k_steps
    · rename Builtin.bitAnd b 64 ≠ 0 => hnz
      unfold Halt
      have hj1 : j + 1 < P.length := by
        apply b2.mp
        rw [hb64] at hnz
        lia
      obtain ⟨c, hc⟩ : ∃ c, P[j + 1]? = some c := ⟨P[j + 1]'hj1, List.getElem?_eq_getElem hj1⟩
      obtain ⟨tc, hcv⟩ := ints_val hi (hos _ c hc)
      obtain ⟨c0, c1, c2⟩ := hP.bit _ c hc
      refine next_N (by assumption) (by assumption) hit hl (by rw [List.getElem?_toArray]; exact hcv) hoff ?_
      intro h₃ oI₃ F3 N3 hit3
      k_steps
      have hval : Builtin.bitOr (v * 2 ^ (6 : Int).toNat) (Builtin.bitAnd c 63) = v * 64 + c % 64 := by
        rw [and63 c0 c1]; exact or64 v0 (by lia) (by lia)
      refine while_next (by assumption) (by assumption) ⟨k - 1, by lia, j + 1, c, _, _, _, oI₃, by lia, hc, ?_, ?_, ?_, rfl, rfl, rfl, ?_, rfl⟩ (fun p hp => hp)
      · rw [hval, vfold_take hc, ← hv]
      · rw [hval]; lia
      · rw [hval, Int.pow_succ]; lia
      · exact hit3
    · rename Builtin.bitAnd b 64 = 0 => hz
      have hj1 : ¬ (j + 1 < P.length) := fun h => by
        have := b2.mpr h
        rw [hb64, this] at hz
        lia
      have hjl : j + 1 = P.length := by lia
      have hvx : v = x := by rw [hv, hjl, List.take_length, hP.val]
      subst hvx
      dsimp only
      refine hR _ _ _ oI (Fr.keep (by assumption)) ?_ (by rw [← hjl]; exact hit)
      intro q hq
      exact (N q hq).1
theorem pv_end {w : World} {p : Program} {loose : List Str} {mean : ExcName → Option Value} {mg mb : Str → Option Value}
   {A : Around} {s : Shared} {Q E : Value → Shared → Prop} {base G : Heap} {outer : List Env} {I l : Addr} {vs : List Value} {i : Nat} {oI : Obj} {a1 a2 : Addr} {o1 o2 : Obj}
   (X : (Mine.hd.heap_39 w.params).In G) (T : Top p loose mean mg mb G) (hG : Keep G s.heap) (hGs : G.objs.size ≤ s.heap.objs.size) (K : Below A base outer G)
   (hA : A.handled = none) (hd : A.depth ≤ 600) (hu : A.units ≤ 900)
   (hl : G.IsList l vs.toArray) (hit : IterOf oI l i) (hlen : vs.length ≤ i)
   (hN : ∀ q ∈ [(I, oI), (a1, o1), (a2, o2)], s.heap.get? q.1 = some q.2 ∧ G.get? q.1 = none) (d1 : @Ne Nat a1 I) (d2 : @Ne Nat a2 I)
   (hE : ∀ (e : Addr) (h' : Heap) (tk' : Nat), RaisedSN base G outer e (.type "StopIteration") [(a1, o1), (a2, o2)] h' → G.UpToSlots h' → E (.ref e) { s with heap := h', toks := tk' }) :
   wpAny (model PR w) A (call (.ref 29) [.ref I]) Q E s := by
  have X0 := X.keeps hG
  have T0 := T.keeps hG
  refine ask_in ?_
  k_fill
  intro _
  refine at_mono 600 900 hA hd hu ?_
  have K1 : Below (AT 600 900 A.frames A.guards) base outer G := ⟨K.stack, K.stays, K.frames⟩
  have ho := X0 29 _ rfl
  (refine' wpAny_call (call_plain ?hroom (by assumption) ?hdata (Top.nolimit (by assumption)) ?hcd ?hbind ?hloc ?_ ?hco ?hgen ?hk ?hcell); (case hdata => exact rfl); (case hroom => exact Nat.le_of_ble_eq_true rfl); (case hcd => exact codeRec_of (by assumption) rfl); (case hbind => exact rfl); (case hloc => exact locs rfl); (case hco => exact rfl); (case hgen => exact rfl); (case hk => exact rfl); (case hcell => decide))
  intro h₁ F1
  clear ho
  have F : Fr G s.heap.objs.size h₁ _ := ⟨F1.ns, fun b o e => F1.keep b o (hG b o e), hGs⟩
  have N : News G s.heap.objs.size h₁ [(I, oI), (a1, o1), (a2, o2)] := fun q hq => ⟨F1.keep _ _ (hN q hq).1, Nat.ne_of_lt (Heap.lt_size (hN q hq).1), (hN q hq).2⟩
  clear F1 X0 T0 hN hG hGs
  generalize s.heap.objs.size = L at *
  k_steps
  unfold Halt
  rename Fr G L _ _ => F2
  rename News G L _ _ => N2
  have hI := N2 _ (.head _)
  refine call_next_end rfl ⟨oI, hI.1, hit⟩ (hl.at fun o e => F2.keep _ _ e) (by rw [List.getElem?_toArray, List.getElem?_eq_none hlen]) fun h₃ h₄ e hs hx => ?_
  have F3 : Fr G L h₃ _ := F2.change hs hI.2.1 hI.2.2
  have N3 : News G L h₃ [(a1, o1), (a2, o2)] := fun p hp => ⟨(hs.2 _ (by
    rcases List.mem_cons.mp hp with rfl | hp
    · exact d1
    · rw [List.mem_singleton.mp hp]; exact d2)).trans (N2 p (.tail _ hp)).1, (N2 p (.tail _ hp)).2⟩
  exact leave_newS K1 hx F3 N3 fun h' R _ up => hE e h' _ R up
end
section
local macro_rules | `(tactic| omega) => `(tactic| lia)
theorem reg_read : True := by
  w_top off
  k_with_none
  (k_with "exec While" => (k_here; refine halt ?_))
  (k_with "exec While Compare cons nil" => (k_here; refine halt ?_))
  (k_with "pyIter ref" => (k_here; refine halt ?_))
  (k_with "exec FunctionDef" => (k_here; refine halt ?_))
  (k_with "call builtin:list.reverse" => (k_here; refine halt ?_))
  (k_with "call builtin:dict.get" => (k_here; refine halt ?_))
  (k_with "call builtin:iter" => (k_here; refine halt ?_))
  (k_with "call builtin:next" => (k_here; refine halt ?_))
  (k_with "exec For" => (k_here; refine forT (by assumption) ?_ (fun _ _ => rfl) (fun _ => rfl) PassesOwn.never))
  (k_with "exec For Name Call cons nil" => (k_here; refine forT (by assumption) ?_ (fun _ _ => rfl) (fun _ => rfl) PassesOwn.never))
  (k_with "exec For Name Name cons nil" => (k_here; refine forT (by assumption) ?_ (fun _ _ => rfl) (fun _ => rfl) PassesOwn.never))
  (k_with "eval Name" => (k_here; k_dflt (refine nameX_L (by assumption) (by first | rfl | assumption) ?_; k_whole)))
  (k_with "execs cons" => ((with_reducible refine wpAny_execs_cons ?_); try dsimp only))
  (k_with "execs nil" => (with_reducible refine wpAny_execs_nil ?_))
  (k_with "storeName" => (k_here; k_dflt (first | (refine storeX_L (by assumption) (by assumption) ?_; k_whole; intro _ _ _; (try k_sweep)) | (refine storeX_C (by k_asm) (by k_asm) (by rfl) (by k_updF) (by k_asm) ?_; k_whole; intro _ _ _ N' d'; (try dsimp only at N'); revert N' d'; intro _ _; (try k_sweep)))))
  (k_with "assign Name" => (k_here; refine wpAny_assign_Name ?_))
  (k_with "binaryOp LShift int int" => (k_here; refine lshift_int (by assumption) (by assumption) ?_))
  exact True.intro
inductive ReadJ (ns : List Int) (l : Addr) (i : Nat) (m : Str → Option Value) (nx : List (Addr × Obj)) : Prop
  | mk (I lt : Nat) (vt : List Value) (kt : Nat) (oI : Obj) (q0 : m "source" = some (.ref I)) (q1 : m "told" = some (.ref lt)) (q2 : i ≤ ns.length) (q3 : IterOf oI l ((ns.take i).flatMap packed).length) (q4 : IntsAre vt (ns.take i)) (q5 : nx = [(lt, W.listOf vt.toArray kt), (I, oI)]) (q6 : @Ne Nat lt I) : ReadJ ns l i m nx
theorem packed_pos (x : Int) : 1 ≤ (packed x).length := by
  have key : ∀ (k : Nat) (r : Int) (acc : List Int), acc.length ≤ (pk k r acc).length := by
    intro k
    induction k with
    | zero => intro r acc; exact Nat.le_refl _
    | succ k ih =>
      intro r acc
      unfold pk
      split
      · exact Nat.le_trans (by simp) (ih _ _)
      · exact Nat.le_refl _
  exact key 4 (x / 64) [x % 64]
theorem packed_ge (ns : List Int) : ns.length ≤ (ns.flatMap packed).length := by
  induction ns with
  | nil => simp
  | cons a r ih => have := packed_pos a; rw [List.flatMap_cons, List.length_append, List.length_cons]; lia
theorem ground_of {h₀ h : Heap} {L : Addr} {m : Str → Option Value} {news : List (Addr × Obj)} (F : Fr h₀ L h m) (N : News h₀ L h news) :
    ∃ G, Fr h₀ L G m ∧ Keep G h ∧ G.objs.size ≤ h.objs.size ∧ ∀ q ∈ news, h.get? q.1 = some q.2 ∧ G.get? q.1 = none := by
  have nL : L ∉ news.map (·.1) := fun hm => by
    obtain ⟨q, hq, e⟩ := List.mem_map.mp hm
    exact (N q hq).2.1 e
  refine ⟨hideAll h (news.map (·.1)), ⟨F.ns.at' fun o e => hideAll_get _ e nL, fun b o e => hideAll_get _ (F.keep b o e) fun hm => ?_, F.above⟩, fun b o e => of_hideAll _ e, Nat.le_of_eq (hideAll_size _ _), fun q hq => ⟨(N q hq).1, hideAll_none _ (List.mem_map_of_mem hq)⟩⟩
  obtain ⟨q, hq, e'⟩ := List.mem_map.mp hm
  have := (N q hq).2.2
  rw [e', e] at this
  cases this
theorem oct_at {ns : List Int} {i : Nat} {x : Int} (h : ns[i]? = some x) : ∀ j b, (packed x)[j]? = some b → (ns.flatMap packed)[((ns.take i).flatMap packed).length + j]? = some b := by
  intro j b hb
  have e : ns = ns.take i ++ x :: ns.drop (i + 1) := by
    have hlt := (List.getElem?_eq_some_iff.mp h).1
    have hx := (List.getElem?_eq_some_iff.mp h).2
    rw [← hx, ← List.drop_eq_getElem_cons hlt, List.take_append_drop]
  have e2 : ns.flatMap packed = (ns.take i).flatMap packed ++ (packed x ++ (ns.drop (i + 1)).flatMap packed) := by
    conv => lhs; rw [e]
    rw [List.flatMap_append, List.flatMap_cons]
  rw [e2, List.getElem?_append_right (Nat.le_add_right _ _), Nat.add_sub_cancel_left]
  have hlt := (List.getElem?_eq_some_iff.mp hb).1
  rw [List.getElem?_append_left hlt]
  exact hb
theorem stop_isExc : isSubtype (.type "StopIteration") (.type "BaseException") = pure true := by rw [isSubtype_type]; kernel_rfl
theorem stop_notTuple : isSubtype (.type ((Manifest.find? "StopIteration").elim "type" fun x => x.metatype)) (.type "tuple") = pure false := by
  rw [show ((Manifest.find? "StopIteration").elim "type" fun x => x.metatype) = "type" from by kernel_rfl, isSubtype_type]; kernel_rfl
theorem stop_self : isSubtype (.type "StopIteration") (.type "StopIteration") = pure true := by rw [isSubtype_type]; kernel_rfl
theorem read_spec {w : World} {p : Program} {loose : List Str} {mean : ExcName → Option Value} {mg mb : Str → Option Value}
   {A : Around} {s : Shared} {Q E : Value → Shared → Prop} {base : Heap} {outer : List Env} {l : Addr} {vs : List Value} {ns : List Int}
   (XB : (Mine.hd.heap_39 w.params).In base) (TB : Top p loose mean mg mb base) (K : Below A base outer s.heap) (D : KtsDicts (outer.filterMap (·.frame)) s.heap)
   (hA : A.handled = none) (hd : A.depth ≤ 590) (hu : A.units ≤ 850)
   (hl : s.heap.IsList l vs.toArray) (hi : IntsAre vs (ns.flatMap packed)) (hns : ns.length ≤ 8) (hb : ∀ x ∈ ns, 0 ≤ x ∧ x < 262144)
   (hR : ∀ (r : Addr) (vt : List Value) (kt : Nat) (g' h' : Heap) (tk' : Nat), KtsTurn (outer.filterMap (·.frame)) s.heap g' → Keep g' h' → h'.get? r = some (W.listOf vt.toArray kt) → s.heap.get? r = none → IntsAre vt ns → Q (.ref r) { s with heap := h', toks := tk' }) :
   wpAny (model PR w) A (call (.ref 92) [.ref l]) Q E s := by
  have X := XB.keeps K.stays
  have T := TB.keeps K.stays
  refine ask_in ?_
  k_fill
  intro _
  refine at_mono 590 850 hA hd hu ?_
  have K1 : Below (AT 590 850 A.frames A.guards) base outer s.heap := ⟨K.stack, K.stays, K.frames⟩
  clear K
  have ho := X 92 _ rfl
  (refine' wpAny_call (call_plain_ret ?hroom (by assumption) ?hdata (Top.nolimit (by assumption)) ?hcd ?hbind ?hloc ?_ ?hco ?hgen ?hk ?hcell); (case hdata => exact rfl); (case hroom => exact Nat.le_of_ble_eq_true rfl); (case hcd => exact codeRec_of (by assumption) rfl); (case hbind => exact rfl); (case hloc => exact locs rfl); (case hco => exact rfl); (case hgen => exact rfl); (case hk => exact rfl); (case hcell => decide))
  intro h₁ F
  have N : News s.heap s.heap.objs.size h₁ [] := News.nil
  clear ho
  generalize hL : s.heap.objs.size = L at *
  generalize hh0 : s.heap = h₀ at *
  have hvo : (ns.flatMap packed).length ≤ 40 := Nat.le_trans (packedAll_len ns) (by lia)
  have hvs : vs.length ≤ 40 := by rw [hi.length]; exact hvo
  k_steps
  unfold Halt
  refine call_iter_list (hl.at fun o e => F.keep _ _ e) ?_
  have F2 := F.push { cls := .type "list_iterator", data := .fields #[.ref l, .int 0 0] }
  have N2 := News.push F N { cls := .type "list_iterator", data := .fields #[.ref l, .int 0 0] } rfl
  clear F N
  dsimp only
  generalize h₁.push { cls := .type "list_iterator", data := .fields #[.ref l, .int 0 0] } = h₂ at *
  generalize h₁.objs.size = I at *
  have hit0 : IterOf { cls := .type "list_iterator", data := .fields #[.ref l, .int 0 0] } l 0 := ⟨rfl, rfl⟩
  generalize ({ cls := .type "list_iterator", data := .fields #[.ref l, .int 0 0] } : Obj) = oI at *
  k_steps
  unfold Halt
  rename (I < _) => hlI
  refine' iterRange (L := L) rfl (n := (ns.flatMap packed).length + 1) (ReadJ ns l) rfl (by assumption) (small_one (by lia) (by lia) (by lia) (by lia)) (by rw [rangeSize_nat]; lia) (by assumption) (by assumption) ?J0 ?turn ?done
  case J0 => exact ⟨I, _, [], 0, oI, rfl, rfl, Nat.zero_le _, hit0, .nil, rfl, Nat.ne_of_gt hlI⟩
  case done =>
    rintro m₁ nx h tk ⟨I', lt', vt, kt, oI', ms, mt, hin, hit, it, rfl, dlt⟩ F N
    exact absurd hin (by have := packed_ge ns; lia)
  case turn =>
    clear hit0 hlI
    rintro i t m₁ nx IR oR h tk hj ⟨I', lt', vt, kt, oI', ms, mt, hin, hit, it, rfl, dlt⟩ hne F N
    simp only [List.cons_append, List.nil_append] at N
    have hI := gnNe_of hne
    simp only [GnNe, and_true] at hI
    clear hne
    replace F := Fr.known0 (Fr.known0 F mt) (n := "source") ms
    have hvt : vt.length ≤ 8 := by rw [it.length, List.length_take]; lia
    k_steps
    rename Fr h₀ L _ _ => F2
    rename News h₀ L _ _ => N2
    obtain ⟨G, FG, kG, sG, hG⟩ := ground_of F2 N2
    have hG' : ∀ q ∈ [(I', oI'), (lt', W.listOf vt.toArray kt), (IR, oR)], _ ∧ _ := fun q hq => hG q (by
      simp only [List.mem_cons, List.not_mem_nil, or_false] at hq ⊢
      rcases hq with e | e | e
      · exact .inr (.inl e)
      · exact .inl e
      · exact .inr (.inr e))
    by_cases hil : i < ns.length
    · obtain ⟨x, hx⟩ : ∃ x, ns[i]? = some x := ⟨ns[i]'hil, List.getElem?_eq_getElem hil⟩
      obtain ⟨x0, x1⟩ := hb x (List.mem_of_getElem? hx)
      refine pv_ok (X.keeps FG.keep) (T.keeps FG.keep) kG sG rfl (by show 590 + 1 ≤ 600; lia) (by show 850 + 3 ≤ 900; lia) (hl.at fun o e => FG.keep _ _ e) hi hit (octRun x0 x1) x1 (oct_at hx) hG' dlt (Ne.symm hI.2) ?_
      intro tv h3 tk3 oI3 k3 hq3 hit3
      have F3 := FG.keeps k3
      have N3 : News h₀ L h3 [(lt', W.listOf vt.toArray kt), (I', oI3), (IR, oR)] := fun q hq => by
        simp only [List.mem_cons, List.not_mem_nil, or_false] at hq
        rcases hq with rfl | rfl | rfl
        · exact ⟨hq3 _ (.tail _ (.head _)), (N2 _ (.head _)).2⟩
        · exact ⟨hq3 _ (.head _), (N2 (I', oI') (.tail _ (.head _))).2⟩
        · exact ⟨hq3 _ (.tail _ (.tail _ (.head _))), (N2 _ (.tail _ (.tail _ (.head _)))).2⟩
      clear F2 N2 FG kG sG hG hG' k3 hq3 hit
      k_steps
      rename News h₀ L _ _ => N5
      (try simp only [List.push_toArray] at N5)
      refine' turn_next (by assumption) N5 ?J ?s ?m ?n
      case' J => refine ⟨I', lt', vt ++ [.int x tv], ?kt, oI3, rfl, rfl, by lia, ?hit, ?ia, rfl, dlt⟩
      case hit => rw [packed_take hx, List.length_append]; exact hit3
      case ia => rw [List.take_add_one, hx]; exact IntsAre.append it (.cons _ _ .nil)
      case s => kcf_all
      case m => kcf_m
      case n => (simp only [List.forall_mem_cons, List.not_mem_nil, false_implies, implies_true, and_true]; exact hI)
    · have hin' : i = ns.length := by lia
      refine pv_end (X.keeps FG.keep) (T.keeps FG.keep) kG sG (K1.push FG) rfl (by show 590 + 1 ≤ 600; lia) (by show 850 + 3 ≤ 900; lia) (hl.at fun o e => FG.keep _ _ e) hit (by rw [hin', List.take_length, hi.length]; exact Nat.le_refl _) hG' dlt (Ne.symm hI.2) ?_
      intro e h3 tk3 R up
      rw [hin', List.take_length] at it
      have hfr := (N2 _ (.head _)).2.2
      clear N2 kG sG hG hG' hit F2
      refine caught_SN0 R FG K1 up XB TB D KtsTurn.refl (by k_is) PyProof.Rows.Boot.«StopIteration» (by decide) stop_isExc stop_notTuple stop_self ?_
      intro h6 g6 T6 F6 N6 K6 X6 P6 D6
      clear X T
      k_steps
      show Q _ _
      exact hR lt' vt kt g6 _ _ T6 (Fr.keep (by assumption)) (by rename News g6 L _ _ => N7; exact (N7 _ (.head _)).1) hfr it
end
section
section
variable {M : Model} {A : Around} {R : GenEnd} {Y : Protocol} {n : Nat} {s₀ : Shared} {c : Code} {fs : List Frame} {s : Shared} {env : Env}
  {K : Flow → Sem Fin} {H : Value → Sem Fin} {gd : Bool → Bool} {lv : List Value → List Value}
theorem seg_stmt {st : Stmt} (h : wpAny M (A.over c fs) (exec st env) (fun f s' => Seg M A R Y n s₀ c (K f) fs s') (fun _ _ => False) s) :
    Seg M A R Y n s₀ c ((exec st env).wrap K H gd lv) fs s := seg_wrap (wpAny_mono h (fun _ _ x => x) fun _ _ x => x.elim)
theorem seg_If {test : Expr} {body orelse : List Stmt} {pos : Pos}
    (h : wpAny M (A.over c fs) (isTrue test env (eval test env)) (fun b s' => if b = true then Seg M A R Y n s₀ c ((execs body env).wrap K H gd lv) fs s' else Seg M A R Y n s₀ c ((execs orelse env).wrap K H gd lv) fs s') (fun _ _ => False) s) :
    Seg M A R Y n s₀ c ((exec (.If test body orelse pos) env).wrap K H gd lv) fs s := by
  rw [exec_If]
  show Seg M A R Y n s₀ c (.at pos fun _ => (isTrue test env (eval test env) >>= fun b => if b = true then execs body env else execs orelse env).wrap K H gd lv) fs s
  refine seg_at ?_
  rw [Sem.bind_eq_wrap', Sem.wrap_wrap]
  refine seg_wrap (wpAny_mono h (fun b s' hb => ?_) fun _ _ x => x.elim)
  cases b with
  | true => rw [if_pos rfl] at hb; show Seg _ _ _ _ _ _ _ ((if true = true then execs body env else execs orelse env).wrap K H gd lv) _ _; rw [if_pos rfl]; exact hb
  | false => rw [if_neg (by decide)] at hb; show Seg _ _ _ _ _ _ _ ((if false = true then execs body env else execs orelse env).wrap K H gd lv) _ _; rw [if_neg (by decide)]; exact hb
def ownK (env : Env) (K : Flow → Sem Fin) (H : Value → Sem Fin) (gd : Bool → Bool) (lv : List Value → List Value) (r : Result) : Sem Fin :=
  ((match r with | .ok f => (.pure f : Sem Flow) | .error e => .raise e).onRaise fun (x : Value) => do
        if (← field x 1) == Value.none then unsupported "frame.own-activation:exception-without-traceback"
        setFlight x env.frame).wrap K H gd lv
theorem seg_For {target iter : Expr} {body orelse : List Stmt} {pos : Pos}
    (h : wpAny M (A.over c fs) (eval iter env) (fun xv s₁ => wpAny M (A.over c fs) (pyIter xv) (fun it s₂ => ∀ p, Seg M A R Y n s₀ (.forLoop target it body orelse env) (M.den (.forLoop target it body orelse env))
      (.ret (ownK env K H gd lv) none (gd false) (lv []) c p [] :: fs) s₂) (fun _ _ => False) s₁) (fun _ _ => False) s)
    (hs : ∀ x, foldedSetIterable iter env x = pure x) :
    Seg M A R Y n s₀ c ((exec (.For target iter body orelse pos) env).wrap K H gd lv) fs s := by
  rw [exec_For]
  show Seg M A R Y n s₀ c (.at pos fun _ => (eval iter env >>= fun v => foldedSetIterable iter env v >>= fun x => (standAt iter.pos >>= fun _ => (holding [x] (pyIter x) >>= fun it => runOwn (.forLoop target it body orelse env) env))).wrap K H gd lv) fs s
  refine seg_at ?_
  rw [Sem.bind_eq_wrap', Sem.wrap_wrap]
  refine seg_wrap (wpAny_mono h (fun xv s₁ h₁ => ?_) fun _ _ x => x.elim)
  rw [hs xv]
  show Seg M A R Y n s₀ c (.at iter.pos fun _ => ((holding [xv] (pyIter xv) >>= fun it => runOwn (.forLoop target it body orelse env) env)).wrap K H gd lv) fs s₁
  refine seg_at ?_
  rw [Sem.bind_eq_wrap', Sem.wrap_wrap]
  refine seg_wrap (wpAny_holding (wpAny_mono h₁ (fun it s₂ h₂ => ?_) fun _ _ x => x.elim))
  exact seg_call h₂
end
section
variable {prog : Program} {w : World} {A : Around} {R : GenEnd} {Y : Protocol} {n : Nat} {s₀ : Shared} {fs : List Frame} {s : Shared} {env : Env}
def loopK (c : Code) : Flow → Sem Fin := fun f => match f with
            | .next | .cont => .pure (.again c)
            | .brk => .pure (.done .next)
            | .ret v => .pure (.done (.ret v))
def loopH (env : Env) : Value → Sem Fin := fun e => (do noteFrame e env; theTreesLotGoes e : Sem Unit).wrap (fun _ => .raise e) .raise id id
theorem seg_forLoop {target : Expr} {it : Value} {body orelse : List Stmt}
    (h : wpAny (model prog w) (A.over (.forLoop target it body orelse env) fs) (pyNext it) (fun r s₁ => match r with
        | none => Seg (model prog w) A R Y n s₀ (.forLoop target it body orelse env) (.pure (.again (.block orelse env))) fs s₁
        | some v => wpAny (model prog w) (A.over (.forLoop target it body orelse env) fs) (assign target env v) (fun _ s₂ => Seg (model prog w) A R Y n s₀ (.forLoop target it body orelse env) ((execs body env).wrap (loopK (.forLoop target it body orelse env)) (loopH env) id id) fs s₂) (fun _ _ => False) s₁) (fun _ _ => False) s)
    (ht : ∀ v, letOwnedTupleGo target it v = pure ()) :
    Seg (model prog w) A R Y n s₀ (.forLoop target it body orelse env) ((model prog w).den (.forLoop target it body orelse env)) fs s := by
  show Seg _ A R Y n s₀ _ ((forTurn target it body orelse env).onRaise (fun x => do noteFrame x env; theTreesLotGoes x)) fs s
  unfold forTurn
  rw [Sem.onRaise_eq_wrap, Sem.bind_eq_wrap', Sem.wrap_wrap]
  refine seg_wrap (wpAny_standAt ?_)
  rw [Sem.bind_eq_wrap', Sem.wrap_wrap]
  refine seg_wrap (wpAny_onRaise (wpAny_mono h (fun r s₁ h₁ => ?_) fun _ _ x => x.elim))
  cases r with
  | none => exact h₁
  | some v =>
    dsimp only
    rw [ht v]
    show Seg _ A R Y n s₀ _ (Sem.wrap _ _ _ _ (assign target env v >>= _)) fs s₁
    rw [Sem.bind_eq_wrap', Sem.wrap_wrap]
    refine seg_wrap (wpAny_mono h₁ (fun _ s₂ h₂ => ?_) fun _ _ x => x.elim)
    rw [Sem.bind_eq_wrap', Sem.wrap_wrap]
    rw [Sem.wrap_congr (execs body env) _ _ (K' := loopK (.forLoop target it body orelse env)) (H' := loopH env)
        (fun f => by cases f <;> rfl)
        (fun e => by unfold loopH; first | exact Sem.bind_eq_wrap _ _ | (show (do noteFrame e env; theTreesLotGoes e : Sem Unit).bind (fun _ => .raise e) = _; rw [Sem.bind_eq_wrap]))]
    exact h₂
end
end
section
def cutH (h : Heap) (n : Nat) : Heap := { h with objs := h.objs.extract 0 n }
theorem cutH_get {h : Heap} {n : Nat} {b : Addr} {o : Obj} (hb : @LT.lt Nat _ b n) (e : h.get? b = some o) : (cutH h n).get? b = some o := by
  unfold Heap.get? cutH at *
  have : (h.objs.extract 0 n)[b]? = h.objs[b]? := by
    rw [Array.getElem?_extract]
    simp only [Nat.zero_add, Nat.sub_zero]
    split
    · rfl
    · rename_i hn
      rw [Array.getElem?_eq_none]
      lia
  simp only [this]
  exact e
theorem of_cutH {h : Heap} {n : Nat} {b : Addr} {o : Obj} (e : (cutH h n).get? b = some o) : h.get? b = some o ∧ @LT.lt Nat _ b n := by
  have hlt : @LT.lt Nat _ b (h.objs.extract 0 n).size := Heap.lt_size e
  rw [Array.size_extract] at hlt
  have hb : @LT.lt Nat _ b n := by lia
  refine ⟨?_, hb⟩
  unfold Heap.get? cutH at *
  have : (h.objs.extract 0 n)[b]? = h.objs[b]? := by
    rw [Array.getElem?_extract]
    simp only [Nat.zero_add, Nat.sub_zero]
    split
    · rfl
    · rename_i hn
      rw [Array.getElem?_eq_none]
      lia
  simp only [this] at e
  exact e
theorem cutH_size (h : Heap) (n : Nat) : (cutH h n).objs.size ≤ n := by
  show (h.objs.extract 0 n).size ≤ n
  rw [Array.size_extract]
  lia
theorem cutH_none {h : Heap} {n : Nat} {b : Addr} (hb : @LE.le Nat _ n b) : (cutH h n).get? b = none := Heap.get?_none_of_le (Nat.le_trans (cutH_size h n) hb)
/-- the stream that the generator gives, from a row's rest and the last item given -/
def strm : List Int → Option Int → Nat → Option Int
  | [], _, _ => none
  | a :: r, last, j => if a = 127 then none else if a = 0 then last else match j with
    | 0 => some a
    | j + 1 => strm r (some a) j
theorem strm_zero {a : Int} {r : List Int} {last : Option Int} (h1 : a ≠ 127) (h2 : a ≠ 0) : strm (a :: r) last 0 = some a := by
  show (if a = 127 then none else if a = 0 then last else some a) = _
  rw [if_neg h1, if_neg h2]
theorem strm_succ {a : Int} {r : List Int} {last : Option Int} {j : Nat} (h1 : a ≠ 127) (h2 : a ≠ 0) : strm (a :: r) last (j + 1) = strm r (some a) j := by
  show (if a = 127 then none else if a = 0 then last else strm r (some a) j) = _
  rw [if_neg h1, if_neg h2]
theorem strm_stop {r : List Int} {last : Option Int} {j : Nat} : strm (127 :: r) last j = none := by
  cases j <;> exact if_pos rfl
theorem strm_rep {r : List Int} {last : Option Int} {j : Nat} : strm (0 :: r) last j = last := by
  cases j <;> exact (if_neg (by decide)).trans (if_pos rfl)
def okr : List Int → Option Int → Prop
  | [], _ => True
  | a :: r, last => if a = 127 then True else if a = 0 then last.isSome = true else okr r (some a)
def LastIs (lv : Value) (last : Option Int) : Prop := (lv = .none ∧ last = none) ∨ ∃ y u, lv = .int y u ∧ last = some y
def GSt (lv : Value) (iv : Option Value) (m : Str → Option Value) : Prop := m "last_interval" = some lv ∧ ∀ v, iv = some v → m "interval" = some v
def Stp {α : Type} (w : World) (p : Program) (loose : List Str) (mean : ExcName → Option Value) (mg mb : Str → Option Value) (C : Addr) (t : Sem α) (P : (Str → Option Value) → Prop) (r : α) (P' : (Str → Option Value) → Prop) : Prop :=
  ∀ (G : Heap) (A : Around) (s : Shared) (news : List (Addr × Obj)) (m : Str → Option Value) (Q : α → Shared → Prop), (Mine.hd.heap_39 w.params).In G → Top p loose mean mg mb G → P m → Fr G C s.heap m → News G C s.heap news →
    (∀ h' tk' m', P' m' → Fr G C h' m' → News G C h' news → Q r { s with heap := h', toks := tk' }) → wpAny (model PR w) A t Q (fun _ _ => False) s
def SegI (C a IG : Addr) (s₀ s : Shared) (m : Str → Option Value) (oIG oa : Obj) : Prop :=
  (∃ h tk, s = { s₀ with heap := h, toks := tk }) ∧ Fr (cutH s₀.heap C) C s.heap m ∧ News (cutH s₀.heap C) C s.heap [(IG, oIG), (a, oa)] ∧ s₀.heap.get? a = some oa
def YG (h₀ : Heap) (C a : Addr) (str : Nat → Option Int) (N₀ : Nat) : Protocol := fun m s₀ v s' kap =>
  (∃ x t, v = .int x t ∧ str (N₀ - 1 - m) = some x) ∧ (∃ h tk, s' = { s₀ with heap := h, toks := tk }) ∧ Keep (cutH s₀.heap C) s'.heap ∧
    ∃ (oC : Obj) (IG : Addr) (oIG oa : Obj), @LT.lt Nat _ C IG ∧ @Ne Nat a IG ∧ s'.heap.get? C = some oC ∧ s'.heap.get? IG = some oIG ∧ s'.heap.get? a = some oa ∧ s₀.heap.get? a = some oa ∧
    (0 < m → ∀ s'', Keep h₀ s''.heap → s''.heap.get? C = some oC → s''.heap.get? IG = some oIG → s''.heap.get? a = some oa → kap (.send .none) s'')
def PG (C a : Addr) (str : Nat → Option Int) (N₀ : Nat) (n : Nat) (s₀ s₁ : Shared) : Prop :=
  (∃ h tk, s₁ = { s₀ with heap := h, toks := tk }) ∧ Keep (cutH s₀.heap C) s₁.heap ∧ s₁.heap.get? a = s₀.heap.get? a ∧ str (N₀ - n) = none
theorem SegI.of {h₀ : Heap} {C a IG : Addr} {s' s'' : Shared} {m : Str → Option Value} {oIG oa : Obj} (hC : @LE.le Nat _ h₀.objs.size C) (cI : @LT.lt Nat _ C IG) (ca : @LT.lt Nat _ C a)
    (_k : Keep h₀ s''.heap) (ns : s'.heap.Ns C m) {oC : Obj} (eC' : s'.heap.get? C = some oC) (eC : s''.heap.get? C = some oC) (eI : s''.heap.get? IG = some oIG) (ea : s''.heap.get? a = some oa) : SegI C a IG s'' s'' m oIG oa := by
  refine ⟨⟨_, _, rfl⟩, ⟨ns.at' fun o e => by rw [eC'] at e; cases e; exact eC, fun b o e => (of_cutH e).1, cutH_size _ _⟩, fun q hq => ?_, ea⟩
  simp only [List.mem_cons, List.not_mem_nil, or_false] at hq
  rcases hq with rfl | rfl
  · exact ⟨eI, Nat.ne_of_gt cI, cutH_none (Nat.le_of_lt cI)⟩
  · exact ⟨ea, Nat.ne_of_gt ca, cutH_none (Nat.le_of_lt ca)⟩
theorem SegI.step {C a IG : Addr} {s₀ s : Shared} {m m' : Str → Option Value} {oIG oIG' oa : Obj} {h' : Heap} {tk' : Nat} (x : SegI C a IG s₀ s m oIG oa) (F : Fr (cutH s₀.heap C) C h' m') (N : News (cutH s₀.heap C) C h' [(IG, oIG'), (a, oa)]) :
    SegI C a IG s₀ { s with heap := h', toks := tk' } m' oIG' oa := by
  obtain ⟨⟨h, tk, e⟩, _, _, ea⟩ := x
  subst e
  exact ⟨⟨h', tk', rfl⟩, F, N, ea⟩
theorem ns_obj' {h : Heap} {C : Addr} {m : Str → Option Value} (x : h.Ns C m) : ∃ o, h.get? C = some o := let ⟨o, _, _, e, _⟩ := x; ⟨o, e⟩
theorem keep_cut {h₀ h : Heap} {C : Addr} (hC : @LE.le Nat _ h₀.objs.size C) (k : Keep h₀ h) : Keep h₀ (cutH h C) := fun _ _ e => cutH_get (Nat.lt_of_lt_of_le (Heap.lt_size e) hC) (k _ _ e)
section
variable {w : World} {p : Program} {loose : List Str} {mean : ExcName → Option Value} {mg mb : Str → Option Value} {A : Around} {h₀ : Heap} {C a IG l : Addr} {str : Nat → Option Int} {N₀ : Nat} {R : GenEnd} {env : Env} {fs : List Frame} {oIG oa : Obj} {vs : List Value}
abbrev FG (w : World) (p : Program) (loose : List Str) (mean : ExcName → Option Value) (mg mb : Str → Option Value) (h : Heap) : Prop := (Mine.hd.heap_39 w.params).In h ∧ Top p loose mean mg mb h
theorem use_stp {α : Type} {t : Sem α} {P P' : (Str → Option Value) → Prop} {r : α} {s₀ s : Shared} {m : Str → Option Value} {Q : α → Shared → Prop} {A' : Around} (S : Stp w p loose mean mg mb C t P r P') (h0 : FG w p loose mean mg mb (cutH s₀.heap C)) (x : SegI C a IG s₀ s m oIG oa) (hP : P m)
    (h : ∀ s' m', P' m' → SegI C a IG s₀ s' m' oIG oa → Q r s') : wpAny (model PR w) A' t Q (fun _ _ => False) s :=
  S _ A' s _ m Q h0.1 h0.2 hP x.2.1 x.2.2.1 fun h' tk' m' hP' F N => h _ m' hP' (x.step F N)
theorem gen_while {tw ew : Expr} {p1 p2 : Pos} {y : Int} {u : Tok} {iv : Option Value} (hC : @LE.le Nat _ h₀.objs.size C) (cI : @LT.lt Nat _ C IG) (ca : @LT.lt Nat _ C a) (aI : @Ne Nat a IG) (h0 : FG w p loose mean mg mb h₀) (hfs : splitAtGen fs = none) (hfg : fs.any Frame.guarded = false)
    (f4 : Stp w p loose mean mg mb C (isTrue tw env (eval tw env)) (GSt (.int y u) iv) true (GSt (.int y u) iv))
    (f5 : Stp w p loose mean mg mb C (eval ew env) (GSt (.int y u) iv) (.int y u) (GSt (.int y u) iv))
    (hco : env.scope.isCoroutine = false) (hi : interactive env = false) :
    ∀ (n : Nat) (s₀ s : Shared) (m : Str → Option Value) (oa : Obj), n + 1 ≤ N₀ → (∀ j, N₀ - (n + 1) ≤ j → str j = some y) → Keep h₀ s₀.heap → SegI C a IG s₀ s m oIG oa → GSt (.int y u) iv m →
      Seg (model PR w) A R (YG h₀ C a str N₀) (n + 1) s₀ (.whileLoop tw [.Expr (.Yield (some ew) p1) p2] [] env) ((model PR w).den (.whileLoop tw [.Expr (.Yield (some ew) p1) p2] [] env)) fs s := by
  intro n
  induction n using Nat.strongRecOn with
  | ind n ih =>
    intro s₀ s m oa hn hs k x hm
    have hG : FG w p loose mean mg mb (cutH s₀.heap C) := ⟨h0.1.keeps (keep_cut hC k), h0.2.keeps (keep_cut hC k)⟩
    refine seg_whileLoop ?_
    refine wpAny_mono (use_stp (Q := fun b s' => b = true ∧ ∃ m', GSt (.int y u) iv m' ∧ SegI C a IG s₀ s' m' oIG oa) f4 hG x hm (fun s' m' h1 h2 => ⟨rfl, m', h1, h2⟩)) (fun b s' hb => ?_) (fun _ _ q => q.elim)
    obtain ⟨rfl, m', hm', x'⟩ := hb
    rw [if_pos rfl]
    refine seg_execs_cons (seg_Expr_Yield hfs rfl hfg ?_ hco hi)
    refine wpAny_mono (use_stp (Q := fun v s' => v = .int y u ∧ ∃ m', GSt (.int y u) iv m' ∧ SegI C a IG s₀ s' m' oIG oa) f5 hG x' hm' (fun s' m' h1 h2 => ⟨rfl, m', h1, h2⟩)) (fun v s2 hv => ?_) (fun _ _ q => q.elim)
    obtain ⟨rfl, m2, hm2, x2⟩ := hv
    intro kap hk
    obtain ⟨oC, hoC⟩ := ns_obj' x2.2.1.ns
    refine ⟨⟨y, u, rfl, hs _ (by lia)⟩, x2.1, x2.2.1.keep, oC, IG, oIG, oa, cI, aI, hoC, (x2.2.2.1 _ (.head _)).1, (x2.2.2.1 _ (.tail _ (.head _))).1, x2.2.2.2, fun h0m s3 k3 eC eI ea => hk .none s3 ?_⟩
    show Seg (model PR w) A R _ n s3 _ (.pure (.again (.whileLoop tw [.Expr (.Yield (some ew) p1) p2] [] env))) fs s3
    refine seg_again rfl ?_
    obtain ⟨n', rfl⟩ : ∃ n', n = n' + 1 := ⟨n - 1, by lia⟩
    exact ih n' (Nat.lt_succ_self _) s3 s3 m2 oa (by lia) (fun j hj => hs j (by lia)) k3 (SegI.of hC cI ca k3 x2.2.1.ns hoC eC eI ea) hm2
theorem gen_loop {target : Expr} {st1 r2 st4 : Stmt} {t2 tw ew ey : Expr} {q2 p1 p2 pw e1 e2 : Pos} {row : List Int} (hC : @LE.le Nat _ h₀.objs.size C) (cI : @LT.lt Nat _ C IG) (ca : @LT.lt Nat _ C a) (aI : @Ne Nat a IG) (h0 : FG w p loose mean mg mb h₀)
    (hfs : splitAtGen fs = none) (hfg : fs.any Frame.guarded = false)
    (fa : ∀ lv v, Stp w p loose mean mg mb C (assign target env v) (GSt lv none) () (GSt lv (some v)))
    (f1 : ∀ lv x t, x ≠ 127 → Stp w p loose mean mg mb C (exec st1 env) (GSt lv (some (.int x t))) .next (GSt lv (some (.int x t))))
    (f1r : ∀ lv t, Stp w p loose mean mg mb C (exec st1 env) (GSt lv (some (.int 127 t))) (.ret .none) (GSt lv none))
    (f2 : ∀ lv x t, Stp w p loose mean mg mb C (isTrue t2 env (eval t2 env)) (GSt lv (some (.int x t))) (decide (x = 0)) (GSt lv (some (.int x t))))
    (f3 : ∀ y u iv, Stp w p loose mean mg mb C (exec r2 env) (GSt (.int y u) iv) .next (GSt (.int y u) iv))
    (f4 : ∀ y u iv, Stp w p loose mean mg mb C (isTrue tw env (eval tw env)) (GSt (.int y u) iv) true (GSt (.int y u) iv))
    (f5 : ∀ y u iv, Stp w p loose mean mg mb C (eval ew env) (GSt (.int y u) iv) (.int y u) (GSt (.int y u) iv))
    (f6 : ∀ lv v, Stp w p loose mean mg mb C (eval ey env) (GSt lv (some v)) v (GSt lv (some v)))
    (f7 : ∀ lv v, Stp w p loose mean mg mb C (exec st4 env) (GSt lv (some v)) .next (GSt v (some v)))
    (hco : env.scope.isCoroutine = false) (hin : interactive env = false) (ht : ∀ v, letOwnedTupleGo target (.ref IG) v = pure ())
    (hh : ∀ c, (A.over c fs).handled = none)
    (hl : h₀.IsList l vs.toArray) (hi : IntsAre vs row)
    (hend : ∀ n s₀ s c, PG C a str N₀ n s₀ s → Seg (model PR w) A R (YG h₀ C a str N₀) n s₀ c (leafOf (.ok .next)) fs s)
    (hret : ∀ n s₀ s c, PG C a str N₀ n s₀ s → Seg (model PR w) A R (YG h₀ C a str N₀) n s₀ c (leafOf (.ok (.ret .none))) fs s) :
    ∀ (n i : Nat) (lv : Value) (last : Option Int) (s₀ s : Shared) (m : Str → Option Value) (oIG oa : Obj), n + 1 ≤ N₀ → LastIs lv last → okr (row.drop i) last → (∀ j, str (N₀ - (n + 1) + j) = strm (row.drop i) last j) → Keep h₀ s₀.heap → SegI C a IG s₀ s m oIG oa → GSt lv none m → IterOf oIG l i →
      Seg (model PR w) A R (YG h₀ C a str N₀) (n + 1) s₀ (.forLoop target (.ref IG) [st1, .If t2 [r2, .While tw [.Expr (.Yield (some ew) p1) p2] [] pw] [] q2, .Expr (.Yield (some ey) e1) e2, st4] [] env)
        ((model PR w).den (.forLoop target (.ref IG) [st1, .If t2 [r2, .While tw [.Expr (.Yield (some ew) p1) p2] [] pw] [] q2, .Expr (.Yield (some ey) e1) e2, st4] [] env)) fs s := by
  intro n
  induction n using Nat.strongRecOn with
  | ind n ih =>
    intro i lv last s₀ s m oIG oa hn hlast hok hs k x hm hit
    have hG : FG w p loose mean mg mb (cutH s₀.heap C) := ⟨h0.1.keeps (keep_cut hC k), h0.2.keeps (keep_cut hC k)⟩
    have hls : s.heap.IsList l vs.toArray := hl.at fun o e => x.2.1.keep _ _ (keep_cut hC k _ _ e)
    have hIx := x.2.2.1 _ (.head _)
    have hax := x.2.2.1 _ (.tail _ (.head _))
    refine seg_forLoop ?_ ht
    by_cases hir : i < row.length
    · obtain ⟨b, hb⟩ : ∃ b, row[i]? = some b := ⟨row[i]'hir, List.getElem?_eq_getElem hir⟩
      obtain ⟨t, hv⟩ := ints_val hi hb
      have hdr : row.drop i = b :: row.drop (i + 1) := by
        rw [List.drop_eq_getElem_cons hir]
        congr 1
        rw [List.getElem?_eq_getElem hir] at hb
        exact Option.some.inj hb
      rw [hdr] at hok
      refine wpAny_pyNext_list_item ⟨oIG, hIx.1, hit⟩ hls (by rw [List.getElem?_toArray]; exact hv) fun h1 hit1 hsb => ?_
      obtain ⟨oIG1, ho1, hc1, hd1⟩ := hit1
      have x1 : SegI C a IG s₀ { s with heap := h1 } m oIG1 oa := x.step (tk' := s.toks) (x.2.1.change hsb hIx.2.1 hIx.2.2) fun q hq => by
        simp only [List.mem_cons, List.not_mem_nil, or_false] at hq
        rcases hq with rfl | rfl
        · exact ⟨ho1, hIx.2⟩
        · exact ⟨(hsb.2 _ aI).trans hax.1, hax.2⟩
      have hit1 : IterOf oIG1 l (i + 1) := ⟨hc1, hd1⟩
      dsimp only
      refine wpAny_mono (use_stp (Q := fun _ s' => ∃ m', GSt lv (some (.int b t)) m' ∧ SegI C a IG s₀ s' m' oIG1 oa) (fa lv (.int b t)) hG x1 hm (fun s' m' h1 h2 => ⟨m', h1, h2⟩)) (fun _ s2 hq => ?_) (fun _ _ q => q.elim)
      obtain ⟨m2, hm2, x2⟩ := hq
      by_cases h127 : b = 127
      · subst h127
        refine seg_execs_cons (seg_stmt (wpAny_mono (use_stp (Q := fun f s' => f = .ret .none ∧ ∃ m', GSt lv none m' ∧ SegI C a IG s₀ s' m' oIG1 oa) (f1r lv t) hG x2 hm2 (fun s' m' h1 h2 => ⟨rfl, m', h1, h2⟩)) (fun f s3 hq => ?_) (fun _ _ q => q.elim)))
        obtain ⟨rfl, m3, hm3, x3⟩ := hq
        refine hret _ _ _ _ ⟨x3.1, x3.2.1.keep, ((x3.2.2.1 _ (.tail _ (.head _))).1).trans x3.2.2.2.symm, ?_⟩
        have := hs 0
        rw [hdr, strm_stop] at this
        exact this
      · refine seg_execs_cons (seg_stmt (wpAny_mono (use_stp (Q := fun f s' => f = .next ∧ ∃ m', GSt lv (some (.int b t)) m' ∧ SegI C a IG s₀ s' m' oIG1 oa) (f1 lv b t h127) hG x2 hm2 (fun s' m' h1 h2 => ⟨rfl, m', h1, h2⟩)) (fun f s3 hq => ?_) (fun _ _ q => q.elim)))
        obtain ⟨rfl, m3, hm3, x3⟩ := hq
        dsimp only
        refine seg_execs_cons (seg_If (wpAny_mono (use_stp (Q := fun f s' => f = decide (b = 0) ∧ ∃ m', GSt lv (some (.int b t)) m' ∧ SegI C a IG s₀ s' m' oIG1 oa) (f2 lv b t) hG x3 hm3 (fun s' m' h1 h2 => ⟨rfl, m', h1, h2⟩)) (fun f s4 hq => ?_) (fun _ _ q => q.elim)))
        obtain ⟨rfl, m4, hm4, x4⟩ := hq
        by_cases h00 : b = 0
        · rw [decide_eq_true h00, if_pos rfl]
          subst h00
          obtain ⟨y, u, rfl, rfl⟩ : ∃ y u, lv = .int y u ∧ last = some y := by
            rcases hlast with ⟨_, e⟩ | h
            · rw [e, okr, if_neg (by decide), if_pos rfl] at hok
              cases hok
            · exact h
          refine seg_execs_cons (seg_stmt (wpAny_mono (use_stp (Q := fun f s' => f = .next ∧ ∃ m', GSt (.int y u) (some (.int 0 t)) m' ∧ SegI C a IG s₀ s' m' oIG1 oa) (f3 y u _) hG x4 hm4 (fun s' m' h1 h2 => ⟨rfl, m', h1, h2⟩)) (fun f s5 hq => ?_) (fun _ _ q => q.elim)))
          obtain ⟨rfl, m5, hm5, x5⟩ := hq
          dsimp only
          refine seg_execs_cons (seg_While fun pp => ?_)
          refine gen_while hC cI ca aI h0 ?_ ?_ (f4 y u _) (f5 y u _) hco hin n s₀ s5 m5 oa hn (fun j hj => ?_) k x5 hm5
          · show (splitAtGen fs).map _ = none
            rw [hfs]; rfl
          · show (false || fs.any Frame.guarded) = false
            rw [hfg]; rfl
          · have := hs (j - (N₀ - (n + 1)))
            rw [hdr, strm_rep, show N₀ - (n + 1) + (j - (N₀ - (n + 1))) = j by lia] at this
            exact this
        · rw [decide_eq_false h00, if_neg (by decide)]
          refine seg_execs_nil ?_
          dsimp only
          refine seg_execs_cons (seg_Expr_Yield hfs rfl hfg ?_ hco hin)
          refine wpAny_mono (use_stp (Q := fun v s' => v = .int b t ∧ ∃ m', GSt lv (some (.int b t)) m' ∧ SegI C a IG s₀ s' m' oIG1 oa) (f6 lv (.int b t)) hG x4 hm4 (fun s' m' h1 h2 => ⟨rfl, m', h1, h2⟩)) (fun v s5 hq => ?_) (fun _ _ q => q.elim)
          obtain ⟨rfl, m5, hm5, x5⟩ := hq
          intro kap hk
          obtain ⟨oC, hoC⟩ := ns_obj' x5.2.1.ns
          refine ⟨⟨b, t, rfl, ?_⟩, x5.1, x5.2.1.keep, oC, IG, oIG1, oa, cI, aI, hoC, (x5.2.2.1 _ (.head _)).1, (x5.2.2.1 _ (.tail _ (.head _))).1, x5.2.2.2, fun h0m s6 k6 eC eI ea => hk .none s6 ?_⟩
          · have := hs 0
            rw [hdr, strm_zero h127 h00, show N₀ - (n + 1) + 0 = N₀ - 1 - n by lia] at this
            exact this
          · have x6 := SegI.of hC cI ca k6 x5.2.1.ns hoC eC eI ea
            have hG6 : FG w p loose mean mg mb (cutH s6.heap C) := ⟨h0.1.keeps (keep_cut hC k6), h0.2.keeps (keep_cut hC k6)⟩
            obtain ⟨n', rfl⟩ : ∃ n', n = n' + 1 := ⟨n - 1, by lia⟩
            dsimp only
            refine seg_execs_cons (seg_stmt (wpAny_mono (use_stp (Q := fun f s' => f = .next ∧ ∃ m', GSt (.int b t) (some (.int b t)) m' ∧ SegI C a IG s6 s' m' oIG1 oa) (f7 lv (.int b t)) hG6 x6 hm5 (fun s' m' h1 h2 => ⟨rfl, m', h1, h2⟩)) (fun f s7 hq => ?_) (fun _ _ q => q.elim)))
            obtain ⟨rfl, m7, hm7, x7⟩ := hq
            dsimp only
            refine seg_execs_nil ?_
            refine seg_again rfl ?_
            refine ih n' (Nat.lt_succ_self _) (i + 1) (.int b t) (some b) s6 s7 m7 oIG1 oa (by lia) (.inr ⟨b, t, rfl, rfl⟩) ?_ (fun j => ?_) k6 x7 ⟨hm7.1, nofun⟩ hit1
            · rw [okr, if_neg h127, if_neg h00] at hok
              exact hok
            · have := hs (j + 1)
              rw [hdr, strm_succ h127 h00, show N₀ - (n' + 1 + 1) + (j + 1) = N₀ - (n' + 1) + j by lia] at this
              exact this
    · refine wpAny_pyNext_list_end (hh _) ⟨oIG, hIx.1, hit⟩ hls (by rw [List.getElem?_toArray, List.getElem?_eq_none (by rw [hi.length]; lia)]) fun h1 hx => ?_
      refine seg_again rfl ?_
      refine hend _ _ _ _ ⟨?_, fun b o e => hx b o (fun q => ?_) (x.2.1.keep _ _ e), (hx a oa aI hax.1).trans x.2.2.2.symm, ?_⟩
      · obtain ⟨⟨h, tk, e⟩, _⟩ := x
        subst e
        exact ⟨h1, tk, rfl⟩
      · rw [q, hIx.2.2] at e
        cases e
      · have := hs 0
        rw [List.drop_of_length_le (by lia)] at this
        exact this
theorem gen_func {target iter : Expr} {stA st1 r2 st4 : Stmt} {t2 tw ew ey : Expr} {q2 p1 p2 pw e1 e2 pf : Pos} {row : List Int} (hC : @LE.le Nat _ h₀.objs.size C) (ca : @LT.lt Nat _ C a) (h0 : FG w p loose mean mg mb h₀)
    (f0 : Stp w p loose mean mg mb C (exec stA env) (fun m => m "grouping" = some (.ref l)) .next (fun m => m "grouping" = some (.ref l) ∧ GSt .none none m))
    (fi : Stp w p loose mean mg mb C (eval iter env) (fun m => m "grouping" = some (.ref l) ∧ GSt .none none m) (.ref l) (GSt .none none))
    (fa : ∀ lv v, Stp w p loose mean mg mb C (assign target env v) (GSt lv none) () (GSt lv (some v)))
    (f1 : ∀ lv x t, x ≠ 127 → Stp w p loose mean mg mb C (exec st1 env) (GSt lv (some (.int x t))) .next (GSt lv (some (.int x t))))
    (f1r : ∀ lv t, Stp w p loose mean mg mb C (exec st1 env) (GSt lv (some (.int 127 t))) (.ret .none) (GSt lv none))
    (f2 : ∀ lv x t, Stp w p loose mean mg mb C (isTrue t2 env (eval t2 env)) (GSt lv (some (.int x t))) (decide (x = 0)) (GSt lv (some (.int x t))))
    (f3 : ∀ y u iv, Stp w p loose mean mg mb C (exec r2 env) (GSt (.int y u) iv) .next (GSt (.int y u) iv))
    (f4 : ∀ y u iv, Stp w p loose mean mg mb C (isTrue tw env (eval tw env)) (GSt (.int y u) iv) true (GSt (.int y u) iv))
    (f5 : ∀ y u iv, Stp w p loose mean mg mb C (eval ew env) (GSt (.int y u) iv) (.int y u) (GSt (.int y u) iv))
    (f6 : ∀ lv v, Stp w p loose mean mg mb C (eval ey env) (GSt lv (some v)) v (GSt lv (some v)))
    (f7 : ∀ lv v, Stp w p loose mean mg mb C (exec st4 env) (GSt lv (some v)) .next (GSt v (some v)))
    (hco : env.scope.isCoroutine = false) (hin : interactive env = false) (ht : ∀ it v, letOwnedTupleGo target it v = pure ()) (hsf : ∀ x, foldedSetIterable iter env x = pure x)
    (hA : A.handled = none)
    (hl : h₀.IsList l vs.toArray) (hi : IntsAre vs row) (hok : okr row none) (hs : ∀ j, str j = strm row none j)
    {n : Nat} {s : Shared} {m : Str → Option Value} (hn : n + 1 = N₀) (k : Keep h₀ s.heap) (ns : s.heap.Ns C m) (hg : m "grouping" = some (.ref l)) (ea : s.heap.get? a = some oa) :
    Seg (model PR w) A (fun n s₀ r s₁ => r = .ok (.ret .none) ∧ PG C a str N₀ n s₀ s₁) (YG h₀ C a str N₀) (n + 1) s (.func [stA, .For target iter [st1, .If t2 [r2, .While tw [.Expr (.Yield (some ew) p1) p2] [] pw] [] q2, .Expr (.Yield (some ey) e1) e2, st4] [] pf] env)
      ((model PR w).den (.func [stA, .For target iter [st1, .If t2 [r2, .While tw [.Expr (.Yield (some ew) p1) p2] [] pw] [] q2, .Expr (.Yield (some ey) e1) e2, st4] [] pf] env)) [] s := by
  have hG : FG w p loose mean mg mb (cutH s.heap C) := ⟨h0.1.keeps (keep_cut hC k), h0.2.keeps (keep_cut hC k)⟩
  refine seg_func ?_
  have F : Fr (cutH s.heap C) C s.heap m := ⟨ns, fun b o e => (of_cutH e).1, cutH_size _ _⟩
  have N : News (cutH s.heap C) C s.heap [(a, oa)] := fun q hq => by rw [List.mem_singleton.mp hq]; exact ⟨ea, Nat.ne_of_gt ca, cutH_none (Nat.le_of_lt ca)⟩
  refine seg_execs_cons (seg_stmt (f0 _ _ s _ m _ hG.1 hG.2 hg F N fun h1 tk1 m1 hm1 F1 N1 => ?_))
  dsimp only
  refine seg_execs_cons (seg_For ?_ hsf)
  refine fi _ _ _ _ m1 _ hG.1 hG.2 hm1 F1 N1 fun h2 tk2 m2 hm2 F2 N2 => ?_
  have hl2 : h2.IsList l vs.toArray := hl.at fun o e => F2.keep _ _ (keep_cut hC k _ _ e)
  refine wpAny_pyIter_list hl2 fun pp => ?_
  have F3 := F2.push { cls := .type "list_iterator", data := .fields #[.ref l, .int 0 0] }
  have N3 := News.push F2 N2 { cls := .type "list_iterator", data := .fields #[.ref l, .int 0 0] } rfl
  have hCI : @LT.lt Nat _ C h2.objs.size := F2.ns.lt
  have haI : @Ne Nat a h2.objs.size := Nat.ne_of_lt (Heap.lt_size (N2 _ (.head _)).1)
  refine gen_loop (hC := hC) (cI := hCI) (ca := ca) (aI := haI) (h0 := h0) rfl rfl fa f1 f1r f2 f3 f4 f5 f6 f7 hco hin (ht _) ?hh hl hi ?_ ?_ n 0 .none none s _ m2 _ oa (Nat.le_of_eq hn) (.inl ⟨rfl, rfl⟩) hok (fun j => ?_) k ⟨⟨_, _, rfl⟩, F3, N3, ea⟩ hm2 ⟨rfl, rfl⟩
  case hh => intro c; exact hA
  · intro n' s₀ s' c hP
    refine seg_leaf (.ok .next) ?_
    show Seg (model PR w) A _ _ n' s₀ _ (leafOf (.ok (.ret .none))) [] s'
    exact seg_end _ ⟨rfl, hP⟩
  · intro n' s₀ s' c hP
    refine seg_leaf (.ok (.ret .none)) ?_
    show Seg (model PR w) A _ _ n' s₀ _ (leafOf (.ok (.ret .none))) [] s'
    exact seg_end _ ⟨rfl, hP⟩
  · rw [hn, Nat.sub_self, Nat.zero_add]
    exact hs j
end
end
section
theorem reg_first : True := by
  w_top off
  k_with_none
  (k_with "exec While" => (k_here; refine halt ?_))
  (k_with "exec While Compare cons nil" => (k_here; refine halt ?_))
  (k_with "pyIter ref" => (k_here; refine halt ?_))
  (k_with "exec FunctionDef" => (k_here; refine halt ?_))
  (k_with "call builtin:list.reverse" => (k_here; refine halt ?_))
  (k_with "call builtin:dict.get" => (k_here; refine halt ?_))
  (k_with "call builtin:iter" => (k_here; refine halt ?_))
  (k_with "call builtin:next" => (k_here; refine halt ?_))
  (k_with "exec For" => (k_here; refine forT (by assumption) ?_ (fun _ _ => rfl) (fun _ => rfl) PassesOwn.never))
  (k_with "exec For Name Call cons nil" => (k_here; refine forT (by assumption) ?_ (fun _ _ => rfl) (fun _ => rfl) PassesOwn.never))
  (k_with "exec For Name Name cons nil" => (k_here; refine forT (by assumption) ?_ (fun _ _ => rfl) (fun _ => rfl) PassesOwn.never))
  (k_with "eval Name" => (k_here; k_dflt (refine nameX_L (by assumption) (by first | rfl | assumption) ?_; k_whole)))
  (k_with "execs cons" => ((with_reducible refine wpAny_execs_cons ?_); try dsimp only))
  (k_with "execs nil" => (with_reducible refine wpAny_execs_nil ?_))
  (k_with "storeName" => (k_here; k_dflt (first | (refine storeX_L (by assumption) (by assumption) ?_; k_whole; intro _ _ _; (try k_sweep)) | (refine storeX_C (by k_asm) (by k_asm) (by rfl) (by k_updF) (by k_asm) ?_; k_whole; intro _ _ _ N' d'; (try dsimp only at N'); revert N' d'; intro _ _; (try k_sweep)))))
  (k_with "assign Name" => (k_here; refine wpAny_assign_Name ?_))
  (k_with "binaryOp LShift int int" => (k_here; refine lshift_int (by assumption) (by assumption) ?_))
  (k_with "exec For" => (k_here; refine halt ?_))
  (k_with "exec For Name Call cons nil" => (k_here; refine halt ?_))
  (k_with "exec For Name Name cons nil" => (k_here; refine halt ?_))
  exact True.intro
def takeS (f : Nat → Option Int) : Nat → Nat → List Int
  | 0, _ => []
  | k + 1, j => match f j with
    | none => []
    | some x => x :: takeS f k (j + 1)
theorem code_pushed {M : Model} {A : Around} {c : Code} {R : Result → Shared → Prop} {h₃ : Heap} {oG : Obj} {gens : Array GenState} {drawn : Drawn} {tk : Nat} {os : OsState} (hf : oG.isFreed = false)
    (h : ∀ h4, h4.get? h₃.objs.size = some oG → Keep h₃ h4 → codeAny M A c R ⟨h4, gens, drawn, tk, os⟩) : codeAny M A c R ⟨h₃.push oG, gens, drawn, tk, os⟩ :=
  h _ (Heap.get?_push_size _ hf) fun _ _ e => Heap.get?_push_of_some _ e
inductive FirstI (w : World) (h₀ : Heap) (L lt C a : Addr) (g : Nat) (oG : Obj) (A' : Around) (str : Nat → Option Int) (s : Shared) (k : Nat) (s' : Shared) : Prop
  | mk (j : Nat) (gs : GenState) (m : Str → Option Value) (vt : List Value) (kt : Nat) (pre : List Int) (q0 : (∃ h tk gens, s' = { s with heap := h, toks := tk, gens := gens } ∧ AllBare gens)) (q1 : j + k = 4) (q2 : 1 ≤ k) (q3 : Fr h₀ L s'.heap m) (q4 : m "told" = some (.ref lt)) (q5 : News h₀ L s'.heap [(lt, W.listOf vt.toArray kt), (a, oG)]) (q6 : s'.gens[g]? = some gs) (q7 : IntsAre vt pre) (q8 : pre.length = j) (q9 : pre ++ takeS str k j = takeS str 4 0) (q10 : gs.Goes (model PR w) A' (fun n s₀ r s₁ => r = .ok (.ret .none) ∧ PG C a str 5 n s₀ s₁) (YG h₀ C a str 5) (k + 1) (.send .none) (s'.setGen g .running)) : FirstI w h₀ L lt C a g oG A' str s k s'
def FStep (s : Shared) (h₀ : Heap) (L lt C a IG : Addr) (oG oIG oC : Obj) (j : Nat) (vt : List Value) (v : Value) (gens : Array GenState) (f : Flow) (s₃ : Shared) : Prop :=
  ((j = 3 ∧ f = .brk) ∨ (j < 3 ∧ f = .next)) ∧ ∃ h tk m kt, s₃ = { s with heap := h, toks := tk, gens := gens } ∧ Fr h₀ L h m ∧ m "told" = some (.ref lt) ∧ News h₀ L h [(lt, W.listOf (vt ++ [v]).toArray kt), (a, oG), (IG, oIG), (C, oC)]
theorem bare_set {s : Shared} {g : Nat} {y : GenState} (x : AllBare s.gens) (hy : y.bare = true) : AllBare (s.setGen g y).gens := fun z hz => by
  rcases Array.mem_or_eq_of_mem_setIfInBounds (show z ∈ s.gens.setIfInBounds g y from hz) with h | h
  · exact x z h
  · rw [h]; exact hy
/-- the next item of a generator, told with the state that it is left in: quiet -/
theorem next_quiet {w : World} {A : Around} {E : Value → Shared → Prop} {s : Shared} {a : Addr} {g n : Nat} {gs : GenState} {P : Nat → Shared → Shared → Prop} {Y : Protocol} {Q : Option Value → Shared → Prop} (hh : A.handled = none)
    (hl : s.heap.NoLimit) (hroom : A.depth < recursionLimit) (hg : s.heap.IsGen a g) (hgs : s.gens[g]? = some gs)
    (hgo : gs.Goes (model PR w) A.in1 (fun n s₀ r s₁ => r = .ok (.ret .none) ∧ P n s₀ s₁) Y n (.send .none) (s.setGen g .running))
    (hY : ∀ v s₁ gs', gs'.bare = true → Y (n - 1) (s.setGen g .running) v s₁ (fun r' s'' => match n with
        | 0 => False
        | m + 1 => gs'.Goes (model PR w) A.in1 (fun n s₀ r s₁ => r = .ok (.ret .none) ∧ P n s₀ s₁) Y m r' s'') → Q (some v) (s₁.setGen g gs'))
    (hP : ∀ s₁, P n (s.setGen g .running) s₁ → ∀ h', (∀ b o, s₁.heap.get? b = some o → h'.get? b = some o) → Q none { s₁.setGen g .finished with heap := h' }) :
    wpAny (model PR w) A (pyNext (.ref a)) Q E s := by
  unfold pyNext
  refine wpAny_bind (wpAny_attempt (wpAny_callSpecial?_slot (name := Str.ofString "__next__") hg.typeIs slot_gen_next (wpAny_call_entry slot_gen_next hg.typeIs entry_gen_next ?_ (args_gen_next _))))
  show wpAny _ _ (Builtin.Generator.genWake (.ref a) (.send .none)) _ _ s
  unfold Builtin.Generator.genWake
  refine wpAny_bind (wpAny_holding (wpAny_genNumber hg (wpAny_bind (wpAny_genState hgs ?_))))
  cases gs with
  | running => exact hgo.elim
  | finished => exact hgo.elim
  | _ =>
    refine wpAny_bind (wpAny_roomToWake hl hroom ?_)
    show wpAny _ A.in1 (.resume g (.send .none) [] _) _ _ s
    refine wpAny_resumeQ hgs hgo (fun x s₁ hx => ?_) (fun v s₁ gs' hb hv => ?_)
    · obtain ⟨rfl, hx⟩ := hx
      show wpAny _ A.in1 (newExc (.type "StopIteration") [] >>= _) _ _ _
      refine wpAny_bind ?_
      simp only [newExc, newTuple]
      refine wpAny_bind (wpAny_newObj_type (wpAny_bind (m := firstArgMember _ _) (wpAny_of_eq (a := Value.none) rfl (wpAny_newObj_type ?_ (by size_fits)))) (by size_fits))
      simp only [raiseNew]
      refine wpAny_bind (wpAny_bind (wpAny_handled ?_))
      rw [show A.in1.handled = none from hh]
      exact wpAny_throw (wpAny_bind (wpAny_isInstance (T := "StopIteration") (b := true) ⟨_, Heap.get?_push_size _ rfl, rfl⟩ isSubtype_stop
        (wpAny_pure (hP s₁ hx _ fun b o hb => Heap.get?_push_of_some _ (Heap.get?_push_of_some _ hb)))))
    · exact wpAny_pure ⟨v, rfl, wpAny_pure (hY v s₁ gs' hb hv)⟩
theorem first_loop {w : World} {A : Around} {R : Result → Shared → Prop} {target : Expr} {body : List Stmt} {env : Env} {s s1 : Shared} {h₀ : Heap} {L lt C a : Addr} {g : Nat} {oG : Obj} {str : Nat → Option Int}
    (hA : A.handled = none) (hroom : A.depth < recursionLimit) (hlim : h₀.NoLimit) (hLC : @LT.lt Nat _ L C) (hlC : @LT.lt Nat _ lt C) (ca : @LT.lt Nat _ C a) (hC0 : @LE.le Nat _ h₀.objs.size C)
    (hGen : ∀ h' : Heap, h'.get? a = some oG → h'.IsGen a g) (ht : ∀ v, letOwnedTupleGo target (.ref a) v = pure ())
    (start : FirstI w h₀ L lt C a g oG A.in1 str s 4 s1)
    (item : ∀ (j : Nat) (m : Str → Option Value) (vt : List Value) (kt : Nat) (x : Int) (t : Tok) (h : Heap) (tk : Nat) (gens : Array GenState) (oC oIG : Obj) (IG : Addr), j ≤ 3 → Fr h₀ L h m → m "told" = some (.ref lt) →
      News h₀ L h [(lt, W.listOf vt.toArray kt), (a, oG), (IG, oIG), (C, oC)] → @Ne Nat a lt → @Ne Nat IG lt → @Ne Nat C lt → vt.length = j →
      wpAny (model PR w) A (assign target env (.int x t)) (fun _ s₂ => wpAny (model PR w) A (execs body env) (FStep s h₀ L lt C a IG oG oIG oC j vt (.int x t) gens) (fun _ _ => False) s₂) (fun _ _ => False) { s with heap := h, toks := tk, gens := gens })
    (fin : ∀ (vt : List Value) (kt : Nat) (h : Heap) (tk : Nat) (gens : Array GenState) (m : Str → Option Value), AllBare gens → Fr h₀ L h m → m "told" = some (.ref lt) → News h₀ L h [(lt, W.listOf vt.toArray kt)] → IntsAre vt (takeS str 4 0) → R (.ok .next) { s with heap := h, toks := tk, gens := gens }) :
    codeAny (model PR w) A (.forLoop target (.ref a) body [] env) R s1 := by
  refine codeAny_forLoop_any (FirstI w h₀ L lt C a g oG A.in1 str s) ?_ 4 start
  rintro k s' ⟨j, gs, m, vt, kt, pre, ⟨h, tk, gens, rfl, hbr⟩, hjk, hk1, F, mt, N, hgs, hvt, hpl, hpre, hgo⟩
  have hlt := N _ (.head _)
  have hax := N _ (.tail _ (.head _))
  refine next_quiet (n := k + 1) hA (hlim.keeps F.keep) hroom (hGen _ hax.1) hgs hgo (fun v s₁ gs' hq hy => ?_) (fun s₁ hp h' kh => ?_)
  · obtain ⟨⟨x, t, rfl, hx⟩, ⟨h1, tk1, rfl⟩, kc, oC, IG, oIG, oa, cI, aI, eC, eI, ea, ea0, cont⟩ := hy
    have hoa : oa = oG := by
      have e1 : h.get? a = some oa := ea0
      rw [hax.1] at e1
      exact (Option.some.inj e1).symm
    subst hoa
    have hx' : str j = some x := by rw [show j = 5 - 1 - (k + 1 - 1) by lia]; exact hx
    have kc' : ∀ b o, @LT.lt Nat _ b C → h.get? b = some o → h1.get? b = some o := fun b o hb e => kc b o (cutH_get hb e)
    have F1 : Fr h₀ L h1 m := ⟨F.ns.at' fun o e => kc' _ _ hLC e, fun b o e => kc' _ _ (Nat.lt_of_lt_of_le (Heap.lt_size e) hC0) (F.keep b o e), F.above⟩
    have N1 : News h₀ L h1 [(lt, W.listOf vt.toArray kt), (a, oa), (IG, oIG), (C, oC)] := fun q hq => by
      simp only [List.mem_cons, List.not_mem_nil, or_false] at hq
      rcases hq with rfl | rfl | rfl | rfl
      · exact ⟨kc' _ _ hlC hlt.1, hlt.2⟩
      · exact ⟨ea, hax.2⟩
      · exact ⟨eI, Nat.ne_of_gt (Nat.lt_trans hLC cI), Heap.get?_none_of_le (Nat.le_trans hC0 (Nat.le_of_lt cI))⟩
      · exact ⟨eC, Nat.ne_of_gt hLC, Heap.get?_none_of_le hC0⟩
    dsimp only
    refine wpAny_of_eq (ht _) ?_
    refine wpAny_mono (item j m vt kt x t h1 tk1 _ oC oIG IG (by lia) F1 mt N1 (Nat.ne_of_gt (Nat.lt_trans hlC ca)) (Nat.ne_of_gt (Nat.lt_trans hlC cI)) (Nat.ne_of_gt hlC) (by rw [hvt.length, hpl])) (fun _ s₂ h₂ => ?_) (fun _ _ q => q.elim)
    refine wpAny_mono h₂ (fun f s₃ h₃ => ?_) (fun _ _ q => q.elim)
    obtain ⟨hf, h3, tk3, m3, kt3, rfl, F3, mt3, N3⟩ := h₃
    obtain ⟨k', rfl⟩ : ∃ k', k = k' + 1 := ⟨k - 1, by lia⟩
    have hb3 := bare_set (g := g) (s := { s with heap := h1, toks := tk1, gens := _ }) (bare_set (g := g) (s := { s with heap := h, toks := tk, gens := gens }) (y := .running) hbr rfl) hq
    have hpre' : (pre ++ [x]) ++ takeS str k' (j + 1) = takeS str 4 0 := by
      rw [← hpre, List.append_assoc]
      congr 1
      show x :: takeS str k' (j + 1) = takeS str (k' + 1) j
      rw [takeS, hx']
    rcases hf with ⟨hj3, rfl⟩ | ⟨hj3, rfl⟩
    · refine fin _ kt3 h3 tk3 _ m3 hb3 F3 mt3 (fun q hq => N3 q (by rw [List.mem_singleton.mp hq]; exact .head _)) ?_
      obtain rfl : k' = 0 := by lia
      rw [← hpre', takeS, List.append_nil]
      exact IntsAre.append hvt (.cons _ _ .nil)
    · refine ⟨k', Nat.lt_succ_self _, j + 1, gs', m3, _, kt3, pre ++ [x], ⟨h3, tk3, _, rfl, hb3⟩, by lia, by lia, F3, mt3, (fun q hq => N3 q (by
        simp only [List.mem_cons, List.not_mem_nil, or_false] at hq ⊢
        rcases hq with e | e
        · exact .inl e
        · exact .inr (.inl e))), ?_, IntsAre.append hvt (.cons _ _ .nil), by rw [List.length_append, hpl]; rfl, hpre', ?_⟩
      · exact setGen_self (s := { s with heap := h1, toks := tk1, gens := _ }) (setGen_self (s := { s with heap := h, toks := tk, gens := gens }) hgs)
      · exact cont (by lia) _ F3.keep (N3 _ (.tail _ (.tail _ (.tail _ (.head _))))).1 (N3 _ (.tail _ (.tail _ (.head _)))).1 (N3 _ (.tail _ (.head _))).1
  · obtain ⟨⟨h1, tk1, rfl⟩, kc, ea, hnone⟩ := hp
    dsimp only
    refine wpAny_execs_nil ?_
    have hx' : str j = none := by rw [show j = 5 - (k + 1) by lia]; exact hnone
    have kc' : ∀ b o, @LT.lt Nat _ b C → h.get? b = some o → h'.get? b = some o := fun b o hb e => kh _ _ (kc b o (cutH_get hb e))
    refine fin vt kt h' _ _ m (bare_set (s := { s with heap := h1, toks := tk1, gens := _ }) (bare_set (g := g) (s := { s with heap := h, toks := tk, gens := gens }) (y := .running) hbr rfl) rfl) ⟨F.ns.at' fun o e => kc' _ _ hLC e, fun b o e => kc' _ _ (Nat.lt_of_lt_of_le (Heap.lt_size e) hC0) (F.keep b o e), F.above⟩ mt (fun q hq => by rw [List.mem_singleton.mp hq]; exact ⟨kc' _ _ hlC hlt.1, hlt.2⟩) ?_
    rw [← hpre]
    have : takeS str k j = [] := by
      obtain ⟨k', rfl⟩ : ∃ k', k = k' + 1 := ⟨k - 1, by lia⟩
      rw [takeS, hx']
    rw [this, List.append_nil]
    exact hvt
theorem first_spec {w : World} {p : Program} {loose : List Str} {mean : ExcName → Option Value} {mg mb : Str → Option Value}
   {A : Around} {s : Shared} {Q E : Value → Shared → Prop} {l : Addr} {vs : List Value} {row : List Int}
   (X : (Mine.hd.heap_39 w.params).In s.heap) (T : Top p loose mean mg mb s.heap)
   (hA : A.handled = none) (hd : A.depth ≤ 590) (hu : A.units ≤ 850)
   (hl : s.heap.IsList l vs.toArray) (hi : IntsAre vs row) (hok : okr row none) (hbare : AllBare s.gens)
   (hR : ∀ (r : Addr) (vt : List Value) (kt : Nat) (h' : Heap) (tk' : Nat) (gs' : Array GenState), AllBare gs' → Made s.heap h' [(r, W.listOf vt.toArray kt)] → IntsAre vt (takeS (strm row none) 4 0) → Q (.ref r) { s with heap := h', toks := tk', gens := gs' }) :
   wpAny (model PR w) A (call (.ref 99) [.ref l]) Q E s := by
  refine ask_in ?_
  k_fill
  intro _
  refine at_mono 590 850 hA hd hu ?_
  have ho := X 99 _ rfl
  (refine' wpAny_call (call_plain_ret ?hroom (by assumption) ?hdata (Top.nolimit (by assumption)) ?hcd ?hbind ?hloc ?_ ?hco ?hgen ?hk ?hcell); (case hdata => exact rfl); (case hroom => exact Nat.le_of_ble_eq_true rfl); (case hcd => exact codeRec_of (by assumption) rfl); (case hbind => exact rfl); (case hloc => exact locs rfl); (case hco => exact rfl); (case hgen => exact rfl); (case hk => exact rfl); (case hcell => decide))
  intro h₁ F
  have N : News s.heap s.heap.objs.size h₁ [] := News.nil
  clear ho
  generalize hL : s.heap.objs.size = L at *
  generalize hh0 : s.heap = h₀ at *
  k_steps
  unfold Halt
  refine wpAny_For (s := _) ?_ (fun x => rfl)
  k_steps
  rename Fr h₀ L _ _ => F2
  rename News h₀ L _ _ => N2
  rename_i lt hx1 l1 H
  clear hx1 l1
  have hoG := (X.keeps F2.keep) 78 _ rfl
  refine wpAny_call (codeAny_call_generator (by show (591 : Nat) < recursionLimit; decide) hoG rfl rfl rfl rfl (codeRec_of (X.keeps F2.keep) rfl) ?_)
  refine wpAny_of_eq rfl ?_
  refine wpAny_newFunctionEnv ?hcell ?hloc (fun h₃ hns hsb => ⟨(T.keeps F2.keep).nolimit.fresh _ hsb, ?_⟩) rfl
  case hcell => decide
  case hloc => exact locs rfl
  dsimp only at hns hsb ⊢
  refine wpAny_pyIter_gen ⟨_, _, _, Heap.get?_push_size _ rfl, rfl, rfl, rfl⟩ ?_
  clear hoG
  have hltC : @LT.lt Nat _ lt H.objs.size := Heap.lt_size (N2 _ (.head _)).1
  have hLC : @LT.lt Nat _ L H.objs.size := F2.ns.lt
  have hsz : h₃.objs.size = H.objs.size + 1 := by rw [hsb.1, Heap.size_push]
  have kH3 : Keep H h₃ := fun b o e => hsb.extBut b o (Nat.ne_of_lt (Heap.lt_size e)) (Heap.get?_push_of_some _ e)
  have hLh : @Ne Nat lt L := (N2 _ (.head _)).2.1
  refine code_pushed rfl ?_
  intro h4 e4 k34
  obtain ⟨oG, e4', hGen⟩ : ∃ oG, h4.get? h₃.objs.size = some oG ∧ ∀ h' : Heap, h'.get? h₃.objs.size = some oG → h'.IsGen h₃.objs.size s.gens.size := ⟨_, e4, fun h' e => ⟨_, _, _, e, rfl, rfl, rfl⟩⟩
  clear e4
  have ns4 := hns.at' fun o e => k34 _ _ e
  have kH := Keep.trans kH3 k34
  have F4 := F2.keeps kH
  have hC0 : @LE.le Nat _ h₀.objs.size H.objs.size := Nat.le_trans F2.above (Nat.le_of_lt hLC)
  have N4 : News h₀ L h4 [(lt, W.listOf [].toArray 0), (h₃.objs.size, oG)] := fun q hq => by
    simp only [List.mem_cons, List.not_mem_nil, or_false] at hq
    rcases hq with rfl | rfl
    · exact ⟨kH _ _ (N2 _ (.head _)).1, (N2 _ (.head _)).2⟩
    · exact ⟨e4', Nat.ne_of_gt (Nat.lt_trans hLC (by rw [hsz]; exact Nat.lt_succ_self _)), Heap.get?_none_of_le (Nat.le_trans hC0 (by rw [hsz]; exact Nat.le_succ _))⟩
  clear F2 N2 kH3 k34 kH hsb hns
  generalize H.objs.size = C at *
  generalize h₃.objs.size = a at *
  have ca : @LT.lt Nat _ C a := by rw [hsz]; exact Nat.lt_succ_self _
  refine first_loop (s := s) (C := C) (str := strm row none) rfl (by show (591 : Nat) < recursionLimit; decide) T.nolimit hLC hltC ca hC0 hGen (fun _ => rfl) ?start ?item ?fin
  case start =>
    refine ⟨0, _, _, [], 0, [], ⟨h4, _, _, rfl, AllBare.push hbare rfl⟩, rfl, by decide, F4, rfl, N4, Array.getElem?_push_size .., .nil, rfl, rfl, ⟨rfl, ?_⟩⟩
    refine gen_func (hC := hC0) (ca := ca) (h0 := ⟨X, T⟩) (oa := oG) ?f0 ?fi ?fa ?f1 ?f1r ?f2 ?f3 ?f4 ?f5 ?f6 ?f7 rfl rfl (fun _ _ => rfl) (fun _ => rfl) rfl hl hi hok (fun _ => rfl) rfl F4.keep ns4 rfl e4'
    all_goals clear X T F4 N4 hR hl hi hok hGen ns4 e4' hLC hltC ca hC0 hsz hLh hd hu hA
    case f0 =>
      intro G A' s' news m Q' X' T' hP F' N' hq
      replace F' := Fr.known0 F' hP (n := "grouping")
      k_steps
      refine hq _ _ _ ?pp (by assumption) (by assumption)
      exact ⟨rfl, rfl, nofun⟩
    case fi =>
      rintro G A' s' news m Q' X' T' ⟨hP, hP1⟩ F' N' hq
      replace F' := Fr.known0 F' hP (n := "grouping")
      k_steps
      refine hq _ _ _ ?pp2 (by assumption) (by assumption)
      exact ⟨(if_neg (by decide)).trans hP1.1, nofun⟩
    case fa =>
      rintro lv v G A' s' news m Q' X' T' hP F' N' hq
      replace F' := Fr.known0 F' hP.1 (n := "last_interval")
      k_steps
      refine hq _ _ _ ?pp3 (by assumption) (by assumption)
      exact ⟨rfl, fun v' e => by cases e; rfl⟩
    case f1 =>
      rintro lv x t hx G A' s' news m Q' X' T' hP F' N' hq
      replace F' := Fr.known0 (Fr.known0 F' hP.1 (n := "last_interval")) (hP.2 _ rfl) (n := "interval")
      k_steps
      · exact absurd (by assumption) hx
      · refine hq _ _ _ ?pp4 (by assumption) (by assumption)
        exact ⟨rfl, fun v' e => by cases e; rfl⟩
    case f1r =>
      rintro lv t G A' s' news m Q' X' T' hP F' N' hq
      replace F' := Fr.known0 (Fr.known0 F' hP.1 (n := "last_interval")) (hP.2 _ rfl) (n := "interval")
      k_steps
      show Q' _ _
      refine hq _ _ _ ?pp5 (by assumption) (by assumption)
      exact ⟨rfl, nofun⟩
    case f2 =>
      rintro lv x t G A' s' news m Q' X' T' hP F' N' hq
      replace F' := Fr.known0 (Fr.known0 F' hP.1 (n := "last_interval")) (hP.2 _ rfl) (n := "interval")
      k_steps
      refine hq _ _ _ ?pp6 (by assumption) (by assumption)
      exact ⟨rfl, fun v' e => by cases e; rfl⟩
    case f3 =>
      rintro y u iv G A' s' news m Q' X' T' hP F' N' hq
      have hP2 : ∀ v, iv = some v → (fun z => if z = Str.ofString "last_interval" then some (Value.int y u) else m z) "interval" = some v := fun v e => (if_neg (by decide)).trans (hP.2 v e)
      replace F' := Fr.known0 F' hP.1 (n := "last_interval")
      k_steps
      refine hq _ _ _ ?pp7 (by assumption) (by assumption)
      exact ⟨rfl, hP2⟩
    case f4 =>
      rintro y u iv G A' s' news m Q' X' T' hP F' N' hq
      k_steps
      exact hq _ _ _ hP (by assumption) (by assumption)
    case f5 =>
      rintro y u iv G A' s' news m Q' X' T' hP F' N' hq
      have hP2 : ∀ v, iv = some v → (fun z => if z = Str.ofString "last_interval" then some (Value.int y u) else m z) "interval" = some v := fun v e => (if_neg (by decide)).trans (hP.2 v e)
      replace F' := Fr.known0 F' hP.1 (n := "last_interval")
      k_steps
      refine hq _ _ _ ?pp8 (by assumption) (by assumption)
      exact ⟨rfl, hP2⟩
    case f6 =>
      rintro lv v G A' s' news m Q' X' T' hP F' N' hq
      replace F' := Fr.known0 (Fr.known0 F' hP.1 (n := "last_interval")) (hP.2 _ rfl) (n := "interval")
      k_steps
      refine hq _ _ _ ?pp9 (by assumption) (by assumption)
      exact ⟨rfl, fun v' e => by cases e; rfl⟩
    case f7 =>
      rintro lv v G A' s' news m Q' X' T' hP F' N' hq
      replace F' := Fr.known0 (Fr.known0 F' hP.1 (n := "last_interval")) (hP.2 _ rfl) (n := "interval")
      k_steps
      refine hq _ _ _ ?pp10 (by assumption) (by assumption)
      exact ⟨rfl, fun v' e => by cases e; rfl⟩
  case item =>
    clear F4 N4 ns4 e4' hGen
    rintro j m vt kt x t h tk gens oC oIG IG hj F mt N d1 d2 d3 hlen
    replace F := Fr.known0 F mt (n := "told")
    have hvt : vt.length ≤ 3 := by lia
    k_steps
    rename News h₀ L _ _ => N7
    (try simp only [List.push_toArray] at N7)
    refine len_list ⟨_, N7.get (.head _), rfl, _, rfl⟩ (by rw [List.size_toArray, List.length_append, List.length_singleton]; lia) ?_
    rw [show ((((vt ++ [Value.int x t]).toArray.size : Nat)) : Int) = (j : Int) + 1 by rw [List.size_toArray, List.length_append, List.length_singleton, hlen]; rfl]
    k_steps
    · refine ⟨.inl ⟨by lia, rfl⟩, _, _, _, _, rfl, by assumption, ?_, by assumption⟩
      rfl
    · refine ⟨.inr ⟨by lia, rfl⟩, _, _, _, _, rfl, by assumption, ?_, by assumption⟩
      rfl
  case fin =>
    clear F4 N4 ns4 e4' hGen
    rintro vt kt h tk gens m hbg F mt N it
    replace F := Fr.known0 F mt (n := "told")
    (try dsimp only)
    k_steps
    show Q _ _
    exact hR lt vt kt _ _ _ hbg (made_of (by assumption) N (fun p hp => hp)) it
end
section
def EndB (tabs : List (Addr × Addr)) (s₁ : Shared) (r : Result) (s' : Shared) : Prop :=
  r = .ok (.ret (.bool true)) ∧ Keep (ghostOf s₁.heap tabs) s'.heap ∧ s'.os = s₁.os ∧ AllBare s'.gens ∧ GrownAll tabs s'.heap
theorem end_post {M : Model} {A : Around} {cd : Code} {s s₁ : Shared} {cw : ClaimW} {cl : Str → Option Addr} {mean : ExcName → Option Value} {args : List WData} {tabs : List (Addr × Addr)} (hT : TabsAt tabs s₁.heap)
    (hr : ∀ x, cw.raises args x = false) (hp : cw.post args (.bool true) args = true) (h : codeAny M A cd (EndB tabs s₁) s) : codeAny M A cd (GoodWG cw cl mean args s₁) s := by
  refine codeAny_mono h fun r s' hE => ?_
  obtain ⟨rfl, hk, hos, hb, hg⟩ := hE
  have tab : ∀ {b : Addr} {o : Obj}, b ∈ tabs.map (·.2) → s₁.heap.get? b = some o → o = tabObj #[] ∧ isCodeTable s₁.heap b ∧ ∃ ps, s'.heap.get? b = some (tabObj ps) := fun {b o} hm e => by
    obtain ⟨q, hq, rfl⟩ := List.mem_map.mp hm
    obtain ⟨c1, c2⟩ := hT q hq
    rw [c2] at e
    exact ⟨(Option.some.inj e).symm, (CodeHd.tab c1 c2).isCodeTable, hg.get q hq⟩
  refine ⟨.inl ⟨_, .bool true, [], rfl, hr, .bool true, hp, fun _ => ⟨List.nodup_nil, fun _ hm => nomatch hm⟩⟩, ⟨fun b o e => ?_, fun b o e => ?_⟩, hos, hb⟩
  · by_cases hm : b ∈ tabs.map (·.2)
    · obtain ⟨rfl, c, ps, q⟩ := tab hm e
      exact .inr (.inl ⟨c, rfl, #[], ps, rfl, by rw [Array.empty_append]; exact q⟩)
    · exact .inl (hk _ _ (ghost_ne e hm))
  · by_cases hm : b ∈ tabs.map (·.2)
    · obtain ⟨_, _, ps, q⟩ := tab hm e
      exact ⟨_, q⟩
    · exact ⟨o, hk _ _ (ghost_ne e hm)⟩
end
section
theorem pw_le {a b : Nat} (h : a ≤ b) : (2 : Int) ^ a ≤ 2 ^ b := by
  have := Nat.pow_le_pow_right (n := 2) (by decide) h
  exact_mod_cast this
theorem snoc_ind {P : List Int → Prop} (h0 : P []) (h1 : ∀ ns x, P ns → P (ns ++ [x])) (l : List Int) : P l := by
  rw [← List.reverse_reverse l]
  induction l.reverse with
  | nil => exact h0
  | cons a r ih => rw [List.reverse_cons]; exact h1 _ _ ih
theorem dbl_snoc (ns : List Int) (x : Int) : dbl (ns ++ [x]) = dblStep (dbl ns) x := by
  unfold dbl
  rw [List.foldl_append]
  rfl
theorem pw_add {W j k : Int} (hW : 0 ≤ W) (hj : 0 ≤ j) (hk : 0 ≤ k) : (2 : Int) ^ (W * (j + k)).toNat = 2 ^ (W * j).toNat * 2 ^ (W * k).toNat := by
  rw [← Int.pow_add, tn_join hW hj hk]
theorem pw_sq {W k : Int} (hW : 0 ≤ W) (hk : 0 ≤ k) : (2 : Int) ^ (2 * W * k).toNat = 2 ^ (W * k).toNat * 2 ^ (W * k).toNat := by
  rw [← Int.pow_add, tn_join hW hk hk, Int.mul_assoc, Int.mul_left_comm, Int.two_mul]
theorem numOf_nil {W : Int} : numOf W [] = 0 := rfl
theorem numOf_cons {W a : Int} {l : List Int} : numOf W (a :: l) = 2 ^ (W * a).toNat + numOf W l := by
  unfold numOf
  rw [List.map_cons, List.sum_cons]
theorem numOf_app {W : Int} : ∀ a b : List Int, numOf W (a ++ b) = numOf W a + numOf W b
  | [], b => by rw [List.nil_append, numOf_nil, Int.zero_add]
  | x :: r, b => by rw [List.cons_append, numOf_cons, numOf_cons, numOf_app r b, Int.add_assoc]
theorem numOf_perm {W : Int} {a b : List Int} (h : a.Perm b) : numOf W a = numOf W b := by
  induction h with
  | nil => rfl
  | cons x _ ih => rw [numOf_cons, numOf_cons, ih]
  | swap x y l => rw [numOf_cons, numOf_cons, numOf_cons, numOf_cons]; lia
  | trans _ _ i j => exact i.trans j
theorem sort_perm (l : List Int) : (sortI l).Perm l := List.mergeSort_perm l _
theorem numOf_sort {W : Int} (l : List Int) : numOf W (sortI l) = numOf W l := numOf_perm (sort_perm l)
theorem numOf_map {W x : Int} (hW : 0 ≤ W) (hx : 0 ≤ x) : ∀ l : List Int, (∀ y ∈ l, 0 ≤ y) → numOf W (l.map fun y => y + x) = numOf W l * 2 ^ (W * x).toNat
  | [], _ => by rw [List.map_nil, numOf_nil, Int.zero_mul]
  | a :: r, h => by
    rw [List.map_cons, numOf_cons, numOf_cons, numOf_map hW hx r (fun y hy => h y (List.mem_cons_of_mem _ hy)), pw_add hW (h a List.mem_cons_self) hx, Int.add_mul]
theorem sum_snoc (ns : List Int) (x : Int) : (ns ++ [x]).sum = ns.sum + x := by
  induction ns with
  | nil => simp
  | cons a r ih => rw [List.cons_append, List.sum_cons, ih, List.sum_cons]; lia
theorem dbl_bd (ns : List Int) : (∀ x ∈ ns, 0 ≤ x) → (∀ k ∈ (dbl ns).1, 0 ≤ k ∧ k ≤ ns.sum) ∧ (∀ k ∈ (dbl ns).2, 0 ≤ k ∧ k ≤ ns.sum) := by
  refine snoc_ind (P := fun ns => (∀ x ∈ ns, 0 ≤ x) → (∀ k ∈ (dbl ns).1, 0 ≤ k ∧ k ≤ ns.sum) ∧ (∀ k ∈ (dbl ns).2, 0 ≤ k ∧ k ≤ ns.sum)) ?_ ?_ ns
  · intro _
    refine ⟨fun k hk => ?_, fun k hk => nomatch hk⟩
    rw [List.mem_singleton.mp (show k ∈ [0] from hk)]
    exact ⟨Int.le_refl _, Int.le_refl _⟩
  · intro ns x ih h
    obtain ⟨h1, h2⟩ := ih fun y hy => h y (List.mem_append_left _ hy)
    have hx := h x (List.mem_append_right _ (List.mem_singleton.mpr rfl))
    have both : ∀ a b : List Int, (∀ k ∈ a, 0 ≤ k ∧ k ≤ ns.sum) → (∀ k ∈ b, 0 ≤ k ∧ k ≤ ns.sum) → ∀ k ∈ a ++ b.map (fun y => y + x), 0 ≤ k ∧ k ≤ (ns ++ [x]).sum := fun a b ha hb k hk => by
      rw [sum_snoc]
      rcases List.mem_append.mp hk with hk | hk
      · have := ha k hk; lia
      · obtain ⟨y, hy, rfl⟩ := List.mem_map.mp hk
        have := hb y hy; lia
    rw [dbl_snoc]
    exact ⟨both _ _ h1 h2, both _ _ h2 h1⟩
theorem num_step {W x : Int} (hW : 0 ≤ W) {ns : List Int} (h : ∀ y ∈ ns ++ [x], 0 ≤ y) :
    numOf W (dbl (ns ++ [x])).1 = numOf W (dbl ns).1 + numOf W (dbl ns).2 * 2 ^ (W * x).toNat ∧ numOf W (dbl (ns ++ [x])).2 = numOf W (dbl ns).2 + numOf W (dbl ns).1 * 2 ^ (W * x).toNat := by
  obtain ⟨h1, h2⟩ := dbl_bd ns fun y hy => h y (List.mem_append_left _ hy)
  have hx := h x (List.mem_append_right _ (List.mem_singleton.mpr rfl))
  rw [dbl_snoc]
  unfold dblStep
  rw [numOf_app, numOf_app, numOf_map hW hx _ fun y hy => (h1 y hy).1, numOf_map hW hx _ fun y hy => (h2 y hy).1]
  exact ⟨rfl, rfl⟩
theorem dbl_num {W : Int} (hW : 0 ≤ W) (ns : List Int) : (∀ x ∈ ns, 0 ≤ x) → numOf (2 * W) (dbl ns).1 - numOf (2 * W) (dbl ns).2 = (numOf W (dbl ns).1 - numOf W (dbl ns).2) * (numOf W (dbl ns).1 + numOf W (dbl ns).2) := by
  refine snoc_ind (P := fun ns => (∀ x ∈ ns, 0 ≤ x) → numOf (2 * W) (dbl ns).1 - numOf (2 * W) (dbl ns).2 = (numOf W (dbl ns).1 - numOf W (dbl ns).2) * (numOf W (dbl ns).1 + numOf W (dbl ns).2)) ?_ ?_ ns
  · intro _
    have e : ∀ V : Int, numOf V (dbl []).1 = 1 ∧ numOf V (dbl []).2 = 0 := fun V => by
      refine ⟨?_, rfl⟩
      show numOf V [0] = 1
      rw [numOf_cons, numOf_nil, Int.mul_zero]
      rfl
    rw [(e _).1, (e _).2, (e _).1, (e _).2]
    rfl
  · intro ns x ih h
    have i := ih fun y hy => h y (List.mem_append_left _ hy)
    have hx := h x (List.mem_append_right _ (List.mem_singleton.mpr rfl))
    obtain ⟨a1, a2⟩ := num_step hW h
    obtain ⟨b1, b2⟩ := num_step (W := 2 * W) (by lia) h
    rw [a1, a2, b1, b2, pw_sq hW hx]
    generalize numOf W (dbl ns).1 = e at *
    generalize numOf W (dbl ns).2 = o at *
    generalize numOf (2 * W) (dbl ns).1 = e2 at *
    generalize numOf (2 * W) (dbl ns).2 = o2 at *
    generalize (2 : Int) ^ (W * x).toNat = z at *
    clear a1 a2 b1 b2 ih h
    grind
theorem num_nn {W : Int} : ∀ l : List Int, 0 ≤ numOf W l
  | [] => Int.le_refl _
  | a :: r => by
    rw [numOf_cons]
    have := num_nn (W := W) r
    have : (0 : Int) < 2 ^ (W * a).toNat := Int.pow_pos (by decide)
    lia
theorem num_lt {W M : Int} (hW : 0 ≤ W) : ∀ l : List Int, (∀ k ∈ l, 0 ≤ k ∧ k ≤ M) → numOf W l ≤ l.length * 2 ^ (W * M).toNat
  | [], _ => by rw [numOf_nil]; exact Int.mul_nonneg (Int.natCast_nonneg _) (Int.le_of_lt (Int.pow_pos (by decide)))
  | a :: r, h => by
    rw [numOf_cons, List.length_cons]
    have h1 := num_lt hW r fun k hk => h k (List.mem_cons_of_mem _ hk)
    have h2 : (2 : Int) ^ (W * a).toNat ≤ 2 ^ (W * M).toNat := by
      refine pw_le ?_
      have h3 := h a List.mem_cons_self
      have h4 := Int.mul_le_mul_of_nonneg_left h3.2 hW
      lia
    push_cast
    rw [Int.add_mul, Int.one_mul]
    lia
theorem prod_big {W : Int} (hW : 8 ≤ W) (ns : List Int) : (∀ x ∈ ns, 1 ≤ x) → 1 ≤ (numOf W (dbl ns).1 - numOf W (dbl ns).2).natAbs ∧ (ns ≠ [] → 255 ≤ (numOf W (dbl ns).1 - numOf W (dbl ns).2).natAbs) := by
  refine snoc_ind (P := fun ns => (∀ x ∈ ns, 1 ≤ x) → 1 ≤ (numOf W (dbl ns).1 - numOf W (dbl ns).2).natAbs ∧ (ns ≠ [] → 255 ≤ (numOf W (dbl ns).1 - numOf W (dbl ns).2).natAbs)) ?_ ?_ ns
  · intro _
    refine ⟨?_, fun h => absurd rfl h⟩
    show 1 ≤ (numOf W [0] - numOf W []).natAbs
    rw [numOf_cons, numOf_nil, Int.mul_zero]
    decide
  · intro ns x ih h
    obtain ⟨i, _⟩ := ih fun y hy => h y (List.mem_append_left _ hy)
    have hx := h x (List.mem_append_right _ (List.mem_singleton.mpr rfl))
    obtain ⟨a1, a2⟩ := num_step (W := W) (ns := ns) (x := x) (by lia) fun y hy => Int.le_trans (by decide) (h y hy)
    have hz : (2 : Int) ^ 8 ≤ 2 ^ (W * x).toNat := by
      refine pw_le ?_
      have := Int.mul_le_mul_of_nonneg_left hx (show 0 ≤ W by lia)
      lia
    have e : numOf W (dbl (ns ++ [x])).1 - numOf W (dbl (ns ++ [x])).2 = (numOf W (dbl ns).1 - numOf W (dbl ns).2) * (1 - 2 ^ (W * x).toNat) := by
      rw [a1, a2]
      generalize numOf W (dbl ns).1 = e at *
      generalize numOf W (dbl ns).2 = o at *
      generalize (2 : Int) ^ (W * x).toNat = z at *
      clear a1 a2 ih h i hz
      grind
    have hz' : 255 ≤ (1 - (2 : Int) ^ (W * x).toNat).natAbs := by
      have : (2 : Int) ^ 8 = 256 := by decide
      lia
    have k : 255 ≤ (numOf W (dbl (ns ++ [x])).1 - numOf W (dbl (ns ++ [x])).2).natAbs := by
      rw [e, Int.natAbs_mul]
      exact Nat.le_trans hz' (Nat.le_mul_of_pos_left _ i)
    exact ⟨by lia, fun _ => k⟩
theorem bits_abs {x : Int} {m : Nat} (h : x.natAbs < 2 ^ m) : Builtin.Int.intBits x ≤ m := by
  unfold Builtin.Int.intBits
  split
  · exact Nat.zero_le _
  · rename_i hx
    have hx' : x.natAbs ≠ 0 := by simpa using hx
    exact (Nat.log2_lt hx').mpr h
theorem bits_ge {x : Int} {m : Nat} (h : 2 ^ m ≤ x.natAbs) : m < Builtin.Int.intBits x := by
  have h1 := natAbs_lt_pow_bits x
  rcases Nat.lt_or_ge m (Builtin.Int.intBits x) with q | q
  · exact q
  · exact absurd (Nat.lt_of_lt_of_le (Nat.lt_of_le_of_lt h h1) (Nat.pow_le_pow_right (by decide) q)) (Nat.lt_irrefl _)
theorem dval_set {n : Int} (hn : 0 ≤ n) : ∀ (t : List Int) (i : Nat), i < t.length → dval n (t.set i (t.getD i 0 + 1)) = dval n t + 2 ^ (n * i).toNat
  | [], i, h => by cases h
  | d :: r, 0, _ => by
    show dval n ((d + 1) :: r) = _
    rw [dval, dval, show n * ((0 : Nat) : Int) = 0 from Int.mul_zero n]
    show _ = _ + (1 : Int)
    lia
  | d :: r, i + 1, h => by
    show dval n (d :: r.set i (r.getD i 0 + 1)) = _
    have e := tn_succ hn i
    rw [dval, dval, dval_set hn r i (Nat.lt_of_succ_lt_succ h), e, Int.pow_add, Int.mul_add, Int.add_assoc]
theorem dval_inc {n i : Int} {t : List Int} (hn : 0 ≤ n) (h0 : 0 ≤ i) (h1 : i < t.length) : dval n (incAt t i) = dval n t + 2 ^ (n * i).toNat := by
  unfold incAt
  rw [dval_set hn t i.toNat (by lia), Int.toNat_of_nonneg h0]
theorem dval_zero {n : Int} : ∀ k : Nat, dval n (List.replicate k 0) = 0
  | 0 => rfl
  | k + 1 => by rw [List.replicate_succ, dval, dval_zero k, Int.mul_zero]; rfl
theorem take_get {ns : List Int} {k : Nat} (h : k < ns.length) : ns.take (k + 1) = ns.take k ++ [ns.getD k 0] := by
  rw [List.take_add_one, List.getD_eq_getElem?_getD, List.getElem?_eq_getElem h]
  rfl
theorem dval_in {n M : Int} {ns t : List Int} {j : Nat} (hn : 0 ≤ n) (hb : ∀ x ∈ ns, 0 ≤ x ∧ x ≤ M) (hj : j < ns.length) (ht : t.length = (2 * M + 1).toNat) : ∀ k, k ≤ ns.length →
    dval n (pairsIn ns j t k) = dval n t + 2 ^ (n * ns.getD j 0).toNat * numOf n (ns.take k)
  | 0, _ => by
    rw [List.take_zero, numOf_nil, Int.mul_zero, Int.add_zero]
    rfl
  | k + 1, hk => by
    have b1 := hb _ (getD_mem hj)
    have b2 := hb _ (getD_mem (show k < ns.length by lia))
    rw [pairsIn_succ, dval_inc hn (by lia) (by rw [pairsIn_len, ht]; lia), dval_in hn hb hj ht k (by lia), take_get (by lia), numOf_app, numOf_cons, numOf_nil, Int.add_zero, pw_add hn b1.1 b2.1, Int.mul_add, Int.add_assoc]
theorem dval_out {n M : Int} {ns : List Int} (hn : 0 ≤ n) (hb : ∀ x ∈ ns, 0 ≤ x ∧ x ≤ M) : ∀ j, j ≤ ns.length →
    2 * dval n (pairsOut ns M j) + numOf (2 * n) (ns.take j) = numOf n (ns.take j) * numOf n (ns.take j)
  | 0, _ => by
    rw [List.take_zero, numOf_nil, numOf_nil]
    show 2 * dval n (List.replicate _ 0) + 0 = 0 * 0
    rw [dval_zero]
    rfl
  | j + 1, hj => by
    have b1 := hb _ (getD_mem (show j < ns.length by lia))
    have i := dval_out hn hb j (by lia)
    rw [pairsOut_succ, dval_in hn hb (by lia) (pairsOut_len ns M j) j (by lia), take_get (by lia), numOf_app, numOf_app, numOf_cons, numOf_cons, numOf_nil, numOf_nil, pw_sq hn b1.1]
    generalize numOf n (ns.take j) = e at *
    generalize numOf (2 * n) (ns.take j) = e2 at *
    generalize (2 : Int) ^ (n * ns.getD j 0).toNat = z at *
    generalize dval n (pairsOut ns M j) = d at *
    clear b1 hb hn
    grind
theorem inc_bd {t : List Int} {i B : Int} (hB : 0 ≤ B) (h : ∀ d ∈ t, 0 ≤ d ∧ d ≤ B) : ∀ d ∈ incAt t i, 0 ≤ d ∧ d ≤ B + 1 := fun d hd => by
  rcases List.mem_or_eq_of_mem_set hd with hd | rfl
  · have := h d hd; lia
  · rcases Nat.lt_or_ge i.toNat t.length with q | q
    · have := h _ (getD_mem q); lia
    · rw [List.getD_eq_getElem?_getD, List.getElem?_eq_none q]
      show 0 ≤ (0 : Int) + 1 ∧ (0 : Int) + 1 ≤ B + 1
      lia
theorem in_bd {ns t : List Int} {j : Nat} {B : Int} (hB : 0 ≤ B) (h : ∀ d ∈ t, 0 ≤ d ∧ d ≤ B) : ∀ k : Nat, ∀ d ∈ pairsIn ns j t k, 0 ≤ d ∧ d ≤ B + k
  | 0 => fun d hd => by have := h d hd; simpa using this
  | k + 1 => fun d hd => by
    rw [pairsIn_succ] at hd
    have := inc_bd (B := B + k) (by lia) (in_bd hB h k) d hd
    lia
theorem out_bd {ns : List Int} {M : Int} : ∀ j : Nat, ∀ d ∈ pairsOut ns M j, 0 ≤ d ∧ d ≤ (j : Int) * j
  | 0 => fun d hd => by
    have : d ∈ List.replicate (2 * M + 1).toNat (0 : Int) := hd
    rw [(List.mem_replicate.mp this).2]
    decide
  | j + 1 => fun d hd => by
    rw [pairsOut_succ] at hd
    have h0 : (0 : Int) ≤ (j : Int) * j := Int.mul_nonneg (Int.natCast_nonneg _) (Int.natCast_nonneg _)
    have := in_bd h0 (out_bd j) j d hd
    have e : ((j + 1 : Nat) : Int) * ((j + 1 : Nat) : Int) = (j : Int) * j + j + j + 1 := by push_cast; grind
    lia
theorem dg_dval {n : Int} : ∀ l : List Int, (∀ d ∈ l, 0 ≤ d ∧ d < 2 ^ n.toNat) → dg n (dval n l) l.length = l
  | [], _ => rfl
  | d :: r, h => by
    have pp : (0 : Int) < 2 ^ n.toNat := Int.pow_pos (by decide)
    obtain ⟨h3, h4⟩ := h d List.mem_cons_self
    rw [dval, List.length_cons, dg, Int.add_mul_emod_self_left, Int.emod_eq_of_lt h3 h4, Int.add_mul_ediv_left _ _ (Int.ne_of_gt pp), Int.ediv_eq_zero_of_lt h3 h4, Int.zero_add, dg_dval r fun x hx => h x (List.mem_cons_of_mem _ hx)]
theorem digits_trim {n : Int} (hn : 1 ≤ n) (l : List Int) : (∀ d ∈ l, 0 ≤ d ∧ d < 2 ^ n.toNat) → digitsOf n (dval n l) = trim l := by
  refine snoc_ind (P := fun l => (∀ d ∈ l, 0 ≤ d ∧ d < 2 ^ n.toNat) → digitsOf n (dval n l) = trim l) ?_ ?_ l
  · intro _
    show digitsOf n 0 = []
    refine List.eq_nil_of_length_eq_zero ?_
    rw [digits_len hn (Int.le_refl _)]
    rw [Int.fdiv_eq_ediv_of_nonneg _ (by lia), show ((Builtin.Int.intBits 0 : Nat) : Int) = 0 from rfl, Int.ediv_eq_zero_of_lt (by lia) (by lia)]
    rfl
  · intro xs x ih h
    have hxs : ∀ d ∈ xs, 0 ≤ d ∧ d < 2 ^ n.toNat := fun d hd => h d (List.mem_append_left _ hd)
    obtain ⟨x0, x1⟩ := h x (List.mem_append_right _ (List.mem_singleton.mpr rfl))
    have e : dval n (xs ++ [x]) = dval n xs + 2 ^ (n * xs.length).toNat * x := by
      rw [dval_app (by lia), dval, dval, Int.mul_zero, Int.add_zero]
    by_cases hx : x = 0
    · subst hx
      rw [e, Int.mul_zero, Int.add_zero, trim_z]
      exact ih hxs
    · rw [trim_nz _ hx]
      obtain ⟨v0, v1⟩ := dval_bd (n := n) (by lia) (xs ++ [x]) h
      obtain ⟨u0, _⟩ := dval_bd (n := n) (by lia) xs hxs
      have pp : (0 : Int) < 2 ^ (n * xs.length).toNat := Int.pow_pos (by decide)
      have lo : (2 : Int) ^ (n * xs.length).toNat ≤ dval n (xs ++ [x]) := by
        have := Int.mul_le_mul_of_nonneg_left (show 1 ≤ x by lia) (Int.le_of_lt pp)
        rw [e]; lia
      have b1 := intBits_le v0 v1
      have b2 : (n * xs.length).toNat < Builtin.Int.intBits (dval n (xs ++ [x])) := by
        refine bits_ge ?_
        have e1 : (((dval n (xs ++ [x])).natAbs : Nat) : Int) = dval n (xs ++ [x]) := Int.natAbs_of_nonneg v0
        have e2 : ((2 ^ (n * xs.length).toNat : Nat) : Int) ≤ (((dval n (xs ++ [x])).natAbs : Nat) : Int) := by rw [e1]; push_cast; exact lo
        exact Int.ofNat_le.mp e2
      have m0 := Int.mul_nonneg (show 0 ≤ n by lia) (Int.natCast_nonneg xs.length)
      rw [List.length_append, List.length_singleton] at b1
      have m1 : n * ((xs.length + 1 : Nat) : Int) = n * xs.length + n := by push_cast; rw [Int.mul_add, Int.mul_one]
      have hq : (((Builtin.Int.intBits (dval n (xs ++ [x])) : Int) + n - 1).fdiv n).toNat = (xs ++ [x]).length := by
        rw [Int.fdiv_eq_ediv_of_nonneg _ (by lia), List.length_append, List.length_singleton]
        generalize Builtin.Int.intBits (dval n (xs ++ [x])) = b at *
        have g1 : ((xs.length : Nat) : Int) + 1 ≤ ((b : Int) + n - 1) / n := by
          refine (Int.le_ediv_iff_mul_le (by lia)).mpr ?_
          rw [Int.add_mul, Int.one_mul, Int.mul_comm]
          lia
        have g2 : ((b : Int) + n - 1) / n < ((xs.length : Nat) : Int) + 2 := by
          refine (Int.ediv_lt_iff_lt_mul (by lia)).mpr ?_
          rw [Int.add_mul, Int.mul_comm]
          lia
        lia
      rw [digits_dg hn v0, hq, dg_dval _ h]
theorem half_sq {X a b : Int} (h : 2 * X + b = a * a) : (a * a - b).fdiv 2 = X := by
  rw [Int.fdiv_eq_ediv_of_nonneg _ (by decide)]
  lia
theorem pl_gen {n M : Int} {A B : List Int} (hn : 7 ≤ n) (hn2 : n ≤ 16) (hB : ∀ x ∈ B, 0 ≤ x ∧ x ≤ M) (hM0 : 0 ≤ M) (hM : M ≤ 28) (hl : B.length ≤ 8)
    (hAB : numOf (2 * n) A - numOf (2 * n) B = (numOf n A - numOf n B) * (numOf n A + numOf n B)) :
    0 ≤ (numOf n A * numOf n A - numOf (2 * n) A).fdiv 2 ∧ Builtin.Int.intBits ((numOf n A * numOf n A - numOf (2 * n) A).fdiv 2) ≤ 4000 ∧
    ((Builtin.Int.intBits ((numOf n A * numOf n A - numOf (2 * n) A).fdiv 2) : Int) + n - 1).fdiv n ≤ 250 ∧
    digitsOf n ((numOf n A * numOf n A - numOf (2 * n) A).fdiv 2) = trim (pairsOut B M B.length) := by
  have h1 := dval_out (n := n) (by lia) hB B.length (Nat.le_refl _)
  rw [List.take_length] at h1
  have e : (numOf n A * numOf n A - numOf (2 * n) A).fdiv 2 = dval n (pairsOut B M B.length) := by
    refine half_sq ?_
    generalize numOf n A = a at *
    generalize numOf n B = b at *
    generalize numOf (2 * n) A = a2 at *
    generalize numOf (2 * n) B = b2 at *
    generalize dval n (pairsOut B M B.length) = d at *
    clear hB hn hn2 hM hM0 hl
    grind
  have hd : ∀ d ∈ pairsOut B M B.length, 0 ≤ d ∧ d < 2 ^ n.toNat := fun d hd => by
    have g := out_bd B.length d hd
    have g2 : ((B.length : Int)) * B.length ≤ 8 * 8 := Int.mul_le_mul (by lia) (by lia) (by lia) (by decide)
    have g3 : (2 : Int) ^ 7 ≤ 2 ^ n.toNat := pw_le (by lia)
    have g4 : (2 : Int) ^ 7 = 128 := by decide
    lia
  obtain ⟨v0, v1⟩ := dval_bd (n := n) (by lia) _ hd
  have hb := intBits_le v0 v1
  rw [pairsOut_len] at hb
  have m : n * ((2 * M + 1).toNat : Int) ≤ n * 57 := Int.mul_le_mul_of_nonneg_left (by lia) (by lia)
  rw [e]
  refine ⟨v0, by lia, ?_, digits_trim (by lia) _ hd⟩
  rw [Int.fdiv_eq_ediv_of_nonneg _ (by lia)]
  refine Int.le_of_lt_add_one ((Int.ediv_lt_iff_lt_mul (by lia)).mpr ?_)
  lia
theorem sort_mem {l : List Int} {P : Int → Prop} (h : ∀ x ∈ l, P x) : ∀ x ∈ sortI l, P x := fun x hx => h x ((sort_perm l).mem_iff.mp hx)
theorem sort_len (l : List Int) : (sortI l).length = l.length := (sort_perm l).length_eq
theorem dbl_half {ns : List Int} {x : Int} : (dbl (ns ++ [x])).1.length = 2 ^ ns.length ∧ (dbl (ns ++ [x])).2.length = 2 ^ ns.length := by
  have h := dbl_len ns
  rw [dbl_snoc]
  unfold dblStep
  rw [List.length_append, List.length_append, List.length_map, List.length_map]
  lia
theorem nil_or_snoc (td : List Int) (h : 1 ≤ td.length) : ∃ ns x, td = ns ++ [x] := by
  rcases List.eq_nil_or_concat td with e | ⟨xs, x, e⟩
  · rw [e] at h; cases h
  · exact ⟨xs, x, by rw [e, List.concat_eq_append]⟩
theorem sum_bd : ∀ td : List Int, (∀ x ∈ td, 1 ≤ x ∧ x ≤ 7) → 0 ≤ td.sum ∧ td.sum ≤ 7 * td.length
  | [], _ => by decide
  | a :: r, h => by
    have h1 := sum_bd r fun x hx => h x (List.mem_cons_of_mem _ hx)
    have h2 := h a List.mem_cons_self
    rw [List.sum_cons, List.length_cons]
    lia
theorem pl_bd {td : List Int} (h : td.length ≤ 4) (h1 : 1 ≤ td.length) (hb : ∀ x ∈ td, 1 ≤ x ∧ x ≤ 7) : (sortI (dbl td).1).length ≤ 8 ∧ (sortI (dbl td).2).length ≤ 8 ∧ (∀ k ∈ sortI (dbl td).1, 0 ≤ k ∧ k ≤ td.sum) ∧ (∀ k ∈ sortI (dbl td).2, 0 ≤ k ∧ k ≤ td.sum) ∧ 0 ≤ td.sum ∧ td.sum ≤ 28 := by
  obtain ⟨b1, b2⟩ := dbl_bd td fun x hx => by have := hb x hx; lia
  obtain ⟨s1, s2⟩ := sum_bd td hb
  have hh : (dbl td).1.length ≤ 8 ∧ (dbl td).2.length ≤ 8 := by
    obtain ⟨ns, x, rfl⟩ := nil_or_snoc td h1
    obtain ⟨e1, e2⟩ := dbl_half (ns := ns) (x := x)
    rw [e1, e2]
    rw [List.length_append, List.length_singleton] at h
    have : 2 ^ ns.length ≤ 2 ^ 3 := Nat.pow_le_pow_right (by decide) (by lia)
    lia
  exact ⟨by rw [sort_len]; exact hh.1, by rw [sort_len]; exact hh.2, sort_mem b1, sort_mem b2, s1, by lia⟩
theorem num_fits {W M : Int} {l : List Int} (hW : 0 ≤ W) (hW2 : W ≤ 16) (hl : l.length ≤ 8) (hM0 : 0 ≤ M) (hM : M ≤ 28) (hb : ∀ k ∈ l, 0 ≤ k ∧ k ≤ M) : 0 ≤ numOf W l ∧ (numOf W l).natAbs < 2 ^ 452 := by
  have h0 := num_nn (W := W) l
  have h1 := num_lt hW l hb
  have h2 : (2 : Int) ^ (W * M).toNat ≤ 2 ^ 448 := by
    refine pw_le ?_
    have := Int.mul_le_mul hW2 hM hM0 (by decide)
    lia
  have h3 : (l.length : Int) * 2 ^ (W * M).toNat ≤ 8 * 2 ^ 448 := Int.mul_le_mul (by lia) h2 (Int.le_of_lt (Int.pow_pos (by decide))) (by decide)
  have h4 : (8 : Int) * 2 ^ 448 < 2 ^ 452 := by decide +kernel
  have h5 : ((2 ^ 452 : Nat) : Int) = 2 ^ 452 := Int.natCast_pow 2 452
  refine ⟨h0, ?_⟩
  have : (((numOf W l).natAbs : Nat) : Int) < ((2 ^ 452 : Nat) : Int) := by rw [Int.natAbs_of_nonneg h0, h5]; exact Int.lt_of_le_of_lt (Int.le_trans h1 h3) h4
  exact Int.ofNat_lt.mp this
theorem diff_fits {a b : Int} {m : Nat} (ha : 0 ≤ a) (hb : 0 ≤ b) (h1 : a.natAbs < m) (h2 : b.natAbs < m) : (a - b).natAbs < m := by lia
theorem pl_mul {td : List Int} (h : td.length ≤ 4) (h1 : 1 ≤ td.length) (hb : ∀ x ∈ td, 1 ≤ x ∧ x ≤ 7) : Builtin.Int.intBits (numOf 8 (sortI (dbl td).1)) ≤ 2 ^ 20 ∧ Builtin.Int.intBits (numOf 16 (sortI (dbl td).2)) ≤ 2 ^ 20 := by
  obtain ⟨l1, l2, b1, b2, m0, m1⟩ := pl_bd h h1 hb
  exact ⟨Nat.le_trans (bits_abs (num_fits (by decide) (by decide) l1 m0 m1 b1).2) (by decide), Nat.le_trans (bits_abs (num_fits (by decide) (by decide) l2 m0 m1 b2).2) (by decide)⟩
theorem pl_div {td : List Int} (h : td.length ≤ 4) (h1 : 1 ≤ td.length) (hb : ∀ x ∈ td, 1 ≤ x ∧ x ≤ 7) :
    numOf 8 (sortI (dbl td).1) - numOf 8 (sortI (dbl td).2) ≠ 0 ∧ 0 ≤ numOf 8 (sortI (dbl td).1) + numOf 8 (sortI (dbl td).2) ∧
    numOf 16 (sortI (dbl td).1) - numOf 16 (sortI (dbl td).2) = (numOf 8 (sortI (dbl td).1) - numOf 8 (sortI (dbl td).2)) * (numOf 8 (sortI (dbl td).1) + numOf 8 (sortI (dbl td).2)) ∧
    Builtin.Int.intBits (numOf 16 (sortI (dbl td).1) - numOf 16 (sortI (dbl td).2)) ≤ 4000 ∧ Builtin.Int.intBits (numOf 8 (sortI (dbl td).1) - numOf 8 (sortI (dbl td).2)) ≤ 4000 ∧
    ((Builtin.Int.intBits (numOf 16 (sortI (dbl td).1) - numOf 16 (sortI (dbl td).2)) : Int) + (Builtin.Int.intBits (numOf 8 (sortI (dbl td).1) - numOf 8 (sortI (dbl td).2)) : Int) - 1).fdiv (Builtin.Int.intBits (numOf 8 (sortI (dbl td).1) - numOf 8 (sortI (dbl td).2)) : Int) ≤ 250 := by
  obtain ⟨l1, l2, b1, b2, m0, m1⟩ := pl_bd h h1 hb
  obtain ⟨p1, q1⟩ := num_fits (W := 8) (by decide) (by decide) l1 m0 m1 b1
  obtain ⟨p2, q2⟩ := num_fits (W := 8) (by decide) (by decide) l2 m0 m1 b2
  obtain ⟨p3, q3⟩ := num_fits (W := 16) (by decide) (by decide) l1 m0 m1 b1
  obtain ⟨p4, q4⟩ := num_fits (W := 16) (by decide) (by decide) l2 m0 m1 b2
  have k8 := bits_abs (diff_fits p1 p2 q1 q2)
  have k16 := bits_abs (diff_fits p3 p4 q3 q4)
  have big : 255 ≤ (numOf 8 (sortI (dbl td).1) - numOf 8 (sortI (dbl td).2)).natAbs := by
    rw [numOf_sort, numOf_sort]
    exact (prod_big (by decide) td fun x hx => (hb x hx).1).2 fun e => by rw [e] at h1; cases h1
  have g := bits_ge (m := 7) (Nat.le_trans (by decide) big)
  have key : numOf 16 (sortI (dbl td).1) - numOf 16 (sortI (dbl td).2) = (numOf 8 (sortI (dbl td).1) - numOf 8 (sortI (dbl td).2)) * (numOf 8 (sortI (dbl td).1) + numOf 8 (sortI (dbl td).2)) := by
    rw [numOf_sort, numOf_sort, numOf_sort, numOf_sort]
    exact dbl_num (W := 8) (by decide) td fun x hx => by have := hb x hx; lia
  refine ⟨fun e => ?_, Int.add_nonneg p1 p2, key, by lia, by lia, ?_⟩
  · rw [e] at big; revert big; decide
  · clear key big p1 p2 p3 p4 q1 q2 q3 q4
    generalize Builtin.Int.intBits (numOf 16 (sortI (dbl td).1) - numOf 16 (sortI (dbl td).2)) = a at *
    generalize Builtin.Int.intBits (numOf 8 (sortI (dbl td).1) - numOf 8 (sortI (dbl td).2)) = b at *
    rw [Int.fdiv_eq_ediv_of_nonneg _ (by lia)]
    refine Int.le_of_lt_add_one ((Int.ediv_lt_iff_lt_mul (by lia)).mpr ?_)
    lia
theorem pl_even {td : List Int} (h : td.length ≤ 4) (h1 : 1 ≤ td.length) (hb : ∀ x ∈ td, 1 ≤ x ∧ x ≤ 7) :
    0 ≤ (numOf 8 (sortI (dbl td).1) * numOf 8 (sortI (dbl td).1) - numOf 16 (sortI (dbl td).1)).fdiv 2 ∧ Builtin.Int.intBits ((numOf 8 (sortI (dbl td).1) * numOf 8 (sortI (dbl td).1) - numOf 16 (sortI (dbl td).1)).fdiv 2) ≤ 4000 ∧
    ((Builtin.Int.intBits ((numOf 8 (sortI (dbl td).1) * numOf 8 (sortI (dbl td).1) - numOf 16 (sortI (dbl td).1)).fdiv 2) : Int) + 8 - 1).fdiv 8 ≤ 250 ∧
    digitsOf 8 ((numOf 8 (sortI (dbl td).1) * numOf 8 (sortI (dbl td).1) - numOf 16 (sortI (dbl td).1)).fdiv 2) = trim (pairsOut (sortI (dbl td).2) td.sum (sortI (dbl td).2).length) := by
  obtain ⟨l1, l2, b1, b2, m0, m1⟩ := pl_bd h h1 hb
  refine pl_gen (n := 8) (by decide) (by decide) b2 m0 m1 l2 ?_
  rw [numOf_sort, numOf_sort, numOf_sort, numOf_sort]
  exact dbl_num (W := 8) (by decide) td fun x hx => by have := hb x hx; lia
theorem turn_sign {a b a2 b2 : Int} (h : a2 - b2 = (a - b) * (a + b)) : b2 - a2 = (b - a) * (b + a) := by grind
theorem pl_odd {td : List Int} (h : td.length ≤ 4) (h1 : 1 ≤ td.length) (hb : ∀ x ∈ td, 1 ≤ x ∧ x ≤ 7) :
    0 ≤ (numOf 16 (sortI (dbl td).2) * numOf 16 (sortI (dbl td).2) - numOf 32 (sortI (dbl td).2)).fdiv 2 ∧ Builtin.Int.intBits ((numOf 16 (sortI (dbl td).2) * numOf 16 (sortI (dbl td).2) - numOf 32 (sortI (dbl td).2)).fdiv 2) ≤ 4000 ∧
    ((Builtin.Int.intBits ((numOf 16 (sortI (dbl td).2) * numOf 16 (sortI (dbl td).2) - numOf 32 (sortI (dbl td).2)).fdiv 2) : Int) + 16 - 1).fdiv 16 ≤ 250 ∧
    digitsOf 16 ((numOf 16 (sortI (dbl td).2) * numOf 16 (sortI (dbl td).2) - numOf 32 (sortI (dbl td).2)).fdiv 2) = trim (pairsOut (sortI (dbl td).1) td.sum (sortI (dbl td).1).length) := by
  obtain ⟨l1, l2, b1, b2, m0, m1⟩ := pl_bd h h1 hb
  refine pl_gen (n := 16) (by decide) (by decide) b1 m0 m1 l1 ?_
  rw [numOf_sort, numOf_sort, numOf_sort, numOf_sort]
  exact turn_sign (dbl_num (W := 16) (by decide) td fun x hx => by have := hb x hx; lia)
theorem filt_low {n g : Nat} : (List.range n).filter (fun k => (2 ^ n + g).testBit k) = (List.range n).filter fun k => g.testBit k :=
  List.filter_congr fun k hk => Nat.testBit_two_pow_add_gt (List.mem_range.mp hk) g
theorem filt_lo1 {n f : Nat} (hf : f < 2 ^ n) : (List.range (n + 1)).filter (fun k => f.testBit k) = (List.range n).filter fun k => f.testBit k := by
  rw [List.range_succ, List.filter_append]
  simp [Nat.testBit_lt_two_pow hf]
theorem filt_hi1 {n g : Nat} (hg : g < 2 ^ n) : (List.range (n + 1)).filter (fun k => (2 ^ n + g).testBit k) = ((List.range n).filter fun k => g.testBit k) ++ [n] := by
  rw [List.range_succ, List.filter_append, filt_low]
  simp [Nat.testBit_two_pow_add_eq, Nat.testBit_lt_two_pow hg]
theorem pop_lo {n f : Nat} (hf : f < 2 ^ n) : popOdd (n + 1) f = popOdd n f := by unfold popOdd; rw [filt_lo1 hf]
theorem pop_hi {n g : Nat} (hg : g < 2 ^ n) : popOdd (n + 1) (2 ^ n + g) = !popOdd n g := by
  unfold popOdd
  rw [filt_hi1 hg, List.length_append, List.length_singleton]
  generalize ((List.range n).filter fun k => g.testBit k).length = a
  rcases Nat.mod_two_eq_zero_or_one a with h | h
  · rw [Nat.add_mod, h]; rfl
  · rw [Nat.add_mod, h]; rfl
theorem map_low (ns : List Int) (x : Int) (p : Nat → Bool) : (((List.range ns.length).filter p).map fun k => (ns ++ [x]).getD k 0) = ((List.range ns.length).filter p).map fun k => ns.getD k 0 :=
  List.map_congr_left fun _ hk => by
    have : _ < ns.length := List.mem_range.mp (List.mem_filter.mp hk).1
    rw [List.getD_eq_getElem?_getD, List.getD_eq_getElem?_getD, List.getElem?_append_left this]
theorem pick_lo {ns : List Int} {x : Int} {f : Nat} (hf : f < 2 ^ ns.length) : pickSum (ns ++ [x]) f = pickSum ns f := by
  unfold pickSum
  rw [List.length_append, List.length_singleton, filt_lo1 hf, map_low]
theorem pick_hi {ns : List Int} {x : Int} {g : Nat} (hg : g < 2 ^ ns.length) : pickSum (ns ++ [x]) (2 ^ ns.length + g) = pickSum ns g + x := by
  unfold pickSum
  rw [List.length_append, List.length_singleton, filt_hi1 hg, List.map_append, map_low, List.map_cons, List.map_nil, sum_snoc]
  congr 1
  rw [List.getD_eq_getElem?_getD, List.getElem?_append_right (Nat.le_refl _), Nat.sub_self]
  rfl
theorem range_two (n : Nat) : List.range (2 ^ (n + 1)) = List.range (2 ^ n) ++ (List.range (2 ^ n)).map (2 ^ n + ·) := by
  rw [← List.range_add]
  congr 1
  rw [Nat.pow_succ]
  lia
theorem choose_snoc (ns : List Int) (x : Int) (b : Bool) : ((List.range (2 ^ (ns ++ [x]).length)).filter fun f => popOdd (ns ++ [x]).length f == b).map (pickSum (ns ++ [x])) =
    ((List.range (2 ^ ns.length)).filter fun f => popOdd ns.length f == b).map (pickSum ns) ++ (((List.range (2 ^ ns.length)).filter fun f => popOdd ns.length f == !b).map (pickSum ns)).map fun y => y + x := by
  have hl : (ns ++ [x]).length = ns.length + 1 := by rw [List.length_append, List.length_singleton]
  rw [hl, range_two, List.filter_append, List.map_append]
  congr 1
  · rw [List.filter_congr (q := fun f => popOdd ns.length f == b) fun f hf => by rw [pop_lo (List.mem_range.mp hf)]]
    exact List.map_congr_left fun f hf => pick_lo (List.mem_range.mp (List.mem_filter.mp hf).1)
  · rw [List.filter_map, List.map_map, List.map_map]
    rw [List.filter_congr (q := fun f => popOdd ns.length f == !b) fun f hf => by
      show (popOdd (ns.length + 1) (2 ^ ns.length + f) == b) = _
      rw [pop_hi (List.mem_range.mp hf)]
      cases popOdd ns.length f <;> cases b <;> rfl]
    exact List.map_congr_left fun f hf => pick_hi (List.mem_range.mp (List.mem_filter.mp hf).1)
theorem evens_is (ns : List Int) (i : Nat) : evens ns i = ((List.range i).filter fun f => popOdd ns.length f == false).map (pickSum ns) := by
  unfold evens
  congr 2
  funext f
  cases popOdd ns.length f <;> rfl
theorem odds_is (ns : List Int) (i : Nat) : odds ns i = ((List.range i).filter fun f => popOdd ns.length f == true).map (pickSum ns) := by
  unfold odds
  congr 2
  funext f
  cases popOdd ns.length f <;> rfl
theorem ev_eq (td : List Int) : evens td (2 ^ td.length) = (dbl td).1 ∧ odds td (2 ^ td.length) = (dbl td).2 := by
  refine snoc_ind (P := fun td => evens td (2 ^ td.length) = (dbl td).1 ∧ odds td (2 ^ td.length) = (dbl td).2) ⟨rfl, rfl⟩ ?_ td
  intro ns x ih
  rw [dbl_snoc]
  unfold dblStep
  rw [← ih.1, ← ih.2, evens_is, odds_is, evens_is, odds_is]
  exact ⟨choose_snoc ns x false, choose_snoc ns x true⟩
theorem ev_dbl (td : List Int) : sortI (evens td (2 ^ td.length)) = sortI (dbl td).1 ∧ sortI (odds td (2 ^ td.length)) = sortI (dbl td).2 := by
  rw [(ev_eq td).1, (ev_eq td).2]
  exact ⟨rfl, rfl⟩
end
section
theorem reg_body : True := by
  w_top off
  k_with_none
  (k_with "exec While" => (k_here; refine halt ?_))
  (k_with "exec While Compare cons nil" => (k_here; refine halt ?_))
  (k_with "pyIter ref" => (k_here; refine halt ?_))
  (k_with "exec FunctionDef" => (k_here; refine halt ?_))
  (k_with "call builtin:list.reverse" => (k_here; refine halt ?_))
  (k_with "call builtin:dict.get" => (k_here; refine halt ?_))
  (k_with "call builtin:iter" => (k_here; refine halt ?_))
  (k_with "call builtin:next" => (k_here; refine halt ?_))
  (k_with "exec For" => (k_here; refine forT (by assumption) ?_ (fun _ _ => rfl) (fun _ => rfl) PassesOwn.never))
  (k_with "exec For Name Call cons nil" => (k_here; refine forT (by assumption) ?_ (fun _ _ => rfl) (fun _ => rfl) PassesOwn.never))
  (k_with "exec For Name Name cons nil" => (k_here; refine forT (by assumption) ?_ (fun _ _ => rfl) (fun _ => rfl) PassesOwn.never))
  (k_with "eval Name" => (k_here; k_dflt (refine nameX_L (by assumption) (by first | rfl | assumption) ?_; k_whole)))
  (k_with "execs cons" => ((with_reducible refine wpAny_execs_cons ?_); try dsimp only))
  (k_with "execs nil" => (with_reducible refine wpAny_execs_nil ?_))
  (k_with "storeName" => (k_here; k_dflt (first | (refine storeX_L (by assumption) (by assumption) ?_; k_whole; intro _ _ _; (try k_sweep)) | (refine storeX_C (by k_asm) (by k_asm) (by rfl) (by k_updF) (by k_asm) ?_; k_whole; intro _ _ _ N' d'; (try dsimp only at N'); revert N' d'; intro _ _; (try k_sweep)))))
  (k_with "assign Name" => (k_here; refine wpAny_assign_Name ?_))
  (k_with "binaryOp LShift int int" => (k_here; refine lshift_int (by assumption) (by assumption) ?_))
  (k_with "exec Assign cons ListComp" => (k_here; refine halt ?_))
  (k_with "subscriptTail Name Slice ref ref" => (k_here; refine halt ?_))
  (k_with "eval IfExp" => (k_here; refine halt ?_))
  (k_with "compareOp NotEq ref ref" => (k_here; refine halt ?_))
  (k_with "compareOp Eq ref ref" => (k_here; refine halt ?_))
  (k_with "binaryOp Mult int int" => (k_here; refine halt ?_))
  (k_with "call ref" => (k_here; refine halt ?_))
  (k_with "subscriptTail" => (k_here; refine halt ?_))
  (k_with "last subscriptTail" => (k_here; refine halt ?_))
  exact True.intro
local macro_rules | `(tactic| kn_posts) => `(tactic| refine end_post $(Lean.mkIdent `hT9) (fun _ => rfl) (by with_unfolding_all rfl) ?_)
theorem pick_plain {vs : List Value} (lo hi : Option Int) : slicePick vs.toArray lo hi none = ((vs.drop (lo.elim 0 (clipAt vs.length))).take (hi.elim vs.length (clipAt vs.length) - lo.elim 0 (clipAt vs.length))).toArray := by
  have e := sliceBounds_plain lo hi vs.toArray.size
  rw [kmk_pick_nat _ e]
  simp
def slI (ns : List Int) (lo hi : Option Int) : List Int := (ns.drop (lo.elim 0 (clipAt ns.length))).take (hi.elim ns.length (clipAt ns.length) - lo.elim 0 (clipAt ns.length))
theorem ints_drop {vs : List Value} {ns : List Int} (hi : IntsAre vs ns) : ∀ a, IntsAre (vs.drop a) (ns.drop a) := by
  induction hi with
  | nil => intro a; simp; exact .nil
  | cons n t h ih =>
    intro a
    cases a with
    | zero => exact .cons n t h
    | succ a => simpa using ih a
theorem ints_take {vs : List Value} {ns : List Int} (hi : IntsAre vs ns) : ∀ a, IntsAre (vs.take a) (ns.take a) := by
  induction hi with
  | nil => intro a; simp; exact .nil
  | cons n t h ih =>
    intro a
    cases a with
    | zero => exact .nil
    | succ a => simpa using IntsAre.cons n t (ih a)
theorem pick_ints {vs : List Value} {ns : List Int} (h : IntsAre vs ns) (lo hi : Option Int) : ∃ us, slicePick vs.toArray lo hi none = us.toArray ∧ IntsAre us (slI ns lo hi) := by
  refine ⟨_, pick_plain lo hi, ?_⟩
  unfold slI
  rw [h.length]
  exact ints_take (ints_drop h _) _
theorem slice_ints {prog : Program} {w : World} {A : Around} {E : Value → Shared → Prop} {s : Shared} {h₀ : Heap} {L l : Addr} {m : Str → Option Value} {news : List (Addr × Obj)} {value slice : PySem.Expr} {vs : List Value} {ns : List Int} {vl vu : Value} {lo hi : Option Int} {Q : Value → Shared → Prop}
    (F : Fr h₀ L s.heap m) (N : News h₀ L s.heap news) (hl : s.heap.IsList l vs.toArray) (hns : IntsAre vs ns) (pl : IsPart vl lo) (pu : IsPart vu hi)
    (h : ∀ h' us, Fr h₀ L h' m → News h₀ L h' ((s.heap.objs.size + 1, W.listOf us.toArray 0) :: news) → IntsAre us (slI ns lo hi) → Q (.ref (s.heap.objs.size + 1)) { s with heap := h' })
    (hsz : ns.length ≤ 1000)
    (hs : subscripted slice false (.ref l) (.ref s.heap.objs.size) = operate [.ref s.heap.objs.size, .ref l] (getItem (.ref l) (.ref s.heap.objs.size)) := by with_unfolding_all rfl) :
    wpAny (model prog w) A (subscriptTail value slice (.ref l) (.ref s.heap.objs.size)) Q E { s with heap := s.heap.push { cls := .type "slice", data := .fields #[vl, vu, .none] } } := by
  refine kba_turn (value' := PySem.Expr.Name (PySem.Str.ofString "_") ⟨0, 0, 0, 0⟩) (fun _ => rfl) ?_
  refine slice_list F N hl pl pu (fun h' F' N' => ?_) (hs := hs) (hsz := by rw [sizeLine_eq, List.size_toArray, hns.length]; exact Nat.le_trans hsz (by decide))
  obtain ⟨us, e, i⟩ := pick_ints hns lo hi
  rw [e] at N'
  exact h h' us F' N' i
theorem clip_nn (n k : Nat) : clipAt n (k : Int) = min k n := by
  unfold clipAt
  rw [if_neg (Int.not_lt.mpr (Int.natCast_nonneg k)), Int.max_eq_right (Int.le_min.mpr ⟨Int.natCast_nonneg k, Int.natCast_nonneg n⟩)]
  lia
theorem slI_up (ns : List Int) (k : Nat) : slI ns none (some (k : Int)) = ns.take k := by
  show (ns.drop 0).take (clipAt ns.length (k : Int) - 0) = _
  rw [clip_nn, List.drop_zero, Nat.sub_zero, List.take_eq_take_iff]
  rw [Nat.min_assoc, Nat.min_self]
theorem slI_from (ns : List Int) (k : Nat) : slI ns (some (k : Int)) none = ns.drop k := by
  show (ns.drop (clipAt ns.length (k : Int))).take (ns.length - clipAt ns.length (k : Int)) = _
  rw [clip_nn, ← List.length_drop, List.take_length]
  rcases Nat.le_total k ns.length with h | h
  · rw [Nat.min_eq_left h]
  · rw [Nat.min_eq_right h, List.drop_eq_nil_of_le h, List.drop_eq_nil_of_le (Nat.le_refl _)]
theorem fmod7 (k : Int) : 1 ≤ 1 + k.fmod 7 ∧ 1 + k.fmod 7 ≤ 7 := by
  rw [Int.fmod_eq_emod_of_nonneg _ (by decide)]
  exact ⟨Int.add_le_add_left (Int.emod_nonneg k (by decide)) 1, Int.add_comm 1 _ ▸ Int.emod_lt_of_pos k (by decide)⟩
theorem sizes_of {us : List Value} {nm : List Int} {z : Int} (h : IntsAre us ((slI nm none (some z)).map fun k => 1 + k.fmod 7)) (h5 : nm.length = 5) (z1 : 1 ≤ z) (z3 : z ≤ 3) : ∃ sz, IntsAre us sz ∧ 1 ≤ sz.length ∧ sz.length ≤ 3 ∧ ∀ x ∈ sz, 1 ≤ x ∧ x ≤ 7 := by
  obtain ⟨k, rfl⟩ := Int.eq_ofNat_of_zero_le (Int.le_trans (by decide) z1)
  have k1 : 1 ≤ k := Int.ofNat_le.mp z1
  have k3 : k ≤ 3 := Int.ofNat_le.mp z3
  have e1 : ((slI nm none (some (k : Int))).map fun k => 1 + k.fmod 7).length = k := by
    rw [List.length_map, slI_up, List.length_take, h5]
    exact Nat.min_eq_left (Nat.le_trans k3 (by decide))
  refine ⟨_, h, by rw [e1]; exact k1, by rw [e1]; exact k3, fun x hx => ?_⟩
  obtain ⟨k, _, rfl⟩ := List.mem_map.mp hx
  exact fmod7 k
inductive IntList (h₀ : Heap) (L : Addr) (m : Str → Option Value) (news : List (Addr × Obj)) (ys : List Int) (s : Shared) (v : Value) (s' : Shared) : Prop
  | mk (d : Nat) (h' : Heap) (tk' kd : Nat) (us : List Value) (q0 : v = .ref d) (q1 : s' = { s with heap := h', toks := tk' }) (q2 : IntsAre us ys) (q3 : Fr h₀ L h' m) (q4 : News h₀ L h' news) (q5 : h'.get? d = some (W.listOf us.toArray kd)) : IntList h₀ L m news ys s v s'
theorem cut_ints {M : Model} {A : Around} {t : Sem Value} {E : Value → Shared → Prop} {Q : Value → Shared → Prop} {s : Shared} {h₀ : Heap} {L : Addr} {m : Str → Option Value} {news : List (Addr × Obj)} (_F : Fr h₀ L s.heap m) (_N : News h₀ L s.heap news) (ys : List Int)
    (h1 : wpAny M A t (IntList h₀ L m news ys s) E s)
    (h2 : ∀ (d : Nat) (h' : Heap) (tk' kd : Nat) (us : List Value), IntsAre us ys → Fr h₀ L h' m → News h₀ L h' news → h'.get? d = some (W.listOf us.toArray kd) → Q (.ref d) { s with heap := h', toks := tk' }) : wpAny M A t Q E s :=
  wpAny_mono h1 (fun v s' ⟨d, h', tk', kd, us, e1, e2, h3, h4, h5, h6⟩ => by rw [e1, e2]; exact h2 d h' tk' kd us h3 h4 h5 h6) fun _ _ x => x
theorem TailIsX : True := trivial
def TailIs (k y : Int) (tl : List Int) : Prop := (k = 0 ∧ tl = []) ∨ (k = 1 ∧ tl = [0, y]) ∨ (k = 2 ∧ tl = [127, y])
theorem tail_pick {h : Heap} {la lb lc : Addr} {va vb vc : List Value} {k y : Int} (k0 : 0 ≤ k) (k3 : k < 3) (ha : h.IsList la va.toArray) (hb : h.IsList lb vb.toArray) (hc : h.IsList lc vc.toArray) (ia : IntsAre va []) (ib : IntsAre vb [0, y]) (ic : IntsAre vc [127, y]) :
    ∃ (d : Addr) (vd : List Value) (tl : List Int), [Value.ref la, Value.ref lb, Value.ref lc][k.toNat]? = some (.ref d) ∧ h.IsList d vd.toArray ∧ IntsAre vd tl ∧ TailIs k y tl := by
  rcases (by lia : k = 0 ∨ k = 1 ∨ k = 2) with rfl | rfl | rfl
  · exact ⟨la, va, _, rfl, ha, ia, .inl ⟨rfl, rfl⟩⟩
  · exact ⟨lb, vb, _, rfl, hb, ib, .inr (.inl ⟨rfl, rfl⟩)⟩
  · exact ⟨lc, vc, _, rfl, hc, ic, .inr (.inr ⟨rfl, rfl⟩)⟩
theorem turn_fr {h₀ H g' h' : Heap} {L : Addr} {m : Str → Option Value} (T : KtsTurn [L] H g') (k : Keep g' h') (F : Fr h₀ L H m) : Fr h₀ L h' m := by
  obtain ⟨o, es, ep, ho, hd, hk, hf⟩ := F.ns
  obtain ⟨sl, hs⟩ := T.frame L o ho (List.mem_singleton.mpr rfl)
  refine ⟨⟨_, es, ep, k _ _ hs, hd, hk, hf⟩, fun b o' e => k _ _ (T.other b o' (F.keep _ _ e) fun hm => ?_), F.above⟩
  rw [List.mem_singleton.mp hm] at e
  exact absurd (Nat.lt_of_lt_of_le (Heap.lt_size e) F.above) (Nat.lt_irrefl _)
theorem turn_news {h₀ H g' h' : Heap} {L : Addr} {news : List (Addr × Obj)} (T : KtsTurn [L] H g') (k : Keep g' h') (N : News h₀ L H news) : News h₀ L h' news := fun q hq =>
  ⟨k _ _ (T.other _ _ (N q hq).1 fun hm => (N q hq).2.1 (List.mem_singleton.mp hm)), (N q hq).2⟩
theorem fr_dicts {h₀ H : Heap} {L : Addr} {m : Str → Option Value} (F : Fr h₀ L H m) : KtsDicts [L] H := fun b hb => by
  obtain ⟨o, es, ep, ho, hd, _⟩ := F.ns
  rw [List.mem_singleton.mp hb]
  exact ⟨o, es, ep, ho, hd⟩
theorem none_of_none {h₀ H : Heap} {L : Addr} {m : Str → Option Value} (F : Fr h₀ L H m) {r : Addr} (e : H.get? r = none) : r ≠ L ∧ h₀.get? r = none := by
  refine ⟨fun q => ?_, ?_⟩
  · obtain ⟨o, _, _, ho, _⟩ := F.ns
    rw [q, ho] at e; cases e
  · cases q : h₀.get? r with
    | none => rfl
    | some o => rw [F.keep _ _ q] at e; cases e
theorem row_bd {sz tl : List Int} {k n4 : Int} (hs : ∀ x ∈ sz, 1 ≤ x ∧ x ≤ 7) (ht : TailIs k (n4.fmod 262144) tl) : ∀ x ∈ sz ++ tl, 0 ≤ x ∧ x < 262144 := by
  rw [Int.fmod_eq_emod_of_nonneg _ (by decide)] at ht
  intro x hx
  rcases List.mem_append.mp hx with h | h
  · have := hs x h; lia
  · rcases ht with ⟨_, rfl⟩ | ⟨_, rfl⟩ | ⟨_, rfl⟩
    · cases h
    · simp only [List.mem_cons, List.not_mem_nil, or_false] at h
      rcases h with rfl | rfl <;> lia
    · simp only [List.mem_cons, List.not_mem_nil, or_false] at h
      rcases h with rfl | rfl <;> lia
theorem tail_len {k y : Int} {tl : List Int} (h : TailIs k y tl) : tl.length ≤ 2 := by
  rcases h with ⟨_, rfl⟩ | ⟨_, rfl⟩ | ⟨_, rfl⟩ <;> simp
theorem okr_ok {k y : Int} {tl : List Int} (h : TailIs k y tl) : ∀ (sz : List Int) (last : Option Int), (∀ x ∈ sz, 1 ≤ x ∧ x ≤ 7) → (sz = [] → last.isSome = true) → okr (sz ++ tl) last
  | [], last, _, hl => by
    rcases h with ⟨_, rfl⟩ | ⟨_, rfl⟩ | ⟨_, rfl⟩
    · exact trivial
    · show okr (0 :: _) last
      rw [okr, if_neg (by decide), if_pos rfl]; exact hl rfl
    · show okr (127 :: _) last
      rw [okr, if_pos rfl]; trivial
  | a :: r, last, hs, _ => by
    have ha := hs a List.mem_cons_self
    show okr (a :: (r ++ tl)) last
    rw [okr, if_neg (by lia), if_neg (by lia)]
    exact okr_ok h r (some a) (fun x hx => hs x (List.mem_cons_of_mem _ hx)) fun _ => rfl
theorem takeS_nil {f : Nat → Option Int} {k j : Nat} (h : f j = none) : takeS f k j = [] := by
  cases k with
  | zero => rfl
  | succ k => rw [takeS, h]
theorem td_none {tl : List Int} (ht : ∀ last j, strm tl last j = none) : ∀ (sz : List Int) (f : Nat → Option Int) (j : Nat) (last : Option Int), (∀ i, f (j + i) = strm (sz ++ tl) last i) → (∀ x ∈ sz, 1 ≤ x ∧ x ≤ 7) → ∀ k, sz.length ≤ k → takeS f k j = sz
  | [], f, j, last, hf, _, k, _ => takeS_nil (by have := hf 0; rw [Nat.add_zero] at this; rw [this]; exact ht _ _)
  | a :: r, f, j, last, hf, hs, k, hk => by
    have ha := hs a List.mem_cons_self
    obtain ⟨k', rfl⟩ : ∃ k', k = k' + 1 := ⟨k - 1, by simp only [List.length_cons] at hk; lia⟩
    have h0 := hf 0
    rw [Nat.add_zero, List.cons_append, strm_zero (by lia) (by lia)] at h0
    rw [takeS, h0]
    show a :: takeS f k' (j + 1) = a :: r
    congr 1
    refine td_none ht r f (j + 1) (some a) (fun i => ?_) (fun x hx => hs x (List.mem_cons_of_mem _ hx)) k' (by simp only [List.length_cons] at hk; lia)
    have := hf (i + 1)
    rw [List.cons_append, strm_succ (by lia) (by lia)] at this
    rw [← this]
    congr 1
    lia
theorem td_other {k y : Int} {sz tl : List Int} (h : TailIs k y tl) (hk : k ≠ 1) (hs : ∀ x ∈ sz, 1 ≤ x ∧ x ≤ 7) (h3 : sz.length ≤ 3) : takeS (strm (sz ++ tl) none) 4 0 = sz := by
  refine td_none (fun last j => ?_) sz _ 0 none (fun i => by rw [Nat.zero_add]) hs 4 (by lia)
  rcases h with ⟨_, rfl⟩ | ⟨h, _⟩ | ⟨_, rfl⟩
  · rfl
  · exact absurd h hk
  · exact strm_stop
theorem takeS_rep {f : Nat → Option Int} {a : Int} : ∀ (k j : Nat), (∀ i, f (j + i) = some a) → takeS f k j = List.replicate k a
  | 0, _, _ => rfl
  | k + 1, j, h => by
    have h0 := h 0
    rw [Nat.add_zero] at h0
    rw [takeS, h0]
    show a :: takeS f k (j + 1) = _
    rw [takeS_rep k (j + 1) fun i => by rw [← h (i + 1)]; congr 1; lia]
    rfl
def lastIs : List Int → Option Int → Int → Prop
  | [], last, a => last = some a
  | x :: r, _, a => lastIs r (some x) a
theorem lastIs_app (a : Int) : ∀ (pre : List Int) (last : Option Int), lastIs (pre ++ [a]) last a
  | [], _ => rfl
  | x :: r, _ => lastIs_app a r (some x)
theorem td_rep {r : List Int} {a : Int} : ∀ (sz : List Int) (f : Nat → Option Int) (j : Nat) (last : Option Int), (∀ i, f (j + i) = strm (sz ++ 0 :: r) last i) → (∀ x ∈ sz, 1 ≤ x ∧ x ≤ 7) → lastIs sz last a → ∀ k, sz.length ≤ k → takeS f k j = sz ++ List.replicate (k - sz.length) a
  | [], f, j, last, hf, _, hl, k, _ => by
    have hl' : last = some a := hl
    rw [takeS_rep (a := a) k j fun i => by rw [hf i, List.nil_append, strm_rep, hl']]
    rfl
  | x :: q, f, j, last, hf, hs, hl, k, hk => by
    have ha := hs x List.mem_cons_self
    obtain ⟨k', rfl⟩ : ∃ k', k = k' + 1 := ⟨k - 1, by simp only [List.length_cons] at hk; lia⟩
    have h0 := hf 0
    rw [Nat.add_zero, List.cons_append, strm_zero (by lia) (by lia)] at h0
    rw [takeS, h0]
    show x :: takeS f k' (j + 1) = x :: (q ++ _)
    congr 1
    rw [td_rep q f (j + 1) (some x) (fun i => by
      have := hf (i + 1)
      rw [List.cons_append, strm_succ (by lia) (by lia)] at this
      rw [← this]
      congr 1
      lia) (fun y hy => hs y (List.mem_cons_of_mem _ hy)) hl k' (by simp only [List.length_cons] at hk; lia), List.length_cons, Nat.add_sub_add_right]
theorem td_one {k y a : Int} {pre tl : List Int} (h : TailIs k y tl) (hk : k = 1) (hs : ∀ x ∈ pre ++ [a], 1 ≤ x ∧ x ≤ 7) (h3 : (pre ++ [a]).length ≤ 3) : takeS (strm ((pre ++ [a]) ++ tl) none) 4 0 = slI ((pre ++ [a]) ++ [a, a, a, a]) none (some 4) := by
  have ht : tl = [0, y] := by rcases h with ⟨e, _⟩ | ⟨_, e⟩ | ⟨e, _⟩ <;> first | exact e | (exfalso; lia)
  subst ht
  rw [td_rep (pre ++ [a]) _ 0 none (fun i => by rw [Nat.zero_add]) hs (lastIs_app a pre none) 4 (by lia)]
  generalize pre ++ [a] = sz at *
  have e : slI (sz ++ [a, a, a, a]) none (some 4) = (sz ++ List.replicate 4 a).take 4 := slI_up _ 4
  rw [e, List.take_append, List.take_of_length_le (Nat.le_trans h3 (by decide)), List.take_replicate, Nat.min_eq_left (Nat.sub_le 4 _)]
theorem slI_last {us : List Value} {pre : List Int} {a : Int} (h : IntsAre us (slI (pre ++ [a]) (some (-1)) none)) : IntsAre us [a] := by
  have h1 := clipAt_cast (pre ++ [a]).length (-1)
  rw [if_pos (by decide)] at h1
  have hl : (pre ++ [a]).length = pre.length + 1 := by rw [List.length_append]; rfl
  have hc : clipAt (pre ++ [a]).length (-1) = pre.length := by rw [hl] at h1 ⊢; lia
  unfold slI at h
  rw [show ((some (-1 : Int)).elim 0 (clipAt (pre ++ [a]).length)) = pre.length from hc, List.drop_left] at h
  rw [List.take_of_length_le (by show 1 ≤ (pre ++ [a]).length - pre.length; lia)] at h
  exact h
theorem takeS_len (f : Nat → Option Int) : ∀ (k j : Nat), (takeS f k j).length ≤ k
  | 0, _ => Nat.le_refl _
  | k + 1, j => by
    rw [takeS]
    split
    · exact Nat.zero_le _
    · exact Nat.succ_le_succ (takeS_len f k (j + 1))
theorem takeS_mem {f : Nat → Option Int} {P : Int → Prop} (hf : ∀ j x, f j = some x → P x) : ∀ (k j : Nat), ∀ x ∈ takeS f k j, P x
  | 0, _, x, hx => nomatch hx
  | k + 1, j, x, hx => by
    rw [takeS] at hx
    split at hx
    · cases hx
    · rename_i y e
      rcases List.mem_cons.mp hx with rfl | hx
      · exact hf j _ e
      · exact takeS_mem hf k (j + 1) x hx
theorem strm_bd {k y : Int} {tl : List Int} (h : TailIs k y tl) : ∀ (sz : List Int) (last : Option Int), (∀ x ∈ sz, 1 ≤ x ∧ x ≤ 7) → (∀ v, last = some v → 1 ≤ v ∧ v ≤ 7) → ∀ j x, strm (sz ++ tl) last j = some x → 1 ≤ x ∧ x ≤ 7
  | [], last, _, hl, j, x, e => by
    rcases h with ⟨_, rfl⟩ | ⟨_, rfl⟩ | ⟨_, rfl⟩
    · cases e
    · rw [List.nil_append, strm_rep] at e; exact hl x e
    · rw [List.nil_append, strm_stop] at e; cases e
  | a :: r, last, hs, _, j, x, e => by
    have ha := hs a List.mem_cons_self
    cases j with
    | zero => rw [List.cons_append, strm_zero (by lia) (by lia)] at e; cases e; exact ha
    | succ j =>
      rw [List.cons_append, strm_succ (by lia) (by lia)] at e
      exact strm_bd h r (some a) (fun y hy => hs y (List.mem_cons_of_mem _ hy)) (fun v e => by cases e; exact ha) j x e
theorem takeS_bd {k y : Int} {sz tl : List Int} (h : TailIs k y tl) (hs : ∀ x ∈ sz, 1 ≤ x ∧ x ≤ 7) : ∀ x ∈ takeS (strm (sz ++ tl) none) 4 0, 1 ≤ x ∧ x ≤ 7 :=
  takeS_mem (fun j x e => strm_bd h sz none hs (fun v e => by cases e) j x e) 4 0
theorem fmod29 (x : Int) : 0 ≤ x.fmod 29 ∧ x.fmod 29 ≤ 28 := by
  rw [Int.fmod_eq_emod_of_nonneg _ (by decide)]; lia
theorem b64 {ns : List Int} {M : Int} (h : ∀ k ∈ ns, 0 ≤ k ∧ k ≤ M) (hM : M ≤ 28) : ∀ k ∈ ns, 0 ≤ k ∧ k ≤ 64 := fun k hk => ⟨(h k hk).1, by have := (h k hk).2; lia⟩
theorem takeS_pos {sz tl : List Int} (hs : ∀ x ∈ sz, 1 ≤ x ∧ x ≤ 7) (h1 : 1 ≤ sz.length) : 1 ≤ (takeS (strm (sz ++ tl) none) 4 0).length := by
  cases sz with
  | nil => cases h1
  | cons a r =>
    have ha := hs a List.mem_cons_self
    rw [takeS, List.cons_append, strm_zero (by lia) (by lia)]
    simp
theorem not_tab {h : Heap} {d P : Addr} {its : Array Value} {k : Nat} {ps : Array Value} (e1 : h.get? d = some (W.listOf its k)) (e2 : h.get? P = some (tabObj ps)) : d ≠ P := fun e => by
  rw [e, e2] at e1
  cases e1
theorem news_keep {h₀ h h' : Heap} {L : Addr} {news : List (Addr × Obj)} (N : News h₀ L h news) (k : Keep h h') : News h₀ L h' news := fun q hq => ⟨k _ _ (N q hq).1, (N q hq).2⟩
theorem News.cons' {h₀ h : Heap} {L r : Addr} {o : Obj} {news : List (Addr × Obj)} (hr : r ≠ L ∧ h₀.get? r = none) (e : h.get? r = some o) (N : News h₀ L h news) : News h₀ L h ((r, o) :: news) := fun q hq => by
  rcases List.mem_cons.mp hq with rfl | hq
  · exact ⟨e, hr.1, hr.2⟩
  · exact N q hq
theorem idm_led {B h h' : Heap} {L le lo ltd r : Addr} {m : Str → Option Value} {ve vo vt : List Value} {ke ko kt : Nat} {ps qs ps' qs' : Array Value} {o : Obj} (F : Fr B L h m) (N : News B L h [(le, W.listOf ve.toArray ke), (lo, W.listOf vo.toArray ko), (ltd, W.listOf vt.toArray kt), (52, tabObj qs), (45, tabObj ps)])
    (KB : KeepBut [45, 52] h h') (h45 : h'.get? 45 = some (tabObj ps')) (h52 : h'.get? 52 = some (tabObj qs')) (hf : h.get? r = none) (hr : h'.get? r = some o) :
    Fr B L h' m ∧ News B L h' [(r, o), (45, tabObj ps'), (le, W.listOf ve.toArray ke), (lo, W.listOf vo.toArray ko), (ltd, W.listOf vt.toArray kt), (52, tabObj qs')] := by
  have q52 := N _ (.tail _ (.tail _ (.tail _ (.head _))))
  have q45 := N _ (.tail _ (.tail _ (.tail _ (.tail _ (.head _)))))
  have n1 := N _ (.head _)
  have n2 := N _ (.tail _ (.head _))
  have n3 := N _ (.tail _ (.tail _ (.head _)))
  have kl : ∀ (d : Addr) (its : Array Value) (k : Nat), h.get? d = some (W.listOf its k) → h'.get? d = some (W.listOf its k) := fun d its k e => KB d _ (fun hm => by
    rcases List.mem_cons.mp hm with z | hm
    · exact not_tab e q45.1 z
    · exact not_tab e q52.1 (List.mem_singleton.mp hm)) e
  refine ⟨Fr.butL F (fun b hb => ?_) (fun hm => ?_) KB, News.cons' (none_of_none F hf) hr (News.cons' q45.2 h45 (News.cons' n1.2 (kl _ _ _ n1.1) (News.cons' n2.2 (kl _ _ _ n2.1) (News.cons' n3.2 (kl _ _ _ n3.1) (News.cons' q52.2 h52 News.nil)))))⟩
  · rcases List.mem_cons.mp hb with rfl | hb
    · exact q45.2.2
    · rw [List.mem_singleton.mp hb]; exact q52.2.2
  · rcases List.mem_cons.mp hm with e | hm
    · exact q45.2.1 e.symm
    · exact q52.2.1 (List.mem_singleton.mp hm).symm
theorem mulI {prog : Program} {w : World} {A : Around} {E : Value → Shared → Prop} {s : Shared} {a b : Int} {t u : Tok} {Q : Value → Shared → Prop} (hm : IntMulOk a b) (h : Q (.int (a * b) s.toks) { s with toks := s.toks + 1 }) : wpAny (model prog w) A (binaryOp .Mult (.int a t) (.int b u)) Q E s := P.mul_int h hm
theorem i2d_led {B h h' : Heap} {L le lo ltd r : Addr} {m : Str → Option Value} {ve vo vt : List Value} {ke ko kt : Nat} {ps ps' qs : Array Value} {o : Obj} (F : Fr B L h m) (N : News B L h [(45, tabObj ps), (le, W.listOf ve.toArray ke), (lo, W.listOf vo.toArray ko), (ltd, W.listOf vt.toArray kt), (52, tabObj qs)])
    (KB : KeepBut [45] h h') (h45 : h'.get? 45 = some (tabObj ps')) (hf : h.get? r = none) (hr : h'.get? r = some o) :
    Fr B L h' m ∧ News B L h' [(r, o), (45, tabObj ps'), (le, W.listOf ve.toArray ke), (lo, W.listOf vo.toArray ko), (ltd, W.listOf vt.toArray kt), (52, tabObj qs)] := by
  have q45 := N _ (.head _)
  have n1 := N _ (.tail _ (.head _))
  have n2 := N _ (.tail _ (.tail _ (.head _)))
  have n3 := N _ (.tail _ (.tail _ (.tail _ (.head _))))
  have q52 := N _ (.tail _ (.tail _ (.tail _ (.tail _ (.head _)))))
  have kl : ∀ (d : Addr) (its : Array Value) (k : Nat), h.get? d = some (W.listOf its k) → h'.get? d = some (W.listOf its k) := fun d its k e => KB d _ (fun hm => not_tab e q45.1 (List.mem_singleton.mp hm)) e
  refine ⟨Fr.butL F (fun b hb => ?_) (fun hm => ?_) KB, News.cons' (none_of_none F hf) hr (News.cons' q45.2 h45 (News.cons' n1.2 (kl _ _ _ n1.1) (News.cons' n2.2 (kl _ _ _ n2.1) (News.cons' n3.2 (kl _ _ _ n3.1) (News.cons' q52.2 (KB 52 _ (by decide) q52.1) News.nil)))))⟩
  · rw [List.mem_singleton.mp hb]; exact q45.2.2
  · exact q45.2.1 (List.mem_singleton.mp hm).symm
theorem nm_len (ns : List Int) : (slI ns none (some 5) ++ slI [2, 0, 4, 2, 7] (some (ns.length : Int)) none).length = 5 := by
  have e : slI ns none (some 5) = ns.take 5 := slI_up ns 5
  rw [e, slI_from, List.length_append, List.length_take, List.length_drop]
  show min 5 ns.length + (5 - ns.length) = 5
  rcases Nat.le_total 5 ns.length with h | h
  · rw [Nat.min_eq_left h, Nat.sub_eq_zero_of_le h]
  · rw [Nat.min_eq_right h, Nat.add_sub_cancel' h]
theorem one_int {vs : List Value} {ns : List Int} {k : Nat} (h : IntsAre vs ns) (hl : ns.length = k + 1) : ∃ a t vs' ns', ns = a :: ns' ∧ vs = .int a t :: vs' ∧ IntsAre vs' ns' ∧ ns'.length = k := by
  cases h with
  | nil => cases hl
  | cons n t h => exact ⟨n, t, _, _, rfl, rfl, h, Nat.succ.inj hl⟩
theorem five {vs : List Value} {ns : List Int} (h : IntsAre vs ns) (h5 : ns.length = 5) : ∃ a b c d e ta tb tc td te, ns = [a, b, c, d, e] ∧ vs = [.int a ta, .int b tb, .int c tc, .int d td, .int e te] := by
  obtain ⟨a, ta, vs, ns, rfl, rfl, h, h5⟩ := one_int h h5
  obtain ⟨b, tb, vs, ns, rfl, rfl, h, h5⟩ := one_int h h5
  obtain ⟨c, tc, vs, ns, rfl, rfl, h, h5⟩ := one_int h h5
  obtain ⟨d, td, vs, ns, rfl, rfl, h, h5⟩ := one_int h h5
  obtain ⟨e, te, vs, ns, rfl, rfl, h, h5⟩ := one_int h h5
  cases h with
  | nil => exact ⟨a, b, c, d, e, ta, tb, tc, td, te, rfl, rfl⟩
  | cons n t h => cases h5
theorem news_sub {h₀ h : Heap} {L : Addr} {a b : List (Addr × Obj)} (N : News h₀ L h a) (hs : ∀ p ∈ b, p ∈ a) : News h₀ L h b := fun p hp => N p (hs p hp)
theorem sub_nil {a : List (Addr × Obj)} : ∀ p ∈ ([] : List (Addr × Obj)), p ∈ a := fun _ h => nomatch h
theorem sub_cons {q : Addr × Obj} {b a : List (Addr × Obj)} (h : q ∈ a) (hs : ∀ p ∈ b, p ∈ a) : ∀ p ∈ q :: b, p ∈ a := fun p hp => by
  rcases List.mem_cons.mp hp with rfl | hp
  · exact h
  · exact hs p hp
theorem body_try : PySem.Challenge.rw_uq0007_01.Holds := hd (by
  k_go0
  all_goals try k_fold
  rename World => w
  rename_i ns hsh hlay0 hL1 hr1 hl2 w4 w3 l vs w00 hL ra w1 r0 hi hr hlen htr hD h₁ X T K F C57 N l0
  rename Shared => s1
  generalize hR : EndB [(56, 52), (49, 45)] s1 = R
  have hG : AllBare s1.gens := AllBare.of_eq (by assumption)
  generalize s1.gens = G1 at hG ⊢
  generalize s1.drawn = D1
  generalize hO : s1.os = O1
  generalize s1.toks = T1
  have hvl := hi.length
  have hvs : vs.length ≤ 63 := by lia
  have hns : ns.length ≤ 63 := by lia

  k_steps
  unfold Halt
  rename Fr (ghostOf _ _) _ _ _ => F1
  rename News (ghostOf _ _) _ _ _ => N1
  refine slice_ints F1 N1 (lifted.at fun o e => F1.keep _ _ e) hi .none (.int _ _) ?_ (by lia)
  intro h2 u1 F2 N2 i1
  clear F1 N1
  k_steps
  unfold Halt
  rename Fr (ghostOf _ _) _ _ _ => F3
  rename News (ghostOf _ _) _ _ _ => N3
  refine slice_ints (ns := [2, 0, 4, 2, 7]) F3 N3 (News.isList N3 (.head _)) (.cons _ _ (.cons _ _ (.cons _ _ (.cons _ _ (.cons _ _ .nil))))) (.int _ _) .none ?_ (by decide)
  intro h4 u2 F4 N4 i2
  have z1 : (slI ns none (some 5)).length ≤ 63 := by unfold slI; rw [List.length_take, List.length_drop]; lia
  have z2 : (slI [2, 0, 4, 2, 7] (some (ns.length : Int)) none).length ≤ 63 := by unfold slI; rw [List.length_take, List.length_drop]; simp; lia
  refine kmk_add_ints F4 N4 (News.isList N4 (.tail _ (.tail _ (.head _)))) (News.isList N4 (.head _)) i1 i2 ?_ (by rw [sizeLine_eq]; lia)
  intro lnm vnm h5 F5 N5 l5 inm
  clear F3 N3 F4 N4
  replace N5 := news_sub (b := [(lnm, W.listOf vnm.toArray 0), (52, tabObj #[]), (45, tabObj #[])]) N5 (by kcf_all)
  have hnm := nm_len ns
  clear z1 z2 i1 i2 l5
  generalize slI ns none (some 5) ++ slI [2, 0, 4, 2, 7] (some (ns.length : Int)) none = nm at *
  obtain ⟨n0, n1, n2, n3, n4, t0, t1, t2, t3, t4, rfl, rfl⟩ := five inm hnm
  clear hnm
  k_steps
  unfold Halt
  rename Fr (ghostOf _ _) _ _ _ => F6
  rename News (ghostOf _ _) _ _ _ => N6
  refine LCg.Assign_ListComp_U (F₀ := F6) (by rfl) (by with_unfolding_all rfl) (by with_unfolding_all rfl) (by decide) (by rfl) (by decide) (by rfl) (by rfl) (by rfl) ?_
  k_steps
  unfold Halt
  rename Fr (ghostOf _ _) _ _ _ => F7
  rename News (ghostOf _ _) _ _ _ => N7
  refine slice_ints F7 N7 (News.isList N7 (.head _)) inm .none (.int _ _) ?_ (Nat.le_of_ble_eq_true rfl)
  intro h8 u3 F8 N8 i3
  obtain ⟨z, i3, z1, z3⟩ : ∃ z : Int, IntsAre u3 (slI [n0, n1, n2, n3, n4] none (some z)) ∧ 1 ≤ z ∧ z ≤ 3 := ⟨_, i3, by first | lia | (rw [Int.fmod_eq_emod_of_nonneg _ (by decide)]; lia), by first | lia | (rw [Int.fmod_eq_emod_of_nonneg _ (by decide)]; lia)⟩
  have z5 : (slI [n0, n1, n2, n3, n4] none (some z)).length ≤ 5 := by
    unfold slI; rw [List.length_take, List.length_drop]; exact Nat.le_trans (Nat.min_le_right _ _) (Nat.sub_le _ _)
  refine LCg.CompSrc.ledger rfl F8 N8 (by k_mem) (by rw [sizeLine_eq, List.size_toArray, i3.length]; exact Nat.le_trans z5 (by decide)) ?_
  intro g'
  refine' kcf_list (fun k => 1 + k.fmod 7) i3 (fun k' t' I' oI' C' oC' D'' m' ys' h' tk' E' hk' hC' hx' F' N' off' ne' => ?_) ?_
  · intro _
    refine wpAny_BinOp ?_
    walk1
    refine wpAny_BinOp ?_
    refine LCgL.ld_own N' (by k_mem) hC' hx' ?_
    walk1
    refine mod_int' (by decide) ?_
    refine PyProof.Rows.add_int ?_
    exact LCg.CompEnd.intro F' N' _ (fun p hp => hp) off' (.inr ⟨_, by k_mem, rfl, _, rfl⟩) ⟨rfl, _, rfl⟩
  · intro us hus
    unfold LCg.FinA
    intro lsz h9 tk9 F N o1
    clear o1 F8 N8 F7 N7
    replace N := news_sub (b := [(lsz, LCg.lst us), (lnm, W.listOf [.int n0 t0, .int n1 t1, .int n2 t2, .int n3 t3, .int n4 t4].toArray 0), (52, tabObj #[]), (45, tabObj #[])]) N (by kcf_all)
    obtain ⟨sz, hsz, hs1, hs3, hsb⟩ := sizes_of hus rfl z1 z3
    clear hus i3 z5
    (try dsimp only)
    k_steps
    unfold Halt
    rename Fr (ghostOf _ _) _ _ _ => F1
    rename News (ghostOf _ _) _ _ _ => N1
    have k0 : 0 ≤ n4.fmod 3 ∧ n4.fmod 3 < 3 := by rw [Int.fmod_eq_emod_of_nonneg _ (by decide)]; lia
    obtain ⟨d, vd, tl, hd1, hd2, hd3, hd4⟩ := tail_pick (y := n4.fmod 262144) k0.1 k0.2 (News.isList N1 (.tail _ (.tail _ (.tail _ (.head _))))) (News.isList N1 (.tail _ (.tail _ (.head _)))) (News.isList N1 (.tail _ (.head _))) .nil (.cons _ _ (.cons _ _ .nil)) (.cons _ _ (.cons _ _ .nil))
    refine kba_turn (value' := PySem.Expr.Name (PySem.Str.ofString "_") ⟨0, 0, 0, 0⟩) (fun _ => rfl) ?_
    refine item_listL (News.isList N1 (.head _)) k0.1 (Int.lt_trans k0.2 (by decide)) hd1 ?_
    have htl := tail_len hd4
    have hrb := row_bd hsb hd4
    refine kmk_add_ints F1 N1 (News.isList N1 (.tail _ (.tail _ (.tail _ (.tail _ (.head _)))))) hd2 hsz hd3 ?_ (by rw [sizeLine_eq]; lia)
    intro lrow vrow h10 F N l10 irow
    clear F1 N1 l10 hd1 hd2
    replace N := news_sub (b := [(lrow, W.listOf vrow.toArray 0), (lsz, LCg.lst us), (lnm, W.listOf [.int n0 t0, .int n1 t1, .int n2 t2, .int n3 t3, .int n4 t4].toArray 0), (52, tabObj #[]), (45, tabObj #[])]) N (by kcf_all)
    have hvrow : vrow.length ≤ 5 := by rw [irow.length, List.length_append]; lia
    k_steps
    unfold Halt
    rename Fr (ghostOf _ _) _ _ _ => F2
    rename News (ghostOf _ _) _ _ _ => N2
    refine packed_spec (X.keeps F2.keep) (T.keeps F2.keep) rfl (Nat.le_of_ble_eq_true rfl) (Nat.le_of_ble_eq_true rfl) (News.isList N2 (.head _)) irow (by rw [List.length_append]; lia) hrb ?_
    intro loc voc koc h11 tk11 MM ioc
    have F3 := MM.fr F2
    have N3 := MM.news F2 N2
    simp only [List.cons_append, List.nil_append] at N3
    have dloc := MM.ne N2 (.head _)
    clear F2 N2 MM
    k_steps
    unfold Halt
    rename Fr (ghostOf _ _) _ _ _ => F4
    rename News (ghostOf _ _) _ _ _ => N4
    refine read_spec X T (K.push F4) (fr_dicts F4) rfl (Nat.le_of_ble_eq_true rfl) (Nat.le_of_ble_eq_true rfl) (News.isList N4 (.head _)) ioc (by rw [List.length_append]; lia) hrb ?_
    intro lrd vrd krd g12 h12 tk12 TT kk hrd hrdn ird
    have F5 := turn_fr TT kk F4
    have N5 := turn_news TT kk N4
    have N6 : News _ _ h12 [(lrd, W.listOf vrd.toArray krd), (lrow, W.listOf vrow.toArray 0), (lsz, LCg.lst us), (lnm, W.listOf [.int n0 t0, .int n1 t1, .int n2 t2, .int n3 t3, .int n4 t4].toArray 0), (52, tabObj #[]), (45, tabObj #[])] := News.cons' (none_of_none F4 hrdn) hrd (news_sub N5 (by kcf_all))
    clear F4 N4 N5 TT kk hrd hrdn
    have hvrd : vrd.length ≤ 5 := by rw [ird.length, List.length_append]; lia
    k_steps
    unfold Halt
    rename Fr (ghostOf _ _) _ _ _ => F7
    rename News (ghostOf _ _) _ _ _ => N7
    refine ne_ints (News.isList N7 (.head _)) (News.isList N7 (.tail _ (.head _))) ird irow (Nat.le_of_ble_eq_true rfl) ?_
    refine wpAny_truthy_bool ?_
    rw [if_neg (by decide)]
    k_steps
    unfold Halt
    rename Fr (ghostOf _ _) _ _ _ => F7
    rename News (ghostOf _ _) _ _ _ => N7
    refine first_spec (X.keeps F7.keep) (T.keeps F7.keep) rfl (Nat.le_of_ble_eq_true rfl) (Nat.le_of_ble_eq_true rfl) (News.isList N7 (.head _)) ird (okr_ok hd4 sz none hsb (fun e => by rw [e] at hs1; cases hs1)) hG ?_
    intro ltd vtd ktd h13 tk13 gs13 hbg MM itd
    have F8 := MM.fr F7
    have N8 := MM.news F7 N7
    simp only [List.cons_append, List.nil_append] at N8
    have dtd := MM.ne N7 (.head _)
    simp only [List.forall_mem_cons, List.not_mem_nil, false_implies, implies_true, and_true] at dtd
    clear F7 N7 MM dloc
    k_steps
    unfold Halt
    rename Fr (ghostOf _ _) _ _ _ => F9
    rename News (ghostOf _ _) _ _ _ => N9
    refine cut_ints F9 N9 (takeS (strm (sz ++ tl) none) 4 0) ?_ ?_
    · refine wpAny_IfExp ?_
      k_steps
      · rename_i hk1
        rename Fr (ghostOf _ _) _ _ _ => F11
        rename News (ghostOf _ _) _ _ _ => N11
        obtain ⟨pre, la, rfl⟩ : ∃ pre a, sz = pre ++ [a] := by
          rcases List.eq_nil_or_concat sz with e | ⟨xs, x, e⟩
          · rw [e] at hs1; cases hs1
          · exact ⟨xs, x, by rw [e, List.concat_eq_append]⟩
        refine slice_ints F11 N11 (News.isList N11 (.tail _ (.tail _ (.tail _ (.head _))))) hsz (.int _ _) .none ?_ (by lia)
        intro h15 u4 F12 N12 i4
        replace i4 : IntsAre u4 [la] := slI_last i4
        cases i4 with
        | cons _ tla i4 =>
        cases i4
        clear F11 N11
        k_steps
        unfold Halt
        rename Fr (ghostOf _ _) _ _ _ => F13
        rename News (ghostOf _ _) _ _ _ => N13
        rename IntsAre _ (_ ++ _) => iad
        refine slice_ints F13 N13 (News.isList N13 (.head _)) iad .none (.int _ _) ?_ (by rw [List.length_append]; exact Nat.le_trans (Nat.add_le_add_right hs3 _) (Nat.le_of_ble_eq_true rfl))
        intro h17 u5 F14 N14 i5
        refine ⟨_, _, _, 0, u5, rfl, rfl, ?_, F14, news_sub N14 (by kcf_all), N14.get (.head _)⟩
        rw [td_one hd4 hk1 hsb hs3]
        exact i5
      · rename_i hk1
        refine ⟨lsz, _, _, _, us, rfl, rfl, ?_, by assumption, by assumption, News.get (by assumption) (.tail _ (.tail _ (.tail _ (.head _))))⟩
        rw [td_other hd4 hk1 hsb hs3]
        exact hsz
    · intro dd h14 tk14 kdd ud iud F10 N10 hdd
      clear F9 N9
      refine ne_ints (News.isList N10 (.head _)) ⟨_, hdd, rfl, _, rfl⟩ itd iud (Nat.le_of_ble_eq_true rfl) ?_
      refine wpAny_truthy_bool ?_
      rw [if_neg (by decide)]
      k_steps
      unfold Halt
      rename Fr (ghostOf _ _) _ _ _ => F13
      rename News (ghostOf _ _) _ _ _ => N13
      have htd1 : 1 ≤ (takeS (strm (sz ++ tl) none) 4 0).length := takeS_pos hsb hs1
      have htd4 : (takeS (strm (sz ++ tl) none) 4 0).length ≤ 4 := takeS_len _ _ _
      have htdb := takeS_bd hd4 hsb
      generalize takeS (strm (sz ++ tl) none) 4 0 = td at *
      refine choices_spec (X.keeps F13.keep) (T.keeps F13.keep) rfl (Nat.le_of_ble_eq_true rfl) (Nat.le_of_ble_eq_true rfl) (News.isList N13 (.head _)) itd htd4 (fmod29 _).1 (fmod29 _).2 ?_
      intro rt le lo ve vo krt ke ko h16 tk16 MM ive ivo
      have F14 := MM.fr F13
      have N14 := MM.news F13 N13
      simp only [List.cons_append, List.nil_append] at N14
      clear F13 N13 MM
      have hve : ve.length ≤ 16 := by rw [ive.length]; unfold sortI; rw [List.length_mergeSort]; exact evens_len (Nat.pow_le_pow_right (n := 2) (by decide) htd4)
      have hvo : vo.length ≤ 16 := by rw [ivo.length]; unfold sortI; rw [List.length_mergeSort]; exact odds_len (Nat.pow_le_pow_right (n := 2) (by decide) htd4)
      k_steps
      unfold Halt
      rename Fr (ghostOf _ _) _ _ _ => F15
      rename News (ghostOf _ _) _ _ _ => N15
      refine doubled_spec (X.keeps F15.keep) (T.keeps F15.keep) rfl (Nat.le_of_ble_eq_true rfl) (Nat.le_of_ble_eq_true rfl) (News.isList N15 (.tail _ (.tail _ (.tail _ (.tail _ (.head _)))))) itd htd4 ?_
      intro r2 le2 lo2 ve2 vo2 kr2 ke2 ko2 h18 tk18 MM ive2 ivo2
      have F16 := MM.fr F15
      have N16 := MM.news F15 N15
      simp only [List.cons_append, List.nil_append] at N16
      clear F15 N15 MM
      rw [(ev_dbl td).1] at ive
      rw [(ev_dbl td).2] at ivo
      obtain ⟨hE16, hO16, hEb, hOb, hM0, hM1⟩ := pl_bd htd4 htd1 htdb
      obtain ⟨hm8, hm16⟩ := pl_mul htd4 htd1 htdb
      have hvtd : vtd.length ≤ 4 := by rw [itd.length]; exact htd4
      have pd := halt (pl_div htd4 htd1 htdb)
      have pe := halt (pl_even htd4 htd1 htdb)
      have po := halt (pl_odd htd4 htd1 htdb)
      refine ne_tup_lists ⟨_, N16.get (.tail _ (.tail _ (.tail _ (.head _)))), rfl, _, rfl⟩ ⟨_, N16.get (.head _), rfl, _, rfl⟩ (News.isList N16 (.tail _ (.tail _ (.tail _ (.tail _ (.tail _ (.head _))))))) (News.isList N16 (.tail _ (.tail _ (.tail _ (.tail _ (.tail _ (.tail _ (.head _)))))))) (News.isList N16 (.tail _ (.head _))) (News.isList N16 (.tail _ (.tail _ (.head _)))) ive ivo ive2 ivo2 (Nat.le_of_ble_eq_true rfl) ?_
      refine wpAny_truthy_bool ?_
      rw [if_neg (by decide)]
      replace N16 := news_sub (b := [(le, W.listOf ve.toArray ke), (lo, W.listOf vo.toArray ko), (ltd, W.listOf vtd.toArray ktd), (52, tabObj #[]), (45, tabObj #[])]) N16 (by kcf_all)
      clear ive2 ivo2
      k_steps
      unfold Halt
      rename Fr (ghostOf _ _) _ _ _ => F17
      rename News (ghostOf _ _) _ _ _ => N17
      refine num_spec (X.keeps F17.keep) (T.keeps F17.keep) rfl (Nat.le_of_ble_eq_true rfl) (Nat.le_of_ble_eq_true rfl) (News.isList N17 (.head _)) ive (Nat.lt_of_le_of_lt hE16 (by decide)) (b64 hEb hM1) (by decide) (by decide) ?_
      intro ta1 h19 tk19 KK
      have F18 := F17.keeps KK
      have N18 := news_keep N17 KK
      clear F17 N17 KK
      k_steps
      unfold Halt
      rename Fr (ghostOf _ _) _ _ _ => F17
      rename News (ghostOf _ _) _ _ _ => N17
      refine num_spec (X.keeps F17.keep) (T.keeps F17.keep) rfl (Nat.le_of_ble_eq_true rfl) (Nat.le_of_ble_eq_true rfl) (News.isList N17 (.tail _ (.head _))) ivo (Nat.lt_of_le_of_lt hO16 (by decide)) (b64 hOb hM1) (by decide) (by decide) ?_
      intro ta2 h20 tk20 KK
      have F18 := F17.keeps KK
      have N18 := news_keep N17 KK
      clear F17 N17 KK
      k_steps
      unfold Halt
      rename Fr (ghostOf _ _) _ _ _ => F17
      rename News (ghostOf _ _) _ _ _ => N17
      refine num_spec (X.keeps F17.keep) (T.keeps F17.keep) rfl (Nat.le_of_ble_eq_true rfl) (Nat.le_of_ble_eq_true rfl) (News.isList N17 (.head _)) ive (Nat.lt_of_le_of_lt hE16 (by decide)) (b64 hEb hM1) (by decide) (by decide) ?_
      intro ta3 h21 tk21 KK
      have F18 := F17.keeps KK
      have N18 := news_keep N17 KK
      clear F17 N17 KK
      k_steps
      unfold Halt
      rename Fr (ghostOf _ _) _ _ _ => F17
      rename News (ghostOf _ _) _ _ _ => N17
      refine num_spec (X.keeps F17.keep) (T.keeps F17.keep) rfl (Nat.le_of_ble_eq_true rfl) (Nat.le_of_ble_eq_true rfl) (News.isList N17 (.tail _ (.head _))) ivo (Nat.lt_of_le_of_lt hO16 (by decide)) (b64 hOb hM1) (by decide) (by decide) ?_
      intro ta4 h22 tk22 KK
      have F18 := F17.keeps KK
      have N18 := news_keep N17 KK
      clear F17 N17 KK
      generalize sortI (dbl td).1 = Es at *
      generalize sortI (dbl td).2 = Os at *
      k_steps
      unfold Halt
      rename Fr (ghostOf _ _) _ _ _ => F17
      rename News (ghostOf _ _) _ _ _ => N17
      have q52 := N17 _ (.tail _ (.tail _ (.tail _ (.head _))))
      have q45 := N17 _ (.tail _ (.tail _ (.tail _ (.tail _ (.head _)))))
      obtain ⟨pd1, pd2, pd3, pd4, pd5, pd6⟩ := pd
      refine idm_spec X T F17.keep q45.2.2 q52.2.2 codeHd C57 ⟨q45.1, .inl rfl⟩ ⟨q52.1, .inl rfl⟩ rfl (Nat.le_of_ble_eq_true rfl) (Nat.le_of_ble_eq_true rfl) pd1 pd2 pd3 pd4 pd5 pd6 ?_
      intro rq t1q t2q krq ps5 qs5 h23 tk23 KB hrf hrq T45 T52
      obtain ⟨F18, N18⟩ := idm_led F17 N17 KB T45.1 T52.1 hrf hrq
      obtain ⟨x1, y1, N19, K45⟩ := TabS.led T45 F18 N18 (.head _)
      clear F17 N17 N18 KB T45 T52 q45 q52 hrf hrq
      clear pd1 pd2 pd3 pd4 pd5 pd6
      k_steps
      unfold Halt
      rename Fr (ghostOf _ _) _ _ _ => F20
      rename News (ghostOf _ _) _ _ _ => N20
      refine ne_tup_ints ⟨_, N20.get (.tail _ (.tail _ (.head _))), rfl, _, rfl⟩ ⟨_, N20.get (.head _), rfl, _, rfl⟩ (Nat.le_of_ble_eq_true rfl) ?_
      refine wpAny_truthy_bool ?_
      rw [if_neg (by decide)]
      replace N20 := news_sub (b := [(x1, y1), (45, tabObj ps5), (le, W.listOf ve.toArray ke), (lo, W.listOf vo.toArray ko), (ltd, W.listOf vtd.toArray ktd), (52, tabObj qs5)]) N20 (by kcf_all)
      k_steps
      unfold Halt
      refine mulI (IntMulOk.of_bits hm8 hm8) ?_
      k_steps
      unfold Halt
      rename Fr (ghostOf _ _) _ _ _ => F21
      rename News (ghostOf _ _) _ _ _ => N21
      have q45 := N21 _ (.tail _ (.head _))
      obtain ⟨pe1, pe2, pe3, pe4⟩ := pe
      refine i2d_spec X T F21.keep q45.2.2 codeHd (K45 _ _ _ F21 N21 (fun x hx => by rw [List.mem_singleton.mp hx]; exact .head _) (.tail _ (.head _))) rfl (Nat.le_of_ble_eq_true rfl) (Nat.le_of_ble_eq_true rfl) pe1 pe2 (by decide) (by decide) pe3 ?_
      intro D1 vd1 kd1 ps6 h24 tk24 KB hfr hD id1 hT
      rw [pe4] at id1
      obtain ⟨F22, N22⟩ := i2d_led F21 (news_sub N21 (fun p hp => List.mem_cons_of_mem _ hp)) KB hT.1 hfr hD
      obtain ⟨x2, y2, N23, K45'⟩ := TabS.led hT F22 N22 (.head _)
      replace N23 := news_sub (b := [(x2, y2), (D1, W.listOf vd1.toArray kd1), (ltd, W.listOf vtd.toArray ktd), (45, tabObj ps6), (le, W.listOf ve.toArray ke), (lo, W.listOf vo.toArray ko), (52, tabObj qs5)]) N23 (by repeat' first | exact sub_nil | refine sub_cons (by k_mem) ?_)
      clear F21 N21 N22 KB hT hfr hD q45 pe1 pe2 pe3 pe4 K45
      k_steps
      unfold Halt
      rename Fr (ghostOf _ _) _ _ _ => F24
      rename News (ghostOf _ _) _ _ _ => N24
      refine pairs_spec (X.keeps F24.keep) (T.keeps F24.keep) rfl (Nat.le_of_ble_eq_true rfl) (Nat.le_of_ble_eq_true rfl) (News.isList N24 (.tail _ (.tail _ (.tail _ (.tail _ (.tail _ (.head _))))))) ivo hO16 ⟨hM0, hM1⟩ hOb ?_
      intro rp1 vp1 kp1 h25 tk25 MM ip1
      have F25 := MM.fr F24
      have N25 := MM.news F24 N24
      simp only [List.cons_append, List.nil_append] at N25
      clear F24 N24 MM
      refine ne_ints (News.isList N25 (.tail _ (.tail _ (.head _)))) (News.isList N25 (.head _)) id1 ip1 (Nat.le_of_ble_eq_true rfl) ?_
      refine wpAny_truthy_bool ?_
      rw [if_neg (by decide)]
      replace N25 := news_sub (b := [(x2, y2), (45, tabObj ps6), (le, W.listOf ve.toArray ke), (lo, W.listOf vo.toArray ko), (ltd, W.listOf vtd.toArray ktd), (52, tabObj qs5)]) N25 (by repeat' first | exact sub_nil | refine sub_cons (by k_mem) ?_)
      clear id1 ip1
      k_steps
      unfold Halt
      refine mulI (IntMulOk.of_bits hm16 hm16) ?_
      k_steps
      unfold Halt
      rename Fr (ghostOf _ _) _ _ _ => F26
      rename News (ghostOf _ _) _ _ _ => N26
      refine num_spec (X.keeps F26.keep) (T.keeps F26.keep) rfl (Nat.le_of_ble_eq_true rfl) (Nat.le_of_ble_eq_true rfl) (News.isList N26 (.tail _ (.tail _ (.tail _ (.head _))))) ivo (Nat.lt_of_le_of_lt hO16 (by decide)) (b64 hOb hM1) (by decide) (by decide) ?_
      intro ta5 h26 tk26 KK
      have F27 := F26.keeps KK
      have N27 := news_keep N26 KK
      clear F26 N26 KK
      k_steps
      unfold Halt
      rename Fr (ghostOf _ _) _ _ _ => F28
      rename News (ghostOf _ _) _ _ _ => N28
      have q45 := N28 _ (.tail _ (.head _))
      obtain ⟨po1, po2, po3, po4⟩ := po
      refine i2d_spec X T F28.keep q45.2.2 codeHd (K45' _ _ _ F28 N28 (fun x hx => by rw [List.mem_singleton.mp hx]; exact .head _) (.tail _ (.head _))) rfl (Nat.le_of_ble_eq_true rfl) (Nat.le_of_ble_eq_true rfl) po1 po2 (by decide) (by decide) po3 ?_
      intro D2 vd2 kd2 ps7 h27 tk27 KB hfr hD id2 hT
      rw [po4] at id2
      obtain ⟨F29, N29⟩ := i2d_led F28 (news_sub N28 (fun p hp => List.mem_cons_of_mem _ hp)) KB hT.1 hfr hD
      replace N29 := news_sub (b := [(D2, W.listOf vd2.toArray kd2), (ltd, W.listOf vtd.toArray ktd), (45, tabObj ps7), (le, W.listOf ve.toArray ke), (lo, W.listOf vo.toArray ko), (52, tabObj qs5)]) N29 (by repeat' first | exact sub_nil | refine sub_cons (by k_mem) ?_)
      clear F28 N28 KB hfr hD q45 po1 po2 po3 po4 K45'
      k_steps
      unfold Halt
      rename Fr (ghostOf _ _) _ _ _ => F30
      rename News (ghostOf _ _) _ _ _ => N30
      refine pairs_spec (X.keeps F30.keep) (T.keeps F30.keep) rfl (Nat.le_of_ble_eq_true rfl) (Nat.le_of_ble_eq_true rfl) (News.isList N30 (.tail _ (.tail _ (.tail _ (.head _))))) ive hE16 ⟨hM0, hM1⟩ hEb ?_
      intro rp2 vp2 kp2 h28 tk28 MM ip2
      have F31 := MM.fr F30
      have N31 := MM.news F30 N30
      simp only [List.cons_append, List.nil_append] at N31
      clear F30 N30 MM
      refine eq_ints (News.isList N31 (.tail _ (.head _))) (News.isList N31 (.head _)) id2 ip2 (Nat.le_of_ble_eq_true rfl) ?_
      k_steps
      all_goals rw [← hR]
      all_goals exact ⟨rfl, Fr.keep (by assumption), hO.symm, hbg, ⟨GrownAt.of N31 (by k_mem), GrownAt.of N31 (by k_mem), True.intro⟩⟩)
end
end Mine
theorem PySem.Challenge.cw_uq0007_01_holds : PySem.Challenge.rw_uq0007_01.Holds :=
  Mine.body_try

