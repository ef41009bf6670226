import PyProof.Rows.All
import Wide.All
import OpenK.AllK
import Wide.FinOn
import PySem.Challenge.RW_dn0189_01
open PySem PySem.W PyProof.Rows
set_option Elab.async false
set_option linter.unusedVariables false
set_option linter.unusedSimpArgs false

/-! part Top1 -/
namespace Mine
set_option maxRecDepth 100000 in
set_option maxHeartbeats 8000000 in
open_top hd for PySem.Challenge.rw_dn0189_01
end Mine

/-! part Base -/
namespace Mine

def bodyIn : Stmt → List Stmt
  | .FunctionDef _ _ b _ _ _ _ _ _ _ => b
  | .ClassDef _ _ _ b _ _ _ _ _ _ _ => b
  | .For _ _ b _ _ => b
  | .While _ b _ _ => b
  | .If _ b _ _ => b
  | _ => []
def scopeIn : Stmt → Scope
  | .FunctionDef _ _ _ _ _ _ sc _ _ _ => sc
  | _ => { kind := .function, names := [], isGenerator := false, isCoroutine := false }
def stAt (b : List Stmt) (k : Nat) : Stmt := match b.drop k with
  | s :: _ => s
  | [] => .Pass default

abbrev P : Program := PySem.Challenge.rw_dn0189_01.row.prog
def lawDef : Stmt := stAt PySem.Challenge.pw_dn0189_01.main.body 5
def lawBody : List Stmt := bodyIn lawDef
def lawScope : Scope := scopeIn lawDef
abbrev lawEnv (L fa : Addr) (cd : Value) : Env := envOf (Str.ofString "law") lawScope L fa cd
abbrev lawA (L fa : Addr) (cd : Value) : Around := callerA.deeper (lawEnv L fa cd)

structure Gr (w : World) (mean : ExcName → Option Value) (mg mb : Str → Option Value) (h₀ : Heap) : Prop where
  T : Top hd.view_39 (looseW hd.view_39 [Str.ofString "Whitespace"]) mean mg mb h₀
  KX : (hd.heap_39 w.params).In h₀
  K0 : Below callerA h₀ [] h₀

end Mine

/-! part Loops -/
namespace Mine
section
variable {prog : Program} {w : World} {A : Around} {E : Value → Shared → Prop} {s : Shared} {env : Env} {h₀ : Heap} {y : Str} {body : List Stmt} {Q : Flow → Shared → Prop}

/-- what a turn of a loop leaves: the iterator's own object stays, the rest answers to the invariant -/
def TurnOut (h₀ : Heap) (L : Addr) (s : Shared) (I : Addr) (o : Obj) (Jn : (Str → Option Value) → List (Addr × Obj) → Prop) (Q : Flow → Shared → Prop) (f : Flow) (s₂ : Shared) : Prop :=
  match f with
  | .ret v => Q (.ret v) s₂
  | .brk => Q .next s₂
  | _ => ∃ h' tk m' nx, s₂ = { s with heap := h', toks := tk } ∧ Fr h₀ L h' m' ∧ News h₀ L h' ((I, o) :: nx) ∧ (∀ p ∈ nx, p.1 ≠ I) ∧ Jn m' nx

theorem loop_atJ {I : Addr} {fp wr : List Addr} {n : Nat} {P : Nat → Value → Prop} {St : Nat → Heap → Prop} {m₀ : Str → Option Value} {news : List (Addr × Obj)} (J : Nat → (Str → Option Value) → List (Addr × Obj) → Prop)
    (W : Walks prog w A I fp wr n P St) (hIf : I ∈ fp) (hwrI : ∀ b ∈ wr, b = I) (hIw : I ∈ wr) (hfp : ∀ b ∈ fp, b = I ∨ (∃ q, h₀.get? b = some q) ∨ ∃ o, ∀ i m nx, J i m nx → (b, o) ∈ nx) (hI0 : h₀.get? I = none) (hob : ∀ i h, St i h → ∃ o, h.get? I = some o)
    (hLf : env.locals ∉ fp) (hnw : ∀ p ∈ news, p.1 ≠ I) (hst : St 0 s.heap) (F : Fr h₀ env.locals s.heap m₀) (N : News h₀ env.locals s.heap news) (hj : J 0 m₀ news)
    (turn : ∀ i v m₁ nx h tk o, i < n → P i v → J i m₁ nx → (∀ p ∈ nx, p.1 ≠ I) → Fr h₀ env.locals h (fun z => if z = y then some v else m₁ z) → News h₀ env.locals h ((I, o) :: nx) →
      wpAny (model prog w) A (execs body env) (TurnOut h₀ env.locals { s with heap := h, toks := tk } I o (J (i + 1)) Q) E { s with heap := h, toks := tk })
    (done : ∀ m₁ nx h tk, J n m₁ nx → Fr h₀ env.locals h m₁ → News h₀ env.locals h nx → Q .next { s with heap := h, toks := tk }) :
    LoopAtV prog w A h₀ env y body Q E (.ref I) s := by
  refine ⟨I, fp, wr, n, P, St, m₀, news, J, rfl, W, hLf, ?_, ?_, hst, F, N, hj, ?_, ?_⟩
  · intro b hb
    rw [hwrI b hb]
    exact hI0
  · intro p hp hI
    exact hnw p hp (hwrI _ hI)
  · rintro i v m₁ nx s₁ own ⟨hh', tk', rfl⟩ hin hP hJ hoff hown _ hall hst' F₁ N₁
    obtain ⟨o, ho⟩ := hob _ _ hst'
    have hio : (I, o) ∈ own := hall I hIf hI0 o ho
    have N₂ : News h₀ env.locals hh' ((I, o) :: nx) := by
      intro p hp
      rcases List.mem_cons.mp hp with e | hp
      · rw [e]; exact N₁ _ (List.mem_append_left _ hio)
      · exact N₁ _ (List.mem_append_right _ hp)
    have hoff' : ∀ p ∈ nx, p.1 ≠ I := fun p hp e => hoff p hp (e ▸ hIw)
    refine wpAny_mono (turn i v m₁ nx hh' tk' o hin hP hJ hoff' F₁ N₂) (fun f s₂ p => ?_) fun _ _ e => e
    have fin : (∃ h' tk m' nx', s₂ = { s with heap := h', toks := tk } ∧ Fr h₀ env.locals h' m' ∧ News h₀ env.locals h' ((I, o) :: nx') ∧ (∀ p ∈ nx', p.1 ≠ I) ∧ J (i + 1) m' nx') → LoopStepU h₀ env.locals wr own (J (i + 1)) { s with heap := hh', toks := tk' } .next s₂ := by
      rintro ⟨h', tk, m', nx', e, F', N', hn, hJ'⟩
      refine ⟨rfl, h', tk, m', nx', e, F', ?_, fun p hp hw => hn p hp (hwrI _ hw), hJ'⟩
      intro p hp
      rcases List.mem_append.mp hp with hp | hp
      · have h3 := N₁ p (List.mem_append_left _ hp)
        rcases hfp p.1 (hown p hp) with e1 | ⟨q, hq⟩ | ⟨ob, hq⟩
        · have h4 := h3.1
          rw [e1, ho] at h4
          have : p = (I, o) := Prod.ext e1 (Option.some.inj h4).symm
          rw [this]; exact N' _ (List.mem_cons.mpr (.inl rfl))
        · have h5 := h3.2.2
          rw [hq] at h5
          exact absurd h5 (fun x => nomatch x)
        · have h6 := (N₁ _ (List.mem_append_right _ (hq _ _ _ hJ))).1
          have h4 := h3.1
          rw [h6] at h4
          have : p = (p.1, ob) := Prod.ext rfl (Option.some.inj h4).symm
          rw [this]; exact N' _ (List.mem_cons.mpr (.inr (hq _ _ _ hJ')))
      · exact N' _ (List.mem_cons.mpr (.inr hp))
    cases f with
    | ret v => exact .ret p
    | brk => exact .brk p
    | next => exact .next (fin p)
    | cont => exact .cont (fin p)
  · rintro h' tk m' news' F' N' _ hJ
    exact done m' news' h' tk hJ F' N'

theorem iter_strJ {x : Str} {t : Tok} {m₀ : Str → Option Value} {news : List (Addr × Obj)} (J : Nat → (Str → Option Value) → List (Addr × Obj) → Prop)
    (hh : A.handled = none) (F : Fr h₀ env.locals s.heap m₀) (N : News h₀ env.locals s.heap news) (hj : J 0 m₀ news)
    (turn : ∀ i c u m₁ nx h tk I o, x.cps[i]? = some c → J i m₁ nx → (∀ p ∈ nx, p.1 ≠ I) → Fr h₀ env.locals h (fun z => if z = y then some (.str ⟨#[c]⟩ u) else m₁ z) → News h₀ env.locals h ((I, o) :: nx) →
      wpAny (model prog w) A (execs body env) (TurnOut h₀ env.locals { s with heap := h, toks := tk } I o (J (i + 1)) Q) E { s with heap := h, toks := tk })
    (done : ∀ m₁ nx h tk, J x.cps.size m₁ nx → Fr h₀ env.locals h m₁ → News h₀ env.locals h nx → Q .next { s with heap := h, toks := tk }) :
    wpAny (model prog w) A (pyIter (.str x t)) (fun it s₂ => LoopAtV prog w A h₀ env y body Q E it s₂) E s := by
  have main : ∀ (oI : Obj) (St : Nat → Heap → Prop), (∀ i h, St i h → ∃ o, h.get? s.heap.objs.size = some o) → Walks prog w A s.heap.objs.size [s.heap.objs.size] [s.heap.objs.size] x.cps.size (SignAt x) St → St 0 (s.heap.push oI) →
      LoopAtV prog w A h₀ env y body Q E (.ref s.heap.objs.size) { s with heap := s.heap.push oI } := by
    intro oI St hob W hst
    refine loop_atJ J W (List.mem_singleton.mpr rfl) (fun b hb => List.mem_singleton.mp hb) (List.mem_singleton.mpr rfl) (fun b hb => .inl (List.mem_singleton.mp hb)) (next_is_new F) hob ?_ ?_ hst (F.push _) (fun p hp => ⟨Heap.get?_push_of_some _ (N p hp).1, (N p hp).2⟩) hj ?_ done
    · intro hm
      exact absurd F.ns.lt ((List.mem_singleton.mp hm) ▸ Nat.lt_irrefl _)
    · intro p hp hI
      exact absurd (Heap.lt_size (N p hp).1) (hI ▸ Nat.lt_irrefl _)
    · rintro i v m₁ nx h tk o hi ⟨c, u, hc, rfl⟩ hJ hoff F₁ N₁
      exact turn i c u m₁ nx h tk _ o hc hJ hoff F₁ N₁
  cases ha : x.cps.all (· < 128)
  · exact wpAny_pyIter_wide ha (main _ _ (fun i h ⟨o, ho, _⟩ => ⟨o, ho⟩) (Walks.strWide hh _ x t) ⟨_, Heap.get?_push_size _ rfl, rfl, rfl⟩)
  · exact wpAny_pyIter_ascii ha (main _ _ (fun i h ⟨o, ho, _⟩ => ⟨o, ho⟩) (Walks.strAscii hh _ x t) ⟨_, Heap.get?_push_size _ rfl, rfl, rfl⟩)

theorem iter_listJ {l : Addr} {vs : List Value} {k : Nat} {m₀ : Str → Option Value} {news : List (Addr × Obj)} (J : Nat → (Str → Option Value) → List (Addr × Obj) → Prop)
    (hh : A.handled = none) (hl : ∀ i m nx, J i m nx → (l, W.listOf vs.toArray k) ∈ nx) (F : Fr h₀ env.locals s.heap m₀) (N : News h₀ env.locals s.heap news) (hj : J 0 m₀ news)
    (turn : ∀ i v m₁ nx h tk I o, vs[i]? = some v → J i m₁ nx → (∀ p ∈ nx, p.1 ≠ I) → Fr h₀ env.locals h (fun z => if z = y then some v else m₁ z) → News h₀ env.locals h ((I, o) :: nx) →
      wpAny (model prog w) A (execs body env) (TurnOut h₀ env.locals { s with heap := h, toks := tk } I o (J (i + 1)) Q) E { s with heap := h, toks := tk })
    (done : ∀ m₁ nx h tk, J vs.length m₁ nx → Fr h₀ env.locals h m₁ → News h₀ env.locals h nx → Q .next { s with heap := h, toks := tk }) :
    wpAny (model prog w) A (pyIter (.ref l)) (fun it s₂ => LoopAtV prog w A h₀ env y body Q E it s₂) E s := by
  have hlN := N _ (hl _ _ _ hj)
  have hls : s.heap.IsList l vs.toArray := ⟨_, hlN.1, rfl, _, rfl⟩
  have hne : l ≠ s.heap.objs.size := Nat.ne_of_lt (Heap.lt_size hlN.1)
  refine wpAny_pyIter_list hls ?_
  have W := Walks.list (prog := prog) (w := w) hh s.heap.objs.size l hne vs.toArray
  rw [List.size_toArray] at W
  refine loop_atJ J W (by simp) (fun b hb => List.mem_singleton.mp hb) (List.mem_singleton.mpr rfl) ?_ (next_is_new F) (fun i h ⟨⟨o, ho, _⟩, _⟩ => ⟨o, ho⟩) ?_ ?_ ⟨⟨_, Heap.get?_push_size _ rfl, rfl, rfl⟩, hls.at fun o e => Heap.get?_push_of_some _ e⟩ (F.push _) (fun p hp => ⟨Heap.get?_push_of_some _ (N p hp).1, (N p hp).2⟩) hj ?_ done
  · intro b hb
    rcases List.mem_cons.mp hb with e | hb
    · exact .inl e
    · exact .inr (.inr ⟨_, fun i m nx hJ => (List.mem_singleton.mp hb) ▸ hl i m nx hJ⟩)
  · intro hm
    rcases List.mem_cons.mp hm with e | hm
    · exact absurd F.ns.lt (e ▸ Nat.lt_irrefl _)
    · exact hlN.2.1 (List.mem_singleton.mp hm).symm
  · intro p hp hI
    exact absurd (Heap.lt_size (N p hp).1) (hI ▸ Nat.lt_irrefl _)
  · rintro i v m₁ nx h tk o hi hP hJ hoff F₁ N₁
    exact turn i v m₁ nx h tk _ o (by simpa using hP) hJ hoff F₁ N₁

theorem iter_rangeJ {r : Addr} {a₀ b₀ : Int} {t₀ u₀ v₀ : Tok} {n : Nat} {m₀ : Str → Option Value} {news : List (Addr × Obj)} (J : Nat → (Str → Option Value) → List (Addr × Obj) → Prop)
    (hh : A.handled = none) (hr : IsRange s.heap r a₀ b₀ 1 t₀ u₀ v₀) (hsmall : Builtin.Range.small a₀ b₀ 1 = true) (hn : Builtin.Range.rangeSize a₀ b₀ 1 = (n : Int)) (F : Fr h₀ env.locals s.heap m₀) (N : News h₀ env.locals s.heap news) (hj : J 0 m₀ news)
    (turn : ∀ (i : Nat) (t : Tok) m₁ nx h tk I o, i < n → J i m₁ nx → (∀ p ∈ nx, p.1 ≠ I) → Fr h₀ env.locals h (fun z => if z = y then some (.int (a₀ + i) t) else m₁ z) → News h₀ env.locals h ((I, o) :: nx) →
      wpAny (model prog w) A (execs body env) (TurnOut h₀ env.locals { s with heap := h, toks := tk } I o (J (i + 1)) Q) E { s with heap := h, toks := tk })
    (done : ∀ m₁ nx h tk, J n m₁ nx → Fr h₀ env.locals h m₁ → News h₀ env.locals h nx → Q .next { s with heap := h, toks := tk }) :
    wpAny (model prog w) A (pyIter (.ref r)) (fun it s₂ => LoopAtV prog w A h₀ env y body Q E it s₂) E s := by
  refine wpAny_pyIter_range hr hsmall ?_
  have W : Walks prog w A s.heap.objs.size [s.heap.objs.size] [s.heap.objs.size] n (fun i v => i < n ∧ ∃ t, v = .int (a₀ + i * 1) t)
      (fun i h => IsRangeIter h s.heap.objs.size (a₀ + (i : Nat) * 1) ((n : Int) - (i : Nat)) 1) := (Walks.range hh _ a₀ 1 n).bound
  refine loop_atJ J W (List.mem_singleton.mpr rfl) (fun b hb => List.mem_singleton.mp hb) (List.mem_singleton.mpr rfl) (fun b hb => .inl (List.mem_singleton.mp hb)) (next_is_new F) (fun i h hs => ⟨_, hs⟩) ?_ ?_ (by show IsRangeIter _ _ _ _ _; rw [hn]; simpa using Heap.get?_push_size _ rfl) (F.push _) (fun p hp => ⟨Heap.get?_push_of_some _ (N p hp).1, (N p hp).2⟩) hj ?_ done
  · intro hm
    exact absurd F.ns.lt ((List.mem_singleton.mp hm) ▸ Nat.lt_irrefl _)
  · intro p hp hI
    exact absurd (Heap.lt_size (N p hp).1) (hI ▸ Nat.lt_irrefl _)
  · rintro i v m₁ nx h tk o hi ⟨_, t, rfl⟩ hJ hoff F₁ N₁
    rw [Int.mul_one] at F₁
    exact turn i t m₁ nx h tk _ o hi hJ hoff F₁ N₁
end
end Mine

/-! part Ws2 -/
namespace Mine

def clsDef : Stmt := stAt PySem.Challenge.pw_dn0189_01.main.body 2
def initDef : Stmt := stAt (bodyIn clsDef) 1
def initBody : List Stmt := bodyIn initDef
def initScope : Scope := scopeIn initDef
abbrev initEnv (L : Addr) : Env := envOf (Str.ofString "Whitespace.__init__") initScope L 38 (.ref 37)

theorem rv {m : Str → Option Value} {x : Str} {v : Value} (e : m x = some v) : m = fun y => if y = x then some v else m y := by
  funext y
  by_cases hy : y = x
  · subst hy; simp [e]
  · simp [hy]

structure Sc where
  cnt : List Int
  b : Nat
  n : Nat
  nt : Nat
def bump (c : List Int) (b : Nat) : List Int :=
  let d := if c.length ≤ b then c ++ List.replicate (b - c.length + 1) 0 else c
  d.set b (d.getD b 0 + 1)
def scan : List Nat → Sc → Sc
  | [], σ => σ
  | c :: r, σ => if c = 32 then scan r { σ with b := σ.b + 1, n := σ.n + 1 } else if c = 9 then scan r { cnt := bump σ.cnt σ.b, b := 0, n := σ.n + 1, nt := σ.nt + 1 } else σ

def WsJ (cps : List Nat) (fin : Sc) (rest : List (Addr × Obj)) (m₀ : Str → Option Value) (i : Nat) (m : Str → Option Value) (nx : List (Addr × Obj)) : Prop :=
  ∃ lc k vs σ tb tn tt, nx = (lc, W.listOf vs.toArray k) :: rest ∧ IntsAre vs σ.cnt ∧ (∀ p ∈ rest, p.1 ≠ lc) ∧ scan (cps.drop i) σ = fin ∧ σ.b ≤ i ∧ σ.cnt.length ≤ i ∧
    m (Str.ofString "count") = some (.ref lc) ∧ m (Str.ofString "b") = some (.int σ.b tb) ∧ m (Str.ofString "n") = some (.int σ.n tn) ∧ m (Str.ofString "nt") = some (.int σ.nt tt) ∧
    m (Str.ofString "S") = m₀ (Str.ofString "S") ∧ m (Str.ofString "T") = m₀ (Str.ofString "T") ∧ m (Str.ofString "self") = m₀ (Str.ofString "self")

set_option maxRecDepth 100000
set_option maxHeartbeats 8000000
theorem one_eq {c d : Nat} {u : Str} (h : (({ cps := #[c] } : Str) == u) = true) (hu : u = { cps := #[d] } := by decide +kernel) : c = d := by
  subst hu
  have := congrArg Str.cps (eq_of_beq h)
  simpa using this
theorem one_ne {c d : Nat} {u : Str} (h : (({ cps := #[c] } : Str) == u) = false) (hu : u = { cps := #[d] } := by decide +kernel) : c ≠ d := by
  subst hu
  rintro rfl
  simp at h
theorem drop_at {α : Type} {l : List α} {i : Nat} {c : α} (h : l[i]? = some c) : l.drop i = c :: l.drop (i + 1) := by
  obtain ⟨hi, he⟩ := List.getElem?_eq_some_iff.mp h
  rw [List.drop_eq_getElem_cons hi, he]
theorem flat_one {α : Type} (k : Nat) (a : α) : (List.replicate k [a]).flatten = List.replicate k a := by
  induction k with
  | zero => rfl
  | succ k ih => rw [List.replicate_succ, List.flatten_cons, ih, List.replicate_succ]; rfl
theorem lt_ofAll {d : Addr} {l : List (Addr × Obj)} (h : AllLt d l) : ∀ p ∈ l, p.1 < d := by
  induction l with
  | nil => intro p hp; cases hp
  | cons a r ih =>
    intro p hp
    rcases List.mem_cons.mp hp with e | hp
    · rw [e]; exact h.1
    · exact ih h.2 p hp
theorem bump_length (c : List Int) (b : Nat) : (bump c b).length = max c.length (b + 1) := by
  unfold bump
  dsimp only
  rw [List.length_set]
  split
  · rw [List.length_append, List.length_replicate]; omega
  · omega
theorem TurnOut.mk {h₀ h' : Heap} {L I : Addr} {o : Obj} {s : Shared} {Jn : (Str → Option Value) → List (Addr × Obj) → Prop} {Q : Flow → Shared → Prop} {m' : Str → Option Value} {nx : List (Addr × Obj)} {tk : Nat}
    (F : Fr h₀ L h' m') (N : News h₀ L h' ((I, o) :: nx)) (hn : ∀ p ∈ nx, p.1 ≠ I) (hJ : Jn m' nx) : TurnOut h₀ L s I o Jn Q .next { s with heap := h', toks := tk } := ⟨h', tk, m', nx, rfl, F, N, hn, hJ⟩
theorem TurnOut.mk1 {h₀ h' : Heap} {L I d : Addr} {o od : Obj} {s : Shared} {Jn : (Str → Option Value) → List (Addr × Obj) → Prop} {Q : Flow → Shared → Prop} {m' : Str → Option Value} {rest l : List (Addr × Obj)} {tk : Nat}
    (F : Fr h₀ L h' m') (N : News h₀ L h' ((d, od) :: l)) (hl : ∀ p ∈ (I, o) :: rest, p ∈ l) (hd : d ≠ I) (hn : ∀ p ∈ rest, p.1 ≠ I) (hJ : Jn m' ((d, od) :: rest)) : TurnOut h₀ L s I o Jn Q .next { s with heap := h', toks := tk } := by
  refine ⟨h', tk, m', (d, od) :: rest, rfl, F, ?_, ?_, hJ⟩
  · intro p hp
    rcases List.mem_cons.mp hp with rfl | hp
    · exact N _ (.tail _ (hl _ (.head _)))
    · rcases List.mem_cons.mp hp with rfl | hp
      · exact N _ (.head _)
      · exact N _ (.tail _ (hl _ (.tail _ hp)))
  · intro p hp
    rcases List.mem_cons.mp hp with rfl | hp
    · exact hd
    · exact hn p hp
local macro_rules | `(tactic| k_all) => `(tactic| assumption)
theorem ws_turn {w : World} {mean : ExcName → Option Value} {mg mb : Str → Option Value} {g : Heap} {A : Around}
   (T : Top hd.view_39 (looseW hd.view_39 [Str.ofString "Whitespace"]) mean mg mb g) (KX : (hd.heap_39 w.params).In g)
   {s : Shared} {L I : Addr} {o : Obj} {m : Str → Option Value} {rest : List (Addr × Obj)} {cps : List Nat} {fin : Sc} {c : Nat} {u tS tT : Tok} {m₀ : Str → Option Value}
    {i : Nat} {nx : List (Addr × Obj)}
    (hc : cps[i]? = some c) (hJ : WsJ cps fin rest m₀ i m nx) (hI : ∀ p ∈ nx, p.1 ≠ I) (hS : m₀ (Str.ofString "S") = some (.str (Str.ofString " ") tS)) (hT : m₀ (Str.ofString "T") = some (.str (Str.ofString "\t") tT)) (hlen : cps.length ≤ 100)
    (F : Fr g L s.heap (fun z => if z = Str.ofString "ch" then some (.str ⟨#[c]⟩ u) else m z)) (N : News g L s.heap ((I, o) :: nx)) (Q : Flow → Shared → Prop)
    (hQ : ∀ h' tk m' nx', WsJ cps fin rest m₀ cps.length m' nx' → Fr g L h' m' → News g L h' nx' → Q .next { s with heap := h', toks := tk }) :
    wpAny (model PySem.Challenge.rw_dn0189_01.row.prog w) A (execs (bodyIn (stAt initBody 4)) (initEnv L)) (TurnOut g L s I o (WsJ cps fin rest m₀ (i + 1)) Q) (fun _ _ => False) s := by
  w_top off
  revert KX; k_fill; intro KX
  obtain ⟨lc, k, vs, σ, tb, tn, tt, rfl, hvs, hlc, hfin, hb, hcl, e1, e2, e3, e4, e5, e6, e7⟩ := hJ
  rw [hS] at e5
  rw [hT] at e6
  rw [rv e1, rv e2, rv e3, rv e4, rv e5, rv e6] at F
  dsimp only at F
  have hI' := neN (hI _ (List.mem_cons.mpr (.inl rfl)))
  dsimp only at hI'
  have hil : i < cps.length := (List.getElem?_eq_some_iff.mp hc).1
  have hsz : vs.toArray.size = σ.cnt.length := by rw [List.size_toArray]; exact hvs.length
  have hcl' : σ.cnt.length ≤ 100 := by omega
  have hb' : σ.b ≤ 100 := by omega
  conv => { arg 3; arg 1; whnf }
  k_steps
  · rename_i ha h1 h2 F' N'
    have hc32 : c = 32 := one_eq ha
    refine TurnOut.mk F' N' hI ⟨lc, k, vs, { σ with b := σ.b + 1, n := σ.n + 1 }, _, _, _, rfl, hvs, hlc, ?_, by dsimp only; omega, by dsimp only; omega, rfl, rfl, rfl, rfl, hS.symm, hT.symm, e7⟩
    rw [← hfin, drop_at hc]; simp [scan, hc32]
  · rename_i ha0 ha1 h7 h6 hle tk1 l1 h5 hl1 D1 h4 i1 n1 s1 f1 f2 f3 hl2 D h3 ws hI3 hl3 h2 t0 h1 hi hl hs hh F' N'
    have hc9 : c = 9 := one_eq ha1
    have hbm : bump σ.cnt σ.b = (σ.cnt ++ (List.replicate ((σ.b : Int) - (σ.cnt.length : Int) + 1).toNat [(0 : Int)]).flatten).set (σ.b : Int).toNat ((σ.cnt ++ (List.replicate ((σ.b : Int) - (σ.cnt.length : Int) + 1).toNat [(0 : Int)]).flatten).getD (σ.b : Int).toNat 0 + 1) := by
      unfold bump
      have q : (List.replicate ((σ.b : Int) - (σ.cnt.length : Int) + 1).toNat [(0 : Int)]).flatten = List.replicate (σ.b - σ.cnt.length + 1) 0 := by
        rw [show ((σ.b : Int) - (σ.cnt.length : Int) + 1).toNat = σ.b - σ.cnt.length + 1 from by omega]
        exact flat_one _ _
      rw [q, if_pos (by omega), Int.toNat_natCast]
    refine TurnOut.mk1 F' N' ?_ ?_ (fun p hp => hI p (.tail _ hp)) ⟨D, _, _, { cnt := bump σ.cnt σ.b, b := 0, n := σ.n + 1, nt := σ.nt + 1 }, _, _, _, rfl, ?_, ?_, ?_, by dsimp only; omega, ?_, rfl, rfl, rfl, rfl, hS.symm, hT.symm, e7⟩
    · intro p hp
      rcases List.mem_cons.mp hp with rfl | hp
      · exact .tail _ (.tail _ (.head _))
      · exact .tail _ (.tail _ (.tail _ (.tail _ hp)))
    · exact Nat.ne_of_gt hl3.2.2.1
    · rw [hbm]; exact hi
    · intro p hp
      exact Nat.ne_of_lt (lt_ofAll hl3.2.2.2.2 p hp)
    · rw [← hfin, drop_at hc]; simp [scan, hc9]
    · show (bump σ.cnt σ.b).length ≤ i + 1
      rw [bump_length]; omega
  · rename_i ha0 ha1 h3 h2 hle t0 h1 hi hl hs hh F' N'
    have hc9 : c = 9 := one_eq ha1
    have hbm : bump σ.cnt σ.b = σ.cnt.set (σ.b : Int).toNat (σ.cnt.getD (σ.b : Int).toNat 0 + 1) := by
      unfold bump
      rw [if_neg (by omega), Int.toNat_natCast]
    refine TurnOut.mk F' N' ?_ ⟨lc, _, _, { cnt := bump σ.cnt σ.b, b := 0, n := σ.n + 1, nt := σ.nt + 1 }, _, _, _, rfl, ?_, hlc, ?_, by dsimp only; omega, ?_, rfl, rfl, rfl, rfl, hS.symm, hT.symm, e7⟩
    · intro p hp
      rcases List.mem_cons.mp hp with rfl | hp
      · exact hI'
      · exact hI p (.tail _ hp)
    · rw [hbm]; exact hi
    · rw [← hfin, drop_at hc]; simp [scan, hc9]
    · show (bump σ.cnt σ.b).length ≤ i + 1
      rw [bump_length]; omega
  · rename_i ha0 ha1
    have h32 := one_ne (d := 32) ha0
    have h9 := one_ne (d := 9) ha1
    show Q .next s
    refine hQ s.heap s.toks _ _ ?_ F (fun p hp => N p (.tail _ hp))
    exact ⟨lc, k, vs, σ, _, _, _, rfl, hvs, hlc, by rw [List.drop_length, ← hfin, drop_at hc]; simp [scan, h32, h9], by omega, by omega, rfl, rfl, rfl, rfl, hS.symm, hT.symm, e7⟩
end Mine

/-! part Ws3 -/
namespace Mine
abbrev tupObj (vs : List Value) : Obj := { cls := .type "tuple", data := .seq vs.toArray 0 }

def IsWs (own : List (Addr × Obj)) (v : Value) (cnt : List Int) (b : Nat) : Prop :=
  ∃ r d tu tc es nn vs tb, v = .ref r ∧ (r, instObj 83 d) ∈ own ∧ (d, dictOf es nn) ∈ own ∧ (tu, tupObj [.ref tc, .int b tb]) ∈ own ∧ (tc, tupObj vs) ∈ own ∧ IntsAre vs cnt ∧
    getL (Str.ofString "norm") es = some (some (.ref tu)) ∧ getL (Str.ofString "equal") es = some none
def scanOf (x : Str) : Sc := scan x.cps.toList ⟨[], 0, 0, 0⟩

theorem iter_strJK {prog : Program} {w : World} {A : Around} {E : Value → Shared → Prop} {s : Shared} {env : Env} {h₀ : Heap} {y : Str} {body : List Stmt} {Q : Flow → Shared → Prop} {x : Str} {t : Tok} {m₀ : Str → Option Value} {news : List (Addr × Obj)} (J : Nat → (Str → Option Value) → List (Addr × Obj) → Prop)
    (hh : A.handled = none) (F : Fr h₀ env.locals s.heap m₀) (N : News h₀ env.locals s.heap news) (hj : J 0 m₀ news)
    (turn : (∀ m₁ nx h tk, J x.cps.size m₁ nx → Fr h₀ env.locals h m₁ → News h₀ env.locals h nx → Q .next { s with heap := h, toks := tk }) → ∀ i c u m₁ nx h tk I o, x.cps[i]? = some c → J i m₁ nx → (∀ p ∈ nx, p.1 ≠ I) → Fr h₀ env.locals h (fun z => if z = y then some (.str ⟨#[c]⟩ u) else m₁ z) → News h₀ env.locals h ((I, o) :: nx) →
      wpAny (model prog w) A (execs body env) (TurnOut h₀ env.locals { s with heap := h, toks := tk } I o (J (i + 1)) Q) E { s with heap := h, toks := tk })
    (done : ∀ m₁ nx h tk, J x.cps.size m₁ nx → Fr h₀ env.locals h m₁ → News h₀ env.locals h nx → Q .next { s with heap := h, toks := tk }) :
    wpAny (model prog w) A (pyIter (.str x t)) (fun it s₂ => LoopAtV prog w A h₀ env y body Q E it s₂) E s := iter_strJ J hh F N hj (turn done) done

set_option maxRecDepth 100000
set_option maxHeartbeats 8000000
theorem ws_iter {w : World} {mean : ExcName → Option Value} {mg mb : Str → Option Value} {g : Heap} {A : Around} (hh : A.handled = none)
   (T : Top hd.view_39 (looseW hd.view_39 [Str.ofString "Whitespace"]) mean mg mb g) (KX : (hd.heap_39 w.params).In g)
   {s : Shared} {L lc : Addr} {k : Nat} {x : Str} {t tb tn tt tS tT : Tok} {rest : List (Addr × Obj)} {m₀ : Str → Option Value} {Q : Flow → Shared → Prop} {E : Value → Shared → Prop}
   (hx : x.length ≤ 100) (F : Fr g L s.heap m₀) (N : News g L s.heap ((lc, W.listOf #[] k) :: rest)) (hlc : ∀ p ∈ rest, p.1 < lc)
   (e1 : m₀ (Str.ofString "count") = some (.ref lc)) (e2 : m₀ (Str.ofString "b") = some (.int 0 tb)) (e3 : m₀ (Str.ofString "n") = some (.int 0 tn)) (e4 : m₀ (Str.ofString "nt") = some (.int 0 tt))
   (hS : m₀ (Str.ofString "S") = some (.str (Str.ofString " ") tS)) (hT : m₀ (Str.ofString "T") = some (.str (Str.ofString "\t") tT))
   (done : ∀ m₁ nx h tk, WsJ x.cps.toList (scanOf x) rest m₀ x.cps.size m₁ nx → Fr g L h m₁ → News g L h nx → Q .next { s with heap := h, toks := tk }) :
   wpAny (model PySem.Challenge.rw_dn0189_01.row.prog w) A (pyIter (.str x t)) (fun it s₂ => LoopAtV PySem.Challenge.rw_dn0189_01.row.prog w A g (initEnv L) (Str.ofString "ch") (bodyIn (stAt initBody 4)) Q E it s₂) E s := by
  have hlen : x.cps.toList.length ≤ 100 := by rw [Array.length_toList]; exact hx
  refine iter_strJK (WsJ x.cps.toList (scanOf x) rest m₀) hh F N ?_ ?_ done
  · exact ⟨lc, k, [], ⟨[], 0, 0, 0⟩, _, _, _, rfl, .nil, (fun p hp => Nat.ne_of_lt (hlc p hp)), rfl, Nat.le_refl _, Nat.le_refl _, e1, e2, e3, e4, rfl, rfl, rfl⟩
  · intro hQ i c u m₁ nx h tk I o hc hJ hI F₁ N₁
    refine wpAny_mono (ws_turn (s := { s with heap := h, toks := tk }) T KX (by simpa using hc) hJ hI hS hT hlen F₁ N₁ Q ?_) (fun _ _ h => h) (fun _ _ h => h.elim)
    intro h' tk' m' nx' hJ' F' N'
    exact hQ m' nx' h' tk' (by simpa using hJ') F' N'

theorem ws_fin {h₀ h : Heap} {s : Shared} {L tu tc lc tD xi di : Addr} {o3 o4 : Obj} {es : List DictEntry} {nn b tk : Nat} {vs : List Value} {cnt : List Int} {tb : Tok} {m : Str → Option Value} {news : List (Addr × Obj)} {Q : Value → Shared → Prop}
    (hQ : ∀ v own h' tk, IsWs own v cnt b → Fr h₀ L h' m → News h₀ L h' (own ++ news) → (∀ p ∈ own, ∀ q ∈ news, q.1 < p.1) → Q v { s with heap := h', toks := tk })
    (F : Fr h₀ L h m) (N : News h₀ L h ((tu, tupObj [.ref tc, .int b tb]) :: (tc, tupObj vs) :: (lc, o3) :: (tD, o4) :: (xi, instObj 83 di) :: (di, dictOf es nn) :: news)) (hvs : IntsAre vs cnt)
    (g1 : getL (Str.ofString "norm") es = some (some (.ref tu))) (g2 : getL (Str.ofString "equal") es = some none)
    (l1 : ∀ p ∈ news, p.1 < di) (l2 : di < xi) (l3 : xi < tc) (l4 : tc < tu) : Q (.ref xi) { s with heap := h, toks := tk } := by
  refine hQ _ [(tu, tupObj [.ref tc, .int b tb]), (tc, tupObj vs), (xi, instObj 83 di), (di, dictOf es nn)] h tk ⟨xi, di, tu, tc, es, nn, vs, tb, rfl, by simp, by simp, by simp, by simp, hvs, g1, g2⟩ F ?_ ?_
  · intro p hp
    simp only [List.cons_append, List.nil_append, List.mem_cons] at hp
    rcases hp with rfl | rfl | rfl | rfl | hp
    · exact N _ (.head _)
    · exact N _ (.tail _ (.head _))
    · exact N _ (.tail _ (.tail _ (.tail _ (.tail _ (.head _)))))
    · exact N _ (.tail _ (.tail _ (.tail _ (.tail _ (.tail _ (.head _))))))
    · exact N _ (.tail _ (.tail _ (.tail _ (.tail _ (.tail _ (.tail _ hp))))))
  · intro p hp q hq
    have h1 := l1 q hq
    simp only [List.mem_cons, List.not_mem_nil, or_false] at hp
    have h2 := ltN l2
    have h3 := ltN l3
    have h4 := ltN l4
    have h5 := ltN h1
    rcases hp with rfl | rfl | rfl | rfl
    · exact Nat.lt_trans h5 (Nat.lt_trans h2 (Nat.lt_trans h3 h4))
    · exact Nat.lt_trans h5 (Nat.lt_trans h2 h3)
    · exact Nat.lt_trans h5 h2
    · exact h5
local macro_rules | `(tactic| k_all) => `(tactic| assumption)
local macro_rules | `(tactic| walk_at "call type:tuple") => `(tactic| (k_here; (with_reducible show wpAny _ _ (call (Value.type _) [Value.ref _]) _ _ _); k_dflt (refine' kde_tupleOf ?k1 ?k2 ?k3 ?k4 ?k5 ?_; (case k1 => k_asm); (case k2 => k_asm); (case k3 => exact News.isList (by k_asm) (by k_mem)); (case k4 => omega); (case k5 => rfl); k_whole); intro D' h' F' N' l1; (try k_lt l1); (try k_sweep)))
theorem ws_call {w : World} {mean : ExcName → Option Value} {mg mb : Str → Option Value} {h₀ : Heap} (G : Gr w mean mg mb h₀) {s : Shared} {L fa : Addr} {cd : Value} {m : Str → Option Value} {news : List (Addr × Obj)}
    (F : Fr h₀ L s.heap m) (N : News h₀ L s.heap news) {x : Str} {t : Tok} (hx : x.length ≤ 100) {Q : Value → Shared → Prop} {E : Value → Shared → Prop}
    (hQ : ∀ v own h' tk, IsWs own v (scanOf x).cnt (scanOf x).b → Fr h₀ L h' m → News h₀ L h' (own ++ news) → (∀ p ∈ own, ∀ q ∈ news, q.1 < p.1) → Q v { s with heap := h', toks := tk }) :
    wpAny (model PySem.Challenge.rw_dn0189_01.row.prog w) (lawA L fa cd) (call (.ref 83) [.str x t]) Q E s := by
  obtain ⟨T, KX, K0⟩ := G
  w_top off
  revert KX; k_fill; intro KX
  k_steps
  rename Fr _ _ _ _ => F1
  rename News _ _ _ _ => N1
  rename_i xi di hpA FA NA l1 l2 g L' hpB FG B1 X1 T1 tkA hpC tD hpD ltD hpE hpF hpG tkB lc hpH ltc hpI hpJ hpK hpL
  refine ws_iter (by rfl) T1 X1 hx F1 N1 ?_ rfl rfl rfl rfl rfl rfl ?_
  · intro p hp
    rcases List.mem_cons.mp hp with rfl | hp
    · exact ltc.1
    rcases List.mem_cons.mp hp with rfl | hp
    · exact ltc.2.1
    rcases List.mem_cons.mp hp with rfl | hp
    · exact ltc.2.2.1
    · exact lt_ofAll ltc.2.2.2 p hp
  · intro m₁ nx h' tk' hJ F2 N2
    obtain ⟨lc', k', vs, σ, tb, tn, tt, rfl, hvs, hlc, hfin, hb, hcl, e1, e2, e3, e4, e5, e6, e7⟩ := hJ
    have hfin' : σ = scanOf x := by
      rw [← hfin, ← Array.length_toList, List.drop_length]; rfl
    subst hfin'
    clear hfin
    rw [rv e1, rv e2, rv e3, rv e4, rv e7] at F2
    dsimp only at F2
    have hsz : vs.toArray.size = (scanOf x).cnt.length := by rw [List.size_toArray]; exact hvs.length
    have hlen : x.cps.size ≤ 100 := hx
    have hl9 : (scanOf x).cnt.length ≤ 100 := by omega
    dsimp only
    have a1 : ∀ p ∈ news, p.1 ≠ di := fun p hp => Nat.ne_of_lt (l1 p hp)
    have a2 := neN (hlc _ (.head _))
    have a3 := neN (hlc _ (.tail _ (.head _)))
    have a4 := neN (hlc _ (.tail _ (.tail _ (.head _))))
    dsimp only at a2 a3 a4
    k_steps
    rename News _ _ _ _ => N9
    rename_i ltA _ _ ltB _ _ _ _ _ F9 _ _
    exact ws_fin hQ F9 N9 hvs (by k_get) (by k_get) l1 l2 ltA.2.2.1 ltB.1
end Mine

/-! part Eq1 -/
namespace Mine
section
variable {prog : Program} {w : World} {A : Around} {E : Value → Shared → Prop} {s : Shared} {h₀ : Heap} {L : Addr} {news : List (Addr × Obj)} {Q : Value → Shared → Prop}
open Classical in
theorem dat_eq {a b : Value} {d e : Dat} (N : News h₀ L s.heap news) (Da : DatIn news a d) (Db : DatIn news b e) (ha : kqdOk 8 d = true) (hb : kqdOk 8 e = true) (hu : A.units + 64 < cLine) (h : Q (.bool (decide (d = e))) s) :
    wpAny (model prog w) A (compareOp .Eq a b) Q E s := by
  obtain ⟨as, ra⟩ := kqd_in N 8 Da ha
  obtain ⟨bs, rb⟩ := kqd_in N 8 Db hb
  have la := kqd_lay 8 d ha
  have lb := kqd_lay 8 e hb
  have q : PyData.eqv (kqdP d) (kqdP e) = decide (d = e) := by
    have q := kqd_eqv 8 d e 8 ha hb
    by_cases hq : d = e
    · rw [decide_eq_true hq]; exact q.mpr hq
    · rw [decide_eq_false hq]; exact Bool.eq_false_iff.mpr fun x => hq (q.mp x)
  refine eq_dataH ra rb ?_ ?_ hu (by rw [q]; exact h)
  · unfold SeqAt.shaped; rw [la.1, Bool.true_and]; exact decide_eq_true (Nat.le_trans la.2 (by decide))
  · unfold SeqAt.shaped; rw [lb.1, Bool.true_and]; exact decide_eq_true (Nat.le_trans lb.2 (by decide))
end
theorem ints_dat {vs : List Value} {ns : List Int} (news : List (Addr × Obj)) (h : IntsAre vs ns) : DatAll news vs (ns.map Dat.int) := by
  induction h with
  | nil => exact .nil
  | cons _ _ _ ih => exact .cons (.int _ _) ih
def normDat (cnt : List Int) (b : Nat) : Dat := .tuple [.tuple (cnt.map Dat.int), .int b]
theorem map_int_inj {a b : List Int} (h : a.map Dat.int = b.map Dat.int) : a = b := by
  induction a generalizing b with
  | nil => cases b with
    | nil => rfl
    | cons _ _ => cases h
  | cons x r ih => cases b with
    | nil => cases h
    | cons y t =>
      rw [List.map_cons, List.map_cons] at h
      injection h with h1 h2
      injection h1 with h1
      rw [h1, ih h2]
theorem normDat_inj {c c' : List Int} {b b' : Nat} : normDat c b = normDat c' b' ↔ c = c' ∧ b = b' := by
  constructor
  · intro h
    unfold normDat at h
    injection h with h
    injection h with h1 h2
    injection h1 with h1
    injection h2 with h2 _
    injection h2 with h2
    exact ⟨map_int_inj h1, by omega⟩
  · rintro ⟨rfl, rfl⟩; rfl
theorem normDat_ok (c : List Int) (b : Nat) : kqdOk 8 (normDat c b) = true := by
  simp [normDat, kqdOk]

set_option maxRecDepth 100000
set_option maxHeartbeats 8000000
theorem IsWs.dat {own : List (Addr × Obj)} {tu tc : Addr} {vs : List Value} {c : List Int} {b : Nat} {tb : Tok} (h3 : (tu, tupObj [.ref tc, .int b tb]) ∈ own) (h4 : (tc, tupObj vs) ∈ own) (hi : IntsAre vs c) : DatIn own (.ref tu) (normDat c b) :=
  .tuple h3 (.cons (.tuple h4 (ints_dat own hi)) (.cons (.int _ _) .nil))
local macro_rules | `(tactic| walk_at "getAttr ref") => `(tactic| (k_here; k_dflt (refine' get_own ?k1 ?k2 ?k3 ?k4 ?k5 ?k6 ?k7 ?k8 ?k9 ?_; (case k1 => k_asm); (case k2 => k_asm); (case k3 => exact InstAt.of_news (by k_asm) (by assumption) (by assumption)); (case k4 => k_is); (case k5 => k_is); (case k6 => k_is); (case k7 => k_is); (case k8 => assumption); (case k9 => k_handed); k_whole)))
local macro_rules | `(tactic| walk_at "compareOp Eq ref ref") => `(tactic| (k_here; k_dflt (refine' dat_eq ?k1 ?k2 ?k3 ?k4 ?k5 ?k6 ?_; (case k1 => k_asm); (case k2 => exact IsWs.dat (by assumption) (by assumption) (by assumption)); (case k3 => exact IsWs.dat (by assumption) (by assumption) (by assumption)); (case k4 => exact normDat_ok _ _); (case k5 => exact normDat_ok _ _); (case k6 => ke_room); k_whole)))
theorem eq_call {w : World} {mean : ExcName → Option Value} {mg mb : Str → Option Value} {h₀ : Heap} (G : Gr w mean mg mb h₀) {s : Shared} {L fa : Addr} {cd : Value} {m : Str → Option Value} {news : List (Addr × Obj)}
    (F : Fr h₀ L s.heap m) (N : News h₀ L s.heap news) {r r' : Addr} {c c' : List Int} {b b' : Nat} (W1 : IsWs news (.ref r) c b) (W2 : IsWs news (.ref r') c' b') {Q : Value → Shared → Prop} {E : Value → Shared → Prop}
    (hQ : ∀ h' tk, Fr h₀ L h' m → News h₀ L h' news → Q (.bool (decide (c = c' ∧ b = b'))) { s with heap := h', toks := tk }) :
    wpAny (model PySem.Challenge.rw_dn0189_01.row.prog w) (lawA L fa cd) (call (.ref 59) [.ref r, .ref r']) Q E s := by
  obtain ⟨T, KX, K0⟩ := G
  w_top off
  revert KX; k_fill; intro KX
  obtain ⟨_, d, tu, tc, es, nn, vs, tb, e1, m1, m2, m3, m4, i1, g1, g2⟩ := W1
  obtain ⟨_, d', tu', tc', es', nn', vs', tb', e1', m1', m2', m3', m4', i1', g1', g2'⟩ := W2
  cases e1
  cases e1'
  k_steps
  rename Fr _ _ _ _ => F9
  rename News _ _ _ _ => N9
  rw [decide_eq_decide.mpr (normDat_inj (c := c) (b := b) (c' := c') (b' := b'))]
  exact hQ _ _ F9 N9
end Mine

/-! part Col1 -/
namespace Mine
def colDef : Stmt := stAt PySem.Challenge.pw_dn0189_01.main.body 4
def colBody : List Stmt := bodyIn colDef
def colScope : Scope := scopeIn colDef
abbrev colEnv (L : Addr) : Env := envOf (Str.ofString "_law_columns") colScope L 94 (.ref 93)

def Stop (p : Prop) : Prop := p
theorem Stop.intro {p : Prop} (h : Stop p) : p := h

def colC (size : Int) : List Nat → Int → Int
  | [], a => a
  | c :: r, a => colC size r (if c = 9 then a + (size - Int.fmod a size) else a + 1)

def ColI (cps : List Nat) (size fin : Int) (m₀ : Str → Option Value) (nx₀ : List (Addr × Obj)) (i : Nat) (m : Str → Option Value) (nx : List (Addr × Obj)) : Prop :=
  nx = nx₀ ∧ (∃ a t, m (Str.ofString "column") = some (.int a t) ∧ colC size (cps.drop i) a = fin) ∧ ∀ z, z ≠ Str.ofString "column" → z ≠ Str.ofString "ch" → m z = m₀ z

set_option maxRecDepth 100000
set_option maxHeartbeats 8000000
theorem col_turn {w : World} {mean : ExcName → Option Value} {mg mb : Str → Option Value} {g : Heap} {A : Around}
   (T : Top hd.view_39 (looseW hd.view_39 [Str.ofString "Whitespace"]) mean mg mb g) (KX : (hd.heap_39 w.params).In g)
   {s : Shared} {L I : Addr} {o : Obj} {m m₀ : Str → Option Value} {nx nx₀ : List (Addr × Obj)} {cps : List Nat} {size fin : Int} {c i : Nat} {u ts : Tok}
   (hc : cps[i]? = some c) (hJ : ColI cps size fin m₀ nx₀ i m nx) (hI : ∀ p ∈ nx, p.1 ≠ I) (hS : m₀ (Str.ofString "size") = some (.int size ts)) (hpos : 0 < size)
   (F : Fr g L s.heap (fun z => if z = Str.ofString "ch" then some (.str ⟨#[c]⟩ u) else m z)) (N : News g L s.heap ((I, o) :: nx)) (Q : Flow → Shared → Prop) :
    wpAny (model PySem.Challenge.rw_dn0189_01.row.prog w) A (execs (bodyIn (stAt (bodyIn (stAt colBody 1)) 1)) (colEnv L)) (TurnOut g L s I o (ColI cps size fin m₀ nx₀ (i + 1)) Q) (fun _ _ => False) s := by
  w_top off
  revert KX; k_fill; intro KX
  obtain ⟨rfl, ⟨a, ta, e1, hfin⟩, hm⟩ := hJ
  have e2 := (hm (Str.ofString "size") (by decide) (by decide)).trans hS
  rw [rv e1, rv e2] at F
  dsimp only at F
  conv => { arg 3; arg 1; whnf }
  k_steps
  · rename_i ha h1 F' N'
    refine TurnOut.mk F' N' hI ⟨rfl, ⟨_, _, rfl, ?_⟩, ?_⟩
    · rw [← hfin, drop_at hc]; simp [colC, one_eq (d := 9) ha]
    · intro z h1 h2
      rw [← hm z h1 h2]
      simp [h1, h2]
      rintro rfl
      exact e2.symm
  · rename_i ha h1 F' N'
    refine TurnOut.mk F' N' hI ⟨rfl, ⟨_, _, rfl, ?_⟩, ?_⟩
    · rw [← hfin, drop_at hc]; simp [colC, one_ne (d := 9) ha]
    · intro z h1 h2
      rw [← hm z h1 h2]
      simp [h1, h2]
      rintro rfl
      exact e2.symm
end Mine

/-! part Col2 -/
namespace Mine
set_option maxRecDepth 100000
set_option maxHeartbeats 8000000
theorem col_for {w : World} {mean : ExcName → Option Value} {mg mb : Str → Option Value} {g : Heap} {A : Around} (hh : A.handled = none)
   (T : Top hd.view_39 (looseW hd.view_39 [Str.ofString "Whitespace"]) mean mg mb g) (KX : (hd.heap_39 w.params).In g)
   {s : Shared} {L : Addr} {m : Str → Option Value} {nx : List (Addr × Obj)} {x : Str} {size a : Int} {t ts ta : Tok}
   (hL : m (Str.ofString "lead") = some (.str x t)) (hS : m (Str.ofString "size") = some (.int size ts)) (hC : m (Str.ofString "column") = some (.int a ta)) (hpos : 0 < size)
   (F : Fr g L s.heap m) (N : News g L s.heap nx) :
    wpAny (model PySem.Challenge.rw_dn0189_01.row.prog w) A (exec (stAt (bodyIn (stAt colBody 1)) 1) (colEnv L))
      (fun f s' => f = .next ∧ ∃ h' tk m', s' = { s with heap := h', toks := tk } ∧ Fr g L h' m' ∧ News g L h' nx ∧ (∃ t, m' (Str.ofString "column") = some (.int (colC size x.cps.toList a) t)) ∧ ∀ z, z ≠ Str.ofString "column" → z ≠ Str.ofString "ch" → m' z = m z)
      (fun _ _ => False) s := by
  conv => { arg 3; arg 1; whnf }
  refine For_invV g (by rfl) (by rfl) ?_ (by intro _; rfl) PassesOwn.never
  refine ld F hL ?_
  refine iter_strJ (ColI x.cps.toList size (colC size x.cps.toList a) m nx) hh F N ⟨rfl, ⟨a, ta, hC, rfl⟩, fun _ _ _ => rfl⟩ ?_ ?_
  · intro i c u m₁ nx₁ h tk I o hc hJ hI F₁ N₁
    exact col_turn (s := { s with heap := h, toks := tk }) T KX (by simpa using hc) hJ hI hS hpos F₁ N₁ _
  · rintro m₁ nx₁ h tk ⟨rfl, ⟨a', ta', e1, hf⟩, hm⟩ F₁ N₁
    rw [← Array.length_toList, List.drop_length] at hf
    refine ⟨rfl, h, tk, m₁, rfl, F₁, N₁, ⟨ta', ?_⟩, hm⟩
    rw [e1, ← hf]; rfl

def ColO (x : Str) (t : Tok) (rest : List (Addr × Obj)) (lc : Addr) (i : Nat) (m : Str → Option Value) (nx : List (Addr × Obj)) : Prop :=
  ∃ k vs, nx = (lc, W.listOf vs.toArray k) :: rest ∧ IntsAre vs ((List.range i).map fun j : Nat => colC (1 + (j : Int)) x.cps.toList 0) ∧ m (Str.ofString "columns") = some (.ref lc) ∧ m (Str.ofString "lead") = some (.str x t)

local macro_rules | `(tactic| k_all) => `(tactic| assumption)
local macro_rules | `(tactic| walk_at "exec For Name Name cons nil") => `(tactic| (refine Stop.intro ?_))
local macro_rules | `(tactic| walk_at "exec For Name Call cons nil") => `(tactic| (refine Stop.intro ?_))
local macro_rules | `(tactic| walk_at "exec For") => `(tactic| (refine Stop.intro ?_))
theorem col_oturn {w : World} {mean : ExcName → Option Value} {mg mb : Str → Option Value} {g : Heap} {A : Around} (hh : A.handled = none)
   (T : Top hd.view_39 (looseW hd.view_39 [Str.ofString "Whitespace"]) mean mg mb g) (KX : (hd.heap_39 w.params).In g)
   {s : Shared} {L I lc : Addr} {o : Obj} {m : Str → Option Value} {nx rest : List (Addr × Obj)} {x : Str} {t u : Tok} {i : Nat}
   (hi : i < 11) (hJ : ColO x t rest lc i m nx) (hI : ∀ p ∈ nx, p.1 ≠ I) (hlc : ∀ p ∈ rest, p.1 ≠ lc)
   (F : Fr g L s.heap (fun z => if z = Str.ofString "size" then some (.int (1 + (i : Int)) u) else m z)) (N : News g L s.heap ((I, o) :: nx)) (Q : Flow → Shared → Prop) :
    wpAny (model PySem.Challenge.rw_dn0189_01.row.prog w) A (execs (bodyIn (stAt colBody 1)) (colEnv L)) (TurnOut g L s I o (ColO x t rest lc (i + 1)) Q) (fun _ _ => False) s := by
  w_top off
  revert KX; k_fill; intro KX
  obtain ⟨k, vs, rfl, hvs, e1, e2⟩ := hJ
  rw [rv e1, rv e2] at F
  dsimp only at F
  have hI' := neN (hI _ (.head _))
  dsimp only at hI'
  conv => { arg 3; arg 1; whnf }
  k_steps
  rename Fr _ _ _ _ => F1
  rename News _ _ _ _ => N1
  unfold Stop
  refine wpAny_mono (col_for hh T KX rfl rfl rfl (by omega) F1 N1) ?_ (fun _ _ h => h.elim)
  rintro f s' ⟨rfl, h', tk', m', rfl, F2, N2, ⟨tc, e3⟩, hm⟩
  have e4 := (hm (Str.ofString "columns") (by decide) (by decide)).trans rfl
  rw [rv e3, rv e4] at F2
  dsimp only at F2
  have hll := hvs.length
  rw [List.length_map, List.length_range] at hll
  dsimp only
  k_steps
  rename Fr _ _ _ _ => F3
  rename News _ _ _ _ => N3
  simp only [List.push_toArray] at N3
  refine TurnOut.mk F3 N3 ?_ ⟨_, _, rfl, ?_, rfl, ?_⟩
  · intro p hp
    rcases List.mem_cons.mp hp with rfl | hp
    · exact hI'
    · exact hI p (.tail _ hp)
  · rw [List.range_succ, List.map_append]
    exact hvs.append (.cons _ _ .nil)
  · exact (hm (Str.ofString "lead") (by decide) (by decide)).trans rfl

local macro_rules | `(tactic| walk_at "pyIter ref") => `(tactic| (refine Stop.intro ?_))
theorem col_ofor {w : World} {mean : ExcName → Option Value} {mg mb : Str → Option Value} {g : Heap} {A : Around} (hh : A.handled = none)
   (T : Top hd.view_39 (looseW hd.view_39 [Str.ofString "Whitespace"]) mean mg mb g) (KX : (hd.heap_39 w.params).In g)
   {s : Shared} {L lc : Addr} {k : Nat} {m : Str → Option Value} {rest : List (Addr × Obj)} {x : Str} {t : Tok}
   (hL : m (Str.ofString "lead") = some (.str x t)) (hC : m (Str.ofString "columns") = some (.ref lc)) (hlc : ∀ p ∈ rest, p.1 < lc)
   (F : Fr g L s.heap m) (N : News g L s.heap ((lc, W.listOf #[] k) :: rest)) :
    wpAny (model PySem.Challenge.rw_dn0189_01.row.prog w) A (exec (stAt colBody 1) (colEnv L))
      (fun f s' => f = .next ∧ ∃ h' tk m' nx, s' = { s with heap := h', toks := tk } ∧ Fr g L h' m' ∧ News g L h' nx ∧ ColO x t rest lc 11 m' nx)
      (fun _ _ => False) s := by
  w_top off
  revert KX; k_fill; intro KX
  conv => { arg 3; arg 1; whnf }
  refine For_invV g (by rfl) (by rfl) ?_ (by intro _; rfl) PassesOwn.never
  k_steps
  unfold Stop
  rename IsRange _ _ _ _ _ _ _ _ => hr
  rename Fr _ _ _ _ => F1
  rename News _ _ _ _ => N1
  refine iter_rangeJ (n := 11) (ColO x t rest lc) hh hr (by decide) (by decide) F1 N1 ⟨_, [], rfl, .nil, hC, hL⟩ ?_ ?_
  · intro i u m₁ nx h tk I o hi hJ hI F₁ N₁
    exact col_oturn (s := { s with heap := h, toks := tk }) hh T KX hi hJ hI (fun p hp => Nat.ne_of_lt (hlc p hp)) F₁ N₁ _
  · intro m₁ nx h tk hJ F₁ N₁
    exact ⟨rfl, h, tk, m₁, nx, rfl, F₁, N₁, hJ⟩

theorem col_call {w : World} {mean : ExcName → Option Value} {mg mb : Str → Option Value} {h₀ : Heap} (G : Gr w mean mg mb h₀) {s : Shared} {L fa : Addr} {cd : Value} {m : Str → Option Value} {news : List (Addr × Obj)} {x : Str} {t : Tok}
    (F : Fr h₀ L s.heap m) (N : News h₀ L s.heap news)  {Q : Value → Shared → Prop} {E : Value → Shared → Prop}
    (hQ : ∀ D k vs h' tk, IntsAre vs ((List.range 11).map fun j : Nat => colC (1 + (j : Int)) x.cps.toList 0) → Fr h₀ L h' m → News h₀ L h' ((D, W.listOf vs.toArray k) :: news) → (∀ p ∈ news, p.1 < D) → Q (.ref D) { s with heap := h', toks := tk }) :
    wpAny (model PySem.Challenge.rw_dn0189_01.row.prog w) (lawA L fa cd) (call (.ref 94) [.str x t]) Q E s := by
  obtain ⟨T, KX, K0⟩ := G
  w_top off
  revert KX; k_fill; intro KX
  k_steps
  unfold Stop
  rename_i gg L' _ FG B1 X1 T1 _ lc _ hlt h1 F1 N1
  refine wpAny_mono (col_ofor (by rfl) T1 X1 rfl rfl hlt F1 N1) ?_ (fun _ _ h => h.elim)
  rintro f s' ⟨rfl, h', tk', m', nx, rfl, F2, N2, ⟨k, vs, rfl, hvs, e1, e2⟩⟩
  rw [rv e1] at F2
  dsimp only
  k_steps
  rename Fr _ _ _ _ => F3
  rename News _ _ _ _ => N3
  exact hQ lc k vs _ _ hvs F3 N3 hlt
end Mine

/-! part SegA -/
namespace Mine
/-- spaces and tabs alone -/
def Blank (x : Str) : Prop := ∀ c ∈ x.cps.toList, c = 32 ∨ c = 9
def Good (x : Str) : Prop := x.cps.size ≤ 10 ∧ Blank x
theorem Blank.app {x y : Str} (hx : Blank x) (hy : Blank y) : Blank (x ++ y) := by
  intro c hc
  have e : (x ++ y).cps = x.cps ++ y.cps := rfl
  rw [e, Array.toList_append, List.mem_append] at hc
  exact hc.elim (hx c) (hy c)
theorem blank_nil : Blank (Str.ofString "") := by
  have e : Str.ofString "" = ⟨#[]⟩ := by decide +kernel
  rw [e]; intro c hc; simp at hc
theorem blank_sp : Blank (Str.ofString " ") := by
  have e : Str.ofString " " = ⟨#[32]⟩ := by decide +kernel
  rw [e]; intro c hc; simp at hc; exact .inl hc
theorem blank_tab : Blank (Str.ofString "\t") := by
  have e : Str.ofString "\t" = ⟨#[9]⟩ := by decide +kernel
  rw [e]; intro c hc; simp at hc; exact .inr hc

def WhJ (m₀ : Str → Option Value) (nx₀ : List (Addr × Obj)) (n : Nat) (m : Str → Option Value) (nx : List (Addr × Obj)) : Prop :=
  nx = nx₀ ∧ (∃ (q : Int) (x : Str) (k : Nat) (tq tl : Tok), m (Str.ofString "q") = some (.int q tq) ∧ m (Str.ofString "lead") = some (.str x tl) ∧ 0 ≤ q ∧ q.toNat = n ∧ q.toNat * 3 ^ k < 59049 ∧ x.cps.size ≤ k ∧ k ≤ 10 ∧ Blank x) ∧
    m (Str.ofString "leads") = m₀ (Str.ofString "leads")
theorem three_pow {k n : Nat} (hn : 0 < n) (h : n * 3 ^ k < 59049) : k < 10 := by
  have h1 : 3 ^ k ≤ n * 3 ^ k := Nat.le_mul_of_pos_left _ hn
  have h2 : 3 ^ k < 3 ^ 10 := Nat.lt_of_le_of_lt h1 h
  exact (Nat.pow_lt_pow_iff_right (by decide)).mp h2
theorem three_step {k n : Nat} (h : n * 3 ^ k < 59049) : n / 3 * 3 ^ (k + 1) < 59049 := by
  have : n / 3 * 3 ^ (k + 1) ≤ n * 3 ^ k := by
    rw [Nat.pow_succ, Nat.mul_comm (3 ^ k) 3, ← Nat.mul_assoc]
    exact Nat.mul_le_mul_right _ (Nat.div_mul_le_self n 3)
  omega

def xBody : List Stmt := bodyIn (stAt lawBody 1)
set_option maxRecDepth 100000
set_option maxHeartbeats 8000000
theorem item_list {prog : Program} {w : World} {A : Around} {E : Value → Shared → Prop} {s : Shared} {h₀ : Heap} {L l : Addr} {news : List (Addr × Obj)} {Q : Value → Shared → Prop} {value slice : PySem.Expr} {vs : List Value} {n : Nat} {k : Int} {u : Tok} {v : Value}
    (N : News h₀ L s.heap news) (hm : (l, W.listOf vs.toArray n) ∈ news) (h0 : 0 ≤ k) (hhi : k < 2 ^ 63) (hx : vs[k.toNat]? = some v) (h : Q v s)
    (hs : subscripted slice false (.ref l) (.int k u) = operate [.ref l, .int k u] (getItem (.ref l) (.int k u)) := by with_unfolding_all rfl) :
    wpAny (model prog w) A (subscriptTail value slice (.ref l) (.int k u)) Q E s :=
  tail_any (News.isList N hm).typeIs slot_list_getitem.lookup (wpAny_getItem_list (News.isList N hm) h0 hhi (by simpa using hx) h) hs
theorem three_item {vs : List Value} {k : Int} {t0 t1 t2 : Tok} (hv : vs = [.str (Str.ofString "") t0, .str (Str.ofString " ") t1, .str (Str.ofString "\t") t2]) (h0 : 0 ≤ k) (h3 : k < 3) :
    ∃ y t, vs[k.toNat]? = some (.str y t) ∧ Blank y ∧ y.cps.size ≤ 1 := by
  subst hv
  have : k = 0 ∨ k = 1 ∨ k = 2 := by omega
  rcases this with rfl | rfl | rfl
  · exact ⟨_, _, rfl, blank_nil, by decide +kernel⟩
  · exact ⟨_, _, rfl, blank_sp, by decide +kernel⟩
  · exact ⟨_, _, rfl, blank_tab, by decide +kernel⟩
local macro_rules | `(tactic| walk_at "subscriptTail") => `(tactic| (refine Stop.intro ?_))
theorem a_while {w : World} {mean : ExcName → Option Value} {mg mb : Str → Option Value} {h₀ : Heap} (G : Gr w mean mg mb h₀) {A : Around} (hh : A.handled = none)
   {s : Shared} {L fa : Addr} {cd : Value} {m : Str → Option Value} {nx : List (Addr × Obj)} {q : Int} {tq tl : Tok} {x : Str}
   (hq : m (Str.ofString "q") = some (.int q tq)) (hl : m (Str.ofString "lead") = some (.str x tl)) (h0 : 0 ≤ q) (hlt : q < 59049) (hx : x.cps.size = 0) (hxb : Blank x)
   (F : Fr h₀ L s.heap m) (N : News h₀ L s.heap nx) :
    wpAny (model PySem.Challenge.rw_dn0189_01.row.prog w) A (exec (stAt xBody 2) (lawEnv L fa cd))
      (fun f s' => Stop (f = .next ∧ ∃ h' tk m', s' = { s with heap := h', toks := tk } ∧ Fr h₀ L h' m' ∧ News h₀ L h' nx ∧ (∃ x t, m' (Str.ofString "lead") = some (.str x t) ∧ Good x) ∧ m' (Str.ofString "leads") = m (Str.ofString "leads")))
      (fun _ _ => False) s := by
  obtain ⟨T, KX, K0⟩ := G
  w_top off
  revert KX; k_fill; intro KX
  conv => { arg 3; arg 1; whnf }
  refine While_inv2 (WhJ m nx) (n₀ := q.toNat) F N ⟨rfl, ⟨q, x, 0, tq, tl, hq, hl, h0, rfl, by simp; omega, by omega, by omega, hxb⟩, rfl⟩ ?_ PassesOwn.never
  rintro n m₁ nx₁ h tk F₁ N₁ ⟨rfl, ⟨q₁, x₁, k₁, t1, t2, e1, e2, hq0, rfl, hq1, hk, hk10, hb⟩, e3⟩
  rw [rv e1, rv e2] at F₁
  dsimp only at F₁
  clear F N hq hl
  have hxl : x₁.length ≤ 100 := by show x₁.cps.size ≤ 100; omega
  k_steps
  · unfold Stop
    rename Fr _ _ _ _ => F2
    rename News _ _ _ _ => N2
    rename_i hpos _ _ _ hlt2
    have f0 : 0 ≤ q₁.fmod 3 := Int.fmod_nonneg_of_pos _ (by decide)
    have f3 : q₁.fmod 3 < 3 := Int.fmod_lt_of_pos _ (by decide)
    obtain ⟨y, t, hy, hyb, hyl⟩ := three_item rfl f0 f3
    refine item_list N2 (.head _) f0 (by omega) hy ?_
    have hyl' : y.length ≤ 1 := hyl
    k_steps
    rename Fr _ _ _ _ => F3
    rename News _ _ _ _ => N3
    have hk9 : k₁ < 10 := three_pow (by omega) hq1
    have hd : q₁.fdiv 3 = q₁ / 3 := Int.fdiv_eq_ediv_of_nonneg _ (by decide)
    have hd2 : (q₁.fdiv 3).toNat = q₁.toNat / 3 := by rw [hd]; omega
    refine ⟨_, _, _, nx₁, (q₁.fdiv 3).toNat, rfl, F3, fun p hp => N3 p (.tail _ hp), by rw [hd2]; omega, rfl, ⟨q₁.fdiv 3, x₁ ++ y, k₁ + 1, _, _, rfl, rfl, by rw [hd]; omega, rfl, ?_, ?_, by omega, hb.app hyb⟩, e3⟩
    · rw [hd2]; exact three_step hq1
    · show (x₁ ++ y).length ≤ k₁ + 1
      rw [Str.length_append]
      have : x₁.length ≤ k₁ := hk
      omega
  · rename_i hq
    refine ⟨rfl, h, _, _, rfl, F₁, N₁, ⟨x₁, t2, rfl, ?_, hb⟩, e3⟩
    omega

def AJ (D lL : Addr) (od : Obj) (i : Nat) (m : Str → Option Value) (nx : List (Addr × Obj)) : Prop :=
  ∃ k vs leads, nx = [(D, od), (lL, W.listOf vs.toArray k)] ∧ StrsAre vs leads ∧ (∀ x ∈ leads, Good x) ∧ leads.length = i + 3 ∧ m (Str.ofString "leads") = some (.ref lL)

local macro_rules | `(tactic| walk_at "exec While Compare cons nil") => `(tactic| (refine Stop.intro ?_))
local macro_rules | `(tactic| walk_at "exec While") => `(tactic| (refine Stop.intro ?_))
theorem a_turn {w : World} {mean : ExcName → Option Value} {mg mb : Str → Option Value} {h₀ : Heap} (G : Gr w mean mg mb h₀) {A : Around} (hh : A.handled = none)
   {s : Shared} {L fa D lL I : Addr} {cd : Value} {od o : Obj} {m : Str → Option Value} {nx : List (Addr × Obj)} {x : Int} {u : Tok} {i : Nat}
   (hi : i < 6) (hJ : AJ D lL od i m nx) (hI : ∀ p ∈ nx, p.1 ≠ I) (hlD : lL < D)
   (F : Fr h₀ L s.heap (fun z => if z = Str.ofString "x" then some (.int x u) else m z)) (N : News h₀ L s.heap ((I, o) :: nx)) (Q : Flow → Shared → Prop) :
    wpAny (model PySem.Challenge.rw_dn0189_01.row.prog w) A (execs xBody (lawEnv L fa cd)) (TurnOut h₀ L s I o (AJ D lL od (i + 1)) Q) (fun _ _ => False) s := by
  have G' := G
  obtain ⟨T, KX, K0⟩ := G
  w_top off
  revert KX; k_fill; intro KX
  obtain ⟨k, vs, leads, rfl, hvs, hg, hlen, e1⟩ := hJ
  rw [rv e1] at F
  dsimp only at F
  have hI1 := neN (hI _ (.head _))
  have hI2 := neN (hI _ (.tail _ (.head _)))
  dsimp only at hI1 hI2
  have hlD' := ltN hlD
  conv => { arg 3; arg 1; whnf }
  k_steps
  unfold Stop
  rename Fr _ _ _ _ => F1
  rename News _ _ _ _ => N1
  refine wpAny_mono (a_while G' hh rfl rfl (Int.fmod_nonneg_of_pos _ (by decide)) (Int.fmod_lt_of_pos _ (by decide)) (by decide +kernel) blank_nil F1 N1) ?_ (fun _ _ h => h.elim)
  rintro f s' ⟨rfl, h', tk', m', rfl, F2, N2, ⟨x', tx, e2, hx⟩, e3⟩
  replace e3 : m' (Str.ofString "leads") = some (.ref lL) := e3
  rw [rv e2, rv e3] at F2
  dsimp only at F2
  have hll := hvs.length
  dsimp only
  k_steps
  rename Fr _ _ _ _ => F3
  rename News _ _ _ _ => N3
  simp only [List.push_toArray] at N3
  refine TurnOut.mk F3 N3 ?_ ⟨_, _, leads ++ [x'], rfl, hvs.append' (.cons _ _ .nil), ?_, by simp [hlen], rfl⟩
  · intro p hp
    simp only [List.mem_cons, List.not_mem_nil, or_false] at hp
    rcases hp with rfl | rfl
    · exact hI1
    · exact hI2
  · intro y hy
    rcases List.mem_append.mp hy with hy | hy
    · exact hg y hy
    · rw [List.mem_singleton.mp hy]; exact hx

local macro_rules | `(tactic| walk_at "pyIter ref") => `(tactic| (refine Stop.intro ?_))
theorem a_for {w : World} {mean : ExcName → Option Value} {mg mb : Str → Option Value} {h₀ : Heap} (G : Gr w mean mg mb h₀) {A : Around} (hh : A.handled = none)
   {s : Shared} {L fa lL ls : Addr} {cd : Value} {k : Nat} {m : Str → Option Value} {vs xs : List Value} {leads : List Str} {ns : List Int}
   (hL : h₀.IsList ls xs.toArray) (hi : IntsAre xs ns) (hn : ¬ ((63 : Nat) : Int) < (ns.length : Int)) (hvs : StrsAre vs leads) (hg : ∀ x ∈ leads, Good x) (hlen : leads.length = 3)
   (e1 : m (Str.ofString "leads") = some (.ref lL)) (e2 : m (Str.ofString "script") = some (.ref ls))
   (F : Fr h₀ L s.heap m) (N : News h₀ L s.heap [(lL, W.listOf vs.toArray k)]) :
    wpAny (model PySem.Challenge.rw_dn0189_01.row.prog w) A (exec (stAt lawBody 1) (lawEnv L fa cd))
      (fun f s' => Stop (f = .next ∧ ∃ h' tk m' k vs leads, s' = { s with heap := h', toks := tk } ∧ Fr h₀ L h' m' ∧ News h₀ L h' [(lL, W.listOf vs.toArray k)] ∧ StrsAre vs leads ∧ (∀ x ∈ leads, Good x) ∧ leads.length ≤ 9 ∧ m' (Str.ofString "leads") = some (.ref lL)))
      (fun _ _ => False) s := by
  have G' := G
  obtain ⟨T, KX, K0⟩ := G
  w_top off
  revert KX; k_fill; intro KX
  rw [rv e1, rv e2] at F
  dsimp only at F
  conv => { arg 3; arg 1; whnf }
  refine For_invV h₀ (by rfl) (by rfl) ?_ (by intro _; rfl) PassesOwn.never
  k_steps
  unfold Stop
  rename_i D ws h1 F1 N1 hI1 hC1 hL1 hlt
  have hw6 : ws.length ≤ 6 := by rw [hI1.length, hC1]; omega
  refine iter_listJ (vs := ws) (k := 0) (AJ D lL (W.listOf ws.toArray 0)) hh ?_ F1 N1 ⟨_, vs, leads, rfl, hvs, hg, by rw [hlen], rfl⟩ ?_ ?_
  · rintro i m' nx ⟨k, vs, leads, rfl, _⟩
    exact .head _
  · intro i v m₁ nx h tk I o hv hJ hI F₁ N₁
    obtain ⟨n, t, rfl, _⟩ := IntsAre.at hI1 i v hv
    have : i < ws.length := (List.getElem?_eq_some_iff.mp hv).1
    exact a_turn (s := { s with heap := h, toks := tk }) G' hh (by omega) hJ hI hlt F₁ N₁ _
  · rintro m₁ nx h tk ⟨k', vs', leads', rfl, h1, h2, h3, h4⟩ F₁ N₁
    exact ⟨rfl, h, tk, m₁, k', vs', leads', rfl, F₁, fun p hp => N₁ p (.tail _ hp), h1, h2, by omega, h4⟩
end Mine

/-! part Rules -/
namespace Mine
theorem pick_init (vs : List Value) : (slicePick vs.toArray none (some (-1)) none).toList = vs.dropLast := by
  have e : sliceBounds none (some (-1)) none vs.toArray.size = (((0 : Nat) : Int), ((vs.length - 1 : Nat) : Int), 1) := by
    simp [sliceBounds]
    omega
  rw [kmk_pick_nat _ e]
  simp [List.dropLast_eq_take]
theorem pick_last (vs : List Value) : (slicePick vs.toArray (some (-1)) none none).toList = vs.drop (vs.length - 1) := by
  have e : sliceBounds (some (-1)) none none vs.toArray.size = (((vs.length - 1 : Nat) : Int), ((vs.length : Nat) : Int), 1) := by
    simp [sliceBounds]
    omega
  rw [kmk_pick_nat _ e]
  have : vs.length - (vs.length - 1) = (vs.drop (vs.length - 1)).length := by simp
  simp only [List.toList_toArray]
  rw [this, List.take_length]
theorem pick_rev (vs : List Value) : (slicePick vs.toArray none none (some (-1))).toList = vs.reverse := by
  rw [krv_pick]
theorem pick_all (vs : List Value) : (slicePick vs.toArray none none none).toList = vs := by
  rw [slicePick_all]
theorem strs_dropLast {vs : List Value} {ss : List Str} (h : StrsAre vs ss) : StrsAre vs.dropLast ss.dropLast := by
  rw [List.dropLast_eq_take, List.dropLast_eq_take, h.length]; exact h.take' _
theorem strs_rev {vs : List Value} {ss : List Str} (h : StrsAre vs ss) : StrsAre vs.reverse ss.reverse := by
  induction h with
  | nil => exact .nil
  | cons y t _ ih =>
    rw [List.reverse_cons, List.reverse_cons]
    exact ih.append' (.cons y t .nil)
theorem strs_last {vs : List Value} {ss : List Str} (h : StrsAre vs ss) : StrsAre (vs.drop (vs.length - 1)) (ss.drop (ss.length - 1)) := by
  rw [h.length]; exact h.drop' _

section
variable {prog : Program} {w : World} {A : Around} {E : Value → Shared → Prop} {s : Shared} {h₀ : Heap} {L l b : Addr} {m : Str → Option Value} {news : List (Addr × Obj)} {value slice : PySem.Expr} {vs ws zs : List Value} {ss : List Str} {n k : Nat} {vl vu vk : Value} {lo hi st : Option Int} {x y : Str} {t u : Tok} {Q : Value → Shared → Prop}
theorem split_K (F : Fr h₀ L s.heap m) (N : News h₀ L s.heap news) (hy : (y.length == 0) = false) (hx : x.length ≤ 1000)
    (h : ∀ D vs h' tk, Fr h₀ L h' m → News h₀ L h' ((D, W.listOf vs.toArray 0) :: news) → (∀ p ∈ news, p.1 < D) → StrsAre vs (Txt.split x y) → Q (.ref D) { s with heap := h', toks := tk }) :
    wpAny (model prog w) A (call (.builtin "str.split") [.str x t, .str y u]) Q E s := by
  refine splitN1 F N hy (fun l h' tk e F' N' => ?_) (by rw [sizeLine_eq]; omega)
  exact h _ (strValues l) h' tk F' N' (fun p hp => Heap.lt_size (N p hp).1) (e ▸ strsAre_of_values l)
theorem sorted_K (F : Fr h₀ L s.heap m) (N : News h₀ L s.heap news) (hm : (l, W.listOf vs.toArray n) ∈ news) (hS : StrsAre vs ss) (h64 : vs.length < 64)
    (h : ∀ D ws ss' k h', Fr h₀ L h' m → News h₀ L h' ((D, W.listOf ws.toArray k) :: news) → (∀ p ∈ news, p.1 < D) → StrsAre ws ss' → ss'.Perm ss → sortedS ss' = true → Q (.ref D) { s with heap := h' }) :
    wpAny (model prog w) A (call (.builtin "sorted") [.ref l]) Q E s := by
  refine sorted_N_str F N (News.isList N hm) hS h64 fun h' vs' ss' e F' N' a1 a2 a3 => ?_
  exact h _ vs' ss' e h' F' N' (fun p hp => Nat.lt_succ_of_lt (Heap.lt_size (N p hp).1)) a1 a2 a3
theorem slice_K {ops : List Value} (F : Fr h₀ L s.heap m) (N : News h₀ L s.heap news) (hm : (l, W.listOf vs.toArray n) ∈ news) (pl : IsPart vl lo) (pu : IsPart vu hi) (pk : IsPart vk st) (h0 : st ≠ some 0)
    (e : (slicePick vs.toArray lo hi st).toList = zs) (hsz : vs.length ≤ 1000)
    (h : ∀ D h', Fr h₀ L h' m → News h₀ L h' ((D, W.listOf zs.toArray 0) :: news) → (∀ p ∈ news, p.1 < D) → Q (.ref D) { s with heap := h' })
    (hs : subscripted slice false (.ref l) (.ref s.heap.objs.size) = operate ops (getItem (.ref l) (.ref s.heap.objs.size))) :
    wpAny (model prog w) A (subscriptTail value slice (.ref l) (.ref s.heap.objs.size)) Q E { s with heap := s.heap.push { cls := .type "slice", data := .fields #[vl, vu, vk] } } := by
  have hl := News.isList N hm
  refine tail_any (Heap.IsList.typeIs (s := { s with heap := s.heap.push { cls := .type "slice", data := .fields #[vl, vu, vk] } }) (hl.push _)) list_getitem_lookup
    (wpAny_getItem_list_slice (hl.push _) (Heap.IsSliceOf.new ..) pl pu pk h0 ?_ (by rw [sizeLine_eq, List.size_toArray]; omega)) hs
  have N1 := News.push (F.push { cls := .type "slice", data := .fields #[vl, vu, vk] }) (N.grown fun _ _ e => Heap.get?_push_of_some _ e) { cls := .type "list", data := .seq (slicePick vs.toArray lo hi st) }
  rw [← Array.toArray_toList (xs := slicePick vs.toArray lo hi st), e] at N1
  show Q (.ref (s.heap.push _).objs.size) _
  rw [← Array.toArray_toList (xs := slicePick vs.toArray lo hi st), e]
  refine h _ _ ((F.push _).push _) N1 fun p hp => ?_
  rw [Heap.size_push]
  exact Nat.lt_succ_of_lt (Heap.lt_size (N p hp).1)
theorem add_K (F : Fr h₀ L s.heap m) (N : News h₀ L s.heap news) (hm : (l, W.listOf vs.toArray n) ∈ news) (hm2 : (b, W.listOf ws.toArray k) ∈ news) (hsz : vs.length + ws.length ≤ 1000)
    (h : ∀ D h', Fr h₀ L h' m → News h₀ L h' ((D, W.listOf (vs ++ ws).toArray 0) :: news) → (∀ p ∈ news, p.1 < D) → Q (.ref D) { s with heap := h' }) :
    wpAny (model prog w) A (binaryOp .Add (.ref l) (.ref b)) Q E s :=
  add_lists F N (News.isList N hm) (News.isList N hm2) (fun h' F' N' => h _ h' F' N' fun p hp => Heap.lt_size (N p hp).1) (by rw [sizeLine_eq]; omega)
theorem join_K (N : News h₀ L s.heap news) (hm : (l, W.listOf vs.toArray n) ∈ news) (hS : StrsAre vs ss) (hok : (ss.map (·.length)).sum + ss.length * x.length ≤ 16777216)
    (h : ∀ t' tk, Q (.str (Txt.join x ss) t') { s with toks := tk }) : wpAny (model prog w) A (call (.builtin "str.join") [.str x t, .ref l]) Q E s :=
  join_list (News.isList N hm) (by simpa using hS) hok h
theorem item_last {z : Value} (N : News h₀ L s.heap news) (hm : (l, W.listOf vs.toArray n) ∈ news) (hz : vs.getLast? = some z) (h : Q z s)
    (hs : subscripted slice false (.ref l) (.int (-1) u) = operate [.ref l, .int (-1) u] (getItem (.ref l) (.int (-1) u))) :
    wpAny (model prog w) A (subscriptTail value slice (.ref l) (.int (-1) u)) Q E s := by
  have hne : 0 < vs.length := by cases vs with
    | nil => cases hz
    | cons _ _ => simp
  refine tail_any (News.isList N hm).typeIs slot_list_getitem.lookup (wpAny_getItem_list_neg (News.isList N hm) (by decide) ?_ ?_ ?_ h) hs
  · rw [List.size_toArray]; omega
  · decide
  · rw [List.getLast?_eq_getElem?] at hz
    rw [List.size_toArray, show (-1 + (vs.length : Int)).toNat = vs.length - 1 from by omega]
    simpa using hz
end
end Mine

/-! part Plain1 -/
namespace Mine
def sp (n : Nat) : Str := ⟨(List.replicate n 32).toArray⟩
abbrev tabS : Str := Str.ofString "\t"
def txt : List Nat → Nat → List Nat
  | [], b => List.replicate b 32
  | r :: rs, b => List.replicate r 32 ++ 9 :: txt rs b
def mkS (rs : List Nat) (b : Nat) : Str := ⟨(txt rs b).toArray⟩
theorem blank_txt : ∀ (l : List Nat), (∀ c ∈ l, c = 32 ∨ c = 9) → ∃ rs b, l = txt rs b
  | [], _ => ⟨[], 0, rfl⟩
  | c :: l, h => by
    obtain ⟨rs, b, e⟩ := blank_txt l fun c hc => h c (.tail _ hc)
    rcases h c (.head _) with rfl | rfl
    · cases rs with
      | nil => exact ⟨[], b + 1, by rw [e]; rfl⟩
      | cons r rs => exact ⟨(r + 1) :: rs, b, by rw [e]; rfl⟩
    · exact ⟨0 :: rs, b, by rw [e]; rfl⟩
theorem txt_length (rs : List Nat) (b : Nat) : (txt rs b).length = rs.sum + rs.length + b := by
  induction rs with
  | nil => simp [txt]
  | cons r rs ih => simp [txt, ih]; omega
theorem Good.form {x : Str} (h : Good x) : ∃ rs b, x = mkS rs b ∧ rs.sum + rs.length + b ≤ 10 := by
  obtain ⟨rs, b, e⟩ := blank_txt x.cps.toList h.2
  refine ⟨rs, b, ?_, ?_⟩
  · unfold mkS; rw [← e]
  · rw [← txt_length, ← e, Array.length_toList]; exact h.1
theorem tabS_eq : tabS = ⟨#[9]⟩ := by decide +kernel
theorem tab_sp (n : Nat) : 9 ∉ (sp n).cps.toList := by
  intro h
  have := List.eq_of_mem_replicate (show 9 ∈ List.replicate n 32 from by simpa [sp] using h)
  omega

/-- the join, over plain lists -/
def jl : List (List Nat) → List Nat
  | [] => []
  | [x] => x
  | x :: y :: r => x ++ 9 :: jl (y :: r)
theorem join_jl : ∀ ps : List Str, (Str.join tabS ps).cps.toList = jl (ps.map (·.cps.toList))
  | [] => rfl
  | [x] => rfl
  | x :: y :: r => by
    have ih := join_jl (y :: r)
    show ((x ++ tabS ++ Str.join tabS (y :: r)) : Str).cps.toList = _
    have e : (x ++ tabS ++ Str.join tabS (y :: r)).cps = x.cps ++ tabS.cps ++ (Str.join tabS (y :: r)).cps := rfl
    rw [e, tabS_eq] at *
    rw [Array.toList_append, Array.toList_append, ih]
    simp [jl]
theorem free_cut {x y A B : List Nat} (hx : 9 ∉ x) (hy : 9 ∉ y) (h : x ++ 9 :: A = y ++ 9 :: B) : x = y ∧ A = B := by
  induction x generalizing y with
  | nil => cases y with
    | nil => simpa using h
    | cons b y => simp at h; exact absurd h.1 (by intro e; exact hy (e ▸ .head _))
  | cons a x ih => cases y with
    | nil => simp at h; exact absurd h.1 (by intro e; exact hx (e ▸ .head _))
    | cons b y =>
      simp only [List.cons_append, List.cons.injEq] at h
      obtain ⟨h1, h2⟩ := ih (fun q => hx (.tail _ q)) (fun q => hy (.tail _ q)) h.2
      exact ⟨by rw [h.1, h1], h2⟩
theorem jl_inj : ∀ (ps qs : List (List Nat)), ps ≠ [] → qs ≠ [] → (∀ p ∈ ps, 9 ∉ p) → (∀ p ∈ qs, 9 ∉ p) → jl ps = jl qs → ps = qs
  | [], _, h, _, _, _, _ => absurd rfl h
  | _, [], _, h, _, _, _ => absurd rfl h
  | [x], [y], _, _, _, _, h => by rw [show x = y from h]
  | [x], y :: z :: r, _, _, hx, _, h => by
    refine absurd ?_ (hx x (.head _))
    rw [show x = y ++ 9 :: jl (z :: r) from h]; simp
  | y :: z :: r, [x], _, _, _, hx, h => by
    refine absurd ?_ (hx x (.head _))
    have : x = y ++ 9 :: jl (z :: r) := h.symm
    rw [this]; simp
  | x :: a :: r, y :: b :: t, _, _, hp, hq, h => by
    obtain ⟨h1, h2⟩ := free_cut (hp x (.head _)) (hq y (.head _)) (show x ++ 9 :: jl (a :: r) = y ++ 9 :: jl (b :: t) from h)
    rw [h1, jl_inj (a :: r) (b :: t) (by simp) (by simp) (fun p hm => hp p (.tail _ hm)) (fun p hm => hq p (.tail _ hm)) h2]
theorem map_cps_inj {ps qs : List Str} (h : ps.map (·.cps.toList) = qs.map (·.cps.toList)) : ps = qs := by
  induction ps generalizing qs with
  | nil => cases qs with
    | nil => rfl
    | cons _ _ => simp at h
  | cons p ps ih => cases qs with
    | nil => simp at h
    | cons q qs =>
      simp only [List.map_cons, List.cons.injEq] at h
      rw [ih h.2, show p = q from Str.ext' (Array.toList_inj.mp h.1)]
theorem jl_txt (rs : List Nat) (b : Nat) : jl ((rs.map sp ++ [sp b]).map (·.cps.toList)) = txt rs b := by
  induction rs with
  | nil => simp [jl, txt, sp]
  | cons r rs ih =>
    cases rs with
    | nil => simp [jl, txt, sp]
    | cons q rs =>
      simp only [List.map_cons, List.cons_append] at ih ⊢
      simp only [jl, txt] at ih ⊢
      rw [ih]
      simp [sp]
theorem join_txt (rs : List Nat) (b : Nat) : Str.join tabS (rs.map sp ++ [sp b]) = mkS rs b := by
  apply Str.ext'
  apply Array.toList_inj.mp
  rw [join_jl, jl_txt]
  simp [mkS]
theorem split_ne (x y : Str) : Txt.split x y ≠ [] := by
  unfold Txt.split
  split
  · simp
  · split
    · simp
    · intro h
      have := congrArg List.length h
      rw [length_partsBetween] at this
      simp at this
theorem split_txt (rs : List Nat) (b : Nat) : Txt.split (mkS rs b) tabS = rs.map sp ++ [sp b] := by
  apply map_cps_inj
  refine jl_inj _ _ (by simpa using split_ne _ _) (by simp) ?_ ?_ ?_
  · intro p hp
    obtain ⟨q, hq, rfl⟩ := List.mem_map.mp hp
    rw [tabS_eq] at hq
    exact StrLaws.split_free _ 9 q hq
  · intro p hp
    obtain ⟨q, hq, rfl⟩ := List.mem_map.mp hp
    rcases List.mem_append.mp hq with hq | hq
    · obtain ⟨n, _, rfl⟩ := List.mem_map.mp hq; exact tab_sp n
    · rw [List.mem_singleton.mp hq]; exact tab_sp b
  · rw [jl_txt, ← join_jl, StrLaws.join_split]; simp [mkS]

-- the scan
theorem scan_sp (r : Nat) (l : List Nat) (c : List Int) (b n k : Nat) : scan (List.replicate r 32 ++ l) ⟨c, b, n, k⟩ = scan l ⟨c, b + r, n + r, k⟩ := by
  induction r generalizing b n with
  | zero => rfl
  | succ r ih =>
    rw [List.replicate_succ, List.cons_append]
    simp only [scan, if_true]
    rw [ih]
    congr 1
    simp only [Sc.mk.injEq, true_and, and_true]; omega
def Ends (z : List Nat) : Prop := z = [] ∨ ∃ d r, z = d :: r ∧ d ≠ 32 ∧ d ≠ 9
theorem scan_ends {z : List Nat} (h : Ends z) (σ : Sc) : scan z σ = σ := by
  rcases h with rfl | ⟨d, r, rfl, h1, h2⟩
  · rfl
  · simp [scan, h1, h2]
theorem scan_txt (rs : List Nat) (b : Nat) {z : List Nat} (hz : Ends z) (c : List Int) (n k : Nat) : (scan (txt rs b ++ z) ⟨c, 0, n, k⟩).cnt = rs.foldl bump c ∧ (scan (txt rs b ++ z) ⟨c, 0, n, k⟩).b = b := by
  induction rs generalizing c n k with
  | nil => rw [txt, scan_sp, scan_ends hz]; simp
  | cons r rs ih =>
    rw [txt, List.append_assoc, scan_sp]
    simp only [List.cons_append, scan, Nat.zero_add]
    exact ih _ _ _
def cntOf (rs : List Nat) : List Int := rs.foldl bump []
theorem scanOf_mk (rs : List Nat) (b : Nat) (z : Str) (hz : Ends z.cps.toList) : (scanOf (mkS rs b ++ z)).cnt = cntOf rs ∧ (scanOf (mkS rs b ++ z)).b = b := by
  unfold scanOf
  have e : (mkS rs b ++ z).cps.toList = txt rs b ++ z.cps.toList := by
    show ((mkS rs b).cps ++ z.cps).toList = _
    rw [Array.toList_append]; simp [mkS]
  rw [e]
  exact scan_txt rs b hz _ _ _
theorem scanOf_mk0 (rs : List Nat) (b : Nat) : (scanOf (mkS rs b)).cnt = cntOf rs ∧ (scanOf (mkS rs b)).b = b := by
  unfold scanOf
  have := scan_txt rs b (.inl rfl) [] 0 0
  rw [List.append_nil] at this
  exact this
theorem ends_x : Ends (Str.ofString "x\t").cps.toList := .inr ⟨120, [9], by decide +kernel, by decide, by decide⟩
theorem ends_nl : Ends (Str.ofString "\n ").cps.toList := .inr ⟨10, [32], by decide +kernel, by decide, by decide⟩
end Mine

/-! part Plain2 -/
namespace Mine
def mx (l : List Nat) : Nat := l.foldr (fun r a => max (r + 1) a) 0
theorem mx_le {l : List Nat} {n : Nat} : mx l ≤ n ↔ ∀ r ∈ l, r < n := by
  induction l with
  | nil => simp [mx]
  | cons a l ih =>
    have e : mx (a :: l) = max (a + 1) (mx l) := rfl
    rw [e, Nat.max_le, ih]
    constructor
    · rintro ⟨h1, h2⟩ r hr
      rcases List.mem_cons.mp hr with rfl | hr
      · omega
      · exact h2 r hr
    · intro h
      exact ⟨h a (.head _), fun r hr => h r (.tail _ hr)⟩
theorem mx_snoc (l : List Nat) (r : Nat) : mx (l ++ [r]) = max (mx l) (r + 1) := by
  induction l with
  | nil => simp [mx]
  | cons a l ih =>
    have e : mx (a :: l) = max (a + 1) (mx l) := rfl
    have e2 : mx (a :: l ++ [r]) = max (a + 1) (mx (l ++ [r])) := rfl
    rw [e, e2, ih]; omega
theorem count_ge {l : List Nat} {k : Nat} (h : mx l ≤ k) : l.count k = 0 := by
  rw [List.count_eq_zero]
  intro hk
  exact absurd (mx_le.mp h k hk) (Nat.lt_irrefl _)
theorem bump_getD (c : List Int) (b k : Nat) : (bump c b).getD k 0 = c.getD k 0 + if k = b then 1 else 0 := by
  unfold bump
  dsimp only
  have hd : ∀ j, (if c.length ≤ b then c ++ List.replicate (b - c.length + 1) 0 else c).getD j 0 = c.getD j 0 := by
    intro j
    split
    · rw [List.getD_eq_getElem?_getD, List.getD_eq_getElem?_getD, List.getElem?_append]
      split
      · rfl
      · rename_i h1 h2
        rw [List.getElem?_eq_none (l := c) (by omega)]
        rw [List.getElem?_replicate]
        split <;> rfl
    · rfl
  have hl : b < (if c.length ≤ b then c ++ List.replicate (b - c.length + 1) 0 else c).length := by
    split
    · simp; omega
    · omega
  generalize (if c.length ≤ b then c ++ List.replicate (b - c.length + 1) (0 : Int) else c) = d at hd hl
  rw [List.getD_eq_getElem?_getD, List.getElem?_set]
  by_cases hk : k = b
  · subst hk
    simp only [if_true, hl, Option.getD_some]
    rw [hd]
  · rw [if_neg (fun e => hk e.symm), if_neg hk, ← List.getD_eq_getElem?_getD, hd]; omega
def tally (l : List Nat) : List Int := (List.range (mx l)).map fun k => (l.count k : Int)
theorem tally_getD (l : List Nat) (k : Nat) : (tally l).getD k 0 = (l.count k : Int) := by
  unfold tally
  rw [List.getD_eq_getElem?_getD]
  by_cases h : k < mx l
  · simp [h]
  · rw [List.getElem?_eq_none (by simp; omega), count_ge (by omega)]; rfl
theorem ext_getD {a b : List Int} (hl : a.length = b.length) (h : ∀ k, a.getD k 0 = b.getD k 0) : a = b := by
  apply List.ext_getElem hl
  intro k h1 h2
  have := h k
  rw [List.getD_eq_getElem?_getD, List.getD_eq_getElem?_getD, List.getElem?_eq_getElem h1, List.getElem?_eq_getElem h2] at this
  exact this
theorem bump_tally (l : List Nat) (r : Nat) : bump (tally l) r = tally (l ++ [r]) := by
  apply ext_getD
  · rw [bump_length]; simp [tally, mx_snoc]
  · intro k
    rw [bump_getD, tally_getD, tally_getD, List.count_append]
    by_cases h : k = r
    · subst h; simp
    · have : List.count k [r] = 0 := by rw [List.count_eq_zero]; simpa using h
      simp [h, this]
theorem fold_tally (rs l : List Nat) : rs.foldl bump (tally l) = tally (l ++ rs) := by
  induction rs generalizing l with
  | nil => simp
  | cons r rs ih => rw [List.foldl_cons, bump_tally, ih]; simp
theorem cntOf_eq (rs : List Nat) : cntOf rs = tally rs := by
  have := fold_tally rs []
  simpa [cntOf, tally, mx] using this
theorem cnt_iff (rs qs : List Nat) : cntOf rs = cntOf qs ↔ rs.Perm qs := by
  rw [cntOf_eq, cntOf_eq]
  constructor
  · intro h
    rw [List.perm_iff_count]
    intro k
    have := congrArg (fun l => l.getD k 0) h
    simp only [tally_getD] at this
    omega
  · intro h
    have hm : mx rs = mx qs := by
      apply Nat.le_antisymm
      · exact mx_le.mpr fun r hr => mx_le.mp (Nat.le_refl _) r (h.mem_iff.mp hr)
      · exact mx_le.mpr fun r hr => mx_le.mp (Nat.le_refl _) r (h.mem_iff.mpr hr)
    apply ext_getD
    · simp [tally, hm]
    · intro k
      rw [tally_getD, tally_getD, h.count_eq]

-- the keys
theorem lt_sp (a b : Nat) : Spec.ltCps (sp a).cps.toList (sp b).cps.toList = decide (a < b) := by
  simp only [sp]
  induction a generalizing b with
  | zero => cases b with
    | zero => rfl
    | succ b => simp [List.replicate_succ, Spec.ltCps]
  | succ a ih => cases b with
    | zero => simp [List.replicate_succ, Spec.ltCps]
    | succ b =>
      simp only [List.replicate_succ, Spec.ltCps]
      rw [ih]
      simp
theorem sp_inj {a b : Nat} (h : sp a = sp b) : a = b := by
  have := congrArg (fun x : Str => x.cps.size) h
  simpa [sp] using this
theorem rising_sp (p : Nat) (ks : List Nat) (h : risingS (sp p) (ks.map sp) = true) : (p :: ks).Pairwise (· ≤ ·) := by
  induction ks generalizing p with
  | nil => simp
  | cons k ks ih =>
    simp only [List.map_cons, risingS, lt_sp, Bool.and_eq_true] at h
    have h2 := ih k h.2
    have h1 : p ≤ k := by
      have := h.1
      simp at this
      exact this
    rw [List.pairwise_cons]
    refine ⟨?_, h2⟩
    intro a ha
    rcases List.mem_cons.mp ha with rfl | ha
    · exact h1
    · exact Nat.le_trans h1 ((List.pairwise_cons.mp h2).1 a ha)
theorem sorted_sp (ks : List Nat) (h : sortedS (ks.map sp) = true) : ks.Pairwise (· ≤ ·) := by
  cases ks with
  | nil => simp
  | cons k ks => exact rising_sp k ks h
theorem perm_sp {ss : List Str} {rs : List Nat} (h : ss.Perm (rs.map sp)) : ∃ ks : List Nat, ss = ks.map sp ∧ ks.Perm rs := by
  refine ⟨ss.map (·.cps.size), ?_, ?_⟩
  · rw [List.map_map]
    have : ∀ x ∈ ss, (sp ∘ fun x : Str => x.cps.size) x = x := by
      intro x hx
      obtain ⟨n, _, rfl⟩ := List.mem_map.mp (h.mem_iff.mp hx)
      simp [sp]
    have e : ss.map (sp ∘ fun x : Str => x.cps.size) = ss.map id := List.map_congr_left fun x hx => this x hx
    rw [e, List.map_id]
  · have h2 := h.map (fun x : Str => x.cps.size)
    rw [List.map_map] at h2
    have : ((fun x : Str => x.cps.size) ∘ sp) = id := by
      funext n; simp [sp]
    rw [this, List.map_id] at h2
    exact h2
theorem key_iff {ss tt : List Str} {rs qs : List Nat} (h1 : ss.Perm (rs.map sp)) (h2 : sortedS ss = true) (h3 : tt.Perm (qs.map sp)) (h4 : sortedS tt = true) : ss = tt ↔ rs.Perm qs := by
  obtain ⟨ks, rfl, p1⟩ := perm_sp h1
  obtain ⟨js, rfl, p2⟩ := perm_sp h3
  constructor
  · intro h
    have e : ks = js := by
      have := congrArg (List.map fun x : Str => x.cps.size) h
      simpa [sp, List.map_map, Function.comp_def] using this
    exact p1.symm.trans (e ▸ p2)
  · intro h
    have e : ks = js := List.Perm.eq_of_pairwise (le := (· ≤ ·)) (fun a b _ _ => Nat.le_antisymm) (sorted_sp ks h2) (sorted_sp js h4) (p1.trans (h.trans p2.symm))
    rw [e]

-- the tables
theorem colC_sp (s : Int) (r : Nat) (l : List Nat) (a : Int) : colC s (List.replicate r 32 ++ l) a = colC s l (a + r) := by
  induction r generalizing a with
  | zero => simp
  | succ r ih =>
    rw [List.replicate_succ, List.cons_append]
    simp only [colC]
    rw [if_neg (by decide), ih]
    congr 1
    omega
def gs (s : Nat) (rs : List Nat) : Nat := (rs.map fun r => r / s + 1).sum
theorem tab_step (s q r : Nat) (hs : 0 < s) : ((s * q : Nat) : Int) + r + ((s : Int) - Int.fmod (((s * q : Nat) : Int) + r) s) = ((s * (q + (r / s + 1)) : Nat) : Int) := by
  have e : Int.fmod (((s * q : Nat) : Int) + r) s = ((r % s : Nat) : Int) := by
    rw [← Int.natCast_add, Int.fmod_eq_emod_of_nonneg _ (Int.natCast_nonneg s), ← Int.natCast_emod, Nat.mul_add_mod]
  rw [e]
  have h1 : s * (q + (r / s + 1)) = s * q + s * (r / s) + s := by rw [Nat.mul_add, Nat.mul_add, Nat.mul_one, Nat.add_assoc]
  have h2 := Nat.div_add_mod r s
  rw [h1]
  have h3 : r % s < s := Nat.mod_lt _ hs
  omega
theorem colC_txt (s : Nat) (hs : 0 < s) (rs : List Nat) (b q : Nat) : colC s (txt rs b) ((s * q : Nat) : Int) = ((s * (q + gs s rs) + b : Nat) : Int) := by
  induction rs generalizing q with
  | nil =>
    have := colC_sp s b [] ((s * q : Nat) : Int)
    rw [List.append_nil] at this
    rw [txt, this]
    simp [colC, gs]
  | cons r rs ih =>
    rw [txt, colC_sp]
    simp only [colC, if_true]
    rw [tab_step s q r hs, ih]
    simp only [gs, List.map_cons, List.sum_cons]
    congr 2
    congr 1
    omega
theorem le_sum {rs : List Nat} {r : Nat} (h : r ∈ rs) : r + 1 ≤ rs.sum + rs.length := by
  induction rs with
  | nil => cases h
  | cons a rs ih =>
    rcases List.mem_cons.mp h with rfl | h
    · simp; omega
    · have := ih h; simp; omega
theorem gs_big (rs : List Nat) (h : ∀ r ∈ rs, r ≤ 9) {s : Nat} (hs : 10 ≤ s) : gs s rs = rs.length := by
  induction rs with
  | nil => rfl
  | cons r rs ih =>
    have : gs s (r :: rs) = r / s + 1 + gs s rs := rfl
    rw [this, ih fun x hx => h x (.tail _ hx), Nat.div_eq_of_lt (by have := h r (.head _); omega)]
    simp; omega
/-- how many are at least k -/
def ge (rs : List Nat) (k : Nat) : Nat := rs.countP (fun r => decide (k ≤ r))
theorem gs_ge (rs : List Nat) (h : ∀ r ∈ rs, r ≤ 9) {s : Nat} (hs : 0 < s) (hs2 : s ≤ 9) : gs s rs = rs.length + (ge rs s + ge rs (2 * s) + ge rs (3 * s) + ge rs (4 * s) + ge rs (5 * s) + ge rs (6 * s) + ge rs (7 * s) + ge rs (8 * s) + ge rs (9 * s)) := by
  induction rs with
  | nil => rfl
  | cons r rs ih =>
    have e : gs s (r :: rs) = r / s + 1 + gs s rs := rfl
    have hr := h r (.head _)
    rw [e, ih fun x hx => h x (.tail _ hx)]
    have hd : r / s = (if s ≤ r then 1 else 0) + (if 2 * s ≤ r then 1 else 0) + (if 3 * s ≤ r then 1 else 0) + (if 4 * s ≤ r then 1 else 0) + (if 5 * s ≤ r then 1 else 0) + (if 6 * s ≤ r then 1 else 0) + (if 7 * s ≤ r then 1 else 0) + (if 8 * s ≤ r then 1 else 0) + (if 9 * s ≤ r then 1 else 0) := by
      have key : ∀ r : Fin 10, ∀ s : Fin 10, 0 < s.val → r.val / s.val = (if s.val ≤ r.val then 1 else 0) + (if 2 * s.val ≤ r.val then 1 else 0) + (if 3 * s.val ≤ r.val then 1 else 0) + (if 4 * s.val ≤ r.val then 1 else 0) + (if 5 * s.val ≤ r.val then 1 else 0) + (if 6 * s.val ≤ r.val then 1 else 0) + (if 7 * s.val ≤ r.val then 1 else 0) + (if 8 * s.val ≤ r.val then 1 else 0) + (if 9 * s.val ≤ r.val then 1 else 0) := by decide +kernel
      exact key ⟨r, by omega⟩ ⟨s, by omega⟩ hs
    have hg : ∀ k, ge (r :: rs) k = ge rs k + if k ≤ r then 1 else 0 := by
      intro k
      unfold ge
      rw [List.countP_cons]
      simp
    rw [hd]
    simp only [hg, List.length_cons]
    omega
theorem ge_big (rs : List Nat) (h : ∀ r ∈ rs, r ≤ 9) {k : Nat} (hk : 9 < k) : ge rs k = 0 := by
  unfold ge
  rw [List.countP_eq_zero]
  intro r hr
  have := h r hr
  simp; omega
theorem count_ge2 (rs : List Nat) (k : Nat) : rs.count k + ge rs (k + 1) = ge rs k := by
  induction rs with
  | nil => rfl
  | cons r rs ih =>
    unfold ge at *
    rw [List.count_cons, List.countP_cons, List.countP_cons, ← ih]
    have : (if (r == k) = true then 1 else 0) + (if decide (k + 1 ≤ r) = true then 1 else 0) = (if decide (k ≤ r) = true then 1 else 0) := by
      by_cases h1 : r = k
      · subst h1; simp
      · by_cases h2 : k + 1 ≤ r
        · have : k ≤ r := by omega
          simp [h1, h2, this]
        · have : ¬ k ≤ r := by omega
          simp [h1, h2, this]
    omega
theorem perm_of_gs {rs qs : List Nat} (r9 : ∀ r ∈ rs, r ≤ 9) (q9 : ∀ r ∈ qs, r ≤ 9) (hl : rs.length = qs.length) (hG : ∀ j, j < 11 → gs (1 + j) rs = gs (1 + j) qs) : rs.Perm qs := by
  -- downwards: as many are at least k
  have down : ∀ d k, k + d = 10 → ge rs k = ge qs k := by
    intro d
    induction d using Nat.strongRecOn with
    | ind d ih =>
      intro k hk
      by_cases h0 : d = 0
      · rw [ge_big rs r9 (by omega), ge_big qs q9 (by omega)]
      · have up : ∀ k', k < k' → ge rs k' = ge qs k' := by
          intro k' hk'
          by_cases h9 : 9 < k'
          · rw [ge_big rs r9 h9, ge_big qs q9 h9]
          · exact ih (10 - k') (by omega) k' (by omega)
        by_cases hk0 : k = 0
        · subst hk0
          have a := List.countP_eq_length.mpr (show ∀ r ∈ rs, decide (0 ≤ r) = true from fun _ _ => by simp)
          have b := List.countP_eq_length.mpr (show ∀ r ∈ qs, decide (0 ≤ r) = true from fun _ _ => by simp)
          unfold ge
          rw [a, b, hl]
        · have e := hG (k - 1) (by omega)
          rw [show 1 + (k - 1) = k from by omega, gs_ge rs r9 (by omega) (by omega), gs_ge qs q9 (by omega) (by omega)] at e
          rw [up (2 * k) (by omega), up (3 * k) (by omega), up (4 * k) (by omega), up (5 * k) (by omega), up (6 * k) (by omega), up (7 * k) (by omega), up (8 * k) (by omega), up (9 * k) (by omega)] at e
          omega
  have all : ∀ k, ge rs k = ge qs k := by
    intro k
    by_cases h : 9 < k
    · rw [ge_big rs r9 h, ge_big qs q9 h]
    · exact down (10 - k) k (by omega)
  rw [List.perm_iff_count]
  intro k
  have a := count_ge2 rs k
  have b := count_ge2 qs k
  rw [all k, all (k + 1)] at a
  omega
theorem tbl_iff {rs qs : List Nat} {b c : Nat} (h1 : rs.sum + rs.length + b ≤ 10) (h2 : qs.sum + qs.length + c ≤ 10) :
    ((List.range 11).map fun j : Nat => colC (1 + (j : Int)) (txt rs b) 0) = ((List.range 11).map fun j : Nat => colC (1 + (j : Int)) (txt qs c) 0) ↔ rs.Perm qs ∧ b = c := by
  have hc : ∀ (j : Nat) (ks : List Nat) (d : Nat), colC (1 + (j : Int)) (txt ks d) 0 = (((1 + j) * gs (1 + j) ks + d : Nat) : Int) := by
    intro j ks d
    have := colC_txt (1 + j) (by omega) ks d 0
    rw [Nat.mul_zero, Nat.zero_add] at this
    have e : ((1 + j : Nat) : Int) = 1 + (j : Int) := by omega
    rw [e] at this
    exact this
  constructor
  · intro h
    have hj : ∀ j, j < 11 → (1 + j) * gs (1 + j) rs + b = (1 + j) * gs (1 + j) qs + c := by
      intro j hj
      have := congrArg (fun l : List Int => l[j]?) h
      simp only [List.getElem?_map, List.getElem?_range hj, Option.map_some, Option.some.injEq, hc] at this
      exact Int.ofNat.inj this
    have r9 : ∀ r ∈ rs, r ≤ 9 := fun r hr => by have := le_sum hr; omega
    have q9 : ∀ r ∈ qs, r ≤ 9 := fun r hr => by have := le_sum hr; omega
    have hlen : rs.length = qs.length ∧ b = c := by
      have g10 := hj 9 (by omega)
      have g11 := hj 10 (by omega)
      rw [gs_big rs r9 (by omega), gs_big qs q9 (by omega)] at g10 g11
      clear hj
      omega
    refine ⟨?_, hlen.2⟩
    have hG : ∀ j, j < 11 → gs (1 + j) rs = gs (1 + j) qs := by
      intro j hj'
      have := hj j hj'
      rw [hlen.2] at this
      exact Nat.eq_of_mul_eq_mul_left (by omega) (Nat.add_right_cancel this)
    exact perm_of_gs r9 q9 hlen.1 hG
  · rintro ⟨hp, rfl⟩
    apply List.map_congr_left
    intro j _
    rw [hc, hc]
    have : gs (1 + j) rs = gs (1 + j) qs := (hp.map _).sum_nat
    rw [this]
end Mine

/-! part Plain3 -/
namespace Mine
def moved (ns : List Nat) (i j : Nat) : List Nat := (ns.set i (ns.getD i 0 - 1)).set j (ns.getD j 0 + 1)
theorem getD_of_lt {l : List Nat} {i : Nat} (h : i < l.length) : l.getD i 0 = l[i] := by
  rw [List.getD_eq_getElem?_getD, List.getElem?_eq_getElem h]; rfl
theorem getD_left {l : List Nat} {b i : Nat} (h : i < l.length) : (l ++ [b]).getD i 0 = l.getD i 0 := by
  rw [List.getD_eq_getElem?_getD, List.getD_eq_getElem?_getD, List.getElem?_append_left h]
theorem getD_end (l : List Nat) (b : Nat) : (l ++ [b]).getD l.length 0 = b := by
  rw [List.getD_eq_getElem?_getD, List.getElem?_append_right (Nat.le_refl _)]; simp
theorem moved_perm {rs : List Nat} {i j : Nat} (hi : i < rs.length) (hj : j < rs.length) (hij : i ≠ j) (hpos : 0 < rs.getD i 0) : rs.Perm (moved rs i j) ↔ rs.getD i 0 = rs.getD j 0 + 1 := by
  have hcount : ∀ k, (moved rs i j).count k = rs.count k - (if rs.getD i 0 == k then 1 else 0) + (if rs.getD i 0 - 1 == k then 1 else 0) - (if rs.getD j 0 == k then 1 else 0) + (if rs.getD j 0 + 1 == k then 1 else 0) := by
    intro k
    unfold moved
    rw [List.count_set (by simpa using hj), List.count_set hi, List.getElem_set_ne hij, ← getD_of_lt hi, ← getD_of_lt hj]
  have c1 : 0 < rs.count (rs.getD i 0) := by
    rw [List.count_pos_iff, getD_of_lt hi]; exact List.getElem_mem _
  have c2 : 0 < rs.count (rs.getD j 0) := by
    rw [List.count_pos_iff, getD_of_lt hj]; exact List.getElem_mem _
  rw [List.perm_iff_count]
  constructor
  · intro h
    have := h (rs.getD i 0)
    rw [hcount] at this
    refine Classical.byContradiction fun hne => ?_
    have q1 : (rs.getD i 0 - 1 == rs.getD i 0) = false := by rw [beq_eq_false_iff_ne]; omega
    have q2 : (rs.getD j 0 + 1 == rs.getD i 0) = false := by rw [beq_eq_false_iff_ne]; omega
    rw [q1, q2] at this
    simp only [beq_self_eq_true, if_true, Bool.false_eq_true, if_false] at this
    split at this <;> omega
  · intro h k
    rw [hcount, h]
    rw [h] at c1
    clear hcount hpos h
    generalize rs.getD j 0 = c at *
    rw [show c + 1 - 1 = c from rfl]
    by_cases e1 : c + 1 = k
    · subst e1
      have q : (c == c + 1) = false := by rw [beq_eq_false_iff_ne]; omega
      simp only [q, beq_self_eq_true, if_true, Bool.false_eq_true, if_false]; omega
    · have q : (c + 1 == k) = false := by rw [beq_eq_false_iff_ne]; omega
      by_cases e2 : c = k
      · subst e2
        simp only [q, beq_self_eq_true, if_true, Bool.false_eq_true, if_false]; omega
      · have q2 : (c == k) = false := by rw [beq_eq_false_iff_ne]; omega
        simp only [q, q2, Bool.false_eq_true, if_false]; omega
theorem moved_iff {rs : List Nat} {b i j : Nat} (hi : i < rs.length + 1) (hj : j < rs.length + 1) (hij : i ≠ j) (hpos : 0 < (rs ++ [b]).getD i 0) :
    ∃ rs' b', moved (rs ++ [b]) i j = rs' ++ [b'] ∧ ((cntOf rs = cntOf rs' ∧ b = b') ↔ (i < rs.length ∧ j < rs.length ∧ (rs ++ [b]).getD i 0 = (rs ++ [b]).getD j 0 + 1)) := by
  by_cases h1 : i < rs.length
  · by_cases h2 : j < rs.length
    · refine ⟨moved rs i j, b, ?_, ?_⟩
      · unfold moved
        rw [getD_left h1, getD_left h2, List.set_append_left _ _ h1, List.set_append_left _ _ (by simpa using h2)]
      · rw [getD_left h1, getD_left h2, cnt_iff, moved_perm h1 h2 hij (by rw [getD_left h1] at hpos; exact hpos)]
        simp [h1, h2]
    · have ej : j = rs.length := by omega
      subst ej
      refine ⟨rs.set i (rs.getD i 0 - 1), b + 1, ?_, ?_⟩
      · unfold moved
        rw [getD_left h1, getD_end, List.set_append_left _ _ h1, List.set_append_right _ _ (by simp)]
        simp
      · constructor
        · rintro ⟨_, h⟩; omega
        · rintro ⟨_, h, _⟩; omega
  · have ei : i = rs.length := by omega
    subst ei
    have h2 : j < rs.length := by omega
    rw [getD_end] at hpos
    refine ⟨rs.set j (rs.getD j 0 + 1), b - 1, ?_, ?_⟩
    · unfold moved
      rw [getD_left h2, getD_end, List.set_append_right _ _ (Nat.le_refl _)]
      simp only [Nat.sub_self, List.set_cons_zero]
      rw [List.set_append_left _ _ h2]
    · constructor
      · rintro ⟨_, h⟩; omega
      · rintro ⟨h, _⟩; omega
end Mine

/-! part SegB -/
namespace Mine
def bBody : List Stmt := bodyIn (stAt lawBody 5)
def KeyAt (own : List (Addr × Obj)) (v : Value) (rs : List Nat) (b : Nat) : Prop :=
  ∃ ss, DatIn own v (.tuple [.list (ss.map Dat.str), .str (sp b)]) ∧ ss.Perm (rs.map sp) ∧ sortedS ss = true
theorem strs_snoc {v : List Value} {ss : List Str} {x : Str} (h : StrsAre v (ss ++ [x])) : ∃ t, v.getLast? = some (.str x t) := by
  obtain ⟨t, ht⟩ := h.at (j := ss.length) (y := x) (by simp)
  refine ⟨t, ?_⟩
  rw [List.getLast?_eq_getElem?, h.length]
  simpa using ht
theorem news_app {h₀ h : Heap} {L : Addr} {a b : List (Addr × Obj)} (N : News h₀ L h (a ++ b)) : News h₀ L h (b ++ a) :=
  fun p hp => N p ((List.mem_append.mp hp).elim (fun h => List.mem_append_right _ h) fun h => List.mem_append_left _ h)
theorem off_app {own own1 news : List (Addr × Obj)} {a : Addr} {o : Obj} (h1 : ∀ p ∈ own, p.1 ≠ a) (hlt : ∀ p ∈ own1, ∀ q ∈ news, q.1 < p.1) (hm : (a, o) ∈ news) : ∀ p ∈ own ++ own1, p.1 ≠ a := by
  intro p hp
  rcases List.mem_append.mp hp with hp | hp
  · exact h1 p hp
  · exact Nat.ne_of_gt (hlt p hp _ hm)
theorem len_xt : (Str.ofString "x\t").length = 2 := by decide +kernel
theorem len_tab : tabS.length = 1 := by decide +kernel
theorem len_sp (n : Nat) : (sp n).length = n := by show ((List.replicate n 32).toArray).size = n; simp
theorem sum_sp (ks : List Nat) : ((ks.map sp).map (·.length)).sum = ks.sum := by
  rw [List.map_map]
  have : ((fun x : Str => x.length) ∘ sp) = id := by funext n; exact len_sp n
  rw [this, List.map_id]
theorem txt_join (rs : List Nat) (b : Nat) : Txt.join tabS (rs.map sp ++ [sp b]) = mkS rs b := by
  unfold Txt.join
  rw [StrLaws.glued_eq_join, join_txt]
theorem mk_len (rs : List Nat) (b : Nat) : (mkS rs b).length = rs.sum + rs.length + b := by
  show ((txt rs b).toArray).size = _
  rw [List.size_toArray, txt_length]
theorem IsWs.mono {own own' : List (Addr × Obj)} {v : Value} {c : List Int} {b : Nat} (hs : ∀ p ∈ own, p ∈ own') (h : IsWs own v c b) : IsWs own' v c b := by
  obtain ⟨r, d, tu, tc, es, nn, vs, tb, e, m1, m2, m3, m4, r'⟩ := h
  exact ⟨r, d, tu, tc, es, nn, vs, tb, e, hs _ m1, hs _ m2, hs _ m3, hs _ m4, r'⟩
theorem KeyAt.mono {own own' : List (Addr × Obj)} {v : Value} {rs : List Nat} {b : Nat} (hs : ∀ p ∈ own, p ∈ own') (h : KeyAt own v rs b) : KeyAt own' v rs b := by
  obtain ⟨ss, hd, r⟩ := h
  exact ⟨ss, hd.mono hs, r⟩
theorem off2 {own9 : List (Addr × Obj)} {Dt Ds a : Addr} {q1 q2 : Obj} (h1 : a < Dt) (h2 : a < Ds) (h : ∀ p ∈ own9, p.1 ≠ a) : ∀ p ∈ (Dt, q1) :: (Ds, q2) :: own9, p.1 ≠ a := by
  intro p hp
  rcases List.mem_cons.mp hp with rfl | hp
  · exact Nat.ne_of_gt h1
  rcases List.mem_cons.mp hp with rfl | hp
  · exact Nat.ne_of_gt h2
  · exact h p hp
theorem strs_dat {vs : List Value} {ss : List Str} (news : List (Addr × Obj)) (h : StrsAre vs ss) : DatAll news vs (ss.map Dat.str) := by
  induction h with
  | nil => exact .nil
  | cons y t _ ih => exact .cons (.str y t) ih
theorem b_fin {h₀ h : Heap} {L Dt Ds I lK lG lT lL : Addr} {a8 a7 a6 a5 ai ad : Addr × Obj} {oI oK oG oT oL : Obj} {own9 : List (Addr × Obj)} {vs : List Value} {ks : Nat} {ss : List Str} {rs : List Nat} {b : Nat} {tz : Tok}
    (N : News h₀ L h (a8 :: a7 :: a6 :: a5 :: (Dt, tupObj [.ref Ds, .str (sp b) tz]) :: (Ds, W.listOf vs.toArray ks) :: ai :: ad :: (I, oI) :: (lK, oK) :: (lG, oG) :: (lT, oT) :: (lL, oL) :: own9))
    (hS : StrsAre vs ss) (hP : ss.Perm (rs.map sp)) (hO : sortedS ss = true) :
    ∃ o1 o2, News h₀ L h ((I, oI) :: (lK, oK) :: (lG, oG) :: (lT, oT) :: (lL, oL) :: (Dt, o1) :: (Ds, o2) :: own9) ∧ KeyAt ((Dt, o1) :: (Ds, o2) :: own9) (.ref Dt) rs b := by
  refine ⟨tupObj [.ref Ds, .str (sp b) tz], W.listOf vs.toArray ks, ?_, ss, ?_, hP, hO⟩
  · intro p hp
    apply N p
    simp only [List.mem_cons] at hp ⊢
    rcases hp with h | h | h | h | h | h | h | h
    · exact .inr (.inr (.inr (.inr (.inr (.inr (.inr (.inr (.inl h))))))))
    · exact .inr (.inr (.inr (.inr (.inr (.inr (.inr (.inr (.inr (.inl h)))))))))
    · exact .inr (.inr (.inr (.inr (.inr (.inr (.inr (.inr (.inr (.inr (.inl h))))))))))
    · exact .inr (.inr (.inr (.inr (.inr (.inr (.inr (.inr (.inr (.inr (.inr (.inl h)))))))))))
    · exact .inr (.inr (.inr (.inr (.inr (.inr (.inr (.inr (.inr (.inr (.inr (.inr (.inl h))))))))))))
    · exact .inr (.inr (.inr (.inr (.inl h))))
    · exact .inr (.inr (.inr (.inr (.inr (.inl h)))))
    · exact .inr (.inr (.inr (.inr (.inr (.inr (.inr (.inr (.inr (.inr (.inr (.inr (.inr h))))))))))))
  · exact .tuple (.head _) (.cons (.list (.tail _ (.head _)) (strs_dat _ hS)) (.cons (.str _ _) .nil))
set_option maxRecDepth 100000
set_option maxHeartbeats 8000000
local macro_rules | `(tactic| k_all) => `(tactic| assumption)
local macro_rules | `(tactic| walk_at "call builtin:str.split") => `(tactic| (refine Stop.intro ?_))
local macro_rules | `(tactic| walk_at "call ref") => `(tactic| (refine Stop.intro ?_))
local macro_rules | `(tactic| walk_at "call builtin:sorted") => `(tactic| (k_here; k_dflt (refine' sorted_K ?k1 ?k2 ?k3 ?k4 ?k5 ?_; (case k1 => k_asm); (case k2 => k_asm); (case k3 => k_mem); (case k4 => assumption); (case k5 => omega); k_whole); intro D' v' s' k' h' F' N' l1 hS' hP' hO'; (try k_lt l1); (try k_sweep)))
local macro_rules | `(tactic| walk_at "subscriptTail Name Slice ref ref") => `(tactic| (k_here; (with_reducible show wpAny _ _ (subscriptTail _ _ (Value.ref _) (Value.ref _)) _ _ _); k_dflt (refine' slice_K ?k1 ?k2 ?k3 ?k4 ?k5 ?k6 ?k7 ?k8 ?k9 ?_ ?kA; (case k1 => k_asm); (case k2 => k_asm); (case k3 => k_mem); (case k4 => kmk_part); (case k5 => kmk_part); (case k6 => kmk_part); (case k7 => decide); (case k8 => first | exact pick_init _ | exact pick_last _ | exact pick_rev _ | exact pick_all _); (case k9 => first | omega | (simp only [List.length_dropLast]; omega)); (case kA => with_unfolding_all rfl)); intro D' h' F' N' l1; (try k_lt l1); (try k_sweep)))
local macro_rules | `(tactic| walk_at "subscriptTail Subscript Slice ref ref") => `(tactic| (k_here; (with_reducible show wpAny _ _ (subscriptTail _ _ (Value.ref _) (Value.ref _)) _ _ _); k_dflt (refine' slice_K ?k1 ?k2 ?k3 ?k4 ?k5 ?k6 ?k7 ?k8 ?k9 ?_ ?kA; (case k1 => k_asm); (case k2 => k_asm); (case k3 => k_mem); (case k4 => kmk_part); (case k5 => kmk_part); (case k6 => kmk_part); (case k7 => decide); (case k8 => first | exact pick_init _ | exact pick_last _ | exact pick_rev _ | exact pick_all _); (case k9 => first | omega | (simp only [List.length_dropLast]; omega)); (case kA => with_unfolding_all rfl)); intro D' h' F' N' l1; (try k_lt l1); (try k_sweep)))
local macro_rules | `(tactic| walk_at "subscriptTail") => `(tactic| (k_here; (with_reducible show wpAny _ _ (subscriptTail _ _ (Value.ref _) (Value.ref _)) _ _ _); k_dflt (refine' slice_K ?k1 ?k2 ?k3 ?k4 ?k5 ?k6 ?k7 ?k8 ?k9 ?_ ?kA; (case k1 => k_asm); (case k2 => k_asm); (case k3 => k_mem); (case k4 => kmk_part); (case k5 => kmk_part); (case k6 => kmk_part); (case k7 => decide); (case k8 => first | exact pick_init _ | exact pick_last _ | exact pick_rev _ | exact pick_all _); (case k9 => first | omega | (simp only [List.length_dropLast]; omega)); (case kA => with_unfolding_all rfl)); intro D' h' F' N' l1; (try k_lt l1); (try k_sweep)))
local macro_rules | `(tactic| walk_at "subscriptTail Name UnaryOp ref int") => `(tactic| (k_here; (with_reducible show wpAny _ _ (subscriptTail _ _ (Value.ref _) (Value.int _ _)) _ _ _); k_dflt (refine' item_last ?k1 ?k2 ?k3 ?_ ?kA; (case k1 => k_asm); (case k2 => k_mem); (case k3 => assumption); (case kA => with_unfolding_all rfl); k_whole)))
local macro_rules | `(tactic| walk_at "subscriptTail") => `(tactic| (k_here; (with_reducible show wpAny _ _ (subscriptTail _ _ (Value.ref _) (Value.int _ _)) _ _ _); k_dflt (refine' item_last ?k1 ?k2 ?k3 ?_ ?kA; (case k1 => k_asm); (case k2 => k_mem); (case k3 => assumption); (case kA => with_unfolding_all rfl); k_whole)))
local macro_rules | `(tactic| walk_at "binaryOp Add ref ref") => `(tactic| (k_here; (with_reducible show wpAny _ _ (binaryOp _ (Value.ref _) (Value.ref _)) _ _ _); k_dflt (refine' add_K ?k1 ?k2 ?k3 ?k4 ?k5 ?_; (case k1 => k_asm); (case k2 => k_asm); (case k3 => k_mem); (case k4 => k_mem); (case k5 => omega); k_whole); intro D' h' F' N' l1; (try k_lt l1); (try k_sweep)))
local macro_rules | `(tactic| walk_at "call builtin:str.join") => `(tactic| (k_here; k_dflt (refine' join_K ?k1 ?k2 ?k3 ?k4 ?_; (case k1 => k_asm); (case k2 => k_mem); (case k3 => assumption); (case k4 => assumption); k_whole); intro t' tk'))
theorem b_turn {w : World} {mean : ExcName → Option Value} {mg mb : Str → Option Value} {h₀ : Heap} (G : Gr w mean mg mb h₀)
   {s : Shared} {L fa lK lG lT lL I : Addr} {cd : Value} {o : Obj} {m : Str → Option Value} {own : List (Addr × Obj)} {vK vG vT vL : List Value} {kK kG kT kL : Nat} {rs : List Nat} {b : Nat} {u : Tok}
   (hx : rs.sum + rs.length + b ≤ 10) (hlK : vK.length ≤ 100) (hlG : vG.length ≤ 100) (hlT : vT.length ≤ 100)
   (d1 : lL < lK) (d2 : lK < lG) (d3 : lG < lT) (d4 : lK ≠ I) (d5 : lG ≠ I) (d6 : lT ≠ I) (d7 : lL ≠ I)
   (o1 : ∀ p ∈ own, p.1 ≠ lK) (o2 : ∀ p ∈ own, p.1 ≠ lG) (o3 : ∀ p ∈ own, p.1 ≠ lT) (o4 : ∀ p ∈ own, p.1 ≠ lL) (o5 : ∀ p ∈ own, p.1 ≠ I)
   (e1 : m (Str.ofString "keys") = some (.ref lK)) (e2 : m (Str.ofString "guys") = some (.ref lG)) (e3 : m (Str.ofString "turned") = some (.ref lT)) (e4 : m (Str.ofString "leads") = some (.ref lL))
   (F : Fr h₀ L s.heap (fun z => if z = Str.ofString "lead" then some (.str (mkS rs b) u) else m z))
   (N : News h₀ L s.heap ((I, o) :: (lK, W.listOf vK.toArray kK) :: (lG, W.listOf vG.toArray kG) :: (lT, W.listOf vT.toArray kT) :: (lL, W.listOf vL.toArray kL) :: own)) (Q : Flow → Shared → Prop)
   (hQ : ∀ h' tk m' vk vg vt k1 k2 k3 own', KeyAt own' vk rs b → IsWs own' vg (cntOf rs) b → IsWs own' vt (cntOf rs) b → (∀ p ∈ own, p ∈ own') → (∀ p ∈ own', p.1 ≠ lK) → (∀ p ∈ own', p.1 ≠ lG) → (∀ p ∈ own', p.1 ≠ lT) → (∀ p ∈ own', p.1 ≠ lL) → (∀ p ∈ own', p.1 ≠ I) →
     m' (Str.ofString "keys") = some (.ref lK) → m' (Str.ofString "guys") = some (.ref lG) → m' (Str.ofString "turned") = some (.ref lT) → m' (Str.ofString "leads") = some (.ref lL) → Fr h₀ L h' m' →
     News h₀ L h' ((I, o) :: (lK, W.listOf (vK ++ [vk]).toArray k1) :: (lG, W.listOf (vG ++ [vg]).toArray k2) :: (lT, W.listOf (vT ++ [vt]).toArray k3) :: (lL, W.listOf vL.toArray kL) :: own') → Q .next { s with heap := h', toks := tk }) :
    wpAny (model PySem.Challenge.rw_dn0189_01.row.prog w) (lawA L fa cd) (execs bBody (lawEnv L fa cd)) Q (fun _ _ => False) s := by
  have G' := G
  obtain ⟨T, KX, K0⟩ := G
  w_top off
  revert KX; k_fill; intro KX
  rw [rv e1, rv e2, rv e3, rv e4] at F
  dsimp only at F
  have hxl : (mkS rs b).length ≤ 10 := by
    show ((txt rs b).toArray).size ≤ 10
    rw [List.size_toArray, txt_length]; exact hx
  replace d1 := ltN d1
  replace d2 := ltN d2
  replace d3 := ltN d3
  replace d4 := neN d4
  replace d5 := neN d5
  replace d6 := neN d6
  replace d7 := neN d7
  conv => { arg 3; arg 1; whnf }
  k_steps
  unfold Stop
  refine split_K F N (by decide +kernel) (by omega) ?_
  intro D v h1 tk1 F1 N1 l1 hS
  clear F N
  k_lt l1
  rw [split_txt] at hS
  have hvl : v.length = rs.length + 1 := by rw [hS.length]; simp
  have hS1 : StrsAre v.dropLast (rs.map sp) := by simpa using strs_dropLast hS
  have hd1 : v.dropLast.length ≤ 11 := by rw [List.length_dropLast]; omega
  obtain ⟨tz, hz⟩ := strs_snoc hS
  have hS2 : StrsAre v.dropLast.reverse (rs.reverse.map sp) := by simpa using strs_rev hS1
  have hS3 : StrsAre (v.drop (v.length - 1)) [sp b] := by simpa using strs_last hS
  have hS4 := hS2.append' hS3
  have hjn : ((rs.reverse.map sp ++ [sp b]).map (·.length)).sum + (rs.reverse.map sp ++ [sp b]).length * (Str.ofString "\t").length ≤ 16777216 := by
    rw [List.map_append, List.sum_append, sum_sp, List.sum_reverse, len_tab]
    simp [len_sp]; omega
  have hd2 : v.dropLast.reverse.length ≤ 11 := by rw [List.length_reverse]; exact hd1
  have hd3 : (v.drop (v.length - 1)).length ≤ 11 := by rw [List.length_drop]; omega
  k_steps
  unfold Stop
  rename Fr _ _ _ _ => F2
  rename News _ _ _ _ => N2
  rename StrsAre _ _ => hSs
  rename List.Perm _ _ => hPs
  rename sortedS _ = true => hOs
  refine ws_call G' F2 N2 (by rw [Str.length_append, len_xt]; omega) ?_
  intro v1 own1 h2 tk2 hW1 F3 N3 hlt1
  rw [(scanOf_mk rs b _ ends_x).1, (scanOf_mk rs b _ ends_x).2] at hW1
  have p1 := off_app o1 hlt1 (by k_mem)
  have p2 := off_app o2 hlt1 (by k_mem)
  have p3 := off_app o3 hlt1 (by k_mem)
  have p4 := off_app o4 hlt1 (by k_mem)
  have p5 := off_app o5 hlt1 (by k_mem)
  clear hlt1
  replace N3 := news_app N3
  simp only [List.cons_append] at N3
  clear F2 N2
  k_steps
  unfold Stop
  rename Fr _ _ _ _ => F4
  rename News _ _ _ _ => N4
  rw [txt_join]
  refine ws_call G' F4 N4 (by rw [mk_len, List.sum_reverse, List.length_reverse]; omega) ?_
  intro v2 own2 h3 tk3 hW2 F5 N5 hlt2
  rw [(scanOf_mk0 rs.reverse b).1, (scanOf_mk0 rs.reverse b).2, (cnt_iff rs.reverse rs).mpr (List.reverse_perm rs)] at hW2
  have r1 := off_app p1 hlt2 (by k_mem)
  have r2 := off_app p2 hlt2 (by k_mem)
  have r3 := off_app p3 hlt2 (by k_mem)
  have r4 := off_app p4 hlt2 (by k_mem)
  have r5 := off_app p5 hlt2 (by k_mem)
  clear hlt2
  replace N5 := news_app N5
  simp only [List.cons_append] at N5
  clear F4 N4
  k_steps
  rename Fr _ _ _ _ => F6
  rename News _ _ _ _ => N6
  simp only [List.push_toArray] at N6
  rename_i _ _ _ _ ltS Dt _ ltT _ _ _ _ _ _ _ _ _ _ _ _ _ _ _ _ _ _ _ _ _ _
  obtain ⟨q1, q2, N7, hK⟩ := b_fin N6 hSs hPs hOs
  refine hQ _ _ _ _ _ _ _ _ _ _ hK (hW1.mono ?_) (hW2.mono ?_) ?_ (off2 ltT.2.2.2.2.1 ltS.2.2.2.1 r1) (off2 ltT.2.2.2.2.2.1 ltS.2.2.2.2.1 r2) (off2 ltT.2.2.2.2.2.2.1 ltS.2.2.2.2.2.1 r3) (off2 ltT.2.2.2.2.2.2.2.1 ltS.2.2.2.2.2.2.1 r4) (off2 ltT.2.2.2.1 ltS.2.2.1 r5) rfl rfl rfl rfl F6 N7
  · intro p hp; exact .tail _ (.tail _ (List.mem_append_left _ (List.mem_append_right _ hp)))
  · intro p hp; exact .tail _ (.tail _ (List.mem_append_right _ hp))
  · intro p hp; exact .tail _ (.tail _ (List.mem_append_left _ (List.mem_append_left _ hp)))
end Mine

/-! part SegB2 -/
namespace Mine
abbrev Sh := List Nat × Nat
def mkF (f : Sh) : Str := mkS f.1 f.2
def FOk (fs : List Sh) : Prop := ∀ f ∈ fs, f.1.sum + f.1.length + f.2 ≤ 10
theorem leads_form : ∀ (leads : List Str), (∀ x ∈ leads, Good x) → ∃ fs : List Sh, leads = fs.map mkF ∧ FOk fs
  | [], _ => ⟨[], rfl, fun _ h => nomatch h⟩
  | x :: r, h => by
    obtain ⟨rs, b, e, hb⟩ := (h x (.head _)).form
    obtain ⟨fs, e2, hf⟩ := leads_form r fun y hy => h y (.tail _ hy)
    refine ⟨(rs, b) :: fs, by rw [e2, e]; rfl, ?_⟩
    intro f hm
    rcases List.mem_cons.mp hm with rfl | hm
    · exact hb
    · exact hf f hm
structure Ents (fs : List Sh) (own : List (Addr × Obj)) (vK vG vT : List Value) : Prop where
  lK : vK.length = fs.length
  lG : vG.length = fs.length
  lT : vT.length = fs.length
  key : ∀ (j : Nat) (f : Sh), fs[j]? = some f → ∃ v, vK[j]? = some v ∧ KeyAt own v f.1 f.2
  guy : ∀ (j : Nat) (f : Sh), fs[j]? = some f → ∃ v, vG[j]? = some v ∧ IsWs own v (cntOf f.1) f.2
  tur : ∀ (j : Nat) (f : Sh), fs[j]? = some f → ∃ v, vT[j]? = some v ∧ IsWs own v (cntOf f.1) f.2
theorem at_snoc {α β : Type} {fs : List α} {f : α} {vs : List β} {v : β} {P : β → α → Prop} (hl : vs.length = fs.length) (h : ∀ (j : Nat) (g : α), fs[j]? = some g → ∃ u, vs[j]? = some u ∧ P u g) (hv : P v f) :
    ∀ (j : Nat) (g : α), (fs ++ [f])[j]? = some g → ∃ u, (vs ++ [v])[j]? = some u ∧ P u g := by
  intro j g hj
  by_cases hlt : j < fs.length
  · rw [List.getElem?_append_left hlt] at hj
    obtain ⟨u, hu, hp⟩ := h j g hj
    exact ⟨u, by rw [List.getElem?_append_left (by omega)]; exact hu, hp⟩
  · rw [List.getElem?_append_right (by omega)] at hj
    have hj0 : j - fs.length = 0 := by
      have := (List.getElem?_eq_some_iff.mp hj).1
      simp at this; omega
    rw [hj0] at hj
    simp at hj
    subst hj
    refine ⟨v, ?_, hv⟩
    rw [List.getElem?_append_right (by omega), hl, hj0]; rfl
theorem Ents.snoc {fs : List Sh} {own own' : List (Addr × Obj)} {vK vG vT : List Value} {f : Sh} {vk vg vt : Value} (E : Ents fs own vK vG vT) (hs : ∀ p ∈ own, p ∈ own') (hk : KeyAt own' vk f.1 f.2) (hg : IsWs own' vg (cntOf f.1) f.2) (ht : IsWs own' vt (cntOf f.1) f.2) :
    Ents (fs ++ [f]) own' (vK ++ [vk]) (vG ++ [vg]) (vT ++ [vt]) where
  lK := by simp [E.lK]
  lG := by simp [E.lG]
  lT := by simp [E.lT]
  key := at_snoc (P := fun v f => KeyAt own' v f.1 f.2) E.lK (fun j g hj => let ⟨v, h1, h2⟩ := E.key j g hj; ⟨v, h1, h2.mono hs⟩) hk
  guy := at_snoc (P := fun v f => IsWs own' v (cntOf f.1) f.2) E.lG (fun j g hj => let ⟨v, h1, h2⟩ := E.guy j g hj; ⟨v, h1, h2.mono hs⟩) hg
  tur := at_snoc (P := fun v f => IsWs own' v (cntOf f.1) f.2) E.lT (fun j g hj => let ⟨v, h1, h2⟩ := E.tur j g hj; ⟨v, h1, h2.mono hs⟩) ht

def BJ (fs : List Sh) (lK lG lT lL : Addr) (oL : Obj) (i : Nat) (m : Str → Option Value) (nx : List (Addr × Obj)) : Prop :=
  ∃ own vK vG vT k1 k2 k3, nx = (lK, W.listOf vK.toArray k1) :: (lG, W.listOf vG.toArray k2) :: (lT, W.listOf vT.toArray k3) :: (lL, oL) :: own ∧ Ents (fs.take i) own vK vG vT ∧
    (∀ p ∈ own, p.1 ≠ lK) ∧ (∀ p ∈ own, p.1 ≠ lG) ∧ (∀ p ∈ own, p.1 ≠ lT) ∧ (∀ p ∈ own, p.1 ≠ lL) ∧
    m (Str.ofString "keys") = some (.ref lK) ∧ m (Str.ofString "guys") = some (.ref lG) ∧ m (Str.ofString "turned") = some (.ref lT) ∧ m (Str.ofString "leads") = some (.ref lL)

set_option maxRecDepth 100000
set_option maxHeartbeats 8000000
theorem b_for {w : World} {mean : ExcName → Option Value} {mg mb : Str → Option Value} {h₀ : Heap} (G : Gr w mean mg mb h₀)
   {s : Shared} {L fa lK lG lT lL : Addr} {cd : Value} {m : Str → Option Value} {vL : List Value} {kL k1 k2 k3 : Nat} {fs : List Sh}
   (hS : StrsAre vL (fs.map mkF)) (hf : FOk fs) (hlen : fs.length ≤ 9) (d1 : lL < lK) (d2 : lK < lG) (d3 : lG < lT)
   (e1 : m (Str.ofString "keys") = some (.ref lK)) (e2 : m (Str.ofString "guys") = some (.ref lG)) (e3 : m (Str.ofString "turned") = some (.ref lT)) (e4 : m (Str.ofString "leads") = some (.ref lL))
   (F : Fr h₀ L s.heap m) (N : News h₀ L s.heap [(lK, W.listOf #[] k1), (lG, W.listOf #[] k2), (lT, W.listOf #[] k3), (lL, W.listOf vL.toArray kL)]) :
    wpAny (model PySem.Challenge.rw_dn0189_01.row.prog w) (lawA L fa cd) (exec (stAt lawBody 5) (lawEnv L fa cd))
      (fun f s' => Stop (f = .next ∧ ∃ h' tk m' nx, s' = { s with heap := h', toks := tk } ∧ Fr h₀ L h' m' ∧ News h₀ L h' nx ∧ BJ fs lK lG lT lL (W.listOf vL.toArray kL) fs.length m' nx))
      (fun _ _ => False) s := by
  conv => { arg 3; arg 1; whnf }
  refine For_invV h₀ (by rfl) (by rfl) ?_ (by intro _; rfl) PassesOwn.never
  refine ld F e4 ?_
  have hvl : vL.length = fs.length := by rw [hS.length]; simp
  refine iter_listJ (vs := vL) (k := kL) (BJ fs lK lG lT lL (W.listOf vL.toArray kL)) (by rfl) ?_ F N ⟨[], [], [], [], k1, k2, k3, rfl, ⟨rfl, rfl, rfl, by simp, by simp, by simp⟩, by simp, by simp, by simp, by simp, e1, e2, e3, e4⟩ ?_ ?_
  · rintro i m' nx ⟨own, vK, vG, vT, _, _, _, rfl, _⟩
    exact .tail _ (.tail _ (.tail _ (.head _)))
  · rintro i v m₁ nx h tk I o hv ⟨own, vK, vG, vT, c1, c2, c3, rfl, E, o1, o2, o3, o4, f1, f2, f3, f4⟩ hI F₁ N₁
    obtain ⟨y, t, rfl, hy⟩ := hS.item i v hv
    have hi : i < fs.length := by
      have := (List.getElem?_eq_some_iff.mp hv).1
      omega
    have hfi : fs[i]? = some fs[i] := List.getElem?_eq_getElem hi
    have hy' : y = mkS fs[i].1 fs[i].2 := by
      rw [List.getElem?_map, hfi] at hy
      exact (Option.some.inj hy).symm
    subst hy'
    have iK : lK ≠ I := hI _ (.head _)
    have iG : lG ≠ I := hI _ (.tail _ (.head _))
    have iT : lT ≠ I := hI _ (.tail _ (.tail _ (.head _)))
    have iL : lL ≠ I := hI _ (.tail _ (.tail _ (.tail _ (.head _))))
    have htl : (fs.take i).length = i := by simp; omega
    have a1 := E.lK; have a2 := E.lG; have a3 := E.lT
    rw [htl] at a1 a2 a3
    refine b_turn (s := { s with heap := h, toks := tk }) G (hf _ (List.getElem_mem hi)) (by omega) (by omega) (by omega) d1 d2 d3 (hI _ (.head _)) (hI _ (.tail _ (.head _))) (hI _ (.tail _ (.tail _ (.head _)))) (hI _ (.tail _ (.tail _ (.tail _ (.head _))))) o1 o2 o3 o4 (fun p hp => hI p (.tail _ (.tail _ (.tail _ (.tail _ hp))))) f1 f2 f3 f4 F₁ N₁ _ ?_
    intro h' tk' m' vk vg vt q1 q2 q3 own' hk hg ht hsub p1 p2 p3 p4 p5 g1 g2 g3 g4 F' N'
    refine TurnOut.mk F' N' ?_ ⟨own', _, _, _, q1, q2, q3, rfl, ?_, p1, p2, p3, p4, g1, g2, g3, g4⟩
    · intro p hp
      simp only [List.mem_cons] at hp
      rcases hp with rfl | rfl | rfl | rfl | hp
      · exact iK
      · exact iG
      · exact iT
      · exact iL
      · exact p5 p hp
    · rw [List.take_add_one, hfi]
      exact E.snoc hsub hk hg ht
  · intro m₁ nx h tk hJ F₁ N₁
    rw [hvl] at hJ
    exact ⟨rfl, h, tk, m₁, nx, rfl, F₁, N₁, hJ⟩
end Mine

/-! part SegC -/
namespace Mine
def cols (f : Sh) : List Int := (List.range 11).map fun j : Nat => colC (1 + (j : Int)) (txt f.1 f.2) 0
structure Tabs (fs : List Sh) (own : List (Addr × Obj)) (ys : List Value) : Prop where
  len : ys.length = fs.length
  tab : ∀ (j : Nat) (f : Sh), fs[j]? = some f → ∃ v, ys[j]? = some v ∧ DatIn own v (.list ((cols f).map Dat.int))
def cElt : PySem.Expr := match stAt lawBody 6 with
  | .Assign _ (.ListComp e _ _ _) _ => e
  | _ => .Constant .none 0 default
def cScope : Scope := match stAt lawBody 6 with
  | .Assign _ (.ListComp _ _ sc _) _ => sc
  | _ => lawScope
set_option maxRecDepth 100000
set_option maxHeartbeats 8000000
local macro_rules | `(tactic| walk_at "call ref") => `(tactic| (refine Stop.intro ?_))
theorem c_elt {w : World} {mean : ExcName → Option Value} {mg mb : Str → Option Value} {h₀ : Heap} (G : Gr w mean mg mb h₀)
   {s : Shared} {L fa I C D : Addr} {cd : Value} {oI oC oD : Obj} {m m₂ : Str → Option Value} {nw : List (Addr × Obj)} {x : Str} {t : Tok} {cl : List (Str × Addr)} {E' : Value → Shared → Prop}
   (hC : LCg.NsObj oC m₂) (hx : m₂ (Str.ofString "lead") = some (.str x t)) (F : Fr h₀ L s.heap m) (N : News h₀ L s.heap ((I, oI) :: (C, oC) :: (D, oD) :: nw)) (Q : Value → Shared → Prop)
   (hQ : ∀ Dt k vs h' tk, IntsAre vs ((List.range 11).map fun j : Nat => colC (1 + (j : Int)) x.cps.toList 0) → Fr h₀ L h' m → News h₀ L h' ((Dt, W.listOf vs.toArray k) :: (I, oI) :: (C, oC) :: (D, oD) :: nw) → (∀ p ∈ (I, oI) :: (C, oC) :: (D, oD) :: nw, p.1 < Dt) → Q (.ref Dt) { s with heap := h', toks := tk }) :
    wpAny (model PySem.Challenge.rw_dn0189_01.row.prog w) (lawA L fa cd) (eval cElt (compEnvC cScope cl C (lawEnv L fa cd))) Q E' s := by
  have G' := G
  obtain ⟨T, KX, K0⟩ := G
  w_top off
  revert KX; k_fill; intro KX
  conv => { arg 3; arg 1; whnf }
  k_steps
  unfold Stop
  exact col_call G' F N hQ

theorem c_rest {w : World} {mean : ExcName → Option Value} {mg mb : Str → Option Value} {h₀ : Heap} (G : Gr w mean mg mb h₀)
   {s : Shared} {L fa lL : Addr} {cd : Value} {m : Str → Option Value} {vL : List Value} {kL : Nat} {cl : List (Str × Addr)} {fs : List Sh} {Fin : List Value → List (Addr × Obj) → Prop} {nw₀ : List (Addr × Obj)}
   (hS : StrsAre vL (fs.map mkF)) (hm : (lL, W.listOf vL.toArray kL) ∈ nw₀)
   (fin : ∀ ys nw, Tabs fs nw ys → (∀ p ∈ nw₀, p ∈ nw) → Fin ys nw) :
   ∀ (j i : Nat) (ys : List Value) (nw : List (Addr × Obj)), i + j = fs.length → Tabs (fs.take i) nw ys → (∀ p ∈ nw₀, p ∈ nw) →
     LCg.CompRest PySem.Challenge.rw_dn0189_01.row.prog w (lawA L fa cd) h₀ L m (lawEnv L fa cd) cElt (Str.ofString "lead") cScope cl s (LCg.SrcAt h₀ lL vL.toArray) (fun i v => vL.toArray[i]? = some v) Fin j i ys nw := by
  intro j
  induction j with
  | zero =>
    intro i ys nw hi ht hsub
    have e : fs.take i = fs := List.take_of_length_le (by omega)
    rw [e] at ht
    exact LCg.CompRest.zero (fin ys nw ht hsub)
  | succ j ih =>
    intro i ys nw hi ht hsub
    refine LCg.CompRest.succ ?_
    intro v I oI C oC D m₂ h tk E' hv hC hx F N off ne
    have hv' : vL[i]? = some v := by simpa using hv
    obtain ⟨y, t, rfl, hy⟩ := hS.item i v hv'
    have hlt : i < fs.length := by omega
    have hfi : fs[i]? = some fs[i] := List.getElem?_eq_getElem hlt
    have hy' : y = mkS fs[i].1 fs[i].2 := by
      rw [List.getElem?_map, hfi] at hy
      exact (Option.some.inj hy).symm
    subst hy'
    refine c_elt (s := { s with heap := h, toks := tk }) G hC hx F N _ ?_
    intro Dt k vs h' tk' hvs F' N' hlt'
    refine ⟨h', tk', (Dt, W.listOf vs.toArray k) :: nw, rfl, F', ?_, ?_, ?_, ?_⟩
    · intro p hp
      apply N' p
      simp only [List.mem_cons] at hp ⊢
      rcases hp with h | h | h | h | h
      · exact .inr (.inl h)
      · exact .inr (.inr (.inl h))
      · exact .inr (.inr (.inr (.inl h)))
      · exact .inl h
      · exact .inr (.inr (.inr (.inr h)))
    · refine ⟨⟨?_, ?_, ?_⟩, off⟩
      · exact Nat.ne_of_gt (hlt' (I, oI) (.head _))
      · exact Nat.ne_of_gt (hlt' (C, oC) (.tail _ (.head _)))
      · exact Nat.ne_of_gt (hlt' (D, _) (.tail _ (.tail _ (.head _))))
    · exact .inr ⟨_, .tail _ (hsub _ hm), rfl, _, rfl⟩
    · refine ih (i + 1) _ _ (by omega) ?_ (fun p hp => .tail _ (hsub p hp))
      rw [List.take_add_one, hfi]
      have hcx : (mkS fs[i].1 fs[i].2).cps.toList = txt fs[i].1 fs[i].2 := by simp [mkS]
      rw [hcx] at hvs
      refine ⟨by rw [List.length_append, List.length_append, ht.len]; rfl, ?_⟩
      exact at_snoc (P := fun v f => DatIn ((Dt, W.listOf vs.toArray k) :: nw) v (.list ((cols f).map Dat.int))) ht.len
        (fun j g hj => let ⟨v, h1, h2⟩ := ht.tab j g hj; ⟨v, h1, h2.mono fun p hp => .tail _ hp⟩) (.list (.head _) (ints_dat _ hvs))

theorem c_assign {w : World} {mean : ExcName → Option Value} {mg mb : Str → Option Value} {h₀ : Heap} (G : Gr w mean mg mb h₀)
   {s : Shared} {L fa lL : Addr} {cd : Value} {m : Str → Option Value} {vL : List Value} {kL : Nat} {fs : List Sh} {nw : List (Addr × Obj)}
   (hS : StrsAre vL (fs.map mkF)) (hlen : fs.length ≤ 9) (hm : (lL, W.listOf vL.toArray kL) ∈ nw) (e4 : m (Str.ofString "leads") = some (.ref lL))
   (F : Fr h₀ L s.heap m) (N : News h₀ L s.heap nw) :
    wpAny (model PySem.Challenge.rw_dn0189_01.row.prog w) (lawA L fa cd) (exec (stAt lawBody 6) (lawEnv L fa cd))
      (fun f s' => Stop (f = .next ∧ ∃ h' tk nw' lB ys, s' = { s with heap := h', toks := tk } ∧ Fr h₀ L h' (fun z => if z = Str.ofString "tables" then some (.ref lB) else m z) ∧ News h₀ L h' nw' ∧ (∀ p ∈ nw, p ∈ nw') ∧ (lB, LCg.lst ys) ∈ nw' ∧ Tabs fs nw' ys))
      (fun _ _ => False) s := by
  conv => { arg 3; arg 1; whnf }
  have hvl : vL.length = fs.length := by rw [hS.length]; simp
  refine LCg.Assign_ListComp_U (F₀ := F) (by rfl) (by with_unfolding_all rfl) (by rfl) (by decide) (by rfl) (by decide) (by rfl) (by rfl) (by rfl) ?_
  refine ld F e4 ?_
  refine LCg.CompSrc.ledger (by rfl) F N hm (by rw [sizeLine_eq, List.size_toArray]; omega) ?_
  intro g
  rw [List.size_toArray, hvl]
  refine c_rest G hS hm ?_ fs.length 0 [] nw (by omega) ⟨rfl, by simp⟩ (fun p hp => hp)
  intro ys nw' ht hsub D h tk F' N' off
  refine ⟨rfl, h, tk, (D, LCg.lst ys) :: nw', D, ys, rfl, F', N', fun p hp => .tail _ (hsub p hp), .head _, ht.len, ?_⟩
  intro j f hj
  obtain ⟨v, h1, h2⟩ := ht.tab j f hj
  exact ⟨v, h1, h2.mono fun p hp => .tail _ hp⟩
end Mine

/-! part SegD -/
namespace Mine
structure Wd (fs : List Sh) (nw : List (Addr × Obj)) (lL lK lG lT lB : Addr) (vL vK vG vT ys : List Value) (kL kK kG kT : Nat) : Prop where
  mL : (lL, W.listOf vL.toArray kL) ∈ nw
  mK : (lK, W.listOf vK.toArray kK) ∈ nw
  mG : (lG, W.listOf vG.toArray kG) ∈ nw
  mT : (lT, W.listOf vT.toArray kT) ∈ nw
  mB : (lB, W.listOf ys.toArray ys.length) ∈ nw
  sL : StrsAre vL (fs.map mkF)
  ents : Ents fs nw vK vG vT
  tabs : Tabs fs nw ys
  ok : FOk fs
  len : fs.length ≤ 9
structure Nm (lL lK lG lT lB : Addr) (m : Str → Option Value) : Prop where
  L : m (Str.ofString "leads") = some (.ref lL)
  K : m (Str.ofString "keys") = some (.ref lK)
  G : m (Str.ofString "guys") = some (.ref lG)
  T : m (Str.ofString "turned") = some (.ref lT)
  B : m (Str.ofString "tables") = some (.ref lB)
def pBody : List Stmt := bodyIn (stAt lawBody 7)
def qBody : List Stmt := bodyIn (stAt pBody 0)
theorem key_ref {own : List (Addr × Obj)} {v : Value} {rs : List Nat} {b : Nat} (h : KeyAt own v rs b) : ∃ a, v = .ref a := by
  obtain ⟨ss, hd, _⟩ := h
  cases hd with
  | tuple _ _ => exact ⟨_, rfl⟩
theorem list_ref {own : List (Addr × Obj)} {v : Value} {ds : List Dat} (h : DatIn own v (.list ds)) : ∃ a, v = .ref a := by
  cases h with
  | list _ _ => exact ⟨_, rfl⟩
theorem ps {m : Str → Option Value} {x z : Str} {v : Value} (e : m x = some v) : (if z = x then some v else m z) = m z := by
  by_cases h : z = x
  · subst h; simp [e]
  · simp [h]
theorem dec_congr {p q : Prop} {i : Decidable p} [j : Decidable q] (h : p ↔ q) : @decide p i = @decide q j := by
  by_cases hq : q
  · rw [decide_eq_true hq, decide_eq_true (h.mpr hq)]
  · rw [decide_eq_false hq, decide_eq_false (fun hp => hq (h.mp hp))]
theorem strOk_sp (n : Nat) : PyData.strOk (sp n) = true := by
  unfold PyData.strOk sp
  rw [Array.all_eq_true]
  intro i hi
  simp
theorem map_str_inj {a b : List Str} (h : a.map Dat.str = b.map Dat.str) : a = b := by
  induction a generalizing b with
  | nil => cases b with
    | nil => rfl
    | cons _ _ => cases h
  | cons x r ih => cases b with
    | nil => cases h
    | cons y t =>
      rw [List.map_cons, List.map_cons] at h
      injection h with h1 h2
      injection h1 with h1
      rw [h1, ih h2]
theorem keyDat_iff {ss ss' : List Str} {f g : Sh} (p1 : ss.Perm (f.1.map sp)) (o1 : sortedS ss = true) (p2 : ss'.Perm (g.1.map sp)) (o2 : sortedS ss' = true) :
    Dat.tuple [.list (ss.map Dat.str), .str (sp f.2)] = Dat.tuple [.list (ss'.map Dat.str), .str (sp g.2)] ↔ (cntOf f.1 = cntOf g.1 ∧ f.2 = g.2) := by
  rw [cnt_iff, ← key_iff p1 o1 p2 o2]
  constructor
  · intro h
    injection h with h
    injection h with h1 h2
    injection h1 with h1
    injection h2 with h2 _
    injection h2 with h2
    exact ⟨map_str_inj h1, sp_inj h2⟩
  · rintro ⟨h1, h2⟩
    rw [h1, h2]
theorem tabDat_iff {f g : Sh} (hf : f.1.sum + f.1.length + f.2 ≤ 10) (hg : g.1.sum + g.1.length + g.2 ≤ 10) :
    Dat.list ((cols f).map Dat.int) = Dat.list ((cols g).map Dat.int) ↔ (cntOf f.1 = cntOf g.1 ∧ f.2 = g.2) := by
  rw [cnt_iff, ← tbl_iff hf hg]
  constructor
  · intro h
    injection h with h
    exact map_int_inj h
  · intro h
    show Dat.list ((cols f).map Dat.int) = Dat.list ((cols g).map Dat.int)
    unfold cols
    rw [h]
theorem tabDat_ok (f : Sh) : kqdOk 8 (Dat.list ((cols f).map Dat.int)) = true := by
  simp [kqdOk]
theorem keyDat_ok {ss : List Str} {rs : List Nat} {b : Nat} (h : ss.Perm (rs.map sp)) : kqdOk 8 (Dat.tuple [.list (ss.map Dat.str), .str (sp b)]) = true := by
  simp only [kqdOk, List.all_cons, List.all_nil, Bool.and_true, Bool.and_eq_true, List.all_eq_true, strOk_sp, and_true]
  intro d hd
  obtain ⟨x, hx, rfl⟩ := List.mem_map.mp hd
  obtain ⟨n, _, rfl⟩ := List.mem_map.mp (h.mem_iff.mp hx)
  simp [kqdOk, strOk_sp]
set_option maxRecDepth 100000
set_option maxHeartbeats 8000000
local macro_rules | `(tactic| walk_at "call ref") => `(tactic| (refine Stop.intro ?_))
local macro_rules | `(tactic| walk_at "compareOp Eq ref ref") => `(tactic| (refine Stop.intro ?_))
local macro_rules | `(tactic| walk_at "subscriptTail Name Name ref int") => `(tactic| (k_here; (with_reducible show wpAny _ _ (subscriptTail _ _ (Value.ref _) (Value.int _ _)) _ _ _); k_dflt (refine' item_list ?k1 ?k2 ?k3 ?k4 ?k5 ?_ ?k6; (case k1 => k_asm); (case k2 => assumption); (case k3 => omega); (case k4 => omega); (case k5 => assumption); (case k6 => with_unfolding_all rfl); k_whole)))
local macro_rules | `(tactic| walk_at "getMethod ref") => `(tactic| (k_here; k_dflt (refine' method_inst ?k1 ?k2 ?k3 ?k4 ?k5 ?k6 ?k7 ?_; (case k1 => k_asm); (case k2 => k_asm); (case k3 => exact InstAt.of_news (by k_asm) (by assumption) (by assumption)); (case k4 => k_is); (case k5 => k_is); (case k6 => k_is); (case k7 => assumption); k_whole)))
theorem d_q {w : World} {mean : ExcName → Option Value} {mg mb : Str → Option Value} {h₀ : Heap} (G : Gr w mean mg mb h₀)
   {s : Shared} {L fa lL lK lG lT lB I : Addr} {cd : Value} {o : Obj} {m : Str → Option Value} {vL vK vG vT ys : List Value} {kL kK kG kT : Nat} {nw : List (Addr × Obj)} {fs : List Sh} {p q : Nat} {u u' : Tok}
   (wd : Wd fs nw lL lK lG lT lB vL vK vG vT ys kL kK kG kT) (nm : Nm lL lK lG lT lB m) (hp : p < fs.length) (hq : q < fs.length) (ep : m (Str.ofString "p") = some (.int (p : Int) u'))
   (F : Fr h₀ L s.heap (fun z => if z = Str.ofString "q" then some (.int (q : Int) u) else m z)) (N : News h₀ L s.heap ((I, o) :: nw)) (Q : Flow → Shared → Prop) 
   (hQ : ∀ h' tk, Fr h₀ L h' (fun z => if z = Str.ofString "q" then some (.int (q : Int) u) else m z) → News h₀ L h' ((I, o) :: nw) → Q .next { s with heap := h', toks := tk }) :
    wpAny (model PySem.Challenge.rw_dn0189_01.row.prog w) (lawA L fa cd) (execs qBody (lawEnv L fa cd)) Q (fun _ _ => False) s := by
  have G' := G
  obtain ⟨T, KX, K0⟩ := G
  w_top off
  revert KX; k_fill; intro KX
  rw [rv nm.K, rv nm.G, rv nm.T, rv nm.B, rv ep] at F
  dsimp only at F
  have hfp : fs[p]? = some fs[p] := List.getElem?_eq_getElem hp
  have hfq : fs[q]? = some fs[q] := List.getElem?_eq_getElem hq
  have hl9 := wd.len
  have mK : (lK, W.listOf vK.toArray kK) ∈ (I, o) :: nw := .tail _ wd.mK
  have mG : (lG, W.listOf vG.toArray kG) ∈ (I, o) :: nw := .tail _ wd.mG
  have mT : (lT, W.listOf vT.toArray kT) ∈ (I, o) :: nw := .tail _ wd.mT
  have mB : (lB, W.listOf ys.toArray ys.length) ∈ (I, o) :: nw := .tail _ wd.mB
  have hsub : ∀ x ∈ nw, x ∈ (I, o) :: nw := fun x hx => .tail _ hx
  obtain ⟨vg, xg, wg⟩ := wd.ents.guy p _ hfp
  obtain ⟨vg', xg', wg'⟩ := wd.ents.guy q _ hfq
  obtain ⟨vt', xt', wt'⟩ := wd.ents.tur q _ hfq
  obtain ⟨vk, xk, wk⟩ := wd.ents.key p _ hfp
  obtain ⟨vk', xk', wk'⟩ := wd.ents.key q _ hfq
  obtain ⟨vb, xb, wb⟩ := wd.tabs.tab p _ hfp
  obtain ⟨vb', xb', wb'⟩ := wd.tabs.tab q _ hfq
  replace wg := wg.mono hsub
  replace wg' := wg'.mono hsub
  replace wt' := wt'.mono hsub
  replace wk := wk.mono hsub
  replace wk' := wk'.mono hsub
  replace wb := wb.mono hsub
  replace wb' := wb'.mono hsub
  obtain ⟨ak, rfl⟩ := key_ref wk
  obtain ⟨ak', rfl⟩ := key_ref wk'
  obtain ⟨ab, rfl⟩ := list_ref wb
  obtain ⟨ab', rfl⟩ := list_ref wb'
  have wg₀ := wg
  have wg₀' := wg'
  have wt₀' := wt'
  obtain ⟨r, d, tu, tc, es, nn, vs, tb, rfl, m1, m2, m3, m4, i1, g1, g2⟩ := wg
  obtain ⟨r', d', tu', tc', es', nn', vs', tb', rfl, m1', m2', m3', m4', i1', g1', g2'⟩ := wg'
  obtain ⟨r2, d2, tu2, tc2, es2, nn2, vs2, tb2, rfl, m12, m22, m32, m42, i12, g12, g22⟩ := wt'
  conv => { arg 3; arg 1; whnf }
  k_steps
  unfold Stop
  refine eq_call G' F N wg₀ wg₀' ?_
  intro h1 tk1 F1 N1
  clear F N
  k_steps
  unfold Stop
  obtain ⟨ss, dk, pk, ok⟩ := wk
  obtain ⟨ss', dk', pk', ok'⟩ := wk'
  refine dat_eq N1 dk dk' (keyDat_ok pk) (keyDat_ok pk') (by ke_room) ?_
  rw [dec_congr (keyDat_iff pk ok pk' ok')]
  k_steps
  · rename_i hne
    simp at hne
  rename_i hx1
  clear hx1
  unfold Stop
  refine eq_call G' F1 N1 wg₀ wt₀' ?_
  intro h2 tk2 F2 N2
  clear F1 N1
  k_steps
  unfold Stop
  refine dat_eq N2 wb wb' (tabDat_ok _) (tabDat_ok _) (by ke_room) ?_
  rw [dec_congr (tabDat_iff (wd.ok _ (List.getElem_mem hp)) (wd.ok _ (List.getElem_mem hq)))]
  k_steps
  · rename_i hne
    simp at hne
  have em : ∀ z, (if z = Str.ofString "keys" then some (Value.ref lK) else if z = Str.ofString "guys" then some (Value.ref lG) else if z = Str.ofString "turned" then some (Value.ref lT) else if z = Str.ofString "tables" then some (Value.ref lB) else if z = Str.ofString "p" then some (Value.int (p : Int) u') else m z) = m z := by
    intro z
    rw [ps ep, ps nm.B, ps nm.T, ps nm.G, ps nm.K]
  simp only [em] at F2
  exact hQ _ _ F2 N2
end Mine

/-! part SegD2 -/
namespace Mine
def KeepBut (xs : List Str) (nw : List (Addr × Obj)) (m₀ : Str → Option Value) (i : Nat) (m : Str → Option Value) (nx : List (Addr × Obj)) : Prop := nx = nw ∧ ∀ z, z ∉ xs → m z = m₀ z
theorem Nm.keep {lL lK lG lT lB : Addr} {m m' : Str → Option Value} {xs : List Str} (nm : Nm lL lK lG lT lB m) (h : ∀ z, z ∉ xs → m' z = m z) (hx : (xs.all fun x => x != Str.ofString "leads" && x != Str.ofString "keys" && x != Str.ofString "guys" && x != Str.ofString "turned" && x != Str.ofString "tables") = true := by decide) : Nm lL lK lG lT lB m' := by
  have key : ∀ z, z = Str.ofString "leads" ∨ z = Str.ofString "keys" ∨ z = Str.ofString "guys" ∨ z = Str.ofString "turned" ∨ z = Str.ofString "tables" → m' z = m z := by
    intro z hz
    refine h z fun hm => ?_
    have := List.all_eq_true.mp hx z hm
    simp only [Bool.and_eq_true, bne_iff_ne] at this
    rcases hz with e | e | e | e | e
    · exact this.1.1.1.1 e
    · exact this.1.1.1.2 e
    · exact this.1.1.2 e
    · exact this.1.2 e
    · exact this.2 e
  exact ⟨(key _ (by simp)).trans nm.L, (key _ (by simp)).trans nm.K, (key _ (by simp)).trans nm.G, (key _ (by simp)).trans nm.T, (key _ (by simp)).trans nm.B⟩
set_option maxRecDepth 100000
set_option maxHeartbeats 8000000
local macro_rules | `(tactic| walk_at "pyIter ref") => `(tactic| (refine Stop.intro ?_))
theorem d_qfor {w : World} {mean : ExcName → Option Value} {mg mb : Str → Option Value} {h₀ : Heap} (G : Gr w mean mg mb h₀)
   {s : Shared} {L fa lL lK lG lT lB : Addr} {cd : Value} {m : Str → Option Value} {vL vK vG vT ys : List Value} {kL kK kG kT : Nat} {nw : List (Addr × Obj)} {fs : List Sh} {p : Nat} {u' : Tok}
   (wd : Wd fs nw lL lK lG lT lB vL vK vG vT ys kL kK kG kT) (nm : Nm lL lK lG lT lB m) (hp : p < fs.length) (ep : m (Str.ofString "p") = some (.int (p : Int) u'))
   (F : Fr h₀ L s.heap m) (N : News h₀ L s.heap nw) :
    wpAny (model PySem.Challenge.rw_dn0189_01.row.prog w) (lawA L fa cd) (exec (stAt pBody 0) (lawEnv L fa cd))
      (fun f s' => Stop (f = .next ∧ ∃ h' tk m', s' = { s with heap := h', toks := tk } ∧ Fr h₀ L h' m' ∧ News h₀ L h' nw ∧ ∀ z, z ∉ [Str.ofString "q"] → m' z = m z))
      (fun _ _ => False) s := by
  have G' := G
  obtain ⟨T, KX, K0⟩ := G
  w_top off
  revert KX; k_fill; intro KX
  have hvl : vL.toArray.size = fs.length := by rw [List.size_toArray, wd.sL.length]; simp
  have hl9 := wd.len
  rw [rv nm.L] at F
  replace N : News h₀ L s.heap ((lL, W.listOf vL.toArray kL) :: nw) := by
    intro x hx
    rcases List.mem_cons.mp hx with rfl | hx
    · exact N _ wd.mL
    · exact N _ hx
  conv => { arg 3; arg 1; whnf }
  refine For_invV h₀ (by rfl) (by rfl) ?_ (by intro _; rfl) PassesOwn.never
  k_steps
  unfold Stop
  rename IsRange _ _ _ _ _ _ _ _ => hr
  rename Fr _ _ _ _ => F1
  rename News _ _ _ _ => N1
  refine iter_rangeJ (n := fs.length) (KeepBut [Str.ofString "q"] nw m) (by rfl) hr (small_one (by decide) (by decide) (by omega) (by omega)) (by rw [rangeSize_nat]; omega) F1 (fun x hx => N1 x (.tail _ hx)) ⟨rfl, fun z _ => ps nm.L⟩ ?_ ?_
  · rintro i t m₁ nx h tk I o hi ⟨rfl, hm⟩ hI F₁ N₁
    rw [Int.zero_add] at F₁
    refine d_q (s := { s with heap := h, toks := tk }) G' wd (nm.keep hm) hp hi ((hm _ (by decide)).trans ep) F₁ N₁ _ ?_
    intro h' tk' F' N'
    refine TurnOut.mk F' N' hI ⟨rfl, fun z hz => ?_⟩
    rw [← hm z hz]
    exact if_neg (fun e : z = Str.ofString "q" => hz (by rw [e]; exact .head _))
  · rintro m₁ nx h tk ⟨rfl, hm⟩ F₁ N₁
    exact ⟨rfl, h, tk, m₁, rfl, F₁, N₁, hm⟩
end Mine

/-! part Rules2 -/
namespace Mine
theorem slice_sp {n : Nat} (h : 0 < n) : Txt.slice (sp n) (some 1) none = sp (n - 1) := by
  have hl : (sp n).length = n := len_sp n
  have e : Builtin.Str.strSliceIndices (some 1) none 1 n = (List.range (n - 1)).map (1 + ·) := by
    rw [← sliceRange_one 1 n]
    unfold Builtin.Str.strSliceIndices
    have : max (0 : Int) (min 1 (n : Int)) = ((1 : Nat) : Int) := by omega
    simp [this]
  unfold Txt.slice
  rw [hl, e, if_neg (by simp; omega), pick_run]
  unfold sp
  simp
section
variable {prog : Program} {w : World} {A : Around} {E : Value → Shared → Prop} {s : Shared} {h₀ : Heap} {L D : Addr} {m : Str → Option Value} {rest : List (Addr × Obj)} {vs : List Value} {n : Nat} {k : Int} {t : Tok} {v : Value}
theorem set_K {Q : Unit → Shared → Prop} (F : Fr h₀ L s.heap m) (N : News h₀ L s.heap ((D, W.listOf vs.toArray n) :: rest)) (hr : ∀ p ∈ rest, p.1 ≠ D) (h0 : 0 ≤ k) (h1 : k < vs.length) (hfit : k < 2 ^ 63)
    (h : ∀ h', Fr h₀ L h' m → News h₀ L h' ((D, W.listOf (vs.set k.toNat v).toArray n) :: rest) → Q () { s with heap := h' }) :
    wpAny (model prog w) A (setItem (.ref D) (.int k t) v) Q E s := by
  have z := N (D, W.listOf vs.toArray n) (.head _)
  refine ki_setAt z.1 h0 hfit (by rw [List.size_toArray]; exact h1) (h _ (F.change (Heap.SameBut.update ..) z.2.1 z.2.2) (ki_turn (pre := []) _ N (fun p hp => nomatch hp) hr ?_ ?_))
  · show vs.toArray.setIfInBounds k.toNat v = (vs.set k.toNat v).toArray
    apply Array.toList_inj.mp
    simp
  · simp
end
theorem strs_set {vs : List Value} {ss : List Str} (h : StrsAre vs ss) (k : Nat) (x : Str) (t : Tok) : StrsAre (vs.set k (.str x t)) (ss.set k x) := by
  induction h generalizing k with
  | nil => exact .nil
  | cons y u _ ih => cases k with
    | zero => exact .cons x t ‹_›
    | succ k => exact .cons y u (ih k)
theorem sp_snoc (n : Nat) : sp n ++ Str.ofString " " = sp (n + 1) := by
  apply Str.ext'
  show (sp n).cps ++ (Str.ofString " ").cps = (sp (n + 1)).cps
  rw [show (Str.ofString " ").cps = #[32] from by decide +kernel]
  apply Array.toList_inj.mp
  simp [sp, List.replicate_succ']
theorem sp_empty (n : Nat) : (sp n == Str.ofString "") = decide (n = 0) := by
  rw [show Str.ofString "" = sp 0 from by decide +kernel]
  by_cases h : n = 0
  · subst h; simp
  · have : (sp n == sp 0) = false := by
      rw [beq_eq_false_iff_ne]
      intro e; exact h (sp_inj e)
    rw [this]; simp [h]
end Mine

/-! part SegE -/
namespace Mine
def iBody : List Stmt := bodyIn (stAt pBody 3)
def jBody : List Stmt := bodyIn (stAt iBody 0)
theorem getD_le (l : List Nat) (i : Nat) : l.getD i 0 ≤ l.sum := by
  induction l generalizing i with
  | nil => simp
  | cons a l ih => cases i with
    | zero => simp
    | succ i => have := ih i; simp only [List.getD_cons_succ, List.sum_cons]; omega
theorem set_sum (l : List Nat) (i a : Nat) : (l.set i a).sum ≤ l.sum + a := by
  induction l generalizing i with
  | nil => simp
  | cons b l ih => cases i with
    | zero => simp; omega
    | succ i => have := ih i; simp only [List.set_cons_succ, List.sum_cons]; omega
theorem join_M {prog : Program} {w : World} {A : Around} {E : Value → Shared → Prop} {s : Shared} {h₀ : Heap} {L l : Addr} {news : List (Addr × Obj)} {vs : List Value} {n : Nat} {t : Tok} {rs : List Nat} {b : Nat} {Q : Value → Shared → Prop}
    (N : News h₀ L s.heap news) (hm : (l, W.listOf vs.toArray n) ∈ news) (hS : StrsAre vs (rs.map sp ++ [sp b])) (hok : ((rs.map sp ++ [sp b]).map (·.length)).sum + (rs.map sp ++ [sp b]).length * (Str.ofString "\t").length ≤ 16777216)
    (h : ∀ t' tk, Q (.str (mkS rs b) t') { s with toks := tk }) : wpAny (model prog w) A (call (.builtin "str.join") [.str (Str.ofString "\t") t, .ref l]) Q E s := by
  refine join_K N hm hS hok ?_
  intro t' tk
  rw [txt_join]
  exact h t' tk
theorem IsWs.ref {own : List (Addr × Obj)} {v : Value} {c : List Int} {b : Nat} (h : IsWs own v c b) : ∃ r, v = .ref r := by
  obtain ⟨r, _, _, _, _, _, _, _, e, _⟩ := h
  exact ⟨r, e⟩
theorem like1 {P : Prop} {dP : Decidable P} {i j n ni nj : Nat} (h : P ↔ (i < n ∧ j < n ∧ ni = nj + 1)) (hi : (i : Int) < (n : Int)) (hj : (j : Int) < (n : Int)) : (@decide P dP != ((((sp ni).length : Nat) : Int) == (((sp nj).length : Nat) : Int) + 1)) = false := by
  rw [len_sp, len_sp]
  by_cases e : ni = nj + 1
  · have hP : P := h.mpr ⟨by omega, by omega, e⟩
    have q : ((ni : Int) == (nj : Int) + 1) = true := by rw [beq_iff_eq]; omega
    rw [q, decide_eq_true hP]; rfl
  · have hP : ¬ P := fun q => e (h.mp q).2.2
    have q : ((ni : Int) == (nj : Int) + 1) = false := by rw [beq_eq_false_iff_ne]; omega
    rw [q, decide_eq_false hP]; rfl
theorem like2 {P : Prop} {dP : Decidable P} {i j n ni nj : Nat} (h : P ↔ (i < n ∧ j < n ∧ ni = nj + 1)) (hj : ¬ (j : Int) < (n : Int)) : (@decide P dP != decide ((j : Int) < (n : Int))) = false := by
  have hP : ¬ P := fun q => hj (by have := (h.mp q).2.1; omega)
  rw [decide_eq_false hP, decide_eq_false hj]; rfl
theorem like3 {P : Prop} {dP : Decidable P} {i j n ni nj : Nat} (h : P ↔ (i < n ∧ j < n ∧ ni = nj + 1)) (hi : ¬ (i : Int) < (n : Int)) : (@decide P dP != decide ((i : Int) < (n : Int))) = false := by
  have hP : ¬ P := fun q => hi (by have := (h.mp q).1; omega)
  rw [decide_eq_false hP, decide_eq_false hi]; rfl
theorem keep3 {z a b c : Str} {v1 v2 v3 M : Option Value} (hz : z ∉ [a, b, c]) : (if z = c then v1 else if z = b then v2 else if z = a then v3 else M) = M := by
  rw [if_neg, if_neg, if_neg]
  · rintro rfl; exact hz (.head _)
  · rintro rfl; exact hz (.tail _ (.head _))
  · rintro rfl; exact hz (.tail _ (.tail _ (.head _)))
theorem keep1 {z a b c : Str} {v3 M : Option Value} (hz : z ∉ [a, b, c]) : (if z = a then v3 else M) = M := by
  rw [if_neg]
  rintro rfl; exact hz (.head _)
theorem len_nl : (Str.ofString "\n ").length = 2 := by decide +kernel
set_option maxRecDepth 100000
set_option maxHeartbeats 8000000
local macro_rules | `(tactic| k_all) => `(tactic| assumption)
local macro_rules | `(tactic| walk_at "call ref") => `(tactic| (refine Stop.intro ?_))
local macro_rules | `(tactic| walk_at "setItem ref int") => `(tactic| (refine Stop.intro ?_))
local macro_rules | `(tactic| walk_at "subscriptTail Name Slice ref ref") => `(tactic| (k_here; (with_reducible show wpAny _ _ (subscriptTail _ _ (Value.ref _) (Value.ref _)) _ _ _); k_dflt (refine' slice_K ?k1 ?k2 ?k3 ?k4 ?k5 ?k6 ?k7 ?k8 ?k9 ?_ ?kA; (case k1 => k_asm); (case k2 => k_asm); (case k3 => k_mem); (case k4 => kmk_part); (case k5 => kmk_part); (case k6 => kmk_part); (case k7 => decide); (case k8 => first | exact pick_init _ | exact pick_last _ | exact pick_rev _ | exact pick_all _); (case k9 => omega); (case kA => with_unfolding_all rfl)); intro D' h' F' N' l1; (try k_lt l1); (try k_sweep)))
local macro_rules | `(tactic| walk_at "subscriptTail Name Name ref int") => `(tactic| (k_here; (with_reducible show wpAny _ _ (subscriptTail _ _ (Value.ref _) (Value.int _ _)) _ _ _); k_dflt (refine' item_list ?k1 ?k2 ?k3 ?k4 ?k5 ?_ ?k6; (case k1 => k_asm); (case k2 => first | k_mem | assumption); (case k3 => omega); (case k4 => omega); (case k5 => assumption); (case k6 => with_unfolding_all rfl); k_whole)))
local macro_rules | `(tactic| walk_at "getMethod ref") => `(tactic| (k_here; k_dflt (refine' method_inst ?k1 ?k2 ?k3 ?k4 ?k5 ?k6 ?k7 ?_; (case k1 => k_asm); (case k2 => k_asm); (case k3 => exact InstAt.of_news (by k_asm) (by assumption) (by assumption)); (case k4 => k_is); (case k5 => k_is); (case k6 => k_is); (case k7 => assumption); k_whole)))
local macro_rules | `(tactic| walk_at "call builtin:str.join") => `(tactic| (k_here; k_dflt (refine' join_M ?k1 ?k2 ?k3 ?k4 ?_; (case k1 => k_asm); (case k2 => k_mem); (case k3 => assumption); (case k4 => assumption); k_whole); intro t' tk'))
local macro_rules | `(tactic| walk_at "subscriptTail Subscript Slice str ref") => `(tactic| (refine Stop.intro ?_))
local macro_rules | `(tactic| walk_at "subscriptTail Subscript") => `(tactic| (refine Stop.intro ?_))
theorem d_j {w : World} {mean : ExcName → Option Value} {mg mb : Str → Option Value} {h₀ : Heap} (G : Gr w mean mg mb h₀)
   {s : Shared} {L fa lL lK lG lT lB lP I : Addr} {cd : Value} {o : Obj} {m : Str → Option Value} {vL vK vG vT ys vP : List Value} {kL kK kG kT kP : Nat} {nw : List (Addr × Obj)} {fs : List Sh} {p i j : Nat} {u up ui um : Tok}
   (wd : Wd fs nw lL lK lG lT lB vL vK vG vT ys kL kK kG kT) (nm : Nm lL lK lG lT lB m) (hp : p < fs.length) (hS : StrsAre vP (fs[p].1.map sp ++ [sp fs[p].2])) (hi : i < fs[p].1.length + 1) (hj : j < fs[p].1.length + 1)
   (ep : m (Str.ofString "p") = some (.int (p : Int) up)) (ei : m (Str.ofString "i") = some (.int (i : Int) ui)) (em : m (Str.ofString "m") = some (.int (fs[p].1.length : Int) um)) (eP : m (Str.ofString "parts") = some (.ref lP))
   (F : Fr h₀ L s.heap (fun z => if z = Str.ofString "j" then some (.int (j : Int) u) else m z)) (N : News h₀ L s.heap ((I, o) :: (lP, W.listOf vP.toArray kP) :: nw)) (Q : Flow → Shared → Prop) 
   (hQ : ∀ h' tk m', (∀ z, z ∉ [Str.ofString "j", Str.ofString "more", Str.ofString "like"] → m' z = m z) → Fr h₀ L h' m' → News h₀ L h' ((I, o) :: (lP, W.listOf vP.toArray kP) :: nw) → Q .next { s with heap := h', toks := tk }) :
    wpAny (model PySem.Challenge.rw_dn0189_01.row.prog w) (lawA L fa cd) (execs jBody (lawEnv L fa cd)) Q (fun _ _ => False) s := by
  have G' := G
  obtain ⟨T, KX, K0⟩ := G
  w_top off
  revert KX; k_fill; intro KX
  rw [rv nm.G, rv ep, rv ei, rv em, rv eP] at F
  dsimp only at F
  have hfp : fs[p]? = some fs[p] := List.getElem?_eq_getElem hp
  have hl9 := wd.len
  have hok := wd.ok _ (List.getElem_mem hp)
  generalize hff : fs[p] = f at *
  obtain ⟨rs, b⟩ := f
  dsimp only at *
  have hvl : vP.length = rs.length + 1 := by rw [hS.length]; simp
  have hns : rs.map sp ++ [sp b] = (rs ++ [b]).map sp := by simp
  rw [hns] at hS
  obtain ⟨ti, hti⟩ := hS.at (j := i) (y := sp ((rs ++ [b]).getD i 0)) (by rw [List.getElem?_map, List.getElem?_eq_getElem (by simp; omega), List.getD_eq_getElem?_getD, List.getElem?_eq_getElem (by simp; omega)]; rfl)
  obtain ⟨tj, htj⟩ := hS.at (j := j) (y := sp ((rs ++ [b]).getD j 0)) (by rw [List.getElem?_map, List.getElem?_eq_getElem (by simp; omega), List.getD_eq_getElem?_getD, List.getElem?_eq_getElem (by simp; omega)]; rfl)
  generalize hni : (rs ++ [b]).getD i 0 = ni at *
  generalize hnj : (rs ++ [b]).getD j 0 = nj at *
  have hni10 : ni ≤ 10 := by
    have := getD_le (rs ++ [b]) i
    rw [hni] at this
    simp at this; omega
  have hnj10 : nj ≤ 10 := by
    have := getD_le (rs ++ [b]) j
    rw [hnj] at this
    simp at this; omega
  have hsub : ∀ x ∈ nw, x ∈ (I, o) :: (lP, W.listOf vP.toArray kP) :: nw := fun x hx => .tail _ (.tail _ hx)
  have mG := hsub _ wd.mG
  obtain ⟨vg, xg, wg⟩ := wd.ents.guy p _ hfp
  dsimp only at wg
  have hold : ∀ z, (if z = Str.ofString "guys" then some (Value.ref lG) else if z = Str.ofString "p" then some (Value.int (p : Int) up) else if z = Str.ofString "i" then some (Value.int (i : Int) ui) else if z = Str.ofString "m" then some (Value.int (rs.length : Int) um) else if z = Str.ofString "parts" then some (Value.ref lP) else m z) = m z := by
    intro z
    rw [ps eP, ps em, ps ei, ps ep, ps nm.G]
  conv => { arg 3; arg 1; whnf }
  k_steps
  · unfold Stop
    rename Fr _ _ _ _ => F1
    rename News _ _ _ _ => N1
    rename_i hij hne D _ ltD _
    have hni0 : 0 < ni := by
      rw [bne_iff_ne] at hne
      refine Nat.pos_of_ne_zero fun e => hne ?_
      rw [e]; decide +kernel
    have hij' : i ≠ j := fun e => hij (by rw [e])
    refine slice_strN_sn (s := ⟨_, _, _, _, _⟩) F1 N1 ?_ (by with_unfolding_all rfl) (by intro _; with_unfolding_all rfl) (by rw [len_sp, sizeLine_eq]; omega)
    intro h1 t1 tk1 F2 N2
    rw [slice_sp hni0]
    clear F1 N1
    k_steps
    unfold Stop
    have hr : ∀ x ∈ (I, o) :: (lP, W.listOf vP.toArray kP) :: nw, x.1 ≠ D := by
      intro x hx
      rcases List.mem_cons.mp hx with rfl | hx
      · exact Nat.ne_of_lt ltD.1
      rcases List.mem_cons.mp hx with rfl | hx
      · exact Nat.ne_of_lt ltD.2.1
      · exact Nat.ne_of_lt (lt_ofAll ltD.2.2 x hx)
    refine set_K F2 N2 hr (by omega) (by omega) (by omega) ?_
    intro h2 F3 N3
    clear F2 N2
    have htj1 : (vP.set (i : Int).toNat (Value.str (sp (ni - 1)) t1))[j]? = some (.str (sp nj) tj) := by
      rw [Int.toNat_natCast, List.getElem?_set_ne hij']; exact htj
    have hlen1 : (vP.set (i : Int).toNat (Value.str (sp (ni - 1)) t1)).length = rs.length + 1 := by rw [List.length_set]; exact hvl
    have hlj : (sp nj).length ≤ 10 := by rw [len_sp]; exact hnj10
    have hli : (sp ni).length ≤ 10 := by rw [len_sp]; exact hni10
    k_steps
    unfold Stop
    rw [sp_snoc]
    rename_i t2 _ _
    refine set_K F3 N3 hr (by omega) (by omega) (by omega) ?_
    intro h3 F4 N4
    clear F3 N3
    obtain ⟨rs', b', hmv, hiff⟩ := moved_iff (rs := rs) (b := b) hi hj hij' (by rw [hni]; exact hni0)
    have hS2 : StrsAre ((vP.set (i : Int).toNat (Value.str (sp (ni - 1)) t1)).set (j : Int).toNat (Value.str (sp (nj + 1)) t2)) (rs'.map sp ++ [sp b']) := by
      have e : rs'.map sp ++ [sp b'] = (((rs ++ [b]).map sp).set i (sp (ni - 1))).set j (sp (nj + 1)) := by
        have : rs'.map sp ++ [sp b'] = (rs' ++ [b']).map sp := by simp
        rw [this, ← hmv]
        unfold moved
        rw [hni, hnj, List.map_set, List.map_set]
      rw [e]
      exact strs_set (strs_set hS _ _ _) _ _ _
    have hsz2 : rs'.sum + b' ≤ 40 ∧ rs'.length = rs.length := by
      constructor
      · have e1 := congrArg List.sum hmv
        unfold moved at e1
        rw [hni, hnj] at e1
        have e2 := set_sum ((rs ++ [b]).set i (ni - 1)) j (nj + 1)
        have e3 := set_sum (rs ++ [b]) i (ni - 1)
        simp at e1 e3
        omega
      · have e1 := congrArg List.length hmv
        unfold moved at e1
        simp at e1
        omega
    have hjn : ((rs'.map sp ++ [sp b']).map (·.length)).sum + (rs'.map sp ++ [sp b']).length * (Str.ofString "\t").length ≤ 16777216 := by
      rw [List.map_append, List.sum_append, sum_sp, len_tab]
      simp [len_sp]; omega
    have hsub4 : ∀ x ∈ nw, x ∈ (D, W.listOf ((vP.set (i : Int).toNat (Value.str (sp (ni - 1)) t1)).set (j : Int).toNat (Value.str (sp (nj + 1)) t2)).toArray 0) :: (I, o) :: (lP, W.listOf vP.toArray kP) :: nw := fun x hx => .tail _ (.tail _ (.tail _ hx))
    have mG4 := hsub4 _ wd.mG
    have wg4 := wg.mono hsub4
    have wg4' := wg4
    obtain ⟨r, d, tu, tc, es, nn, vs, tb, rfl, m1, m2, m3, m4, i1, g1, g2⟩ := wg4
    clear mG
    have hmkl : (mkS rs' b').length ≤ 60 := by rw [mk_len]; omega
    rw [hni, hnj] at hiff
    k_steps
    all_goals unfold Stop
    all_goals rename Fr _ _ _ _ => F5
    all_goals rename News _ _ _ _ => N5
    all_goals refine ws_call G' F5 N5 (by rw [Str.length_append, len_nl]; omega) ?_
    all_goals intro v1 own1 h4 tk4 hW1 F6 N6 hlt1
    all_goals rw [(scanOf_mk rs' b' _ ends_nl).1, (scanOf_mk rs' b' _ ends_nl).2] at hW1
    all_goals replace N6 := news_app N6
    all_goals simp only [List.cons_append] at N6
    all_goals clear F5 N5 hlt1
    all_goals obtain ⟨rW, hrW⟩ := hW1.ref
    all_goals subst hrW
    all_goals k_steps
    all_goals unfold Stop
    all_goals refine eq_call G' F6 N6 (wg.mono fun x hx => .tail _ (.tail _ (.tail _ (List.mem_append_left _ hx)))) (hW1.mono fun x hx => .tail _ (.tail _ (.tail _ (List.mem_append_right _ hx)))) ?_
    all_goals intro h5 tk5 F7 N7
    all_goals clear F6 N6
    all_goals dsimp only
    all_goals k_steps
    · rename_i hx1
      exact absurd ((like1 hiff (by assumption) (by assumption)).symm.trans hx1) (by decide)
    · refine hQ _ _ _ (fun z hz => ?_) F7 (fun x hx => N7 x ?_)
      · rw [keep3 hz]; exact hold z
      · simp only [List.mem_cons] at hx ⊢
        rcases hx with h | h | h
        · exact .inr (.inl h)
        · exact .inr (.inr (.inl h))
        · exact .inr (.inr (.inr (List.mem_append_left _ h)))
    · rename_i hx1
      exact absurd ((like2 hiff (by assumption)).symm.trans hx1) (by decide)
    · refine hQ _ _ _ (fun z hz => ?_) F7 (fun x hx => N7 x ?_)
      · rw [keep3 hz]; exact hold z
      · simp only [List.mem_cons] at hx ⊢
        rcases hx with h | h | h
        · exact .inr (.inl h)
        · exact .inr (.inr (.inl h))
        · exact .inr (.inr (.inr (List.mem_append_left _ h)))
    · rename_i hx1
      exact absurd ((like3 hiff (by assumption)).symm.trans hx1) (by decide)
    · refine hQ _ _ _ (fun z hz => ?_) F7 (fun x hx => N7 x ?_)
      · rw [keep3 hz]; exact hold z
      · simp only [List.mem_cons] at hx ⊢
        rcases hx with h | h | h
        · exact .inr (.inl h)
        · exact .inr (.inr (.inl h))
        · exact .inr (.inr (.inr (List.mem_append_left _ h)))
  · refine hQ s.heap _ _ (fun z hz => ?_) F N
    rw [keep1 hz]; exact hold z
  · refine hQ s.heap s.toks _ (fun z hz => ?_) F N
    rw [keep1 hz]; exact hold z
end Mine

/-! part SegF -/
namespace Mine
theorem Wd.mono {fs : List Sh} {nw nw' : List (Addr × Obj)} {lL lK lG lT lB : Addr} {vL vK vG vT ys : List Value} {kL kK kG kT : Nat} (hs : ∀ p ∈ nw, p ∈ nw') (wd : Wd fs nw lL lK lG lT lB vL vK vG vT ys kL kK kG kT) : Wd fs nw' lL lK lG lT lB vL vK vG vT ys kL kK kG kT where
  mL := hs _ wd.mL
  mK := hs _ wd.mK
  mG := hs _ wd.mG
  mT := hs _ wd.mT
  mB := hs _ wd.mB
  sL := wd.sL
  ents := ⟨wd.ents.lK, wd.ents.lG, wd.ents.lT, fun j f h => let ⟨v, a, b⟩ := wd.ents.key j f h; ⟨v, a, b.mono hs⟩, fun j f h => let ⟨v, a, b⟩ := wd.ents.guy j f h; ⟨v, a, b.mono hs⟩, fun j f h => let ⟨v, a, b⟩ := wd.ents.tur j f h; ⟨v, a, b.mono hs⟩⟩
  tabs := ⟨wd.tabs.len, fun j f h => let ⟨v, a, b⟩ := wd.tabs.tab j f h; ⟨v, a, b.mono hs⟩⟩
  ok := wd.ok
  len := wd.len
set_option maxRecDepth 100000
set_option maxHeartbeats 8000000
local macro_rules | `(tactic| k_all) => `(tactic| assumption)
local macro_rules | `(tactic| walk_at "pyIter ref") => `(tactic| (refine Stop.intro ?_))
theorem d_jfor {w : World} {mean : ExcName → Option Value} {mg mb : Str → Option Value} {h₀ : Heap} (G : Gr w mean mg mb h₀)
   {s : Shared} {L fa lL lK lG lT lB lP : Addr} {cd : Value} {m : Str → Option Value} {vL vK vG vT ys vP : List Value} {kL kK kG kT kP : Nat} {nw : List (Addr × Obj)} {fs : List Sh} {p i : Nat} {up ui um : Tok}
   (wd : Wd fs nw lL lK lG lT lB vL vK vG vT ys kL kK kG kT) (nm : Nm lL lK lG lT lB m) (hp : p < fs.length) (hS : StrsAre vP (fs[p].1.map sp ++ [sp fs[p].2])) (hi : i < fs[p].1.length + 1)
   (ep : m (Str.ofString "p") = some (.int (p : Int) up)) (ei : m (Str.ofString "i") = some (.int (i : Int) ui)) (em : m (Str.ofString "m") = some (.int (fs[p].1.length : Int) um)) (eP : m (Str.ofString "parts") = some (.ref lP))
   (F : Fr h₀ L s.heap m) (N : News h₀ L s.heap ((lP, W.listOf vP.toArray kP) :: nw)) :
    wpAny (model PySem.Challenge.rw_dn0189_01.row.prog w) (lawA L fa cd) (exec (stAt iBody 0) (lawEnv L fa cd))
      (fun f s' => Stop (f = .next ∧ ∃ h' tk m', s' = { s with heap := h', toks := tk } ∧ Fr h₀ L h' m' ∧ News h₀ L h' ((lP, W.listOf vP.toArray kP) :: nw) ∧ ∀ z, z ∉ [Str.ofString "j", Str.ofString "more", Str.ofString "like"] → m' z = m z))
      (fun _ _ => False) s := by
  have G' := G
  obtain ⟨T, KX, K0⟩ := G
  w_top off
  revert KX; k_fill; intro KX
  have hok := wd.ok _ (List.getElem_mem hp)
  rw [rv em] at F
  conv => { arg 3; arg 1; whnf }
  refine For_invV h₀ (by rfl) (by rfl) ?_ (by intro _; rfl) PassesOwn.never
  k_steps
  unfold Stop
  rename IsRange _ _ _ _ _ _ _ _ => hr
  rename Fr _ _ _ _ => F1
  rename News _ _ _ _ => N1
  refine iter_rangeJ (n := fs[p].1.length + 1) (KeepBut [Str.ofString "j", Str.ofString "more", Str.ofString "like"] ((lP, W.listOf vP.toArray kP) :: nw) m) (by rfl) hr (small_one (by decide) (by decide) (by omega) (by omega)) (by rw [rangeSize_nat]; omega) F1 N1 ⟨rfl, fun z _ => ps em⟩ ?_ ?_
  · rintro j t m₁ nx h tk I o hj ⟨rfl, hm⟩ hI F₁ N₁
    rw [Int.zero_add] at F₁
    refine d_j (s := { s with heap := h, toks := tk }) G' wd (nm.keep hm) hp hS hi hj ((hm _ (by decide)).trans ep) ((hm _ (by decide)).trans ei) ((hm _ (by decide)).trans em) ((hm _ (by decide)).trans eP) F₁ N₁ _ ?_
    intro h' tk' m' hm' F' N'
    exact TurnOut.mk F' N' hI ⟨rfl, fun z hz => (hm' z hz).trans (hm z hz)⟩
  · rintro m₁ nx h tk ⟨rfl, hm⟩ F₁ N₁
    exact ⟨rfl, h, tk, m₁, rfl, F₁, N₁, hm⟩

local macro_rules | `(tactic| walk_at "exec For Name Call cons nil") => `(tactic| (refine Stop.intro ?_))
theorem d_i {w : World} {mean : ExcName → Option Value} {mg mb : Str → Option Value} {h₀ : Heap} (G : Gr w mean mg mb h₀)
   {s : Shared} {L fa lL lK lG lT lB lP I : Addr} {cd : Value} {o : Obj} {m : Str → Option Value} {vL vK vG vT ys vP : List Value} {kL kK kG kT kP : Nat} {nw : List (Addr × Obj)} {fs : List Sh} {p i : Nat} {up ui um : Tok}
   (wd : Wd fs nw lL lK lG lT lB vL vK vG vT ys kL kK kG kT) (nm : Nm lL lK lG lT lB m) (hp : p < fs.length) (hS : StrsAre vP (fs[p].1.map sp ++ [sp fs[p].2])) (hi : i < fs[p].1.length + 1)
   (ep : m (Str.ofString "p") = some (.int (p : Int) up)) (em : m (Str.ofString "m") = some (.int (fs[p].1.length : Int) um)) (eP : m (Str.ofString "parts") = some (.ref lP))
   (F : Fr h₀ L s.heap (fun z => if z = Str.ofString "i" then some (.int (i : Int) ui) else m z)) (N : News h₀ L s.heap ((I, o) :: (lP, W.listOf vP.toArray kP) :: nw)) (Q : Flow → Shared → Prop)
   (hQ : ∀ h' tk m', (∀ z, z ∉ [Str.ofString "i", Str.ofString "j", Str.ofString "more", Str.ofString "like"] → m' z = m z) → Fr h₀ L h' m' → News h₀ L h' ((I, o) :: (lP, W.listOf vP.toArray kP) :: nw) → Q .next { s with heap := h', toks := tk }) :
    wpAny (model PySem.Challenge.rw_dn0189_01.row.prog w) (lawA L fa cd) (execs iBody (lawEnv L fa cd)) Q (fun _ _ => False) s := by
  have G' := G
  obtain ⟨T, KX, K0⟩ := G
  w_top off
  revert KX; k_fill; intro KX
  conv => { arg 3; arg 1; whnf }
  k_steps
  unfold Stop
  have wd' := wd.mono (nw' := (I, o) :: nw) fun x hx => .tail _ hx
  refine wpAny_mono (d_jfor (m := fun z => if z = Str.ofString "i" then some (.int (i : Int) ui) else m z) (kP := kP) (vP := vP) G' wd' ⟨nm.L, nm.K, nm.G, nm.T, nm.B⟩ hp hS hi ep rfl em eP F (fun x hx => N x ?_)) ?_ (fun _ _ h => h.elim)
  · simp only [List.mem_cons] at hx ⊢
    rcases hx with h | h | h
    · exact .inr (.inl h)
    · exact .inl h
    · exact .inr (.inr h)
  rintro f s' ⟨rfl, h', tk', m', rfl, F2, N2, hm⟩
  dsimp only
  k_steps
  refine hQ _ _ _ (fun z hz => ?_) F2 (fun x hx => N2 x ?_)
  · refine (hm z fun h => hz (.tail _ h)).trans ?_
    exact if_neg fun e : z = Str.ofString "i" => hz (by rw [e]; exact .head _)
  · simp only [List.mem_cons] at hx ⊢
    rcases hx with h | h | h
    · exact .inr (.inl h)
    · exact .inl h
    · exact .inr (.inr h)

theorem d_ifor {w : World} {mean : ExcName → Option Value} {mg mb : Str → Option Value} {h₀ : Heap} (G : Gr w mean mg mb h₀)
   {s : Shared} {L fa lL lK lG lT lB lP : Addr} {cd : Value} {m : Str → Option Value} {vL vK vG vT ys vP : List Value} {kL kK kG kT kP : Nat} {nw : List (Addr × Obj)} {fs : List Sh} {p : Nat} {up um : Tok}
   (wd : Wd fs nw lL lK lG lT lB vL vK vG vT ys kL kK kG kT) (nm : Nm lL lK lG lT lB m) (hp : p < fs.length) (hS : StrsAre vP (fs[p].1.map sp ++ [sp fs[p].2]))
   (ep : m (Str.ofString "p") = some (.int (p : Int) up)) (em : m (Str.ofString "m") = some (.int (fs[p].1.length : Int) um)) (eP : m (Str.ofString "parts") = some (.ref lP))
   (F : Fr h₀ L s.heap m) (N : News h₀ L s.heap ((lP, W.listOf vP.toArray kP) :: nw)) :
    wpAny (model PySem.Challenge.rw_dn0189_01.row.prog w) (lawA L fa cd) (exec (stAt pBody 3) (lawEnv L fa cd))
      (fun f s' => Stop (f = .next ∧ ∃ h' tk m', s' = { s with heap := h', toks := tk } ∧ Fr h₀ L h' m' ∧ News h₀ L h' ((lP, W.listOf vP.toArray kP) :: nw) ∧ ∀ z, z ∉ [Str.ofString "i", Str.ofString "j", Str.ofString "more", Str.ofString "like"] → m' z = m z))
      (fun _ _ => False) s := by
  have G' := G
  obtain ⟨T, KX, K0⟩ := G
  w_top off
  revert KX; k_fill; intro KX
  have hok := wd.ok _ (List.getElem_mem hp)
  rw [rv em] at F
  conv => { arg 3; arg 1; whnf }
  refine For_invV h₀ (by rfl) (by rfl) ?_ (by intro _; rfl) PassesOwn.never
  k_steps
  unfold Stop
  rename IsRange _ _ _ _ _ _ _ _ => hr
  rename Fr _ _ _ _ => F1
  rename News _ _ _ _ => N1
  refine iter_rangeJ (n := fs[p].1.length + 1) (KeepBut [Str.ofString "i", Str.ofString "j", Str.ofString "more", Str.ofString "like"] ((lP, W.listOf vP.toArray kP) :: nw) m) (by rfl) hr (small_one (by decide) (by decide) (by omega) (by omega)) (by rw [rangeSize_nat]; omega) F1 N1 ⟨rfl, fun z _ => ps em⟩ ?_ ?_
  · rintro i t m₁ nx h tk I o hi ⟨rfl, hm⟩ hI F₁ N₁
    rw [Int.zero_add] at F₁
    refine d_i (s := { s with heap := h, toks := tk }) G' wd (nm.keep hm) hp hS hi ((hm _ (by decide)).trans ep) ((hm _ (by decide)).trans em) ((hm _ (by decide)).trans eP) F₁ N₁ _ ?_
    intro h' tk' m' hm' F' N'
    exact TurnOut.mk F' N' hI ⟨rfl, fun z hz => (hm' z hz).trans (hm z hz)⟩
  · rintro m₁ nx h tk ⟨rfl, hm⟩ F₁ N₁
    exact ⟨rfl, h, tk, m₁, rfl, F₁, N₁, hm⟩
end Mine

/-! part SegG -/
namespace Mine
set_option maxRecDepth 100000
set_option maxHeartbeats 8000000
local macro_rules | `(tactic| k_all) => `(tactic| assumption)
local macro_rules | `(tactic| walk_at "pyIter ref") => `(tactic| (refine Stop.intro ?_))
local macro_rules | `(tactic| walk_at "exec For Name Call cons nil") => `(tactic| (refine Stop.intro ?_))
local macro_rules | `(tactic| walk_at "call builtin:str.split") => `(tactic| (refine Stop.intro ?_))
local macro_rules | `(tactic| walk_at "subscriptTail Name Name ref int") => `(tactic| (k_here; (with_reducible show wpAny _ _ (subscriptTail _ _ (Value.ref _) (Value.int _ _)) _ _ _); k_dflt (refine' item_list ?k1 ?k2 ?k3 ?k4 ?k5 ?_ ?k6; (case k1 => k_asm); (case k2 => assumption); (case k3 => omega); (case k4 => omega); (case k5 => assumption); (case k6 => with_unfolding_all rfl); k_whole)))
def pNames : List Str := [Str.ofString "p", Str.ofString "q", Str.ofString "parts", Str.ofString "m", Str.ofString "i", Str.ofString "j", Str.ofString "more", Str.ofString "like"]
theorem d_iforF {w : World} {mean : ExcName → Option Value} {mg mb : Str → Option Value} {h₀ : Heap}
   {s : Shared} {L fa lL lK lG lT lB lP : Addr} {cd : Value} {m : Str → Option Value} {vL vK vG vT ys vP : List Value} {kL kK kG kT kP : Nat} {nw : List (Addr × Obj)} {fs : List Sh} {p : Nat} {up um : Tok}
   (F : Fr h₀ L s.heap m) (N : News h₀ L s.heap ((lP, W.listOf vP.toArray kP) :: nw)) (G : Gr w mean mg mb h₀)
   (wd : Wd fs nw lL lK lG lT lB vL vK vG vT ys kL kK kG kT) (nm : Nm lL lK lG lT lB m) (hp : p < fs.length) (hS : StrsAre vP (fs[p].1.map sp ++ [sp fs[p].2]))
   (ep : m (Str.ofString "p") = some (.int (p : Int) up)) (em : m (Str.ofString "m") = some (.int (fs[p].1.length : Int) um)) (eP : m (Str.ofString "parts") = some (.ref lP)) :
    wpAny (model PySem.Challenge.rw_dn0189_01.row.prog w) (lawA L fa cd) (exec (stAt pBody 3) (lawEnv L fa cd))
      (fun f s' => Stop (f = .next ∧ ∃ h' tk m', s' = { s with heap := h', toks := tk } ∧ Fr h₀ L h' m' ∧ News h₀ L h' ((lP, W.listOf vP.toArray kP) :: nw) ∧ ∀ z, z ∉ [Str.ofString "i", Str.ofString "j", Str.ofString "more", Str.ofString "like"] → m' z = m z))
      (fun _ _ => False) s := d_ifor G wd nm hp hS ep em eP F N
theorem mem_sub {xs ys : List Str} {z : Str} (h : (xs.all fun x => ys.contains x) = true) (hz : z ∈ xs) : z ∈ ys := by
  have := List.all_eq_true.mp h z hz
  simpa using this
theorem d_p {w : World} {mean : ExcName → Option Value} {mg mb : Str → Option Value} {h₀ : Heap} (G : Gr w mean mg mb h₀)
   {s : Shared} {L fa lL lK lG lT lB I : Addr} {cd : Value} {o : Obj} {m : Str → Option Value} {vL vK vG vT ys : List Value} {kL kK kG kT : Nat} {nw : List (Addr × Obj)} {fs : List Sh} {p : Nat} {up : Tok}
   (wd : Wd fs nw lL lK lG lT lB vL vK vG vT ys kL kK kG kT) (nm : Nm lL lK lG lT lB m) (hp : p < fs.length)
   (F : Fr h₀ L s.heap (fun z => if z = Str.ofString "p" then some (.int (p : Int) up) else m z)) (N : News h₀ L s.heap ((I, o) :: nw)) (Q : Flow → Shared → Prop)
   (hQ : ∀ h' tk m', (∀ z, z ∉ pNames → m' z = m z) → Fr h₀ L h' m' → News h₀ L h' ((I, o) :: nw) → Q .next { s with heap := h', toks := tk }) :
    wpAny (model PySem.Challenge.rw_dn0189_01.row.prog w) (lawA L fa cd) (execs pBody (lawEnv L fa cd)) Q (fun _ _ => False) s := by
  have G' := G
  obtain ⟨T, KX, K0⟩ := G
  w_top off
  revert KX; k_fill; intro KX
  have hok := wd.ok _ (List.getElem_mem hp)
  have hfp : fs[p]? = some fs[p] := List.getElem?_eq_getElem hp
  have hl9 := wd.len
  have wd' := wd.mono (nw' := (I, o) :: nw) fun x hx => .tail _ hx
  conv => { arg 3; arg 1; whnf }
  k_steps
  unfold Stop
  refine wpAny_mono (d_qfor (m := fun z => if z = Str.ofString "p" then some (.int (p : Int) up) else m z) G' wd' ⟨nm.L, nm.K, nm.G, nm.T, nm.B⟩ hp rfl F N) ?_ (fun _ _ h => h.elim)
  rintro f s' ⟨rfl, h1, tk1, m1, rfl, F1, N1, hm1⟩
  clear F N
  have ep1 : m1 (Str.ofString "p") = some (.int (p : Int) up) := hm1 _ (by decide)
  have eL1 : m1 (Str.ofString "leads") = some (.ref lL) := (hm1 _ (by decide)).trans nm.L
  have F1' := F1
  rw [rv ep1, rv eL1] at F1
  dsimp only at F1
  clear F1'
  have mL := wd'.mL
  obtain ⟨tx, htx⟩ := wd.sL.at (j := p) (y := mkF fs[p]) (by rw [List.getElem?_map, hfp]; rfl)
  dsimp only
  k_steps
  unfold Stop
  rename Fr _ _ _ _ => F2
  rename News _ _ _ _ => N2
  have hxl : (mkF fs[p]).length ≤ 10 := by
    show (mkS fs[p].1 fs[p].2).length ≤ 10
    rw [mk_len]; exact hok
  refine split_K F2 N2 (by decide +kernel) (by omega) ?_
  intro lP vP h2 tk2 F3 N3 ltP hS
  clear F2 N2
  rw [show mkF fs[p] = mkS fs[p].1 fs[p].2 from rfl, split_txt] at hS
  have hvl : vP.toArray.size = fs[p].1.length + 1 := by rw [List.size_toArray, hS.length]; simp
  k_steps
  unfold Stop
  rename Fr _ _ _ _ => F4
  rename News _ _ _ _ => N4
  have em : ((fs[p].1.length + 1 : Nat) : Int) - 1 = (fs[p].1.length : Int) := by omega
  rw [em] at F4
  refine wpAny_mono (d_iforF F4 N4 G' wd' ⟨rfl, (hm1 _ (by decide)).trans nm.K, (hm1 _ (by decide)).trans nm.G, (hm1 _ (by decide)).trans nm.T, (hm1 _ (by decide)).trans nm.B⟩ hp hS rfl rfl rfl) ?_ (fun _ _ h => h.elim)
  rintro f s' ⟨rfl, h5, tk5, m5, rfl, F5, N5, hm5⟩
  dsimp only
  k_steps
  refine hQ _ _ _ (fun z hz => ?_) F5 (fun x hx => N5 x (.tail _ hx))
  refine (hm5 z fun h => hz (mem_sub (by decide) h)).trans ?_
  have z1 : z ≠ Str.ofString "m" := fun e => hz (by rw [e]; decide)
  have z2 : z ≠ Str.ofString "parts" := fun e => hz (by rw [e]; decide)
  have z3 : z ≠ Str.ofString "q" := fun e => hz (by rw [e]; decide)
  have z4 : z ≠ Str.ofString "p" := fun e => hz (by rw [e]; decide)
  have e1 := hm1 z (by simpa using z3)
  rw [if_neg z1, if_neg z2, if_neg z4, ps eL1, e1, if_neg z4]

theorem d_pfor {w : World} {mean : ExcName → Option Value} {mg mb : Str → Option Value} {h₀ : Heap} (G : Gr w mean mg mb h₀)
   {s : Shared} {L fa lL lK lG lT lB : Addr} {cd : Value} {m : Str → Option Value} {vL vK vG vT ys : List Value} {kL kK kG kT : Nat} {nw : List (Addr × Obj)} {fs : List Sh}
   (wd : Wd fs nw lL lK lG lT lB vL vK vG vT ys kL kK kG kT) (nm : Nm lL lK lG lT lB m)
   (F : Fr h₀ L s.heap m) (N : News h₀ L s.heap nw) :
    wpAny (model PySem.Challenge.rw_dn0189_01.row.prog w) (lawA L fa cd) (exec (stAt lawBody 7) (lawEnv L fa cd))
      (fun f s' => Stop (f = .next ∧ ∃ h' tk m', s' = { s with heap := h', toks := tk } ∧ Fr h₀ L h' m'))
      (fun _ _ => False) s := by
  have G' := G
  obtain ⟨T, KX, K0⟩ := G
  w_top off
  revert KX; k_fill; intro KX
  have hvl : vL.toArray.size = fs.length := by rw [List.size_toArray, wd.sL.length]; simp
  have hl9 := wd.len
  rw [rv nm.L] at F
  replace N : News h₀ L s.heap ((lL, W.listOf vL.toArray kL) :: nw) := by
    intro x hx
    rcases List.mem_cons.mp hx with rfl | hx
    · exact N _ wd.mL
    · exact N _ hx
  conv => { arg 3; arg 1; whnf }
  refine For_invV h₀ (by rfl) (by rfl) ?_ (by intro _; rfl) PassesOwn.never
  k_steps
  unfold Stop
  rename IsRange _ _ _ _ _ _ _ _ => hr
  rename Fr _ _ _ _ => F1
  rename News _ _ _ _ => N1
  refine iter_rangeJ (n := fs.length) (KeepBut pNames nw m) (by rfl) hr (small_one (by decide) (by decide) (by omega) (by omega)) (by rw [rangeSize_nat]; omega) F1 (fun x hx => N1 x (.tail _ hx)) ⟨rfl, fun z _ => ps nm.L⟩ ?_ ?_
  · rintro i t m₁ nx h tk I o hi ⟨rfl, hm⟩ hI F₁ N₁
    rw [Int.zero_add] at F₁
    refine d_p (s := { s with heap := h, toks := tk }) G' wd (nm.keep hm) hi F₁ N₁ _ ?_
    intro h' tk' m' hm' F' N'
    exact TurnOut.mk F' N' hI ⟨rfl, fun z hz => (hm' z hz).trans (hm z hz)⟩
  · rintro m₁ nx h tk ⟨rfl, hm⟩ F₁ N₁
    exact ⟨rfl, h, tk, m₁, rfl, F₁⟩
end Mine

/-! part LawW -/
namespace Mine
theorem good0 : Good (Str.ofString "") := ⟨by decide +kernel, blank_nil⟩
theorem good1 : Good (Str.ofString "\t ") := by
  rw [show Str.ofString "\t " = ⟨#[9, 32]⟩ from by decide +kernel]
  refine ⟨by decide, ?_⟩
  intro c hc
  simp at hc
  omega
theorem good2 : Good (Str.ofString "\t \t \t \t  \t") := by
  rw [show Str.ofString "\t \t \t \t  \t" = ⟨#[9, 32, 9, 32, 9, 32, 9, 32, 32, 9]⟩ from by decide +kernel]
  refine ⟨by decide, ?_⟩
  intro c hc
  simp at hc
  omega
set_option maxRecDepth 100000
set_option maxHeartbeats 8000000
local macro_rules | `(tactic| k_all) => `(tactic| assumption)
local macro_rules | `(tactic| walk_at "exec For") => `(tactic| (refine Stop.intro ?_))
local macro_rules | `(tactic| walk_at "exec For Name Call cons nil") => `(tactic| (refine Stop.intro ?_))
local macro_rules | `(tactic| walk_at "exec For Name Name cons nil") => `(tactic| (refine Stop.intro ?_))
local macro_rules | `(tactic| walk_at "exec For Name Subscript cons nil") => `(tactic| (refine Stop.intro ?_))
local macro_rules | `(tactic| walk_at "exec Assign cons ListComp") => `(tactic| (refine Stop.intro ?_))
theorem b_forF {w : World} {mean : ExcName → Option Value} {mg mb : Str → Option Value} {h₀ : Heap}
   {s : Shared} {L fa lK lG lT lL : Addr} {cd : Value} {m : Str → Option Value} {vL : List Value} {kL k1 k2 k3 : Nat} {fs : List Sh}
   (F : Fr h₀ L s.heap m) (N : News h₀ L s.heap [(lK, W.listOf #[] k1), (lG, W.listOf #[] k2), (lT, W.listOf #[] k3), (lL, W.listOf vL.toArray kL)]) (G : Gr w mean mg mb h₀)
   (hS : StrsAre vL (fs.map mkF)) (hf : FOk fs) (hlen : fs.length ≤ 9) (d1 : lL < lK) (d2 : lK < lG) (d3 : lG < lT)
   (e1 : m (Str.ofString "keys") = some (.ref lK)) (e2 : m (Str.ofString "guys") = some (.ref lG)) (e3 : m (Str.ofString "turned") = some (.ref lT)) (e4 : m (Str.ofString "leads") = some (.ref lL)) :
    wpAny (model PySem.Challenge.rw_dn0189_01.row.prog w) (lawA L fa cd) (exec (stAt lawBody 5) (lawEnv L fa cd))
      (fun f s' => Stop (f = .next ∧ ∃ h' tk m' nx, s' = { s with heap := h', toks := tk } ∧ Fr h₀ L h' m' ∧ News h₀ L h' nx ∧ BJ fs lK lG lT lL (W.listOf vL.toArray kL) fs.length m' nx))
      (fun _ _ => False) s := b_for G hS hf hlen d1 d2 d3 e1 e2 e3 e4 F N
theorem d_pforF {w : World} {mean : ExcName → Option Value} {mg mb : Str → Option Value} {h₀ : Heap}
   {s : Shared} {L fa lL lK lG lT lB : Addr} {cd : Value} {m : Str → Option Value} {vL vK vG vT ys : List Value} {kL kK kG kT : Nat} {nw : List (Addr × Obj)} {fs : List Sh}
   (F : Fr h₀ L s.heap m) (N : News h₀ L s.heap nw) (G : Gr w mean mg mb h₀)
   (wd : Wd fs nw lL lK lG lT lB vL vK vG vT ys kL kK kG kT) (nm : Nm lL lK lG lT lB m) :
    wpAny (model PySem.Challenge.rw_dn0189_01.row.prog w) (lawA L fa cd) (exec (stAt lawBody 7) (lawEnv L fa cd))
      (fun f s' => Stop (f = .next ∧ ∃ h' tk m', s' = { s with heap := h', toks := tk } ∧ Fr h₀ L h' m'))
      (fun _ _ => False) s := d_pfor G wd nm F N
theorem law_walk {w : World} {mean : ExcName → Option Value} {mg mb : Str → Option Value} {h₀ : Heap} (G : Gr w mean mg mb h₀)
   {s : Shared} {L fa ls : Addr} {cd : Value} {m : Str → Option Value} {xs : List Value} {ns : List Int}
   (hL : h₀.IsList ls xs.toArray) (hi : IntsAre xs ns) (hn : ¬ ((63 : Nat) : Int) < (ns.length : Int)) (e : m (Str.ofString "script") = some (.ref ls))
   (F : Fr h₀ L s.heap m) (N : News h₀ L s.heap []) :
    wpAny (model PySem.Challenge.rw_dn0189_01.row.prog w) (lawA L fa cd) (execs lawBody (lawEnv L fa cd))
      (fun f s' => Stop (f = .ret (.bool true) ∧ ∃ h' tk m', s' = { s with heap := h', toks := tk } ∧ Fr h₀ L h' m'))
      (fun _ _ => False) s := by
  have G' := G
  obtain ⟨T, KX, K0⟩ := G
  w_top off
  revert KX; k_fill; intro KX
  rw [rv e] at F
  conv => { arg 3; arg 1; whnf }
  k_steps
  change wpAny _ _ _ _ _ _
  rename Fr _ _ _ _ => F1
  rename News _ _ _ _ => N1
  have hvs0 : ∀ t0 t1 t2, StrsAre [.str (Str.ofString "") t0, .str (Str.ofString "\t ") t1, .str (Str.ofString "\t \t \t \t  \t") t2] [Str.ofString "", Str.ofString "\t ", Str.ofString "\t \t \t \t  \t"] := fun _ _ _ => .cons _ _ (.cons _ _ (.cons _ _ .nil))
  refine wpAny_mono (a_for G' (by rfl) hL hi hn (hvs0 _ _ _) ?_ rfl rfl rfl F1 N1) ?_ (fun _ _ h => h.elim)
  · intro x hx
    simp only [List.mem_cons, List.not_mem_nil, or_false] at hx
    rcases hx with rfl | rfl | rfl
    · exact good0
    · exact good1
    · exact good2
  rintro f s' ⟨rfl, h2, tk2, m2, kL, vL, leads, rfl, F2, N2, hS, hg, hlen, e2⟩
  obtain ⟨fs, rfl, hok⟩ := leads_form leads hg
  rw [List.length_map] at hlen
  clear F1 N1
  rw [rv e2] at F2
  dsimp only
  k_steps
  change wpAny _ _ _ _ _ _
  rename Fr _ _ _ _ => F3
  rename News _ _ _ _ => N3
  rename_i lK _ c1 _ _ lG _ c2 _ lT _ c3 _
  refine wpAny_mono (b_forF (kL := kL) (k1 := 0) (k2 := 0) (k3 := 0) F3 (fun x hx => N3 x ?_) G' hS hok hlen c1 c2.1 c3.1 rfl rfl rfl rfl) ?_ (fun _ _ h => h.elim)
  · simp only [List.mem_cons, List.not_mem_nil, or_false] at hx ⊢
    rcases hx with h | h | h | h
    · exact .inr (.inr (.inl h))
    · exact .inr (.inl h)
    · exact .inl h
    · exact .inr (.inr (.inr h))
  rintro f s' ⟨rfl, h4, tk4, m4, nx, rfl, F4, N4, ⟨own, vK, vG, vT, k1, k2, k3, rfl, E, _, _, _, _, g1, g2, g3, g4⟩⟩
  rw [List.take_length] at E
  clear F3 N3
  dsimp only
  k_steps
  change wpAny _ _ _ _ _ _
  refine wpAny_mono (c_assign G' hS hlen (.tail _ (.tail _ (.tail _ (.head _)))) g4 F4 N4) ?_ (fun _ _ h => h.elim)
  rintro f s' ⟨rfl, h5, tk5, nw, lB, ys, rfl, F5, N5, hsub, mB, tabs⟩
  clear F4 N4
  have wd : Wd fs nw _ lK lG lT lB vL vK vG vT ys kL k1 k2 k3 := {
    mL := hsub _ (.tail _ (.tail _ (.tail _ (.head _))))
    mK := hsub _ (.head _)
    mG := hsub _ (.tail _ (.head _))
    mT := hsub _ (.tail _ (.tail _ (.head _)))
    mB := mB
    sL := hS
    ents := ⟨E.lK, E.lG, E.lT, fun j f h => let ⟨v, a, b⟩ := E.key j f h; ⟨v, a, b.mono fun p hp => hsub p (.tail _ (.tail _ (.tail _ (.tail _ hp))))⟩, fun j f h => let ⟨v, a, b⟩ := E.guy j f h; ⟨v, a, b.mono fun p hp => hsub p (.tail _ (.tail _ (.tail _ (.tail _ hp))))⟩, fun j f h => let ⟨v, a, b⟩ := E.tur j f h; ⟨v, a, b.mono fun p hp => hsub p (.tail _ (.tail _ (.tail _ (.tail _ hp))))⟩⟩
    tabs := tabs
    ok := hok
    len := hlen }
  dsimp only
  k_steps
  change wpAny _ _ _ _ _ _
  refine wpAny_mono (d_pforF F5 N5 G' wd ⟨g4, g1, g2, g3, rfl⟩) ?_ (fun _ _ h => h.elim)
  rintro f s' ⟨rfl, h6, tk6, m6, rfl, F6⟩
  dsimp only
  k_steps
  exact ⟨rfl, h6, _, m6, rfl, F6⟩
end Mine

/-! part Fin -/
set_option maxRecDepth 100000 in
set_option maxHeartbeats 8000000 in
theorem PySem.Challenge.cw_dn0189_01_holds : PySem.Challenge.rw_dn0189_01.Holds := by
  refine Mine.hd ?_
  k_go0
  rename Fr _ _ _ _ => F
  rename News _ _ _ _ => N
  rename Top _ _ _ _ _ _ => T
  rename Below _ _ _ _ => K0
  rename Frag.In _ _ => KX
  rename IntsAre _ _ => hI
  rename ¬ (_ < _) => hn
  refine wpAny_mono (Mine.law_walk ⟨T, KX, K0⟩ (by assumption) hI hn rfl F N) ?_ (fun _ _ h => h.elim)
  rintro f s' ⟨rfl, h', tk, m', rfl, F'⟩
  clear F N
  dsimp only
  wrow_close
