import PyProof.Rows.All
import Wide.All
import OpenK.AllK
import Wide.FinOn
import PySem.Challenge.RW_dr5029_01
set_option Elab.async false
set_option rowWalk.seconds 0
section
open PySem PySem.W PyProof.Rows
set_option maxRecDepth 100000
set_option maxHeartbeats 8000000
namespace Mine
open_top hd for PySem.Challenge.rw_dr5029_01
end Mine
end
section
open PySem PySem.W PyProof.Rows
namespace Mine
/-- the letters' test: the i-th of x against the j-th of y -/
def eqAt (x y : Str) (i j : Nat) : Bool := decide (Txt.item x (i : Int) = Txt.item y (j : Int))

def lv (e : Nat → Nat → Bool) : Nat → Nat → Int
  | 0, j => j
  | i + 1, 0 => i + 1
  | i + 1, j + 1 => min (min (lv e i j + (if (!e i j) = true then 1 else 0)) (lv e i (j + 1) + 1)) (lv e (i + 1) j + 1)
termination_by i j => (i, j)

theorem lv_0 (e : Nat → Nat → Bool) (j : Nat) : lv e 0 j = j := by rw [lv]
theorem lv_s0 (e : Nat → Nat → Bool) (i : Nat) : lv e (i + 1) 0 = i + 1 := by rw [lv]
theorem lv_ss (e : Nat → Nat → Bool) (i j : Nat) : lv e (i + 1) (j + 1) = min (min (lv e i j + (if (!e i j) = true then 1 else 0)) (lv e i (j + 1) + 1)) (lv e (i + 1) j + 1) := by rw [lv]

theorem getD_set {l : List Int} {k : Nat} {v : Int} (hk : k < l.length) (j : Nat) : (l.set k v).getD j 0 = if j = k then v else l.getD j 0 := by
  rw [List.getD_eq_getElem?_getD, List.getD_eq_getElem?_getD, List.getElem?_set]
  by_cases h : k = j
  · subst h; simp [hk]
  · have h' : ¬ j = k := fun e => h e.symm
    simp [h, h']

theorem rangeKs_getD (n j : Nat) (h : j < n) : (rangeKs 0 n).getD j 0 = j := by
  simp [rangeKs, List.getD_eq_getElem?_getD, h]

theorem zeros_flatten (n : Nat) : (List.replicate n [(0 : Int)]).flatten = List.replicate n 0 := by
  induction n with
  | zero => rfl
  | succ n ih => rw [List.replicate_succ, List.flatten_cons, ih]; rfl

theorem row0_getD (k : Int) (n j : Nat) : ([k] ++ (List.replicate n [(0 : Int)]).flatten).getD j 0 = if j < 1 then k else 0 := by
  rw [zeros_flatten]
  cases j with
  | zero => rfl
  | succ j =>
    rw [if_neg (by omega), List.getD_eq_getElem?_getD]
    simp only [List.cons_append, List.nil_append, List.getElem?_cons_succ, List.getElem?_replicate]
    split <;> rfl
theorem row0_len (k : Int) (n : Nat) : ([k] ++ (List.replicate n [(0 : Int)]).flatten).length = n + 1 := by
  rw [zeros_flatten]; simp
end Mine
end
section
open PySem PySem.W PyProof.Rows PySem.Calls PySem.Spec
set_option maxRecDepth 100000
namespace Mine
/-- stops the walk -/
def Hold (P : Prop) : Prop := P
theorem Hold.of {P : Prop} (h : Hold P) : P := h
theorem Hold.out {P : Prop} (h : P) : Hold P := h

section
variable {prog : Program} {w : World} {A : Around} {E : Value → Shared → Prop} {s : Shared} {env : Env} {h₀ : Heap} {x : Str} {body : List Stmt} {Q : Flow → Shared → Prop}

/-- a turn's end: the walker's object stands, the letters are told -/
def TurnEnd {σ : Type} (h₀ : Heap) (L : Addr) (I : Addr) (o : Obj) (Led : σ → List (Addr × Obj)) (ps : σ → List (Str × Value)) (P : σ → Prop) (s₁ s₂ : Shared) : Prop :=
  ∃ c h' tk m', s₂ = { s₁ with heap := h', toks := tk } ∧ Fr h₀ L h' m' ∧ News h₀ L h' ((I, o) :: Led c) ∧ (∀ p ∈ Led c, p.1 ≠ I) ∧ (∀ p ∈ ps c, m' p.1 = some p.2) ∧ P c
def TurnPost {σ : Type} (h₀ : Heap) (L : Addr) (I : Addr) (o : Obj) (Led : σ → List (Addr × Obj)) (ps : σ → List (Str × Value)) (P : σ → Prop) (s₁ : Shared) (Q : Flow → Shared → Prop) (f : Flow) (s₂ : Shared) : Prop :=
  match f with
  | .ret v => Q (.ret v) s₂
  | .brk => Q .next s₂
  | _ => TurnEnd h₀ L I o Led ps P s₁ s₂
theorem TurnEnd.intro {σ : Type} {L : Addr} {I : Addr} {o : Obj} {Led : σ → List (Addr × Obj)} {ps : σ → List (Str × Value)} {P : σ → Prop} {s₁ : Shared} {h' : Heap} {tk : Nat} {m' : Str → Option Value} {news' : List (Addr × Obj)} (c : σ)
    (F : Fr h₀ L h' m') (N : News h₀ L h' news') (hs : ∀ p ∈ (I, o) :: Led c, p ∈ news') (hn : ∀ p ∈ Led c, p.1 ≠ I) (hk : ∀ p ∈ ps c, m' p.1 = some p.2) (hp : P c) :
    TurnEnd h₀ L I o Led ps P s₁ { s₁ with heap := h', toks := tk } := ⟨c, h', tk, m', rfl, F, fun p hp => N p (hs p hp), hn, hk, hp⟩

theorem kstB_same {m : Str → Option Value} {ps : List (Str × Value)} (h : ∀ p ∈ ps, m p.1 = some p.2) : kstB m ps = m := by
  funext z
  exact kstB_eq h fun _ => rfl

/-- any walker that writes its own object alone -/
theorem loop_any {σ : Type} {I : Addr} {fp : List Addr} {n : Nat} {Pv : Nat → Value → Prop} {St : Nat → Heap → Prop} {m₀ : Str → Option Value} (Led : σ → List (Addr × Obj)) (ps : σ → List (Str × Value)) (P : Nat → σ → Prop) (c₀ : σ)
    (W : Walks prog w A I fp [I] n Pv St) (hlive : ∀ i h, St i h → ∃ o, h.get? I = some o) (hLf : env.locals ∉ fp) (hI : h₀.get? I = none) (hfp : ∀ b ∈ fp, b ≠ I → ∃ o, h₀.get? b = some o)
    (hst : St 0 s.heap) (F : Fr h₀ env.locals s.heap m₀) (N : News h₀ env.locals s.heap (Led c₀)) (hne : ∀ p ∈ Led c₀, p.1 ≠ I) (hk : ∀ p ∈ ps c₀, m₀ p.1 = some p.2) (hp : P 0 c₀)
    (turn : ∀ (c : σ) (i : Nat) v (u : Str → Option Value) h tk o, i < n → Pv i v → P i c → (∀ p ∈ Led c, p.1 ≠ I) →
      Fr h₀ env.locals h (fun y => if y = x then some v else kstB u (ps c) y) → News h₀ env.locals h ((I, o) :: Led c) →
      wpAny (model prog w) A (execs body env) (TurnPost h₀ env.locals I o Led ps (P (i + 1)) { s with heap := h, toks := tk } Q) E { s with heap := h, toks := tk })
    (done : ∀ (c : σ) (u : Str → Option Value) h tk, P n c → Fr h₀ env.locals h (kstB u (ps c)) → News h₀ env.locals h (Led c) → Q .next { s with heap := h, toks := tk }) :
    LoopAtV prog w A h₀ env x body Q E (.ref I) s := by
  refine ⟨I, fp, [I], n, Pv, St, m₀, Led c₀, fun i m nx => ∃ c, nx = Led c ∧ (∀ p ∈ ps c, m p.1 = some p.2) ∧ P i c, rfl, W, hLf, ?_, ?_, hst, F, N, ⟨c₀, rfl, hk, hp⟩, ?_, ?_⟩
  · intro b hb; rw [List.mem_singleton.mp hb]; exact hI
  · intro p hp' hm; exact hne p hp' (List.mem_singleton.mp hm)
  · rintro i v m₁ news₁ s₁ own ⟨h, tk, rfl⟩ hi hv ⟨c, rfl, hk₁, hp₁⟩ hoff hown hget hall hst₁ F₁ N₁
    obtain ⟨o, ho⟩ := hlive _ _ hst₁
    have hio : (I, o) ∈ own := hall I (W.sub I (List.mem_singleton.mpr rfl)) hI o ho
    have hoff' : ∀ p ∈ Led c, p.1 ≠ I := fun p hp' e => hoff p hp' (List.mem_singleton.mpr e)
    have N₂ : News h₀ env.locals h ((I, o) :: Led c) := fun p hp' => by
      rcases List.mem_cons.mp hp' with rfl | hp'
      · exact N₁ _ (List.mem_append_left _ hio)
      · exact N₁ p (List.mem_append_right _ hp')
    have F₂ : Fr h₀ env.locals h (fun y => if y = x then some v else kstB m₁ (ps c) y) := by rw [kstB_same hk₁]; exact F₁
    refine wpAny_mono (turn c i v m₁ h tk o hi hv hp₁ hoff' F₂ N₂) (fun f s₂ q => ?_) fun _ _ e => e
    have fin : TurnEnd h₀ env.locals I o Led ps (P (i + 1)) { s with heap := h, toks := tk } s₂ →
        LoopStepU h₀ env.locals [I] own (fun m nx => ∃ c, nx = Led c ∧ (∀ p ∈ ps c, m p.1 = some p.2) ∧ P (i + 1) c) { s with heap := h, toks := tk } .next s₂ := by
      rintro ⟨c', h', tk', m', e, F', N', hn', hk', hp'⟩
      refine ⟨rfl, h', tk', m', Led c', e, F', fun p hq => ?_, fun p hq hm => hn' p hq (List.mem_singleton.mp hm), c', rfl, hk', hp'⟩
      rcases List.mem_append.mp hq with hq | hq
      · have e1 : p.1 = I := by
          by_cases e1 : p.1 = I
          · exact e1
          · obtain ⟨o', ho'⟩ := hfp p.1 (hown p hq) e1
            rw [(N₁ p (List.mem_append_left _ hq)).2.2] at ho'
            cases ho'
        have e2 : p.2 = o := by
          have := (N₁ p (List.mem_append_left _ hq)).1
          rw [e1] at this
          have ho2 : h.get? I = some o := ho
          rw [ho2] at this
          exact (Option.some.inj this).symm
        have e3 : p = (I, o) := by rw [← e1, ← e2]
        rw [e3]
        exact N' _ (List.mem_cons_self ..)
      · exact N' p (List.mem_cons_of_mem _ hq)
    cases f with
    | ret v => exact .ret q
    | brk => exact .brk q
    | next => exact .next (fin q)
    | cont => exact .cont (fin q)
  · rintro h' tk m' news' F' N' _ ⟨c, rfl, hk', hp'⟩
    refine done c m' h' tk hp' ?_ N'
    rw [kstB_same hk']
    exact F'

/-- for x in range(a, b) -/
theorem iter_range {σ : Type} {r : Addr} {a₀ b₀ : Int} {t₀ u₀ v₀ : Tok} {n : Nat} {m₀ : Str → Option Value} (Led : σ → List (Addr × Obj)) (ps : σ → List (Str × Value)) (P : Nat → σ → Prop) (c₀ : σ)
    (hh : A.handled = none) (hr : IsRange s.heap r a₀ b₀ 1 t₀ u₀ v₀) (hsmall : Builtin.Range.small a₀ b₀ 1 = true) (hn : Builtin.Range.rangeSize a₀ b₀ 1 = (n : Int))
    (F : Fr h₀ env.locals s.heap m₀) (N : News h₀ env.locals s.heap (Led c₀)) (hk : ∀ p ∈ ps c₀, m₀ p.1 = some p.2) (hp : P 0 c₀)
    (turn : ∀ (c : σ) (i : Nat) (k : Int) t (u : Str → Option Value) h tk I o, k = a₀ + i → i < n → P i c → (∀ p ∈ Led c, p.1 ≠ I) →
      Fr h₀ env.locals h (fun y => if y = x then some (.int k t) else kstB u (ps c) y) → News h₀ env.locals h ((I, o) :: Led c) →
      wpAny (model prog w) A (execs body env) (TurnPost h₀ env.locals I o Led ps (P (i + 1)) { s with heap := h, toks := tk } Q) E { s with heap := h, toks := tk })
    (done : ∀ (c : σ) (u : Str → Option Value) h tk, P n c → Fr h₀ env.locals h (kstB u (ps c)) → News h₀ env.locals h (Led c) → Q .next { s with heap := h, toks := tk }) :
    wpAny (model prog w) A (pyIter (.ref r)) (fun it s₂ => LoopAtV prog w A h₀ env x body Q E it s₂) E s := by
  refine wpAny_pyIter_range hr hsmall ?_
  have W : Walks prog w A s.heap.objs.size [s.heap.objs.size] [s.heap.objs.size] n (fun i v => i < n ∧ ∃ t, v = .int (a₀ + i * 1) t)
      (fun i h => IsRangeIter h s.heap.objs.size (a₀ + (i : Nat) * 1) ((n : Int) - (i : Nat)) 1) := (Walks.range hh _ a₀ 1 n).bound
  refine loop_any Led ps P c₀ W (fun i h st => ⟨_, st⟩) ?_ ?_ ?_ ?_ (F.push _) (fun p hp => ⟨Heap.get?_push_of_some _ (N p hp).1, (N p hp).2⟩) ?_ hk hp ?_ done
  · intro hm
    exact absurd F.ns.lt ((List.mem_singleton.mp hm) ▸ Nat.lt_irrefl _)
  · exact next_is_new F
  · intro b hb hb'
    exact absurd (List.mem_singleton.mp hb) hb'
  · show IsRangeIter _ _ _ _ _; rw [hn]; simpa using Heap.get?_push_size _ rfl
  · intro p hp e
    exact absurd (Heap.lt_size (N p hp).1) (e ▸ Nat.lt_irrefl _)
  · rintro c i v u h tk o hi ⟨_, t, rfl⟩ hP hne F₁ N₁
    exact turn c i _ t u h tk _ o (by omega) hi hP hne F₁ N₁

/-- for x in text -/
theorem iter_str {σ : Type} {y : Str} {ty : Tok} {m₀ : Str → Option Value} (Led : σ → List (Addr × Obj)) (ps : σ → List (Str × Value)) (P : Nat → σ → Prop) (c₀ : σ)
    (hh : A.handled = none)
    (F : Fr h₀ env.locals s.heap m₀) (N : News h₀ env.locals s.heap (Led c₀)) (hk : ∀ p ∈ ps c₀, m₀ p.1 = some p.2) (hp : P 0 c₀)
    (turn : ∀ (c : σ) (i : Nat) (k : Nat) t (u : Str → Option Value) h tk I o, y.cps[i]? = some k → i < y.cps.size → P i c → (∀ p ∈ Led c, p.1 ≠ I) →
      Fr h₀ env.locals h (fun z => if z = x then some (.str ⟨#[k]⟩ t) else kstB u (ps c) z) → News h₀ env.locals h ((I, o) :: Led c) →
      wpAny (model prog w) A (execs body env) (TurnPost h₀ env.locals I o Led ps (P (i + 1)) { s with heap := h, toks := tk } Q) E { s with heap := h, toks := tk })
    (done : ∀ (c : σ) (u : Str → Option Value) h tk, P y.cps.size c → Fr h₀ env.locals h (kstB u (ps c)) → News h₀ env.locals h (Led c) → Q .next { s with heap := h, toks := tk }) :
    wpAny (model prog w) A (pyIter (.str y ty)) (fun it s₂ => LoopAtV prog w A h₀ env x body Q E it s₂) E s := by
  have gen : ∀ (o : Obj) (St : Nat → Heap → Prop), Walks prog w A s.heap.objs.size [s.heap.objs.size] [s.heap.objs.size] y.cps.size (SignAt y) St → (∀ i h, St i h → ∃ o, h.get? s.heap.objs.size = some o) → St 0 (s.heap.push o) →
      LoopAtV prog w A h₀ env x body Q E (.ref s.heap.objs.size) { s with heap := s.heap.push o } := by
    intro o St W hlive hst
    refine loop_any Led ps P c₀ W hlive ?_ ?_ ?_ hst (F.push _) (fun p hp => ⟨Heap.get?_push_of_some _ (N p hp).1, (N p hp).2⟩) ?_ hk hp ?_ done
    · intro hm
      exact absurd F.ns.lt ((List.mem_singleton.mp hm) ▸ Nat.lt_irrefl _)
    · exact next_is_new F
    · intro b hb hb'
      exact absurd (List.mem_singleton.mp hb) hb'
    · intro p hp e
      exact absurd (Heap.lt_size (N p hp).1) (e ▸ Nat.lt_irrefl _)
    · rintro c i v u h tk o hi ⟨k, t, hc, rfl⟩ hP hne F₁ N₁
      exact turn c i k t u h tk _ o hc hi hP hne F₁ N₁
  cases ha : y.cps.all (· < 128)
  · exact wpAny_pyIter_wide ha (gen _ _ (Walks.strWide hh _ y ty) (fun i h st => let ⟨o, ho, _⟩ := st; ⟨o, ho⟩) ⟨_, Heap.get?_push_size _ rfl, rfl, rfl⟩)
  · exact wpAny_pyIter_ascii ha (gen _ _ (Walks.strAscii hh _ y ty) (fun i h st => let ⟨o, ho, _⟩ := st; ⟨o, ho⟩) ⟨_, Heap.get?_push_size _ rfl, rfl, rfl⟩)

theorem for_any {px pos : Pos} {iter : Expr} {m : Str → Option Value} (_F : Fr h₀ env.locals s.heap m) (hx : env.kindOf x = some .local)
    (hp : (env.scope.kind == .class || (env.scope.kind == .module && env.locals != env.globals)) = false) (hs : ∀ x, foldedSetIterable iter env x = pure x) (hE : PassesOwn (model prog w) A env E)
    (h : wpAny (model prog w) A (eval iter env) (fun xv s₁ => wpAny (model prog w) A (pyIter xv) (fun it s₂ => LoopAtV prog w A h₀ env x body Q E it s₂) E s₁) E s) :
    wpAny (model prog w) A (exec (.For (.Name x px) iter body [] pos) env) Q E s := For_invV h₀ hx hp h hs hE
end

section
variable {prog : Program} {w : World} {A : Around} {E : Value → Shared → Prop} {s : Shared} {K : Frag} {x C L : Addr} {h₀ : Heap} {m : Str → Option Value} {ox : Obj} {od : Option Obj} {name : Str}
/-- a value that lies in the instance's own dict, asked for a call -/
theorem method_val {pl : Sem Bool} {Q : Value × List Value → Shared → Prop} (F : Fr h₀ L s.heap m) (X₀ : K.In h₀) (I : InstAt s.heap x ox C od) (hg : plainGet K C name = true)
    (hf : findIn K (.ref C) name = some none) (h : wpAny (model prog w) A (getAttr (.ref x) name) (fun v s' => Q (v, []) s') E s) : wpAny (model prog w) A (getMethod (.ref x) name pl) Q E s := by
  have X := X₀.keeps F.keep
  have hcan := PySem.F.canon_object_ga
  unfold getMethod specialOf
  refine wpAny_bind (wpAny_bind (I.type.here ((looks_findIn X (plainGet_of hg).1).here ?_)))
  dsimp only
  rw [hcan, if_neg (by decide)]
  refine wpAny_bind (wpAny_bind (I.type.here ((looks_findIn X (plainGet_of hg).2).here ?_)))
  refine wpAny_bind (wpAny_bind (I.type.here ((looks_findIn X hf).here ?_)))
  exact wpAny_bind (wpAny_mono h (fun v s' q => wpAny_pure q) fun _ _ e => e)
end

section
variable {prog : Program} {w : World} {A : Around} {E : Value → Shared → Prop} {s : Shared} {L : Addr} {h₀ : Heap} {m : Str → Option Value} {news : List (Addr × Obj)}
theorem min_three_N {a b c : Int} {t u x : Tok} {Q : Value → Shared → Prop} (hh : A.handled = none) (F : Fr h₀ L s.heap m) (N : News h₀ L s.heap news)
    (h : ∀ h' tk t', Fr h₀ L h' m → News h₀ L h' news → Q (.int (min (min a b) c) t') { s with heap := h', toks := tk }) :
    wpAny (model prog w) A (call (.builtin "min") [.int a t, .int b u, .int c x]) Q E s := by
  refine min_three_ints hh fun h' tk hk => ?_
  have e : (if b < a then (if c < b then Value.int c x else .int b u) else (if c < a then .int c x else .int a t)) = .int (min (min a b) c) (if b < a then (if c < b then x else u) else (if c < a then x else t)) := by
    by_cases q1 : b < a
    · by_cases q2 : c < b
      · simp only [if_pos q1, if_pos q2]; congr 1; omega
      · simp only [if_pos q1, if_neg q2]; congr 1; omega
    · by_cases q2 : c < a
      · simp only [if_neg q1, if_pos q2]; congr 1; omega
      · simp only [if_neg q1, if_neg q2]; congr 1; omega
  rw [e]
  exact h h' tk _ (F.grownK hk) (N.grown hk)
end
theorem ne_of_allLt {d : Addr} {l : List (Addr × Obj)} (h : AllLt d l) : ∀ p ∈ l, p.1 ≠ d := fun p hp => Nat.ne_of_lt (ktn_ltOf h p hp)
end Mine
end
section
open PySem PySem.W PyProof.Rows PySem.Calls PySem.Spec
set_option maxRecDepth 100000
namespace Mine
section
variable {prog : Program} {w : World} {A A₀ : Around} {s : Shared} {K : Frag} {L : Addr} {h₀ base : Heap} {m mg mb : Str → Option Value} {news : List (Addr × Obj)} {p : Program} {loose : List Str} {mean : ExcName → Option Value}

/-- a def with a star parameter whose names are captured: its frame -/
theorem rest_frame {env : Env} {outer : List Env} {R : Result → Shared → Prop} {qual : Str} {body : List Stmt} {scope : Scope} {cdv : Value} {f : Addr} {binds : List (Str × Value)} {E : Value → Shared → Prop}
    (B : Below A₀ base outer h₀) (F : Fr h₀ L s.heap m) (N : News h₀ L s.heap news) (hlim : h₀.NoLimit) (hA : A.frames = some (env :: outer)) (hf : env.frame = some L) (hke : env.scope.kind = .function)
    (hkind : ∀ n, ∀ x ∈ binds, scope.names.lookup x.1 = some .local ∨ (scope.names.lookup x.1 = some .cell ∧ ((cellsFrom n scope.names []).lookup x.1).isSome = true))
    (hnd : ((cellsFrom 0 scope.names []).map (·.1)).Nodup)
    (h : ∀ g L' h₁ tk cells, Fr h₀ L g m → Fr g L' h₁ (bindL (envOfC qual scope L' f cdv).kindOf binds fun _ => none) → News g L' h₁ (cells ++ news) →
      CellsAre (bindC (envOfC qual scope L' f cdv).kindOf binds fun _ => none) (cellsFrom (L' + 1) scope.names []) cells → Below A base (env :: outer) g → h₀.StaysIn g → (∀ p ∈ news, p.1 < L') →
      wpAny (model prog w) (A.deeper (envOfC qual scope L' f cdv)) (execs body (envOfC qual scope L' f cdv))
        (fun fl s' => LeaveK h₀ L m g R (match fl with | .ret v => v | _ => .none) s')
        (fun e s' => wpAny (model prog w) (A.deeper (envOfC qual scope L' f cdv)) (leaving (envOfC qual scope L' f cdv) e) (fun _ s'' => R (.error e) s'') (fun e' s'' => R (.error e') s'') s')
        { s with heap := h₁, toks := tk }) (hk : scope.kind = .function) :
    wpAny (model prog w) A.in1 (newFunctionEnv scope mainGlobals [] binds (qual ++ ".<locals>.") (some f) cdv none builtinsNs) (fun env' s₂ => s₂.heap.NoLimit ∧ codeAny (model prog w) A (.func body env') R s₂) E s := by
  obtain ⟨FG, BG, st, lv⟩ := groundX (R := R) B F N hA hf hke
  refine wpAny_newFunctionEnv_cells hk (hkind _) fun env' he s' x => ?_
  subst he
  refine ⟨(hlim.keeps F.keep).keeps x.toInCall.keep, codeAny_func ?_⟩
  obtain ⟨h₁, tk, rfl, _⟩ := x.done
  have up := x.toInCall.keep
  obtain ⟨cells, NC, Y⟩ := Cl.news (h₀ := s.heap) (Nat.le_refl _) fun n c hm => ⟨x.cell n c (lookup_of_mem_nodup (cellsFrom_names scope.names 0 (s.heap.objs.size + 1) [] [] rfl ▸ hnd) hm), x.above n c hm⟩
  have FL : Fr (hideAll s.heap (news.map (·.1))) s.heap.objs.size h₁ (bindL (envOfC qual scope s.heap.objs.size f cdv).kindOf binds fun _ => none) :=
    ⟨x.toInCall.ns, fun b o e => up b o (of_hideAll _ e), Nat.le_of_eq (hideAll_size _ _)⟩
  have NL : News (hideAll s.heap (news.map (·.1))) s.heap.objs.size h₁ (cells ++ news) := fun q hq => by
    rcases List.mem_append.mp hq with hq | hq
    · refine ⟨(NC q hq).1, (NC q hq).2.1, ?_⟩
      cases e : (hideAll s.heap (news.map (·.1))).get? q.1 with
      | none => rfl
      | some o =>
        have e' := of_hideAll _ e
        rw [(NC q hq).2.2] at e'
        cases e'
    · exact ⟨up _ _ (N q hq).1, Nat.ne_of_lt (Heap.lt_size (N q hq).1), hideAll_none _ (List.mem_map_of_mem hq)⟩
  exact wpAny_mono (h _ _ h₁ tk cells FG FL NL Y BG st fun q hq => Heap.lt_size (N q hq).1) (fun fl s' hl => lv _ _ hl) fun _ _ y => y

theorem rest_cells {env : Env} {outer : List Env} {R : Result → Shared → Prop} {name qual : Str} {params : Arguments} {body : List Stmt} {scope : Scope} {dV kV doc pm cdv ct oc : Value} {an od : Option Addr} {osl : Array (Option Value)} {f : Addr} {args : Args} {vs : List Value} {g₁ : Addr → Option (List (Str × Value))} {binds : Addr → List (Str × Value)}
    (B : Below A₀ base outer h₀) (F : Fr h₀ L s.heap m) (X₀ : K.In h₀) (N : News h₀ L s.heap news) (T : Top p loose mean mg mb h₀) (hA : A.frames = some (env :: outer)) (hf : env.frame = some L) (hke : env.scope.kind = .function)
    (ho : K.lookup f = some ⟨oc, od, .func (fnOf name qual params body scope dV kV doc pm an cdv ct), osl⟩) (hcd : codeIn K cdv qual = true) (hroom : A.depth < recursionLimit)
    (hv : args.pos.drop (params.posonlyargs.length + params.args.length) = vs)
    (hp : peek1 K ⟨prog, w.params⟩ (bindArgs (fnOf name qual params body scope dV kV doc pm an cdv ct) args) = some (({ cls := .type "tuple", data := .seq vs.toArray } : Obj), g₁))
    (hg : ∀ D, g₁ D = some (binds D)) (hkind : ∀ D, ((binds D).all fun y => scope.names.lookup y.1 == some .local || scope.names.lookup y.1 == some .cell) = true)
    (hnd : ((cellsFrom 0 scope.names []).map (·.1)).Nodup)
    (h : ∀ D g L' h₁ tk cells, (∀ p ∈ news, p.1 < D) → Fr h₀ L g m → Fr g L' h₁ (bindL (envOfC qual scope L' f cdv).kindOf (binds D) fun _ => none) → News g L' h₁ (cells ++ ((D, ({ cls := .type "tuple", data := .seq vs.toArray } : Obj)) :: news)) →
      CellsAre (bindC (envOfC qual scope L' f cdv).kindOf (binds D) fun _ => none) (cellsFrom (L' + 1) scope.names []) cells → Below A base (env :: outer) g → K.In g → Top p loose mean mg mb g → (∀ p ∈ ((D, ({ cls := .type "tuple", data := .seq vs.toArray } : Obj)) :: news), p.1 < L') →
      wpAny (model prog w) (A.deeper (envOfC qual scope L' f cdv)) (execs body (envOfC qual scope L' f cdv))
        (fun fl s' => LeaveK h₀ L m g R (match fl with | .ret v => v | _ => .none) s')
        (fun e s' => wpAny (model prog w) (A.deeper (envOfC qual scope L' f cdv)) (leaving (envOfC qual scope L' f cdv) e) (fun _ s'' => R (.error e) s'') (fun e' s'' => R (.error e') s'') s')
        { s with heap := h₁, toks := tk })
    (hco : scope.isCoroutine = false) (hgen : scope.isGenerator = false) (hk : scope.kind = .function) : codeAny (model prog w) A (.call (.ref f) args) R s := by
  have _ := hv
  refine codeAny_call_function (fd := fnOf name qual params body scope dV kV doc pm an cdv ct) (body := body) hroom ((X₀.keeps F.keep) _ _ ho) rfl hco hgen rfl (codeRec_of (X₀.keeps F.keep) hcd) ?_
  refine wp_of_peek1 (o := ({ cls := .type "tuple", data := .seq vs.toArray } : Obj)) F N (X₀.keeps F.keep) rfl (r := binds) (fun D h' F' N' l => ?_) _ g₁ hp hg
  exact rest_frame (s := { s with heap := h' }) B F' N' T.nolimit hA hf hke (kindsX (hkind D)) hnd (fun g L' h₁ tk cells FG FL NG Y BG st l2 => h D g L' h₁ tk cells l FG FL NG Y BG (X₀.keeps st) (T.keeps st) l2) hk
end

section
variable {prog : Program} {w : World} {A : Around} {E : Value → Shared → Prop} {s : Shared} {K : Frag} {x C L pA : Addr} {h₀ : Heap} {m : Str → Option Value} {ox : Obj} {es : List DictEntry} {n : Nat} {name : Str} {fv : Value} {rest : List Value}
/-- a static method, asked of the instance -/
theorem get_sm {expr : Bool} {Q : Value → Shared → Prop} (F : Fr h₀ L s.heap m) (X₀ : K.In h₀) (I : InstAt s.heap x ox C (some (dictOf es n))) (hg : plainGet K C name = true) (hh : hasDictIn K C = true) (ha : findIn K (.ref C) name = some (some (.ref pA)))
    (hgf : specialIn K (.ref pA) "__get__" = some (some (.builtin "staticmethod.__get__"))) (hts : takesIn K (.ref pA) = some false) (hc : copiedNames.contains name = false) (hl : getL name es = some none) (hp : recIn K pA "staticmethod" = some (fv :: rest)) (hv : handedIn fv = true)
    (h : Q fv { s with toks := s.toks + 1 }) : wpAny (model prog w) A (getAttr (.ref x) name expr) Q E s :=
  get_bind (X₀.keeps F.keep) I (plainGet_of hg).1 (findObj_fn hh ha hgf hts hc (by show lookIn name (dictOf es n) = _; rw [lookIn_dict, hl])) (plainGet_of hg).2
    (wpAny_call (sm_get (s := { s with toks := s.toks + 1 }) (X₀.keeps F.keep) hp (handed_on hv h)))

theorem methodCall_star {M : Model} {env : Env} {o e : Expr} {apos pos sp : Pos} {Q : Value → Shared → Prop}
    (h : wpAny M A (eval o env) (fun ov s₁ => wpAny M A (getAttr ov name true) (fun f s₂ => wpAny M A (callWith pos f [] (backTo pos (starEach [.Starred e sp] env)) []) Q E s₂) E s₁) E s)
    (he : eval (.Call (.Attribute o name apos) [.Starred e sp] [] pos) env = (do
      let ov ← eval o env
      standAt apos.atName
      let (f, first) ← holding [ov] (do pure (← getAttr ov name true, []))
      callWith pos f first (backTo pos (starEach [.Starred e sp] env)) []) := by rfl) :
    wpAny M A (eval (.Call (.Attribute o name apos) [.Starred e sp] [] pos) env) Q E s := by
  rw [he]
  refine wpAny_bind (wpAny_mono h (fun ov s₁ h₁ => wpAny_bind (wpAny_standAt (wpAny_bind (wpAny_holding (wpAny_bind (wpAny_mono h₁ (fun f s₂ h₂ => wpAny_pure h₂) fun _ _ x => x)))))) fun _ _ x => x)
end

section
variable {prog : Program} {w : World} {A : Around} {E : Value → Shared → Prop} {s : Shared} {L : Addr} {h₀ : Heap} {m : Str → Option Value} {news : List (Addr × Obj)}
/-- one turn of all(): a text that is not empty -/
theorem all_turn {I : Addr} {fp wr : List Addr} {n i : Nat} {P : Nat → Value → Prop} {St : Nat → Heap → Prop} {R : Result → Shared → Prop}
    (W : Walks prog w A.in1 I fp wr n P St) (hi : i < n) (hst : St i s.heap) (hx : ∀ v, P i v → ∃ x t, v = .str x t ∧ 1 ≤ x.length ∧ x.length ≤ 1000)
    (h : ∀ h' tk, St (i + 1) h' → (∀ b o, b ∉ wr → s.heap.get? b = some o → h'.get? b = some o) →
      codeAny (model prog w) A (.builtin "all.loop" ⟨[.ref I], []⟩) R { s with heap := h', toks := tk }) :
    codeAny (model prog w) A (.builtin "all.loop" ⟨[.ref I], []⟩) R s := by
  refine codeAny_builtin F.entry_all_loop ?_
  rw [Around.under_plainId F.plain_all_loop _]
  show wpAny _ A.in1 (pyNext (.ref I) >>= _) _ _ s
  refine wpAny_bind (W.item i s _ _ hi hst fun v h₁ tk₁ hP hst₁ hk₁ => ?_)
  obtain ⟨x, t, rfl, hx1, hx2⟩ := hx v hP
  refine wpAny_bind (wpAny_holding (PySem.P.truthy_str (by omega) ?_))
  have e : ((x.length : Int) != 0) = true := by simp; omega
  rw [e]
  refine wpAny_bind (wpAny_letGo ?_)
  simp only [if_true]
  exact wpAny_pure ⟨plainId_quiet F.plain_all_loop _, h h₁ _ hst₁ hk₁⟩
theorem all_end {I : Addr} {fp wr : List Addr} {n : Nat} {P : Nat → Value → Prop} {St : Nat → Heap → Prop} {R : Result → Shared → Prop}
    (W : Walks prog w A.in1 I fp wr n P St) (hst : St n s.heap)
    (h : ∀ h' tk, (∀ b o, b ∉ wr → s.heap.get? b = some o → h'.get? b = some o) → R (.ok (.ret (.bool true))) { s with heap := h', toks := tk }) :
    codeAny (model prog w) A (.builtin "all.loop" ⟨[.ref I], []⟩) R s := by
  refine codeAny_builtin F.entry_all_loop ?_
  rw [Around.under_plainId F.plain_all_loop _]
  show wpAny _ A.in1 (pyNext (.ref I) >>= _) _ _ s
  refine wpAny_bind (W.done s _ _ hst fun h₁ tk₁ hk₁ => ?_)
  exact wpAny_bind (wpAny_rule (wpAny_pure (h h₁ tk₁ hk₁)))

/-- all((x, y)) of two texts that are not empty -/
theorem all_two {l : Addr} {x y : Str} {t u : Tok} {nn : Nat} {Q : Value → Shared → Prop} (hh : A.handled = none) (F : Fr h₀ L s.heap m) (N : News h₀ L s.heap news)
    (hl : (l, ({ cls := .type "tuple", data := .seq #[.str x t, .str y u] nn } : Obj)) ∈ news) (hx : 1 ≤ x.length ∧ x.length ≤ 1000) (hy : 1 ≤ y.length ∧ y.length ≤ 1000)
    (h : ∀ h' tk, Fr h₀ L h' m → News h₀ L h' news → Q (.bool true) { s with heap := h', toks := tk }) :
    wpAny (model prog w) A (call (.builtin "all") [.ref l]) Q E s := by
  have ht : s.heap.IsTuple l #[.str x t, .str y u] := ⟨_, (N _ hl).1, rfl, nn, rfl⟩
  have hlt : l < s.heap.objs.size := Heap.lt_size (N _ hl).1
  refine call_function_tree PySem.F.kind_all PySem.F.plain_all PySem.F.entry_all (PySem.F.args_all1 _) ?_
  unfold Builtin.«all»
  refine wpAny_bind (m := oneArg "all" _) (wpAny_pure ?_)
  refine wpAny_bind (wpAny_pyIter_tuple ht ?_)
  refine wpAny_pure ⟨plainId_quiet PySem.F.plain_all_loop _, ?_⟩
  have W := Walks.tuple (prog := prog) (w := w) (A := A.in1) hh s.heap.objs.size l (Nat.ne_of_lt hlt) #[.str x t, .str y u]
  refine all_turn W (i := 0) (by simp) ⟨⟨_, Heap.get?_push_size _ rfl, rfl, rfl⟩, ht.push _⟩ (fun v hv => ⟨x, t, by simpa using hv.symm, hx⟩) fun h₁ tk₁ st₁ k₁ => ?_
  refine all_turn W (i := 1) (by simp) st₁ (fun v hv => ⟨y, u, by simpa using hv.symm, hy⟩) fun h₂ tk₂ st₂ k₂ => ?_
  refine all_end W st₂ fun h₃ tk₃ k₃ => ?_
  have up : ∀ b o, s.heap.get? b = some o → h₃.get? b = some o := fun b o e => by
    have hb : b ∉ [s.heap.objs.size] := fun hm => by rw [List.mem_singleton.mp hm] at e; exact Nat.lt_irrefl _ (Heap.lt_size e)
    exact k₃ b o hb (k₂ b o hb (k₁ b o hb (Heap.get?_push_of_some _ e)))
  exact h h₃ tk₃ (F.grownK up) (N.grown up)
end
end Mine
end
section
open PySem PySem.W PyProof.Rows PySem.Calls PySem.Spec
set_option maxRecDepth 100000
namespace Mine
section
variable {prog : Program} {w : World} {A : Around} {E : Value → Shared → Prop} {s : Shared} {env : Env} {h₀ : Heap} {xi xc : Str} {body : List Stmt} {Q : Flow → Shared → Prop}

structure EnumFresh (h₀ : Heap) (L : Addr) (news : List (Addr × Obj)) (y : Str) (t : Tok) (e it : Addr) (h : Heap) : Prop where
  ne : e ≠ it
  eL : e ≠ L
  iL : it ≠ L
  e0 : h₀.get? e = none
  i0 : h₀.get? it = none
  off : ∀ p ∈ news, p.1 ≠ e ∧ p.1 ≠ it
  en : IsEnum h e it 0 .none
  st : h.IsStrIter it (strIterType y) y t 0

theorem call_enum {L : Addr} {m : Str → Option Value} {news : List (Addr × Obj)} {y : Str} {t : Tok} {Q : Value → Shared → Prop} (F : Fr h₀ L s.heap m) (N : News h₀ L s.heap news)
    (h : ∀ h' e it, Fr h₀ L h' m → News h₀ L h' news → EnumFresh h₀ L news y t e it h' → Q (.ref e) { s with heap := h' }) :
    wpAny (model prog w) A (call (.type "enumerate") [.str y t]) Q E s := by
  have hLs : L < s.heap.objs.size := F.ns.lt
  have hab : h₀.objs.size ≤ L := F.above
  refine call_enumerate_str fun h' he hit hsz hk => ?_
  refine h h' _ s.heap.objs.size (F.grownK hk) (N.grown hk) ⟨Nat.succ_ne_self _, Nat.ne_of_gt (Nat.lt_succ_of_lt hLs), Nat.ne_of_gt hLs,
    Heap.get?_none_of_le (Nat.le_trans hab (Nat.le_of_lt (Nat.lt_succ_of_lt hLs))), Heap.get?_none_of_le (Nat.le_trans hab (Nat.le_of_lt hLs)), fun p hp => ?_, he, hit⟩
  have hq : p.1 < s.heap.objs.size := Heap.lt_size (N p hp).1
  exact ⟨Nat.ne_of_lt (Nat.lt_succ_of_lt hq), Nat.ne_of_lt hq⟩

def TurnEnd2 {σ : Type} (h₀ : Heap) (L : Addr) (e : Addr) (oe : Obj) (it : Addr) (oi : Obj) (Led : σ → List (Addr × Obj)) (ps : σ → List (Str × Value)) (P : σ → Prop) (s₁ s₂ : Shared) : Prop :=
  ∃ c h' tk m', s₂ = { s₁ with heap := h', toks := tk } ∧ Fr h₀ L h' m' ∧ News h₀ L h' ((e, oe) :: (it, oi) :: Led c) ∧ (∀ p ∈ Led c, p.1 ≠ e ∧ p.1 ≠ it) ∧ (∀ p ∈ ps c, m' p.1 = some p.2) ∧ P c
def TurnPost2 {σ : Type} (h₀ : Heap) (L : Addr) (e : Addr) (oe : Obj) (it : Addr) (oi : Obj) (Led : σ → List (Addr × Obj)) (ps : σ → List (Str × Value)) (P : σ → Prop) (s₁ : Shared) (Q : Flow → Shared → Prop) (f : Flow) (s₂ : Shared) : Prop :=
  match f with
  | .ret v => Q (.ret v) s₂
  | .brk => Q .next s₂
  | _ => TurnEnd2 h₀ L e oe it oi Led ps P s₁ s₂
theorem TurnEnd2.intro {σ : Type} {L : Addr} {e : Addr} {oe : Obj} {it : Addr} {oi : Obj} {Led : σ → List (Addr × Obj)} {ps : σ → List (Str × Value)} {P : σ → Prop} {s₁ : Shared} {h' : Heap} {tk : Nat} {m' : Str → Option Value} {news' : List (Addr × Obj)} (c : σ)
    (F : Fr h₀ L h' m') (N : News h₀ L h' news') (hs : ∀ p ∈ (e, oe) :: (it, oi) :: Led c, p ∈ news') (hn : ∀ p ∈ Led c, p.1 ≠ e ∧ p.1 ≠ it) (hk : ∀ p ∈ ps c, m' p.1 = some p.2) (hp : P c) :
    TurnEnd2 h₀ L e oe it oi Led ps P s₁ { s₁ with heap := h', toks := tk } := ⟨c, h', tk, m', rfl, F, fun p hp => N p (hs p hp), hn, hk, hp⟩

/-- the loop over a walker of pairs, its body's raise passed on -/
def EnumAt (prog : Program) (w : World) (A : Around) (env : Env) (xi xc : Str) (body : List Stmt) (Q : Flow → Shared → Prop) (E : Value → Shared → Prop) (it : Value) (s₂ : Shared) : Prop :=
  ∀ (pk pv pt : Pos) (x1 : Nat), codeAny (model prog w) A (.forLoop (.Tuple [.Name xi pk, .Name xc pv] x1 pt) it body [] env) (fun r s' => match r with | .ok f => Q f s' | .error e => cameBackBy (model prog w) A env E e s') s₂

theorem for_pairs {px pv pt pos : Pos} {x1 : Nat} {iter : Expr} {m : Str → Option Value} (_F : Fr h₀ env.locals s.heap m) (hs : ∀ x, foldedSetIterable iter env x = pure x)
    (h : wpAny (model prog w) A (eval iter env) (fun xv s₁ => wpAny (model prog w) A (pyIter xv) (fun it s₂ => EnumAt prog w A env xi xc body Q E it s₂) E s₁) E s) :
    wpAny (model prog w) A (exec (.For (.Tuple [.Name xi px, .Name xc pv] x1 pt) iter body [] pos) env) Q E s :=
  wpAny_For (wpAny_mono h (fun _ _ h₁ => wpAny_mono h₁ (fun _ _ h₂ => h₂ px pv pt x1) fun _ _ e => e) fun _ _ e => e) hs

/-- for i, c in enumerate(text) -/
theorem iter_enum {σ : Type} {y : Str} {t : Tok} {e it : Addr} {m₀ : Str → Option Value} {news : List (Addr × Obj)} (Led : σ → List (Addr × Obj)) (ps : σ → List (Str × Value)) (P : Nat → σ → Prop) (c₀ : σ)
    (hh : A.handled = none) (X : EnumFresh h₀ env.locals news y t e it s.heap) (F : Fr h₀ env.locals s.heap m₀) (N : News h₀ env.locals s.heap news) (hs₀ : ∀ p ∈ Led c₀, p ∈ news) (hk : ∀ p ∈ ps c₀, m₀ p.1 = some p.2) (hp : P 0 c₀)
    (hxi : env.kindOf xi = some .local) (hxc : env.kindOf xc = some .local)
    (hcl : (env.scope.kind == .class || (env.scope.kind == .module && env.locals != env.globals)) = false) (hE : PassesOwn (model prog w) A env E)
    (turn : ∀ (c : σ) (i : Nat) (k : Nat) ti tc (u : Str → Option Value) h tk oe oi, y.cps[i]? = some k → i < y.length → P i c → (∀ p ∈ Led c, p.1 ≠ e ∧ p.1 ≠ it) →
      Fr h₀ env.locals h (fun z => if z = xc then some (.str ⟨#[k]⟩ tc) else if z = xi then some (.int i ti) else kstB u (ps c) z) → News h₀ env.locals h ((e, oe) :: (it, oi) :: Led c) →
      wpAny (model prog w) A (execs body env) (TurnPost2 h₀ env.locals e oe it oi Led ps (P (i + 1)) { s with heap := h, toks := tk } Q) E { s with heap := h, toks := tk })
    (done : ∀ (c : σ) (u : Str → Option Value) h tk, P y.length c → Fr h₀ env.locals h (kstB u (ps c)) → News h₀ env.locals h (Led c) → Q .next { s with heap := h, toks := tk }) :
    wpAny (model prog w) A (pyIter (.ref e)) (fun it' s₂ => EnumAt prog w A env xi xc body Q E it' s₂) E s := by
  have gen : ∀ St : Nat → Heap → Prop, Draws prog w A.in1 it [it] y.cps.size (fun i v => ∃ c u, y.cps[i]? = some c ∧ v = Value.str ⟨#[c]⟩ u) St → St 0 s.heap →
      wpAny (model prog w) A (pyIter (.ref e)) (fun it' s₂ => EnumAt prog w A env xi xc body Q E it' s₂) E s := by
    intro St D hst
    refine wpAny_pyIter_enum X.en ?_
    intro pk pv pt x1
    have W := WalksT.enumerateD D e X.ne (by simpa using X.ne) (by simp)
    have hLe : env.locals ∉ [e, it] := by
      simp only [List.mem_cons, List.not_mem_nil, or_false, not_or]
      exact ⟨fun q => X.eL q.symm, fun q => X.iL q.symm⟩
    have old : ∀ b o, h₀.get? b = some o → b ∉ [e, it] := fun b o q hb => by
      rcases List.mem_cons.mp hb with rfl | hb
      · rw [X.e0] at q; cases q
      · rw [List.mem_singleton.mp hb, X.i0] at q; cases q
    have offs : ∀ {l : List (Addr × Obj)}, (∀ p ∈ l, p.1 ≠ e ∧ p.1 ≠ it) → ∀ p ∈ l, p.1 ∉ [e, it] := fun hl p hp' hm => by
      rcases List.mem_cons.mp hm with q | hm
      · exact (hl p hp').1 q
      · exact (hl p hp').2 (List.mem_singleton.mp hm)
    refine codeAny_forLoop_any
      (fun k s' => ∃ (h' : Heap) (tk : Nat) (m' : Str → Option Value) (c : σ) (i : Nat), s' = { s with heap := h', toks := tk } ∧ ((∃ ol, IsEnum h' e it i ol) ∧ St i h') ∧ Fr h₀ env.locals h' m' ∧ News h₀ env.locals h' (Led c) ∧ (∀ p ∈ Led c, p.1 ≠ e ∧ p.1 ≠ it) ∧ (∀ p ∈ ps c, m' p.1 = some p.2) ∧ P i c ∧ i ≤ y.cps.size ∧ k = y.cps.size + 1 - i) ?_ (y.cps.size + 1)
      ⟨s.heap, s.toks, m₀, c₀, 0, rfl, ⟨⟨_, by simpa using X.en⟩, hst⟩, F, fun p hp' => N p (hs₀ p hp'), fun p hp' => X.off p (hs₀ p hp'), hk, hp, Nat.zero_le _, rfl⟩
    rintro k s' ⟨H, tk, m', c, i, rfl, hst', F', N', hn', hk', hP', hi, rfl⟩
    have next : ∀ h₁ : Heap, (∀ b o, b ∉ [e, it] → H.get? b = some o → h₁.get? b = some o) → Fr h₀ env.locals h₁ m' ∧ News h₀ env.locals h₁ (Led c) := fun h₁ hk₁ =>
      ⟨⟨F'.ns.at' fun o q => hk₁ _ o hLe q, fun b o q => hk₁ b o (old b o q) (F'.keep b o q), F'.above⟩, fun p hp' => ⟨hk₁ _ _ (offs hn' p hp') (N' p hp').1, (N' p hp').2⟩⟩
    by_cases hlt : i < y.cps.size
    · refine W.item i _ _ _ hlt hst' fun T vals h₁ tk₁ hPt _ hT hMid hk₁ => ?_
      obtain ⟨ti, v, ⟨kc, tc, hkc, rfl⟩, rfl⟩ := hPt
      refine W.go _ x1 pt i T _ _ _ hMid fun h₂ hst₂ hk₂ => ?_
      have ht₂ : h₂.IsTuple T #[.int i ti, .str ⟨#[kc]⟩ tc] := hT.at fun o q => hk₂ T o (W.apart i T h₁ hMid) q
      refine wpAny_assign_Tuple hh ht₂ rfl rfl fun h₃ hx₃ => ?_
      replace hx₃ : Heap.ExtBut h₂.objs.size h₂ h₃ := hx₃
      have up₃ : ∀ b o, h₂.get? b = some o → h₃.get? b = some o := fun b o x => hx₃ b o (Nat.ne_of_lt (Heap.lt_size x)) x
      obtain ⟨F₃, N₃⟩ := next h₃ fun b o hb x => up₃ b o (hk₂ b o hb (hk₁ b o hb x))
      show wpAny _ A (do holding [.str ⟨#[kc]⟩ tc] (assign (.Name xi pk) env (.int i ti)); do holding [] (assign (.Name xc pv) env (.str ⟨#[kc]⟩ tc)); pure ()) _ _ _
      refine wpAny_bind (wpAny_holding (wpAny_assign_Name (wpAny_storeName_local hxi F₃.ns (fun h₄ hn₄ hs₄ => ?_) hcl)))
      replace hs₄ : Heap.SameBut env.locals h₃ h₄ := hs₄
      have F₄ := F₃.set hn₄ hs₄
      refine wpAny_bind (wpAny_holding (wpAny_assign_Name (wpAny_storeName_local hxc F₄.ns (fun h₅ hn₅ hs₅ => wpAny_pure ?_) hcl)))
      replace hs₅ : Heap.SameBut env.locals h₄ h₅ := hs₅
      have F₅ := F₄.set hn₅ hs₅
      have N₅ : News h₀ env.locals h₅ (Led c) := (N₃.set hs₄).set hs₅
      have to5 : ∀ b ∈ [e, it], ∀ o, h₂.get? b = some o → h₅.get? b = some o := fun b hb o q => hs₅.extBut b o (fun z => hLe (z ▸ hb)) (hs₄.extBut b o (fun z => hLe (z ▸ hb)) (up₃ b o q))
      obtain ⟨⟨ol, hen⟩, hsti⟩ := hst₂
      obtain ⟨oe, hen5⟩ : ∃ oe, h₅.get? e = some oe := ⟨_, to5 e (by simp) _ hen⟩
      obtain ⟨oi, hoi⟩ := D.live _ _ hsti
      have hoi5 := to5 it (by simp) _ hoi
      have hst₅ := W.frame _ _ _ ⟨⟨ol, hen⟩, hsti⟩ to5
      have N₆ : ∀ oe, h₅.get? e = some oe → News h₀ env.locals h₅ ((e, oe) :: (it, oi) :: Led c) := fun oe hoe p hp' => by
        rcases List.mem_cons.mp hp' with rfl | hp'
        · exact ⟨hoe, X.eL, X.e0⟩
        · rcases List.mem_cons.mp hp' with rfl | hp'
          · exact ⟨hoi5, X.iL, X.i0⟩
          · exact N₅ p hp'
      have F₆ : Fr h₀ env.locals h₅ (fun z => if z = xc then some (.str ⟨#[kc]⟩ tc) else if z = xi then some (.int i ti) else kstB m' (ps c) z) := by
        rw [kstB_same hk']; exact F₅
      have tn := fun tk' : Nat => turn c i kc ti tc m' h₅ tk' oe oi hkc hlt hP' hn' F₆ (N₆ _ hen5)
      refine wpAny_mono (wpAny_passesOwn hE (tn _)) (fun f s₃ h₆ => ?_) fun _ _ q => q
      have fin : ∀ tk', TurnEnd2 h₀ env.locals e oe it oi Led ps (P (i + 1)) { s with heap := h₅, toks := tk' } s₃ →
          ∃ (h' : Heap) (tk : Nat) (m' : Str → Option Value) (c : σ) (i' : Nat), s₃ = { s with heap := h', toks := tk } ∧ ((∃ ol, IsEnum h' e it i' ol) ∧ St i' h') ∧ Fr h₀ env.locals h' m' ∧ News h₀ env.locals h' (Led c) ∧ (∀ p ∈ Led c, p.1 ≠ e ∧ p.1 ≠ it) ∧ (∀ p ∈ ps c, m' p.1 = some p.2) ∧ P i' c ∧ i' ≤ y.cps.size ∧ y.cps.size + 1 - (i + 1) = y.cps.size + 1 - i' := by
        rintro tk' ⟨c₇, h₇, tk₇, m₇, q, F₇, N₇, hn₇, hk₇, hp₇⟩
        refine ⟨h₇, tk₇, m₇, c₇, i + 1, q, W.frame _ _ _ hst₅ fun b hb o z => ?_, F₇, fun p hp' => N₇ p (.tail _ (.tail _ hp')), hn₇, hk₇, hp₇, hlt, rfl⟩
        have he7 := (N₇ _ (.head _)).1
        have hi7 := (N₇ _ (.tail _ (.head _))).1
        rcases List.mem_cons.mp hb with rfl | hb
        · rw [hen5] at z; cases z; exact he7
        · obtain rfl := List.mem_singleton.mp hb
          rw [hoi5] at z; cases z; exact hi7
      cases f with
      | ret v => exact h₆
      | brk => exact h₆
      | cont => exact ⟨_, by omega, fin _ h₆⟩
      | next => exact ⟨_, by omega, fin _ h₆⟩
    · have hin : i = y.cps.size := by omega
      subst hin
      refine W.done _ _ _ hst' fun h₁ tk₁ hk₁ => wpAny_execs_nil ?_
      obtain ⟨F₁, N₁⟩ := next h₁ hk₁
      exact done c m' h₁ tk₁ hP' (by rw [kstB_same hk']; exact F₁) N₁
  cases ha : y.cps.all (· < 128)
  · exact gen _ (Draws.strWide (A := A.in1) hh it y t) (by have := X.st; simpa [strIterType, ha] using this)
  · exact gen _ (Draws.strAscii (A := A.in1) hh it y t) (by have := X.st; simpa [strIterType, ha] using this)
end
end Mine
end
section
open PySem PySem.W PyProof.Rows PySem.Calls PySem.Spec PyProof.V
set_option maxRecDepth 100000
namespace Mine
/-- the length of the longest common row, as the table has it -/
def lc (e : Nat → Nat → Bool) : Nat → Nat → Int
  | 0, _ => 0
  | _ + 1, 0 => 0
  | i + 1, j + 1 => if e i j = true then lc e i j + 1 else max (lc e (i + 1) j) (lc e i (j + 1))
termination_by i j => (i, j)
theorem lc_0 (e : Nat → Nat → Bool) (j : Nat) : lc e 0 j = 0 := by rw [lc]
theorem lc_z (e : Nat → Nat → Bool) (i : Nat) : lc e i 0 = 0 := by cases i <;> rw [lc]
theorem lc_ss (e : Nat → Nat → Bool) (i j : Nat) : lc e (i + 1) (j + 1) = if e i j = true then lc e i j + 1 else max (lc e (i + 1) j) (lc e i (j + 1)) := by rw [lc]

/-- a table of ints lies in NN: D is the list of its rows -/
def MatIn (news NN : List (Addr × Obj)) (D : Addr) (ad : Nat → Addr) (n c : Nat) (f : Nat → Nat → Int) : Prop :=
  (∀ p ∈ news, p ∈ NN) ∧ (∃ (rows : List Value) (e0 : Nat), (D, listOf rows.toArray e0) ∈ NN ∧ ∀ k, k < n → rows[k]? = some (Value.ref (ad k))) ∧
  (∀ k, k < n → ad k ≠ D ∧ (∀ p ∈ news, p.1 ≠ ad k) ∧ (∀ k', k' < n → k' ≠ k → ad k' ≠ ad k) ∧ ∃ (vs : List Value) (ns : List Int) (ep : Nat), (ad k, listOf vs.toArray ep) ∈ NN ∧ IntsAre vs ns ∧ ns.length = c ∧ ∀ j, j < c → ns.getD j 0 = f k j)
def RowsIn (news NN : List (Addr × Obj)) (ad : Nat → Addr) (n c : Nat) (f : Nat → Nat → Int) : Prop :=
  (∀ p ∈ news, p ∈ NN) ∧
  (∀ k, k < n → (∃ o, (ad k, o) ∈ NN) ∧ (∀ p ∈ news, p.1 ≠ ad k) ∧ (∀ k', k' < n → k' ≠ k → ad k' ≠ ad k) ∧ ∃ (vs : List Value) (ns : List Int) (ep : Nat), (ad k, listOf vs.toArray ep) ∈ NN ∧ IntsAre vs ns ∧ ns.length = c ∧ ∀ j, j < c → ns.getD j 0 = f k j)
theorem RowsIn.add {news NN : List (Addr × Obj)} {ad : Nat → Addr} {n c : Nat} {f : Nat → Nat → Int} (R : RowsIn news NN ad n c f) {D : Addr} {vs : List Value} {ns : List Int} {ep : Nat} (hI : IntsAre vs ns) (hl : ns.length = c) (hv : ∀ j, j < c → ns.getD j 0 = f n j)
    (hD : ∀ p ∈ NN, p.1 ≠ D) : RowsIn news ((D, listOf vs.toArray ep) :: NN) (fun k => if k = n then D else ad k) (n + 1) c f := by
  obtain ⟨h1, h2⟩ := R
  refine ⟨fun p hp => List.mem_cons_of_mem _ (h1 p hp), fun k hk => ?_⟩
  by_cases e : k = n
  · subst e
    simp only [if_true]
    refine ⟨⟨_, List.mem_cons_self ..⟩, fun p hp => hD p (h1 p hp), fun k' hk' hne => ?_, vs, ns, ep, List.mem_cons_self .., hI, hl, hv⟩
    rw [if_neg hne]
    obtain ⟨⟨o, ho⟩, _⟩ := h2 k' (by omega)
    exact hD _ ho
  · simp only [if_neg e]
    obtain ⟨⟨o, ho⟩, a2, a3, vs', ns', ep', hm, a4⟩ := h2 k (by omega)
    refine ⟨⟨o, List.mem_cons_of_mem _ ho⟩, a2, fun k' hk' hne => ?_, vs', ns', ep', List.mem_cons_of_mem _ hm, a4⟩
    by_cases e' : k' = n
    · subst e'; simp only [if_true]; exact fun q => hD _ ho q.symm
    · simp only [if_neg e']; exact a3 k' (by omega) hne
theorem RowsIn.mat {news NN : List (Addr × Obj)} {ad : Nat → Addr} {n c : Nat} {f : Nat → Nat → Int} (R : RowsIn news NN ad n c f) {D : Addr} {rows : List Value} {e0 : Nat} (hr : ∀ k, k < n → rows[k]? = some (Value.ref (ad k))) (hD : ∀ p ∈ NN, p.1 ≠ D) :
    MatIn news ((D, listOf rows.toArray e0) :: NN) D ad n c f := by
  obtain ⟨h1, h2⟩ := R
  refine ⟨fun p hp => List.mem_cons_of_mem _ (h1 p hp), ⟨rows, e0, List.mem_cons_self .., hr⟩, fun k hk => ?_⟩
  obtain ⟨⟨o, ho⟩, a2, a3, vs', ns', ep', hm, a4⟩ := h2 k hk
  exact ⟨hD _ ho, a2, a3, vs', ns', ep', List.mem_cons_of_mem _ hm, a4⟩
/-- the table with one cell set -/
def upd (f : Nat → Nat → Int) (i j : Nat) (x : Int) (a b : Nat) : Int := if a = i ∧ b = j then x else f a b

section
variable {prog : Program} {w : World} {A : Around} {E : Value → Shared → Prop} {s : Shared} {h₀ : Heap} {L D : Addr} {m : Str → Option Value} {news NN led : List (Addr × Obj)} {ad : Nat → Addr} {n c : Nat} {f : Nat → Nat → Int}

theorem mat_row {value slice : PySem.Expr} {k : Int} {t : Tok} {Q : Value → Shared → Prop} (N : News h₀ L s.heap led) (M : MatIn news NN D ad n c f) (hs : ∀ p ∈ NN, p ∈ led) (h0 : 0 ≤ k) (h1 : k < n) (hfit : k < 2 ^ 63)
    (h : Q (.ref (ad k.toNat)) s) (hsub : subscripted slice false (.ref D) (.int k t) = operate [.ref D, .int k t] (getItem (.ref D) (.int k t)) := by with_unfolding_all rfl) :
    wpAny (model prog w) A (subscriptTail value slice (.ref D) (.int k t)) Q E s := by
  obtain ⟨_, ⟨rows, e0, hm, hr⟩, _⟩ := M
  have hl : s.heap.IsList D rows.toArray := PySem.IsL.isList (n := e0) (N _ (hs _ hm)).1
  exact tail_any hl.typeIs slot_list_getitem.lookup (wpAny_getItem_list hl h0 hfit (x := .ref (ad k.toNat)) (by simpa using hr k.toNat (by omega)) h) hsub

theorem mat_get {value slice : PySem.Expr} {i : Nat} {k : Int} {t : Tok} {Q : Value → Shared → Prop} (N : News h₀ L s.heap led) (M : MatIn news NN D ad n c f) (hs : ∀ p ∈ NN, p ∈ led) (hi : i < n) (h0 : 0 ≤ k) (h1 : k < c) (hfit : k < 2 ^ 63)
    (h : ∀ t, Q (.int (f i k.toNat) t) s) (hsub : subscripted slice false (.ref (ad i)) (.int k t) = operate [.ref (ad i), .int k t] (getItem (.ref (ad i)) (.int k t)) := by with_unfolding_all rfl) :
    wpAny (model prog w) A (subscriptTail value slice (.ref (ad i)) (.int k t)) Q E s := by
  obtain ⟨_, _, hk⟩ := M
  obtain ⟨_, _, _, vs, ns, ep, hm, hI, hl, hv⟩ := hk i hi
  refine ksa_sub N (hs _ hm) hI h0 (by omega) hfit (fun t => ?_) hsub
  rw [hv k.toNat (by omega)]
  exact h t

theorem mat_set {pre : List (Addr × Obj)} {i : Nat} {k x : Int} {t u : Tok} {Q : Unit → Shared → Prop} (F : Fr h₀ L s.heap m) (N : News h₀ L s.heap led) (M : MatIn news NN D ad n c f) (hs : ∀ p ∈ NN, p ∈ led) (hp : ∀ p ∈ pre, p ∈ led) (hpd : ∀ p ∈ pre, ∀ k, k < n → p.1 ≠ ad k)
    (hi : i < n) (h0 : 0 ≤ k) (h1 : k < c) (hfit : k < 2 ^ 63)
    (h : ∀ h' NN', Fr h₀ L h' m → News h₀ L h' (pre ++ NN') → MatIn news NN' D ad n c (upd f i k.toNat x) → (∀ p ∈ NN', ∃ q ∈ NN, q.1 = p.1) → Q () { s with heap := h' }) :
    wpAny (model prog w) A (setItem (.ref (ad i)) (.int k t) (.int x u)) Q E s := by
  obtain ⟨hn, ⟨rows, e0, hmD, hrw⟩, hk⟩ := M
  obtain ⟨hD, hnw, hds, vs, ns, ep, hm, hI, hl, hv⟩ := hk i hi
  have z := N _ (hs _ hm)
  have hvl : vs.length = ns.length := hI.length
  refine ki_setAt z.1 h0 hfit (by rw [List.size_toArray]; omega) ?_
  have hsb := Heap.SameBut.update s.heap (ad i) (Obj.mapSeq (·.setIfInBounds k.toNat (.int x u)))
  have hnew := PySem.IsL.update z.1 (·.setIfInBounds k.toNat (.int x u))
  have e1 : vs.toArray.setIfInBounds k.toNat (.int x u) = (vs.set k.toNat (.int x u)).toArray := by
    apply Array.toList_inj.mp
    simp
  have e2 : (if (vs.toArray.setIfInBounds k.toNat (Value.int x u)).size == vs.toArray.size then ep else ep + 1) = ep := by simp
  rw [e2, e1] at hnew
  have hother : ∀ q : Addr, q ≠ ad i → ∀ o, (q, o) ∈ led → (s.heap.update (ad i) (Obj.mapSeq (·.setIfInBounds k.toNat (.int x u)))).get? q = some o ∧ q ≠ L ∧ h₀.get? q = none := fun q hq o ho =>
    ⟨(hsb.2 q hq).trans (N _ ho).1, (N _ ho).2⟩
  let NN' := NN.map fun p => if p.1 = ad i then (ad i, listOf (vs.set k.toNat (.int x u)).toArray ep) else p
  have keepM : ∀ p ∈ NN, p.1 ≠ ad i → p ∈ NN' := fun p hp hne => List.mem_map.mpr ⟨p, hp, by simp [hne]⟩
  refine h _ NN' (F.change hsb z.2.1 z.2.2) (fun p hq => ?_) ⟨fun p hp => keepM p (hn p hp) (hnw p hp), ⟨rows, e0, keepM _ hmD (fun e => hD e.symm), hrw⟩, fun k' hk' => ?_⟩ (fun p hq => ?_)
  · rcases List.mem_append.mp hq with hq | hq
    · exact hother p.1 (hpd p hq i hi) p.2 (hp p hq)
    · obtain ⟨q, hq', e⟩ := List.mem_map.mp hq
      by_cases hqa : q.1 = ad i
      · simp only [hqa, if_true] at e
        subst e
        exact ⟨hnew, z.2⟩
      · simp only [hqa, if_false] at e
        subst e
        exact hother q.1 hqa q.2 (hs _ hq')
  · obtain ⟨a1, a2, a3, vs', ns', ep', hm', hI', hl', hv'⟩ := hk k' hk'
    by_cases e : k' = i
    · subst e
      refine ⟨a1, a2, a3, vs.set k.toNat (.int x u), ns.set k.toNat x, ep, ?_, ints_set hI _, (List.length_set ..).trans hl, fun j hj => ?_⟩
      · exact List.mem_map.mpr ⟨_, hm, by simp⟩
      · rw [getD_set (by omega)]
        unfold upd
        by_cases q : j = k.toNat
        · rw [if_pos q, if_pos ⟨rfl, q⟩]
        · rw [if_neg q, if_neg (fun z => q z.2)]; exact hv j hj
    · refine ⟨a1, a2, a3, vs', ns', ep', keepM _ hm' (hds k' hk' e), hI', hl', fun j hj => ?_⟩
      unfold upd
      rw [if_neg (fun z => e z.1)]; exact hv' j hj
  · obtain ⟨q, hq', e⟩ := List.mem_map.mp hq
    refine ⟨q, hq', ?_⟩
    by_cases hqa : q.1 = ad i
    · simp only [hqa, if_true] at e
      rw [← e]; exact hqa
    · simp only [hqa, if_false] at e
      rw [← e]
end

section
variable {prog : Program} {w : World} {A : Around} {h₀ : Heap} {L : Addr} {m : Str → Option Value} {env : Env} {elt : PySem.Expr} {x : Str} {scope : Scope} {cl : List (Str × Addr)} {s : Shared} {S : List (Addr × Obj) → Prop} {P : Nat → Value → Prop} {Fin : List Value → List (Addr × Obj) → Prop}
/-- a comprehension whose ledger and values follow an invariant -/
theorem comp_rest {σ : Type} {n : Nat} (Led : σ → List (Addr × Obj)) (Inv : Nat → List Value → σ → Prop) (c₀ : σ) (h0 : Inv 0 [] c₀)
    (turn : ∀ (i : Nat) (ys : List Value) (c : σ) v I oI C oC D m₂ h tk (E' : Value → Shared → Prop), i < n → P i v → Inv i ys c → LCg.NsObj oC m₂ → m₂ x = some v → Fr h₀ L h m → News h₀ L h ((I, oI) :: (C, oC) :: (D, LCg.lst ys) :: Led c) → LCg.Off3 I C D (Led c) → ((@Ne Nat I C) ∧ (@Ne Nat I D) ∧ (@Ne Nat C D)) →
      wpAny (model prog w) A (eval elt (compEnvC scope cl C env)) (LCg.CompEnd h₀ L m { s with heap := h, toks := tk } I oI C oC D (LCg.lst ys) S (fun y news' => ∃ c', news' = Led c' ∧ Inv (i + 1) (ys ++ [y]) c')) E' { s with heap := h, toks := tk })
    (fin : ∀ ys c, Inv n ys c → Fin ys (Led c)) : LCg.CompRest prog w A h₀ L m env elt x scope cl s S P Fin n 0 [] (Led c₀) := by
  have key : ∀ (j i : Nat) (ys : List Value) (c : σ), i + j = n → Inv i ys c → LCg.CompRest prog w A h₀ L m env elt x scope cl s S P Fin j i ys (Led c) := by
    intro j
    induction j with
    | zero =>
      intro i ys c hi hy
      have e : i = n := by omega
      subst e
      exact LCg.CompRest.zero (fin ys c hy)
    | succ j ih =>
      intro i ys c hi hy
      refine LCg.CompRest.succ ?_
      intro v I oI C oC D m₂ h tk E' hv hC hx F N off ne
      refine wpAny_mono (turn i ys c v I oI C oC D m₂ h tk E' (by omega) hv hy hC hx F N off ne) (fun y s₂ hq => ?_) fun _ _ e => e
      obtain ⟨h', tk', nw, e, F', N', off', hS, c', hn, hI⟩ := hq
      subst hn
      exact ⟨h', tk', Led c', e, F', N', off', hS, ih (i + 1) _ c' (by omega) hI⟩
  exact key n 0 [] c₀ (by omega) h0
end
theorem off1_mem {D : Addr} : ∀ {l : List (Addr × Obj)}, LCg.Off1 D l → ∀ p ∈ l, p.1 ≠ D
  | [], _, _, h => nomatch h
  | _ :: _, x, p, h => by
    rcases List.mem_cons.mp h with rfl | h
    · exact x.1
    · exact off1_mem x.2 p h
section
variable {prog : Program} {w : World} {A : Around} {E : Value → Shared → Prop} {s : Shared} {env : Env} {h₀ : Heap} {L : Addr} {Q : Flow → Shared → Prop}
def WEnd {σ : Type} (h₀ : Heap) (L : Addr) (Led : σ → List (Addr × Obj)) (ps : σ → List (Str × Value)) (P : σ → Prop) (μ : σ → Nat) (c : σ) (s₁ s₂ : Shared) : Prop :=
  ∃ c' h' tk m', s₂ = { s₁ with heap := h', toks := tk } ∧ Fr h₀ L h' m' ∧ News h₀ L h' (Led c') ∧ (∀ p ∈ ps c', m' p.1 = some p.2) ∧ P c' ∧ μ c' < μ c
def WPost {σ : Type} (h₀ : Heap) (L : Addr) (Led : σ → List (Addr × Obj)) (ps : σ → List (Str × Value)) (P : σ → Prop) (μ : σ → Nat) (c : σ) (s₁ : Shared) (Q : Flow → Shared → Prop) (f : Flow) (s₂ : Shared) : Prop :=
  match f with
  | .ret v => Q (.ret v) s₂
  | .brk => Q .next s₂
  | _ => WEnd h₀ L Led ps P μ c s₁ s₂
theorem WEnd.intro {σ : Type} {Led : σ → List (Addr × Obj)} {ps : σ → List (Str × Value)} {P : σ → Prop} {μ : σ → Nat} {c : σ} {s₁ : Shared} {h' : Heap} {tk : Nat} {m' : Str → Option Value} {news' : List (Addr × Obj)} (c' : σ)
    (F : Fr h₀ L h' m') (N : News h₀ L h' news') (hs : ∀ p ∈ Led c', p ∈ news') (hk : ∀ p ∈ ps c', m' p.1 = some p.2) (hp : P c') (hm : μ c' < μ c) :
    WEnd h₀ L Led ps P μ c s₁ { s₁ with heap := h', toks := tk } := ⟨c', h', tk, m', rfl, F, fun p hp => N p (hs p hp), hk, hp, hm⟩
theorem while_any {σ : Type} {test : PySem.Expr} {body : List Stmt} {pos : Pos} {m₀ : Str → Option Value} (Led : σ → List (Addr × Obj)) (ps : σ → List (Str × Value)) (P : σ → Prop) (μ : σ → Nat) (c₀ : σ)
    (F : Fr h₀ L s.heap m₀) (N : News h₀ L s.heap (Led c₀)) (hk : ∀ p ∈ ps c₀, m₀ p.1 = some p.2) (hp : P c₀) (hE : PassesOwn (model prog w) A env E)
    (turn : ∀ (c : σ) (u : Str → Option Value) h tk, P c → Fr h₀ L h (kstB u (ps c)) → News h₀ L h (Led c) →
      wpAny (model prog w) A (isTrue test env (eval test env)) (fun b s₂ =>
        if b = true then wpAny (model prog w) A (execs body env) (WPost h₀ L Led ps P μ c { s with heap := h, toks := tk } Q) E s₂ else Q .next s₂) E { s with heap := h, toks := tk }) :
    wpAny (model prog w) A (exec (.While test body [] pos) env) Q E s := by
  refine While_inv2 (fun n m nx => ∃ c : σ, nx = Led c ∧ μ c = n ∧ (∀ p ∈ ps c, m p.1 = some p.2) ∧ P c) F N ⟨c₀, rfl, rfl, hk, hp⟩ ?_ hE
  rintro n m₁ nx h tk F₁ N₁ ⟨c, hnx, hsz, h1, hp'⟩
  rw [hnx] at N₁
  rw [← hsz]
  have F₂ : Fr h₀ L h (kstB m₁ (ps c)) := by rw [kstB_same h1]; exact F₁
  refine wpAny_mono (turn c m₁ h tk hp' F₂ N₁) (fun b s₂ p => ?_) fun _ _ x => x
  cases b with
  | false => simpa using p
  | true =>
    simp only [if_true] at p ⊢
    refine wpAny_mono p (fun f s₃ q => ?_) fun _ _ x => x
    cases f with
    | ret v => exact q
    | brk => exact q
    | next =>
      obtain ⟨c', h', tk', m', rfl, F', N', hk9, hp9, hm9⟩ := q
      exact ⟨h', tk', m', Led c', μ c', rfl, F', N', hm9, c', rfl, rfl, hk9, hp9⟩
    | cont =>
      obtain ⟨c', h', tk', m', rfl, F', N', hk9, hp9, hm9⟩ := q
      exact ⟨h', tk', m', Led c', μ c', rfl, F', N', hm9, c', rfl, rfl, hk9, hp9⟩
end

/-- the table filled up to row i + 1, column j -/
def LT (e : Nat → Nat → Bool) (n m i j : Nat) (f : Nat → Nat → Int) : Prop := ∀ a b, a ≤ n → b ≤ m → f a b = if a ≤ i ∨ (a = i + 1 ∧ b ≤ j) then lc e a b else 0
theorem LT.zero (e : Nat → Nat → Bool) (n m : Nat) : LT e n m 0 0 (fun _ _ => 0) := fun a b _ _ => by
  by_cases h : a ≤ 0 ∨ (a = 0 + 1 ∧ b ≤ 0)
  · rw [if_pos h]
    rcases h with h | ⟨_, h⟩
    · obtain rfl : a = 0 := by omega
      rw [lc_0]
    · obtain rfl : b = 0 := by omega
      rw [lc_z]
  · rw [if_neg h]
theorem LT.put {e : Nat → Nat → Bool} {n m i j : Nat} {f : Nat → Nat → Int} (h : LT e n m i j f) {v : Int} (hv : v = lc e (i + 1) (j + 1)) : LT e n m i (j + 1) (upd f (i + 1) (j + 1) v) := fun a b ha hb => by
  unfold upd
  by_cases q : a = i + 1 ∧ b = j + 1
  · rw [if_pos q, if_pos (by omega), q.1, q.2, hv]
  · rw [if_neg q, h a b ha hb]
    by_cases q2 : a ≤ i ∨ (a = i + 1 ∧ b ≤ j)
    · rw [if_pos q2, if_pos (by omega)]
    · rw [if_neg q2, if_neg (by omega)]
theorem LT.row {e : Nat → Nat → Bool} {n m i : Nat} {f : Nat → Nat → Int} (h : LT e n m i m f) : LT e n m (i + 1) 0 f := fun a b ha hb => by
  rw [h a b ha hb]
  by_cases q2 : a ≤ i ∨ (a = i + 1 ∧ b ≤ m)
  · rw [if_pos q2, if_pos (by omega)]
  · rw [if_neg q2]
    by_cases q : a ≤ i + 1 ∨ (a = i + 1 + 1 ∧ b ≤ 0)
    · rw [if_pos q]
      obtain rfl : b = 0 := by omega
      rw [lc_z]
    · rw [if_neg q]
theorem LT.here {e : Nat → Nat → Bool} {n m i j : Nat} {f : Nat → Nat → Int} (h : LT e n m i j f) {a b : Nat} (ha : a ≤ n) (hb : b ≤ m) (q : a ≤ i ∨ (a = i + 1 ∧ b ≤ j)) : f a b = lc e a b := by
  rw [h a b ha hb, if_pos q]
theorem mat_mem {news NN : List (Addr × Obj)} {D : Addr} {ad : Nat → Addr} {n c : Nat} {f : Nat → Nat → Int} (M : MatIn news NN D ad n c f) {k : Nat} (hk : k < n) : ∃ o, (ad k, o) ∈ NN :=
  let ⟨_, _, _, vs, ns, ep, hm, _⟩ := M.2.2 k hk
  ⟨_, hm⟩
theorem mat_four {news NN : List (Addr × Obj)} {D : Addr} {ad : Nat → Addr} {n c : Nat} {f : Nat → Nat → Int} (M : MatIn news NN D ad n c f) {e1 i1 e2 i2 : Addr} {o1 o2 o3 o4 : Obj} (h1 : ∀ p ∈ NN, p.1 ≠ e1 ∧ p.1 ≠ i1) (h2 : ∀ p ∈ NN, p.1 ≠ e2 ∧ p.1 ≠ i2) :
    ∀ p ∈ [(e2, o1), (i2, o2), (e1, o3), (i1, o4)], ∀ k, k < n → p.1 ≠ ad k := by
  intro p hp k hk
  obtain ⟨o, ho⟩ := mat_mem M hk
  have a := h1 _ ho
  have b := h2 _ ho
  simp only [List.mem_cons, List.not_mem_nil, or_false] at hp
  rcases hp with rfl | rfl | rfl | rfl
  · exact fun e => b.1 e.symm
  · exact fun e => b.2 e.symm
  · exact fun e => a.1 e.symm
  · exact fun e => a.2 e.symm
theorem mat_eq {news NN : List (Addr × Obj)} {D : Addr} {ad : Nat → Addr} {n c : Nat} {f : Nat → Nat → Int} {a b a' b' : Nat} {v v' : Int} (M : MatIn news NN D ad n c (upd f a b v)) (h1 : a = a') (h2 : b = b') (h3 : v = v') : MatIn news NN D ad n c (upd f a' b' v') := by
  subst h1 h2 h3; exact M
end Mine
end
section
open PySem PySem.W PyProof.Rows PySem.Calls PySem.Spec PyProof.V
set_option maxRecDepth 100000
namespace Mine
abbrev key2 (a b : Int) : PyData := encTuple PyData.int [a, b]

section
variable {prog : Program} {w : World} {A : Around} {E : Value → Shared → Prop} {s : Shared} {h₀ : Heap} {L d k : Addr} {m : Str → Option Value} {c led : List (Addr × Obj)} {D : List (PyData × PyData)} {a b : Int} {ta tb : Tok}

theorem tt_mono (T : TupTab (intKind prog w) PyData.int c d D) (hs : ∀ p ∈ c, p ∈ led) : TupTab (intKind prog w) PyData.int led d D :=
  let ⟨lo, o, es, ep, xs, hm, hc, hd, he, hn, hk, hf⟩ := T
  ⟨lo, o, es, ep, xs, hs _ hm, hc, hd, he, hn, fun x hx => let ⟨ox, hmk, t⟩ := hk x hx; ⟨ox, hs _ hmk, t⟩, hf⟩

theorem tt_mem (T : TupTab (intKind prog w) PyData.int c d D) : ∃ o, (d, o) ∈ c := let ⟨_, o, _, _, _, hm, _⟩ := T; ⟨o, hm⟩
theorem tt_key : TupKeyObj (intKind prog w) [a, b] ({ cls := .type "tuple", data := .seq #[.int a ta, .int b tb] } : Obj) :=
  TupKeyObj.made (vs := [.int a ta, .int b tb]) (ItemsAre.cons (intKind_is _ _ _ _) (ItemsAre.cons (intKind_is _ _ _ _) ItemsAre.nil))

theorem tt_get {value slice : PySem.Expr} {v : Int} {Q : Value → Shared → Prop} (hu : A.units + 1 < cLine) (N : News h₀ L s.heap led) (T : TupTab (intKind prog w) PyData.int c d D) (hs : ∀ p ∈ c, p ∈ led)
    (hk : (k, ({ cls := .type "tuple", data := .seq #[.int a ta, .int b tb] } : Obj)) ∈ led) (hl : lookup (key2 a b) D = some (.int v)) (h : ∀ t tk, Q (.int v t) { s with toks := tk })
    (hsub : subscripted slice false (.ref d) (.ref k) = operate [.ref d, .ref k] (getItem (.ref d) (.ref k)) := by with_unfolding_all rfl) (hg : ∀ r, letTemporaryGo value (.ref d) r = pure () := by intro _; with_unfolding_all rfl) :
    wpAny (model prog w) A (subscriptTail value slice (.ref d) (.ref k)) Q E s := by
  refine item_tupTab (knd := intKind prog w) (enc := PyData.int) same_int hu N (tt_mono T hs) hk tt_key hl (fun v' hv => ?_) hsub hg
  obtain ⟨t, rfl⟩ := hv.int_inv
  exact h t _

theorem tt_set {pre : List (Addr × Obj)} {v : Int} {t : Tok} {Q : Unit → Shared → Prop} (hu : A.units + 1 < cLine) (F : Fr h₀ L s.heap m) (N : News h₀ L s.heap led) (T : TupTab (intKind prog w) PyData.int c d D)
    (hk : (k, ({ cls := .type "tuple", data := .seq #[.int a ta, .int b tb] } : Obj)) ∈ led) (hs : ∀ p ∈ c, p ∈ led) (hp : ∀ p ∈ pre, p ∈ led) (hpd : ∀ p ∈ pre, p.1 ≠ d) (hsz : D.length ≤ 1000)
    (h : ∀ h' c' tk, Fr h₀ L h' m → News h₀ L h' (pre ++ c') → TupTab (intKind prog w) PyData.int c' d (putD (key2 a b) (.int v) D) → (∀ p ∈ c, p.1 ≠ d → p ∈ c') → (∀ p ∈ c', p.1 = k ∨ ∃ q ∈ c, q.1 = p.1) → Q () { s with heap := h', toks := tk }) :
    wpAny (model prog w) A (setItem (.ref d) (.ref k) (.int v t)) Q E s := by
  obtain ⟨lo, o, es, ep, xs, hm, hc, hd, he, hn, hkk, hf⟩ := T
  have hmL := hs _ hm
  have hD : s.heap.DictOfH (tupleKind (intKind prog w)) d xs := ⟨o, es, ep, N.get hmL, hc, hd, he, fun x hx => let ⟨_, hmk, t⟩ := hkk x hx; t.key (N.get (hs _ hmk)), hn⟩
  have hne : ∀ {q : Addr} {oq : Obj} {ks' : List Int}, (q, oq) ∈ led → TupKeyObj (intKind prog w) ks' oq → q ≠ d := by
    intro q oq ks' hq t e
    subst e
    obtain rfl : oq = o := Option.some.inj ((N.get hq).symm.trans (N.get hmL))
    have h1 := t.1
    rw [hc.1] at h1
    injection h1 with h2
    exact absurd h2 (by decide)
  have hxs : xs.length ≤ sizeLine := by
    have e := hf.length
    simp only [kvsOf, List.length_map] at e
    rw [sizeLine_eq]; omega
  refine wpAny_setItem_heap (hsz := hxs) (knd := tupleKind (intKind prog w)) (tupleKind_room_in1 hu) (tt_key.key (N.get hk)) hD fun h' hm' hsb => ?_
  obtain ⟨o', es', ep', ho', hc', hd', he', _, hn'⟩ := hm'
  have stays : ∀ p ∈ led, p.1 ≠ d → h'.get? p.1 = some p.2 ∧ p.1 ≠ L ∧ h₀.get? p.1 = none := fun p hq hpd' => ⟨(hsb.2 p.1 hpd').trans (N p hq).1, (N p hq).2.1, (N p hq).2.2⟩
  have hkd : k ≠ d := hne hk tt_key
  have memc : ∀ p ∈ c, p.1 ≠ d → p ∈ (k, ({ cls := .type "tuple", data := .seq #[.int a ta, .int b tb] } : Obj)) :: c.map fun p => if p.1 = d then (d, o') else p :=
    fun p hp hpd => List.mem_cons_of_mem _ (List.mem_map.mpr ⟨p, hp, by simp [hpd]⟩)
  refine h h' ((k, { cls := .type "tuple", data := .seq #[.int a ta, .int b tb] }) :: c.map fun p => if p.1 = d then (d, o') else p) _ (F.change hsb (N _ hmL).2.1 (N.fresh hmL)) (fun p hq => ?_) ?_ memc (fun p hq => ?_)
  · rcases List.mem_append.mp hq with hq | hq
    · exact stays p (hp p hq) (hpd p hq)
    · rcases List.mem_cons.mp hq with rfl | hq
      · exact stays _ hk hkd
      · obtain ⟨q, hq1, rfl⟩ := List.mem_map.mp hq
        by_cases e : q.1 = d
        · simp only [e, if_true]
          exact ⟨ho', (N _ hmL).2.1, (N _ hmL).2.2⟩
        · simp only [e, if_false]
          exact stays q (hs q hq1) e
  · refine ⟨lo, o', es', ep', storedH xs [a, b] k (.int v t), List.mem_cons_of_mem _ (List.mem_map.mpr ⟨(d, o), hm, by simp⟩), hc', hd', he', hn', fun x hx => ?_, by rw [kvsOf_storedH]; exact hf.stored (same_encTuple same_int) [a, b] (Flat.int v t)⟩
    rcases mem_storedH hx with ⟨y, hy, e1, e2⟩ | ⟨e1, e2⟩
    · obtain ⟨oky, hmk, tk'⟩ := hkk y hy
      exact ⟨oky, by rw [e2]; exact memc _ hmk (hne (hs _ hmk) tk'), by rw [e1]; exact tk'⟩
    · exact ⟨_, by rw [e2]; exact List.mem_cons_self .., by rw [e1]; exact tt_key⟩
  · rcases List.mem_cons.mp hq with rfl | hq
    · exact .inl rfl
    · obtain ⟨q, hq1, rfl⟩ := List.mem_map.mp hq
      refine .inr ⟨q, hq1, ?_⟩
      by_cases e : q.1 = d
      · simp [e]
      · simp [e]
end
theorem look_put (a b a' b' : Int) (v : Int) (D : List (PyData × PyData)) : lookup (key2 a b) (putD (key2 a' b') (.int v) D) = if a = a' ∧ b = b' then some (.int v) else lookup (key2 a b) D := by
  rw [lookup_putK (keyEnc_tuple keyEnc_int)]
  by_cases h : a = a' ∧ b = b'
  · rw [if_pos h, if_pos (by rw [h.1, h.2])]
  · rw [if_neg h, if_neg (fun e => h (by simpa using e))]
theorem len_put (a b : Int) (v : PyData) (D : List (PyData × PyData)) : (putD (key2 a b) v D).length ≤ D.length + 1 := by
  rw [length_putD]; split <;> omega

theorem item_at {x : Str} {i k : Nat} (h : x.cps[i]? = some k) : Txt.item x (i : Int) = ⟨#[k]⟩ := by
  have hi : i < x.length := by
    have := Array.getElem?_eq_some_iff.mp h
    exact this.1
  have e : seqIndex? (i : Int) x.length = some i := by
    unfold seqIndex?
    simp
    omega
  unfold Txt.item Txt.charAt
  rw [e]
  simp [h]

/-- the restricted Damerau distance as the code reckons it; the indices are one greater than the code's -/
def os (e : Nat → Nat → Bool) : Nat → Nat → Int
  | 0, b => b
  | a + 1, 0 => a + 1
  | a + 1, b + 1 =>
    let c : Int := if (!e a b) = true then 1 else 0
    let v := min (min (os e a (b + 1) + 1) (os e (a + 1) b + 1)) (os e a b + c)
    match a, b with
    | a' + 1, b' + 1 => if e (a' + 1) b' = true ∧ e a' (b' + 1) = true then min v (os e a' b' + c) else v
    | _, _ => v
termination_by a b => (a, b)
def osc (e : Nat → Nat → Bool) (a b : Nat) : Int := if (!e a b) = true then 1 else 0
def osv (e : Nat → Nat → Bool) (a b : Nat) : Int := min (min (os e a (b + 1) + 1) (os e (a + 1) b + 1)) (os e a b + osc e a b)
theorem os_0 (e : Nat → Nat → Bool) (b : Nat) : os e 0 b = b := by rw [os]
theorem os_s0 (e : Nat → Nat → Bool) (a : Nat) : os e (a + 1) 0 = a + 1 := by rw [os]
theorem os_a0 (e : Nat → Nat → Bool) (a : Nat) : os e a 0 = a := by cases a with | zero => rw [os] | succ a => rw [os]; omega
theorem os_1 (e : Nat → Nat → Bool) (b : Nat) : os e 1 (b + 1) = osv e 0 b := by
  rw [os]
  · rfl
  · intro _ _ h _; cases h
theorem os_2 (e : Nat → Nat → Bool) (a : Nat) : os e (a + 1) 1 = osv e a 0 := by
  rw [os]
  · cases a <;> rfl
  · intro _ _ _ h; cases h
theorem os_3 (e : Nat → Nat → Bool) (a b : Nat) : os e (a + 2) (b + 2) = if e (a + 1) b = true ∧ e a (b + 1) = true then min (osv e (a + 1) (b + 1)) (os e a b + osc e (a + 1) (b + 1)) else osv e (a + 1) (b + 1) := by
  rw [os]; rfl

theorem os_eq (e : Nat → Nat → Bool) (i j : Nat) : os e (i + 1) (j + 1) = if 1 ≤ i ∧ 1 ≤ j ∧ e i (j - 1) = true ∧ e (i - 1) j = true then min (osv e i j) (os e (i - 1) (j - 1) + osc e i j) else osv e i j := by
  cases i with
  | zero => rw [os_1, if_neg (by omega)]
  | succ i =>
    cases j with
    | zero => rw [os_2, if_neg (by omega)]
    | succ j =>
      rw [os_3]
      simp only [Nat.add_sub_cancel]
      by_cases h : e (i + 1) j = true ∧ e i (j + 1) = true
      · rw [if_pos h, if_pos ⟨by omega, by omega, h⟩]
      · rw [if_neg h, if_neg (fun q => h q.2.2)]

def T1 (i : Nat) (D : List (PyData × PyData)) : Prop := ∀ a : Nat, a < i → lookup (key2 ((a : Int) - 1) (-1)) D = some (.int a)
def T2 (j : Nat) (D : List (PyData × PyData)) : Prop := ∀ b : Nat, b < j → lookup (key2 (-1) ((b : Int) - 1)) D = some (.int b)
theorem t1_put {i : Nat} {D : List (PyData × PyData)} (h : T1 i D) {k : Int} (hk : k = -1 + (i : Int)) : T1 (i + 1) (putD (key2 k (-1)) (.int (k + 1)) D) := by
  intro a ha
  rw [look_put]
  by_cases q : a = i
  · rw [if_pos ⟨by omega, rfl⟩]
    have : k + 1 = (a : Int) := by omega
    rw [this]
  · rw [if_neg (by omega)]
    exact h a (by omega)
theorem t2_put {n j : Nat} {D : List (PyData × PyData)} (h1 : T1 n D) (h2 : T2 j D) {k : Int} (hk : k = -1 + (j : Int)) : T1 n (putD (key2 (-1) k) (.int (k + 1)) D) ∧ T2 (j + 1) (putD (key2 (-1) k) (.int (k + 1)) D) := by
  constructor
  · intro a ha
    rw [look_put]
    by_cases q : (a : Int) - 1 = -1 ∧ (-1 : Int) = k
    · rw [if_pos q]
      have : k + 1 = (a : Int) := by omega
      rw [this]
    · rw [if_neg q]
      exact h1 a ha
  · intro b hb
    rw [look_put]
    by_cases q : b = j
    · rw [if_pos ⟨rfl, by omega⟩]
      have : k + 1 = (b : Int) := by omega
      rw [this]
    · rw [if_neg (by omega)]
      exact h2 b (by omega)

def T3 (e : Nat → Nat → Bool) (n m i j : Nat) (D : List (PyData × PyData)) : Prop :=
  ∀ a b : Nat, ((b = 0 ∧ a ≤ n + 1) ∨ (a = 0 ∧ b ≤ m + 1) ∨ (1 ≤ a ∧ a ≤ i ∧ 1 ≤ b ∧ b ≤ m) ∨ (a = i + 1 ∧ 1 ≤ b ∧ b ≤ j)) → lookup (key2 ((a : Int) - 1) ((b : Int) - 1)) D = some (.int (os e a b))
theorem t3_start {e : Nat → Nat → Bool} {n m : Nat} {D : List (PyData × PyData)} (h1 : T1 (n + 2) D) (h2 : T2 (m + 2) D) : T3 e n m 0 0 D := by
  intro a b h
  rcases h with ⟨rfl, h⟩ | ⟨rfl, h⟩ | h | h
  · rw [os_a0]; exact h1 a (by omega)
  · rw [os_0]; exact h2 b (by omega)
  · omega
  · omega
theorem t3_row {e : Nat → Nat → Bool} {n m i : Nat} {D : List (PyData × PyData)} (h : T3 e n m i m D) : T3 e n m (i + 1) 0 D := by
  intro a b q
  exact h a b (by omega)
theorem t3_step {e : Nat → Nat → Bool} {n m i j : Nat} {D D' : List (PyData × PyData)} (h : T3 e n m i j D) (hi : i < n) (hj : j < m) (h1 : ∀ a b : Int, ¬ (a = (i : Int) ∧ b = (j : Int)) → lookup (key2 a b) D' = lookup (key2 a b) D)
    (h2 : lookup (key2 (i : Int) (j : Int)) D' = some (.int (os e (i + 1) (j + 1)))) : T3 e n m i (j + 1) D' := by
  intro a b q
  by_cases q2 : a = i + 1 ∧ b = j + 1
  · obtain ⟨rfl, rfl⟩ := q2
    have e1 : ((i + 1 : Nat) : Int) - 1 = i := by omega
    have e2 : ((j + 1 : Nat) : Int) - 1 = j := by omega
    rw [e1, e2]; exact h2
  · rw [h1 _ _ (by omega)]
    exact h a b (by omega)
theorem t3_get1 {e : Nat → Nat → Bool} {n m i j : Nat} {D : List (PyData × PyData)} (h : T3 e n m i j D) (_hi : i < n) (hj : j < m) : lookup (key2 ((i : Int) - 1) (j : Int)) D = some (.int (os e i (j + 1))) := by
  have := h i (j + 1) (by omega)
  have e2 : ((j + 1 : Nat) : Int) - 1 = j := by omega
  rw [e2] at this; exact this
theorem t3_get2 {e : Nat → Nat → Bool} {n m i j : Nat} {D : List (PyData × PyData)} (h : T3 e n m i j D) (hi : i < n) (_hj : j < m) : lookup (key2 (i : Int) ((j : Int) - 1)) D = some (.int (os e (i + 1) j)) := by
  have := h (i + 1) j (by omega)
  have e2 : ((i + 1 : Nat) : Int) - 1 = i := by omega
  rw [e2] at this; exact this
theorem t3_get3 {e : Nat → Nat → Bool} {n m i j : Nat} {D : List (PyData × PyData)} (h : T3 e n m i j D) (_hi : i < n) (hj : j < m) : lookup (key2 ((i : Int) - 1) ((j : Int) - 1)) D = some (.int (os e i j)) := h i j (by omega)
theorem t3_get4 {e : Nat → Nat → Bool} {n m i j : Nat} {D : List (PyData × PyData)} (h : T3 e n m i j D) (hi : i < n) (hj : j < m) (h1 : 1 ≤ i) (h2 : 1 ≤ j) : lookup (key2 ((i : Int) - 2) ((j : Int) - 2)) D = some (.int (os e (i - 1) (j - 1))) := by
  have := h (i - 1) (j - 1) (by omega)
  have e1 : ((i - 1 : Nat) : Int) - 1 = (i : Int) - 2 := by omega
  have e2 : ((j - 1 : Nat) : Int) - 1 = (j : Int) - 2 := by omega
  rw [e1, e2] at this; exact this
theorem t3_last {e : Nat → Nat → Bool} {n m : Nat} {D : List (PyData × PyData)} (h : T3 e n m n 0 D) (hn : 1 ≤ n) (hm : 1 ≤ m) : lookup (key2 ((n : Int) - 1) ((m : Int) - 1)) D = some (.int (os e n m)) := h n m (by omega)

theorem os_no {x y : Str} {i j k k2 : Nat} (hic : Txt.item x (i : Int) = ⟨#[k]⟩) (hjc : Txt.item y (j : Int) = ⟨#[k2]⟩)
    (h : 1 ≤ i → 1 ≤ j → (⟨#[k]⟩ : Str) = Txt.item y ((j : Int) - 1) → Txt.item x ((i : Int) - 1) = ⟨#[k2]⟩ → False) : os (eqAt x y) (i + 1) (j + 1) = osv (eqAt x y) i j := by
  rw [os_eq, if_neg]
  rintro ⟨h1, h2, h3, h4⟩
  have e1 : ((j - 1 : Nat) : Int) = (j : Int) - 1 := by omega
  have e2 : ((i - 1 : Nat) : Int) = (i : Int) - 1 := by omega
  unfold eqAt at h3 h4
  rw [e1, hic] at h3
  rw [e2, hjc] at h4
  exact h h1 h2 (by simpa using h3) (by simpa using h4)
theorem os_yes {x y : Str} {i j k k2 : Nat} (hic : Txt.item x (i : Int) = ⟨#[k]⟩) (hjc : Txt.item y (j : Int) = ⟨#[k2]⟩) (h1 : 1 ≤ i) (h2 : 1 ≤ j)
    (h3 : (⟨#[k]⟩ : Str) = Txt.item y ((j : Int) - 1)) (h4 : Txt.item x ((i : Int) - 1) = ⟨#[k2]⟩) :
    os (eqAt x y) (i + 1) (j + 1) = if os (eqAt x y) (i - 1) (j - 1) + (if (!decide (({ cps := #[k] } : Str) = { cps := #[k2] })) = true then 1 else 0) < osv (eqAt x y) i j then os (eqAt x y) (i - 1) (j - 1) + (if (!decide (({ cps := #[k] } : Str) = { cps := #[k2] })) = true then 1 else 0) else osv (eqAt x y) i j := by
  have e1 : ((j - 1 : Nat) : Int) = (j : Int) - 1 := by omega
  have e2 : ((i - 1 : Nat) : Int) = (i : Int) - 1 := by omega
  have ec : osc (eqAt x y) i j = if (!decide (({ cps := #[k] } : Str) = { cps := #[k2] })) = true then 1 else 0 := by unfold osc eqAt; rw [hic, hjc]
  rw [os_eq, if_pos, ec]
  · split <;> omega
  · refine ⟨h1, h2, ?_, ?_⟩
    · unfold eqAt; rw [e1, hic]; simpa using h3
    · unfold eqAt; rw [e2, hjc]; simpa using h4
end Mine
end
section
open PySem PySem.W PyProof.Rows PySem.Calls PySem.Spec PyProof.V
namespace Mine
theorem or_xor_and : ∀ a b : Nat, (a ||| b) = (a ^^^ b) + (a &&& b) := by
  intro a
  induction a using Nat.strongRecOn with
  | ind a ih =>
    intro b
    by_cases ha : a = 0
    · subst ha; simp
    · have h := ih (a / 2) (by omega) (b / 2)
      have e1 : (a ||| b) / 2 = a / 2 ||| b / 2 := Nat.or_div_two
      have e2 : (a ^^^ b) / 2 = a / 2 ^^^ b / 2 := Nat.xor_div_two
      have e3 : (a &&& b) / 2 = a / 2 &&& b / 2 := Nat.and_div_two
      have f1 : (a ||| b) % 2 = if a % 2 = 1 ∨ b % 2 = 1 then 1 else 0 := by
        have := @Nat.or_mod_two_eq_one a b
        split
        · next q => exact this.mpr q
        · next q => have := mt this.mp q; omega
      have f2 : (a ^^^ b) % 2 = if (a % 2 = 1 ∧ b % 2 ≠ 1) ∨ (a % 2 ≠ 1 ∧ b % 2 = 1) then 1 else 0 := by
        have h0 := @Nat.xor_mod_two_eq_one a b
        by_cases q : (a % 2 = 1 ↔ b % 2 = 1)
        · have h1 := mt h0.mp (not_not_intro q)
          rw [if_neg (fun z => z.elim (fun p => p.2 (q.mp p.1)) (fun p => p.1 (q.mpr p.2)))]
          omega
        · have h1 := h0.mpr q
          rw [if_pos (by
            by_cases p : a % 2 = 1
            · exact .inl ⟨p, fun y => q ⟨fun _ => y, fun _ => p⟩⟩
            · by_cases r : b % 2 = 1
              · exact .inr ⟨p, r⟩
              · exact absurd ⟨fun z => absurd z p, fun z => absurd z r⟩ q)]
          exact h1
      have f3 : (a &&& b) % 2 = if a % 2 = 1 ∧ b % 2 = 1 then 1 else 0 := by
        have := @Nat.and_mod_two_eq_one a b
        split
        · next q => exact this.mpr q
        · next q => have := mt this.mp q; omega
      rw [← e1, ← e2, ← e3] at h
      have m1 := Nat.div_add_mod (a ||| b) 2
      have m2 := Nat.div_add_mod (a ^^^ b) 2
      have m3 := Nat.div_add_mod (a &&& b) 2
      split at f1 <;> split at f2 <;> split at f3 <;> omega
theorem b_and (a b : Nat) : Builtin.bitAnd (a : Int) (b : Int) = ((a &&& b : Nat) : Int) := by
  rw [bitAnd_pp (Int.natCast_nonneg a) (Int.natCast_nonneg b)]; rfl
theorem b_or (a b : Nat) : Builtin.bitOr (a : Int) (b : Int) = ((a ||| b : Nat) : Int) := by
  rw [bitOr_and, b_and]
  have h1 := or_xor_and a b
  have h2 : a + b = (a ||| b) + (a &&& b) := by
    have : ∀ a b : Nat, a + b = (a ||| b) + (a &&& b) := by
      intro a
      induction a using Nat.strongRecOn with
      | ind a ih =>
        intro b
        by_cases ha : a = 0
        · subst ha; simp
        · have h := ih (a / 2) (by omega) (b / 2)
          have e1 : (a ||| b) / 2 = a / 2 ||| b / 2 := Nat.or_div_two
          have e3 : (a &&& b) / 2 = a / 2 &&& b / 2 := Nat.and_div_two
          have f1 : (a ||| b) % 2 = if a % 2 = 1 ∨ b % 2 = 1 then 1 else 0 := by
            have := @Nat.or_mod_two_eq_one a b
            split
            · next q => exact this.mpr q
            · next q => have := mt this.mp q; omega
          have f3 : (a &&& b) % 2 = if a % 2 = 1 ∧ b % 2 = 1 then 1 else 0 := by
            have := @Nat.and_mod_two_eq_one a b
            split
            · next q => exact this.mpr q
            · next q => have := mt this.mp q; omega
          rw [← e1, ← e3] at h
          have m1 := Nat.div_add_mod (a ||| b) 2
          have m3 := Nat.div_add_mod (a &&& b) 2
          split at f1 <;> split at f3 <;> omega
    exact this a b
  omega
theorem b_xor (a b : Nat) : Builtin.bitXor (a : Int) (b : Int) = ((a ^^^ b : Nat) : Int) := by
  have e : Builtin.bitXor (a : Int) (b : Int) = Builtin.bitOr a b - Builtin.bitAnd a b := rfl
  rw [e, b_or, b_and]
  have h1 := or_xor_and a b
  omega
section
variable {prog : Program} {w : World} {A : Around} {E : Value → Shared → Prop} {s : Shared} {a b : Nat} {t u : Tok} {Q : Value → Shared → Prop}
theorem and_N (h : Q (.int ((a &&& b : Nat) : Int) s.toks) { s with toks := s.toks + 1 }) : wpAny (model prog w) A (binaryOp .BitAnd (.int (a : Int) t) (.int (b : Int) u)) Q E s := and_int (by rw [b_and]; exact h)
theorem or_N (h : Q (.int ((a ||| b : Nat) : Int) s.toks) { s with toks := s.toks + 1 }) : wpAny (model prog w) A (binaryOp .BitOr (.int (a : Int) t) (.int (b : Int) u)) Q E s := or_int (by rw [b_or]; exact h)
theorem or_1 (h : Q (.int ((a ||| 1 : Nat) : Int) s.toks) { s with toks := s.toks + 1 }) : wpAny (model prog w) A (binaryOp .BitOr (.int (a : Int) t) (.int 1 u)) Q E s := or_N (b := 1) h
theorem xor_N (h : Q (.int ((a ^^^ b : Nat) : Int) s.toks) { s with toks := s.toks + 1 }) : wpAny (model prog w) A (binaryOp .BitXor (.int (a : Int) t) (.int (b : Int) u)) Q E s := xor_int (by rw [b_xor]; exact h)
theorem add_N (h : Q (.int ((a + b : Nat) : Int) s.toks) { s with toks := s.toks + 1 }) : wpAny (model prog w) A (binaryOp .Add (.int (a : Int) t) (.int (b : Int) u)) Q E s := add_int (by rw [← Int.natCast_add]; exact h)
theorem lsh_1 (ha : a < 2 ^ 20) (h : Q (.int ((2 * a : Nat) : Int) s.toks) { s with toks := s.toks + 1 }) : wpAny (model prog w) A (binaryOp .LShift (.int (a : Int) t) (.int 1 u)) Q E s :=
  lshift_int_small (by decide) (by decide) (by rw [Int.natAbs_natCast]; omega) (by
    have e : (a : Int) * 2 ^ Int.toNat 1 = ((2 * a : Nat) : Int) := by
      show (a : Int) * 2 = _
      omega
    rw [e]; exact h)
theorem sub_N (hb : b ≤ a) (h : Q (.int ((a - b : Nat) : Int) s.toks) { s with toks := s.toks + 1 }) : wpAny (model prog w) A (binaryOp .Sub (.int (a : Int) t) (.int (b : Int) u)) Q E s := sub_int (by rw [← Int.ofNat_sub hb]; exact h)
theorem rsh_N {n : Int} (hn : 0 ≤ n) (h : Q (.int ((a / 2 ^ n.toNat : Nat) : Int) s.toks) { s with toks := s.toks + 1 }) : wpAny (model prog w) A (binaryOp .RShift (.int (a : Int) t) (.int n u)) Q E s :=
  rshift_int hn (by
    have e : (a : Int).fdiv (2 ^ n.toNat) = ((a / 2 ^ n.toNat : Nat) : Int) := by
      rw [Int.fdiv_eq_ediv_of_nonneg _ (Int.le_of_lt (Int.pow_pos (by decide))), Int.natCast_ediv, Int.natCast_pow]; rfl
    rw [e]; exact h)
theorem and_1 (h : Q (.int ((a &&& 1 : Nat) : Int) s.toks) { s with toks := s.toks + 1 }) : wpAny (model prog w) A (binaryOp .BitAnd (.int (a : Int) t) (.int 1 u)) Q E s := and_N (b := 1) h
theorem get_mark {d : Addr} {c : List (Str × Int)} {k : Str} {tk te : Tok} {g : Str → Nat} (T : StrTab prog w s.heap d (kdpD c)) (hv : ∀ z, kdpLook c z 0 = ((g z : Nat) : Int)) (h : ∀ t, Q (.int ((g k : Nat) : Int) t) { s with toks := s.toks + 1 }) :
    wpAny (model prog w) A (call (.builtin "dict.get") [.ref d, .str k tk, .int 0 te]) Q E s := kdp_get2 T fun t => by rw [hv]; exact h t
end
def IntIs (X : Int) (s : Shared) (v : Value) (s' : Shared) : Prop := ∃ t tk, v = .int X t ∧ s' = { s with toks := tk }
theorem cut_int {M : Model} {A : Around} {E : Value → Shared → Prop} {s : Shared} {e : PySem.Expr} {env : Env} {Q : Value → Shared → Prop} (X : Int) (h1 : wpAny M A (eval e env) (IntIs X s) E s) (h2 : ∀ t tk, Q (.int X t) { s with toks := tk }) : wpAny M A (eval e env) Q E s :=
  wpAny_mono h1 (by rintro v s' ⟨t, tk, rfl, rfl⟩; exact h2 t tk) (fun _ _ e => e)
theorem IntIs.intro {X Y : Int} {s : Shared} {t : Tok} {tk : Nat} (h : Y = X) : IntIs X s (.int Y t) { s with toks := tk } := ⟨t, tk, by rw [h], rfl⟩

def turnT (n : Nat) (tn : Bool) (here ev be : Nat) : Nat := if tn = true then 2 * (((2 ^ n - 1) ^^^ ev) &&& here) &&& be else 0
def evenT (n : Nat) (tn : Bool) (here gr fa ev be : Nat) : Nat := ((((here &&& gr) + gr) ^^^ gr) ||| here ||| fa ||| turnT n tn here ev be) &&& (2 ^ n - 1)
def moreT (n : Nat) (tn : Bool) (here gr fa ev be : Nat) : Nat := fa ||| ((2 ^ n - 1) ^^^ (evenT n tn here gr fa ev be ||| gr))
def lessT (n : Nat) (tn : Bool) (here gr fa ev be : Nat) : Nat := evenT n tn here gr fa ev be &&& gr
def more2T (n : Nat) (tn : Bool) (here gr fa ev be : Nat) : Nat := (2 * moreT n tn here gr fa ev be ||| 1) &&& (2 ^ n - 1)
def less2T (n : Nat) (tn : Bool) (here gr fa ev be : Nat) : Nat := 2 * lessT n tn here gr fa ev be &&& (2 ^ n - 1)
def stepT (n : Nat) (tn : Bool) (here : Nat) : Nat × Nat × Nat × Nat × Int → Nat × Nat × Nat × Nat × Int
  | (gr, fa, ev, be, nu) => (less2T n tn here gr fa ev be ||| ((2 ^ n - 1) ^^^ (evenT n tn here gr fa ev be ||| more2T n tn here gr fa ev be)), more2T n tn here gr fa ev be &&& evenT n tn here gr fa ev be, evenT n tn here gr fa ev be, here,
      nu + (if moreT n tn here gr fa ev be &&& 2 ^ (n - 1) = 0 then 0 else 1) - (if lessT n tn here gr fa ev be &&& 2 ^ (n - 1) = 0 then 0 else 1))
/-- the law's columns after i letters -/
def colT (n : Nat) (tn : Bool) (here : Nat → Nat) : Nat → Nat × Nat × Nat × Nat × Int
  | 0 => (2 ^ n - 1, 0, 0, 0, (n : Int))
  | i + 1 => stepT n tn (here i) (colT n tn here i)
theorem bit_pos {a b : Nat} (h : (a : Int) ≠ 0) (e : a = b) : (1 : Int) = if b = 0 then 0 else 1 := by subst e; rw [if_neg (by omega)]
theorem bit_neg {a b : Nat} (h : (a : Int) = 0) (e : a = b) : (0 : Int) = if b = 0 then 0 else 1 := by subst e; rw [if_pos (by omega)]
section
variable {prog : Program} {w : World} {A : Around} {E : Value → Shared → Prop} {s : Shared} {h₀ : Heap} {L D : Addr} {m : Str → Option Value} {news news' : List (Addr × Obj)}
theorem app_list {vs : List Value} {n : Nat} {x : Value} {Q : Value → Shared → Prop} (F : Fr h₀ L s.heap m) (N : News h₀ L s.heap news) (U : Upd D (listOf vs.toArray n) (listOf (vs ++ [x]).toArray (n + 1)) news news')
    (hsz : vs.length ≤ 1000) (h : ∀ h', Fr h₀ L h' m → News h₀ L h' news' → Q .none { s with heap := h' }) : wpAny (model prog w) A (call (.builtin "list.append") [.ref D, x]) Q E s := by
  have e : vs.toArray.push x = (vs ++ [x]).toArray := List.push_toArray ..
  rw [← e] at U
  exact append_K F N U h (by rw [List.size_toArray, sizeLine_eq]; omega)
end
theorem ne_of_allLtS {d : Addr} {l : List (Addr × Obj)} (h : ∀ p ∈ l, p.1 < d) : ∀ p ∈ l, p.1 ≠ d + 1 := fun p hp => Nat.ne_of_lt (Nat.lt_succ_of_lt (h p hp))
section
variable {prog : Program} {w : World} {A : Around} {h₀ : Heap} {L : Addr} {m : Str → Option Value} {env : Env} {ct elt : PySem.Expr} {x : Str} {scope : Scope} {cl : List (Str × Addr)} {s : Shared} {S : List (Addr × Obj) → Prop} {P : Nat → Value → Prop} {Fin : List Value → List (Addr × Obj) → Prop}
/-- a comprehension with a test, its ledger and values following an invariant -/
theorem comp_restT {σ : Type} {n : Nat} (Led : σ → List (Addr × Obj)) (Inv : Nat → List Value → σ → Prop) (c₀ : σ) (h0 : Inv 0 [] c₀)
    (turn : ∀ (i : Nat) (ys : List Value) (c : σ) v I oI C oC D m₂ h tk (E' : Value → Shared → Prop), i < n → P i v → Inv i ys c → LCg.NsObj oC m₂ → m₂ x = some v → Fr h₀ L h m → News h₀ L h ((I, oI) :: (C, oC) :: (D, LCg.lst ys) :: Led c) → LCg.Off3 I C D (Led c) → ((@Ne Nat I C) ∧ (@Ne Nat I D) ∧ (@Ne Nat C D)) →
      wpAny (model prog w) A (isTrue ct (compEnvC scope cl C env) (eval ct (compEnvC scope cl C env))) (fun ok s' => if ok = true then
        wpAny (model prog w) A (eval elt (compEnvC scope cl C env)) (LCg.CompEnd h₀ L m { s with heap := h, toks := tk } I oI C oC D (LCg.lst ys) S (fun y news' => ∃ c', news' = Led c' ∧ Inv (i + 1) (ys ++ [y]) c')) E' s'
        else LCg.CompEnd h₀ L m { s with heap := h, toks := tk } I oI C oC D (LCg.lst ys) S (fun _ news' => ∃ c', news' = Led c' ∧ Inv (i + 1) ys c') Value.none s') E' { s with heap := h, toks := tk })
    (fin : ∀ ys c, Inv n ys c → Fin ys (Led c)) : LCt.CompRestT prog w A h₀ L m env ct elt x scope cl s S P Fin n 0 [] (Led c₀) := by
  have key : ∀ (j i : Nat) (ys : List Value) (c : σ), i + j = n → Inv i ys c → LCt.CompRestT prog w A h₀ L m env ct elt x scope cl s S P Fin j i ys (Led c) := by
    intro j
    induction j with
    | zero =>
      intro i ys c hi hy
      have e : i = n := by omega
      subst e
      exact LCt.CompRestT.zero (fin ys c hy)
    | succ j ih =>
      intro i ys c hi hy
      refine LCt.CompRestT.succ ?_
      intro v I oI C oC D m₂ h tk E' hv hC hx F N off ne
      refine wpAny_mono (turn i ys c v I oI C oC D m₂ h tk E' (by omega) hv hy hC hx F N off ne) (fun ok s' hq => ?_) fun _ _ e => e
      cases ok with
      | true =>
        simp only [if_true] at hq ⊢
        refine wpAny_mono hq (fun y s₂ hq => ?_) fun _ _ e => e
        obtain ⟨h', tk', nw, e, F', N', off', hS, c', hn, hI⟩ := hq
        subst hn
        exact ⟨h', tk', Led c', e, F', N', off', hS, ih (i + 1) _ c' (by omega) hI⟩
      | false =>
        simp only [Bool.false_eq_true, if_false] at hq ⊢
        obtain ⟨h', tk', nw, e, F', N', off', hS, c', hn, hI⟩ := hq
        subst hn
        exact ⟨h', tk', Led c', e, F', N', off', hS, ih (i + 1) _ c' (by omega) hI⟩
  exact key n 0 [] c₀ (by omega) h0
end
theorem wp_gentoks {M : Model} {A : Around} {α : Type} {c : Sem α} {Q : α → Shared → Prop} {E : Value → Shared → Prop} {h g d X o} (H : ∀ tk, wpAny M A c Q E ⟨h, g, d, tk, o⟩) : wpAny M A c Q E ⟨h, g, d, X, o⟩ := H X
def reachT (n here re : Nat) : Nat := ((re + (re &&& here)) ||| (re - (re &&& here))) &&& (2 ^ n - 1)
def zerosN (re : Nat) : Nat → Nat
  | 0 => 0
  | i + 1 => zerosN re i + if re / 2 ^ i &&& 1 = 0 then 1 else 0
/-- the law's rest after i letters -/
def restT (n : Nat) (here : Nat → Nat) : Nat → Nat
  | 0 => 2 ^ n - 1
  | i + 1 => reachT n (here i) (restT n here i)
end Mine
end
section
open PySem PySem.W PyProof.Rows
namespace Mine
theorem look_map (k z : Str) (v e : Int) : ∀ c : List (Str × Int), ((((c.map (fun p => if decide (p.1 = k) then (p.1, v) else p)).find? fun p => decide (p.1 = z)).map (·.2)).getD e) =
    if z = k ∧ c.any (fun p => decide (p.1 = k)) = true then v else ((c.find? fun p => decide (p.1 = z)).map (·.2)).getD e
  | [] => by simp
  | q :: c => by
    have ih := look_map k z v e c
    rw [List.map_cons, List.find?_cons, List.find?_cons, List.any_cons]
    by_cases hq : q.1 = k
    · by_cases hz : q.1 = z
      · have hzk : z = k := hz ▸ hq
        simp [hq, hzk]
      · have hzk : ¬ z = k := fun h => hz (hq.trans h.symm)
        have hkz : ¬ k = z := fun h => hzk h.symm
        simp only [hzk, false_and, if_false] at ih ⊢
        simp only [hq, decide_true, if_true, hkz, decide_false]
        exact ih
    · by_cases hz : q.1 = z
      · have hzk : ¬ z = k := fun h => hq (hz.trans h)
        simp [hq, hz, hzk]
      · simp only [hq, decide_false, hz, Bool.false_or, Bool.false_eq_true, if_false]
        exact ih
theorem look_app (k z : Str) (v e : Int) : ∀ c : List (Str × Int), ¬ c.any (fun p => decide (p.1 = k)) = true → (((c ++ [(k, v)]).find? fun p => decide (p.1 = z)).map (·.2)).getD e = if z = k then v else ((c.find? fun p => decide (p.1 = z)).map (·.2)).getD e
  | [], _ => by
    by_cases h : k = z
    · simp [h]
    · have h' : ¬ z = k := fun e => h e.symm
      simp [h, h']
  | q :: c, ha => by
    have h1 : ¬ q.1 = k := fun h => ha (by simp [h])
    have h2 : ¬ c.any (fun p => decide (p.1 = k)) = true := fun h => ha (by rw [List.any_cons, h]; simp)
    have ih := look_app k z v e c h2
    rw [List.cons_append, List.find?_cons, List.find?_cons]
    by_cases hz : q.1 = z
    · have hzk : ¬ z = k := fun h => h1 (hz.trans h)
      simp [hz, hzk]
    · simp only [hz, decide_false]
      exact ih
theorem look_kput (k z : Str) (v e : Int) (c : List (Str × Int)) : kdpLook (kdpPut c k v) z e = if z = k then v else kdpLook c z e := by
  unfold kdpLook kdpPut
  by_cases hany : c.any (fun p => decide (p.1 = k)) = true
  · rw [if_pos hany, look_map]
    by_cases h : z = k
    · rw [if_pos ⟨h, hany⟩, if_pos h]
    · rw [if_neg (fun q => h q.1), if_neg h]
  · rw [if_neg hany, look_app _ _ _ _ _ hany]
end Mine
end
section
open PySem PySem.W PyProof.Rows PySem.Calls PySem.Spec
set_option maxRecDepth 100000
namespace Mine
section
variable {M : Model} {A : Around} {E : Value → Shared → Prop} {s : Shared} {K : Frag} {env : Env} {pos p : Pos} {first : List Value} {Q : Value → Shared → Prop} {h₀ : Heap} {L : Addr} {news : List (Addr × Obj)} {e : PySem.Expr}
/-- a bound method called with a starred tuple -/
theorem callWith_MS {q g : Addr} {self : Value} (_X : K.In h₀) (_N : News h₀ L s.heap news) (_q : (q, methodObj (.ref g) self) ∈ news) (hf : fnIn K g = true)
    (h : wpAny M A (eval e env) (fun v s₁ => StarOf M A E v (fun vs s₂ => MethP K q g self s₂.heap ∧ wpAny M A (call (.ref q) (first ++ vs)) Q E s₂) s₁) E s)
    (he : starEach [.Starred e p] env = [(true, eval e env)] := by rfl) :
    wpAny M A (callWith pos (.ref q) first (backTo pos (starEach [.Starred e p] env)) []) Q E s := by
  rw [he]
  exact ks_call rfl (keeps_M hf) (ks_lone h)
/-- an instance called with a starred tuple -/
theorem callWith_IS {x C f : Addr} {ox : Obj} {od : Option Obj} (_X : K.In s.heap) (_I : InstAt s.heap x ox C od) (hd : ox.data = .plain) (_hs : findIn K (.ref C) "__call__" = some (some (.ref f)))
    (h : wpAny M A (eval e env) (fun v s₁ => StarOf M A E v (fun vs s₂ => kco_P K x C ox od s₂.heap ∧ wpAny M A (call (.ref x) (first ++ vs)) Q E s₂) s₁) E s)
    (he : starEach [.Starred e p] env = [(true, eval e env)] := by rfl) :
    wpAny M A (callWith pos (.ref x) first (backTo pos (starEach [.Starred e p] env)) []) Q E s := by
  rw [he]
  unfold callWith
  have hst : (backTo pos [(true, eval e env)]).any (·.1) = true := rfl
  have h' : wpAny M A (evalArgs (.ref x) true (backTo pos [(true, eval e env)]) []) (fun a s₁ => kco_P K x C ox od s₁.heap ∧ wpAny M A (call (.ref x) (first ++ a.pos) a.kw) Q E s₁) E s := ks_lone h
  refine wpAny_bind (wpAny_holding (wpAny_mono h' (fun a s₁ h₁ => wpAny_bind (wpAny_standAt ?_)) fun _ _ x => x))
  have Lk := kco_keeper (M := M) h₁.1.2 hd
  simp only [hst, Bool.true_or]
  refine wpAny_bind (Lk.here ?_)
  have tail : ∀ {t : Sem Value}, wpAny M A t Q E s₁ → wpAny M A (t >>= fun r => holding [r] point >>= fun _ => pure r) Q E s₁ :=
    fun ht => wpAny_bind (wpAny_mono ht (fun r s₂ hr => wpAny_bind (wpAny_holding (wpAny_point (wpAny_pure hr)))) fun _ _ y => y)
  exact tail (wpAny_operateT h₁.2)
end
end Mine
end
section
open PySem PySem.W PyProof.Rows
namespace Mine
/-- a table of distances, its sides 0, 1, 2, .., each cell from its three neighbours -/
structure Grid (D : Nat → Nat → Int) (E : Nat → Nat → Bool) : Prop where
  top : ∀ j, D 0 j = j
  side : ∀ i, D i 0 = i
  h : ∀ k j, -1 ≤ D k (j + 1) - D k j ∧ D k (j + 1) - D k j ≤ 1
  v : ∀ k j, -1 ≤ D (k + 1) j - D k j ∧ D (k + 1) j - D k j ≤ 1
  yes : ∀ k j, E k j = true → D (k + 1) (j + 1) = D k j
  no : ∀ k j, E k j = false → D (k + 1) (j + 1) = min (D k j + 1) (min (D k (j + 1) + 1) (D (k + 1) j + 1))

theorem lv_cell (e : Nat → Nat → Bool) (k j : Nat) : lv e (k + 1) (j + 1) = min (min (lv e k j + (if e k j = true then 0 else 1)) (lv e k (j + 1) + 1)) (lv e (k + 1) j + 1) := by
  rw [lv_ss]; cases e k j <;> rfl
theorem lv_i0 (e : Nat → Nat → Bool) (i : Nat) : lv e i 0 = i := by cases i with | zero => rw [lv_0] | succ i => rw [lv_s0]; omega
theorem lv_hv (e : Nat → Nat → Bool) : ∀ s k j, k + j = s → (-1 ≤ lv e k (j + 1) - lv e k j ∧ lv e k (j + 1) - lv e k j ≤ 1) ∧ (-1 ≤ lv e (k + 1) j - lv e k j ∧ lv e (k + 1) j - lv e k j ≤ 1) := by
  intro s
  induction s with
  | zero =>
    intro k j h
    have hk : k = 0 := by omega
    have hj : j = 0 := by omega
    subst hk; subst hj
    rw [lv_0, lv_0, lv_i0]; omega
  | succ s ih =>
    intro k j h
    constructor
    · cases k with
      | zero => rw [lv_0, lv_0]; omega
      | succ k =>
        have := ih k j (by omega)
        have hc := lv_cell e k j
        split at hc <;> omega
    · cases j with
      | zero => rw [lv_i0, lv_i0]; omega
      | succ j =>
        have := ih k j (by omega)
        have hc := lv_cell e k j
        split at hc <;> omega
theorem lv_grid (e : Nat → Nat → Bool) : Grid (lv e) e where
  top := lv_0 e
  side := lv_i0 e
  h k j := (lv_hv e _ k j rfl).1
  v k j := (lv_hv e _ k j rfl).2
  yes k j he := by
    have := lv_hv e _ k j rfl
    rw [lv_cell, he]; simp only [if_true]; omega
  no k j he := by
    rw [lv_cell, he]; simp only [Bool.false_eq_true, if_false]; omega

theorem os_cell (e : Nat → Nat → Bool) (k j : Nat) : os e (k + 1) (j + 1) = if 1 ≤ k ∧ 1 ≤ j ∧ e k (j - 1) = true ∧ e (k - 1) j = true then min (min (min (os e k (j + 1) + 1) (os e (k + 1) j + 1)) (os e k j + (if e k j = true then 0 else 1))) (os e (k - 1) (j - 1) + (if e k j = true then 0 else 1)) else min (min (os e k (j + 1) + 1) (os e (k + 1) j + 1)) (os e k j + (if e k j = true then 0 else 1)) := by
  have ho : osc e k j = if e k j = true then 0 else 1 := by unfold osc; cases e k j <;> rfl
  rw [os_eq, osv, ho]
/-- letters alike: a step from one to the other -/
def Same (e : Nat → Nat → Bool) : Prop := ∀ i j a b, e i j = true → e i b = true → e a j = true → e a b = true
theorem os_hvd (e : Nat → Nat → Bool) (S : Same e) : ∀ s k j, k + j < s → (-1 ≤ os e k (j + 1) - os e k j ∧ os e k (j + 1) - os e k j ≤ 1) ∧ (-1 ≤ os e (k + 1) j - os e k j ∧ os e (k + 1) j - os e k j ≤ 1) ∧ (0 ≤ os e (k + 1) (j + 1) - os e k j ∧ os e (k + 1) (j + 1) - os e k j ≤ 1 ∧ (e k j = true → os e (k + 1) (j + 1) = os e k j)) := by
  intro s
  induction s with
  | zero => intro k j h; omega
  | succ s ih =>
    intro k j h
    have hh : -1 ≤ os e k (j + 1) - os e k j ∧ os e k (j + 1) - os e k j ≤ 1 := by
      cases k with
      | zero => rw [os_0, os_0]; omega
      | succ k =>
        have := ih k j (by omega)
        have hc := os_cell e k j
        split at hc <;> omega
    have hv : -1 ≤ os e (k + 1) j - os e k j ∧ os e (k + 1) j - os e k j ≤ 1 := by
      cases j with
      | zero => rw [os_a0, os_a0]; omega
      | succ j =>
        have := ih k j (by omega)
        have hc := os_cell e k j
        split at hc <;> omega
    refine ⟨hh, hv, ?_⟩
    have hc := os_cell e k j
    by_cases q : 1 ≤ k ∧ 1 ≤ j ∧ e k (j - 1) = true ∧ e (k - 1) j = true
    · rw [if_pos q] at hc
      obtain ⟨q1, q2, q3, q4⟩ := q
      have hd := ih (k - 1) (j - 1) (by omega)
      rw [show k - 1 + 1 = k by omega, show j - 1 + 1 = j by omega] at hd
      obtain ⟨_, _, hd1, hd2, hd3⟩ := hd
      by_cases he : e k j = true
      · have := hd3 (S k j (k - 1) (j - 1) he q3 q4)
        rw [if_pos he] at hc
        refine ⟨?_, ?_, fun _ => ?_⟩ <;> omega
      · rw [if_neg he] at hc
        refine ⟨?_, ?_, fun z => absurd z he⟩ <;> omega
    · rw [if_neg q] at hc
      by_cases he : e k j = true
      · rw [if_pos he] at hc
        refine ⟨?_, ?_, fun _ => ?_⟩ <;> omega
      · rw [if_neg he] at hc
        refine ⟨?_, ?_, fun z => absurd z he⟩ <;> omega
/-- where two neighbours have changed places, and it pays -/
def turnB (e : Nat → Nat → Bool) (k j : Nat) : Bool := decide (1 ≤ k ∧ 1 ≤ j ∧ e k (j - 1) = true ∧ e (k - 1) j = true ∧ os e k j ≠ os e (k - 1) (j - 1))
theorem os_grid (e : Nat → Nat → Bool) (S : Same e) : Grid (os e) (fun k j => e k j || turnB e k j) where
  top := os_0 e
  side := os_a0 e
  h k j := (os_hvd e S _ k j (Nat.lt_succ_self _)).1
  v k j := (os_hvd e S _ k j (Nat.lt_succ_self _)).2.1
  yes k j he := by
    obtain ⟨hh, hv, d0, d1, d2⟩ := os_hvd e S _ k j (Nat.lt_succ_self _)
    by_cases h1 : e k j = true
    · exact d2 h1
    · have ht : turnB e k j = true := by cases hq : e k j <;> simp_all
      obtain ⟨q1, q2, q3, q4, q5⟩ := of_decide_eq_true ht
      have hc := os_cell e k j
      rw [if_pos ⟨q1, q2, q3, q4⟩, if_neg h1] at hc
      have hd := os_hvd e S _ (k - 1) (j - 1) (Nat.lt_succ_self _)
      rw [show k - 1 + 1 = k by omega, show j - 1 + 1 = j by omega] at hd
      obtain ⟨_, _, hd1, hd2, hd3⟩ := hd
      omega
  no k j he := by
    simp only [Bool.or_eq_false_iff] at he
    obtain ⟨h1, ht⟩ := he
    have h1' : ¬ e k j = true := by rw [h1]; exact Bool.false_ne_true
    have hc := os_cell e k j
    rw [if_neg h1'] at hc
    by_cases q : 1 ≤ k ∧ 1 ≤ j ∧ e k (j - 1) = true ∧ e (k - 1) j = true
    · rw [if_pos q] at hc
      have q5 : os e k j = os e (k - 1) (j - 1) := by
        have := of_decide_eq_false ht
        exact Classical.byContradiction fun z => this ⟨q.1, q.2.1, q.2.2.1, q.2.2.2, z⟩
      omega
    · rw [if_neg q] at hc
      omega
/-- a turn that pays stands at no growing place -/
theorem turn_flat (e : Nat → Nat → Bool) (S : Same e) (k j : Nat) (ht : turnB e k j = true) : os e (k + 1) j ≤ os e k j := by
  obtain ⟨q1, q2, q3, q4, q5⟩ := of_decide_eq_true ht
  obtain ⟨k', rfl⟩ : ∃ k', k = k' + 1 := ⟨k - 1, by omega⟩
  obtain ⟨j', rfl⟩ : ∃ j', j = j' + 1 := ⟨j - 1, by omega⟩
  simp only [Nat.add_sub_cancel] at q3 q4 q5
  have hd := os_hvd e S _ k' j' (Nat.lt_succ_self _)
  have hd2 := os_hvd e S _ (k' + 1) j' (Nat.lt_succ_self _)
  have := hd2.2.2.2.2 q3
  omega
theorem Grid.diag {D : Nat → Nat → Int} {E : Nat → Nat → Bool} (G : Grid D E) : ∀ n, (∀ k, k < n → E k k = true) → D n n = 0
  | 0, _ => by rw [G.top]; rfl
  | n + 1, h => by rw [G.yes n n (h n (by omega))]; exact G.diag n fun k hk => h k (by omega)

theorem lv_congr {e e' : Nat → Nat → Bool} : ∀ i j, (∀ a b, a < i → b < j → e a b = e' a b) → lv e i j = lv e' i j
  | 0, j, _ => by rw [lv_0, lv_0]
  | i + 1, 0, _ => by rw [lv_s0, lv_s0]
  | i + 1, j + 1, h => by
    rw [lv_ss, lv_ss, h i j (by omega) (by omega), lv_congr i j fun a b ha hb => h a b (by omega) (by omega), lv_congr i (j + 1) fun a b ha hb => h a b (by omega) hb, lv_congr (i + 1) j fun a b ha hb => h a b ha (by omega)]
termination_by i j => (i, j)
theorem lc_congr {e e' : Nat → Nat → Bool} : ∀ i j, (∀ a b, a < i → b < j → e a b = e' a b) → lc e i j = lc e' i j
  | 0, j, _ => by rw [lc_0, lc_0]
  | i + 1, 0, _ => by rw [lc_z, lc_z]
  | i + 1, j + 1, h => by
    rw [lc_ss, lc_ss, h i j (by omega) (by omega), lc_congr i j fun a b ha hb => h a b (by omega) (by omega), lc_congr i (j + 1) fun a b ha hb => h a b (by omega) hb, lc_congr (i + 1) j fun a b ha hb => h a b ha (by omega)]
termination_by i j => (i, j)
theorem os_congr {e e' : Nat → Nat → Bool} : ∀ i j, (∀ a b, a < i → b < j → e a b = e' a b) → os e i j = os e' i j
  | 0, j, _ => by rw [os_0, os_0]
  | i + 1, 0, _ => by rw [os_s0, os_s0]
  | i + 1, j + 1, h => by
    rw [os_cell, os_cell, h i j (by omega) (by omega), os_congr i j fun a b ha hb => h a b (by omega) (by omega), os_congr i (j + 1) fun a b ha hb => h a b (by omega) hb, os_congr (i + 1) j fun a b ha hb => h a b ha (by omega)]
    by_cases q : 1 ≤ i ∧ 1 ≤ j
    · rw [h i (j - 1) (by omega) (by omega), h (i - 1) j (by omega) (by omega), os_congr (i - 1) (j - 1) fun a b ha hb => h a b (by omega) (by omega)]
    · rw [if_neg (c := 1 ≤ i ∧ 1 ≤ j ∧ e i (j - 1) = true ∧ e (i - 1) j = true) (fun z => q ⟨z.1, z.2.1⟩), if_neg (c := 1 ≤ i ∧ 1 ≤ j ∧ e' i (j - 1) = true ∧ e' (i - 1) j = true) (fun z => q ⟨z.1, z.2.1⟩)]
termination_by i j => (i, j)
end Mine
end
section
open PySem PySem.W PyProof.Rows
namespace Mine
/-- the carry of a sum, bit by bit -/
def cry (a b : Nat) : Nat → Bool
  | 0 => false
  | k + 1 => (a.testBit k && b.testBit k) || (cry a b k && (a.testBit k || b.testBit k))
theorem cry_carry (w a b : Nat) : ∀ k, k ≤ w → BitVec.carry k (BitVec.ofNat w a) (BitVec.ofNat w b) false = cry a b k := by
  intro k
  induction k with
  | zero => intro _; simp [cry]
  | succ k ih =>
    intro hk
    rw [BitVec.carry_succ, ih (by omega), cry, BitVec.getLsbD_ofNat, BitVec.getLsbD_ofNat, decide_eq_true (by omega : k < w), Bool.true_and, Bool.true_and]
    unfold Bool.atLeastTwo
    cases a.testBit k <;> cases b.testBit k <;> cases cry a b k <;> rfl
theorem add_bit (a b k : Nat) : (a + b).testBit k = (a.testBit k ^^ (b.testBit k ^^ cry a b k)) := by
  have h := BitVec.getLsbD_add (w := k + 1) (i := k) (by omega) (BitVec.ofNat (k + 1) a) (BitVec.ofNat (k + 1) b)
  rw [cry_carry (k + 1) a b k (by omega), ← BitVec.ofNat_add, BitVec.getLsbD_ofNat, BitVec.getLsbD_ofNat, BitVec.getLsbD_ofNat, decide_eq_true (by omega : k < k + 1), Bool.true_and, Bool.true_and, Bool.true_and] at h
  exact h
theorem whole_bit {n k : Nat} (h : k < n) : (2 ^ n - 1).testBit k = true := by rw [Nat.testBit_two_pow_sub_one]; exact decide_eq_true h
theorem dbl_bit0 (a : Nat) : (2 * a).testBit 0 = false := by simp
theorem dbl_bits (a k : Nat) : (2 * a).testBit (k + 1) = a.testBit k := by rw [Nat.testBit_succ]; congr 1; omega
theorem foot_bit (a n : Nat) : (a &&& 2 ^ n = 0) ↔ ¬ a.testBit n = true := by
  constructor
  · intro h hb
    have h2 := congrArg (fun z => z.testBit n) h
    simp only [Nat.testBit_and, hb, Nat.testBit_two_pow_self, Nat.zero_testBit] at h2
    cases h2
  · intro h
    apply Nat.eq_of_testBit_eq
    intro i
    rw [Nat.testBit_and, Nat.testBit_two_pow, Nat.zero_testBit]
    by_cases q : n = i
    · subst q
      rw [Bool.not_eq_true] at h
      rw [h, Bool.false_and]
    · rw [decide_eq_false q, Bool.and_false]

/-- the letters of a column as bits -/
structure Col (D : Nat → Nat → Int) (e : Nat → Nat → Bool) (n j : Nat) (c : Nat × Nat × Nat × Nat × Int) : Prop where
  gr : ∀ k, k < n → (c.1.testBit k = true ↔ D (k + 1) j - D k j = 1)
  fa : ∀ k, k < n → (c.2.1.testBit k = true ↔ D (k + 1) j - D k j = -1)
  ev : ∀ k, k < n → (c.2.2.1.testBit k = true ↔ 1 ≤ j ∧ D (k + 1) j = D k (j - 1))
  be : ∀ k, k < n → (c.2.2.2.1.testBit k = true ↔ 1 ≤ j ∧ e k (j - 1) = true)
  nu : c.2.2.2.2 = D n j
theorem Grid.cell {D : Nat → Nat → Int} {E : Nat → Nat → Bool} (G : Grid D E) (k j : Nat) : D k j ≤ D (k + 1) (j + 1) ∧ D (k + 1) (j + 1) ≤ D k j + 1 ∧ D (k + 1) (j + 1) ≤ D k (j + 1) + 1 ∧ D (k + 1) (j + 1) ≤ D (k + 1) j + 1 ∧ (D (k + 1) (j + 1) = D k j ↔ E k j = true ∨ D k (j + 1) - D k j = -1 ∨ D (k + 1) j - D k j = -1) := by
  have hh := G.h k j
  have hv := G.v k j
  cases hE : E k j with
  | true =>
    have := G.yes k j hE
    refine ⟨by omega, by omega, by omega, by omega, ?_⟩
    simp; omega
  | false =>
    have := G.no k j hE
    refine ⟨by omega, by omega, by omega, by omega, ?_⟩
    simp; omega
theorem col_step {D : Nat → Nat → Int} {E e : Nat → Nat → Bool} (G : Grid D E) {n j : Nat} {tn : Bool} {here gr fa ev be : Nat} {nu : Int} (hn : 1 ≤ n) (C : Col D e n j (gr, fa, ev, be, nu)) (hh : ∀ k, k < n → (here.testBit k = true ↔ e k j = true))
    (hE : ∀ k, k < n → (E k j = true ↔ e k j = true ∨ (turnT n tn here ev be).testBit k = true)) (hf : ∀ k, k < n → (turnT n tn here ev be).testBit k = true → D (k + 1) j ≤ D k j) : Col D e n (j + 1) (stepT n tn here (gr, fa, ev, be, nu)) := by
  obtain ⟨C1, C2, C3, C4, C5⟩ := C
  dsimp only at C1 C2 C3 C4 C5
  have hc : ∀ k, k ≤ n → (cry (here &&& gr) gr k = true ↔ D k (j + 1) - D k j = -1) := by
    intro k
    induction k with
    | zero => intro _; have h1 := G.top j; have h2 := G.top (j + 1); simp only [cry]; constructor
              · intro h; cases h
              · intro h; omega
    | succ k ih =>
      intro hk
      have i := ih (by omega)
      have g := C1 k (by omega)
      have hl := hh k (by omega)
      have q := hE k (by omega)
      have r := hf k (by omega)
      obtain ⟨c1, c2, c3, c4, c5⟩ := G.cell k j
      have hv := G.v k j
      have e1 : cry (here &&& gr) gr (k + 1) = (gr.testBit k && (here.testBit k || cry (here &&& gr) gr k)) := by
        rw [cry, Nat.testBit_and]
        cases here.testBit k <;> cases gr.testBit k <;> cases cry (here &&& gr) gr k <;> rfl
      rw [e1, Bool.and_eq_true, Bool.or_eq_true, g, hl, i]
      rw [q] at c5
      constructor
      · rintro ⟨h1, h2⟩
        have : D (k + 1) (j + 1) = D k j := c5.mpr (by rcases h2 with h2 | h2; exact .inl (.inl h2); exact .inr (.inl h2))
        omega
      · intro h
        have h1 : D (k + 1) (j + 1) = D k j := by omega
        refine ⟨by omega, ?_⟩
        rcases c5.mp h1 with (h2 | h2) | h2 | h2
        · exact .inl h2
        · have := r h2; omega
        · exact .inr h2
        · omega
  have hev : ∀ k, k < n → ((evenT n tn here gr fa ev be).testBit k = true ↔ D (k + 1) (j + 1) = D k j) := by
    intro k hk
    have i := hc k (by omega)
    have f := C2 k hk
    have hl := hh k hk
    have q := hE k hk
    obtain ⟨_, _, _, _, c5⟩ := G.cell k j
    unfold evenT
    rw [Nat.testBit_and, whole_bit hk, Bool.and_true, Nat.testBit_or, Nat.testBit_or, Nat.testBit_or, Nat.testBit_xor, add_bit, Nat.testBit_and]
    have e1 : ((here.testBit k && gr.testBit k ^^ (gr.testBit k ^^ cry (here &&& gr) gr k)) ^^ gr.testBit k || here.testBit k || fa.testBit k || (turnT n tn here ev be).testBit k) = (here.testBit k || cry (here &&& gr) gr k || fa.testBit k || (turnT n tn here ev be).testBit k) := by
      cases here.testBit k <;> cases gr.testBit k <;> cases cry (here &&& gr) gr k <;> cases fa.testBit k <;> rfl
    rw [e1, Bool.or_eq_true, Bool.or_eq_true, Bool.or_eq_true, hl, i, f, c5, q]
    constructor
    · rintro (((h | h) | h) | h)
      · exact .inl (.inl h)
      · exact .inr (.inl h)
      · exact .inr (.inr h)
      · exact .inl (.inr h)
    · rintro ((h | h) | h | h)
      · exact .inl (.inl (.inl h))
      · exact .inr h
      · exact .inl (.inl (.inr h))
      · exact .inl (.inr h)
  have hmo : ∀ k, k < n → ((moreT n tn here gr fa ev be).testBit k = true ↔ D (k + 1) (j + 1) - D (k + 1) j = 1) := by
    intro k hk
    have g := C1 k hk
    have f := C2 k hk
    have q := hev k hk
    obtain ⟨c1, c2, c3, c4, c5⟩ := G.cell k j
    have hv := G.v k j
    unfold moreT
    rw [Nat.testBit_or, Nat.testBit_xor, whole_bit hk, Nat.testBit_or, Bool.or_eq_true, Bool.true_xor, Bool.not_eq_true', Bool.or_eq_false_iff, ← Bool.not_eq_true, ← Bool.not_eq_true, f, q, g]
    omega
  have hle : ∀ k, k < n → ((lessT n tn here gr fa ev be).testBit k = true ↔ D (k + 1) (j + 1) - D (k + 1) j = -1) := by
    intro k hk
    have g := C1 k hk
    have q := hev k hk
    obtain ⟨c1, c2, c3, c4, c5⟩ := G.cell k j
    have hv := G.v k j
    unfold lessT
    rw [Nat.testBit_and, Bool.and_eq_true, q, g]
    omega
  have hm2 : ∀ k, k < n → ((more2T n tn here gr fa ev be).testBit k = true ↔ D k (j + 1) - D k j = 1) := by
    intro k hk
    unfold more2T
    rw [Nat.testBit_and, whole_bit hk, Bool.and_true, Nat.testBit_or]
    cases k with
    | zero =>
      have h1 := G.top j
      have h2 := G.top (j + 1)
      rw [show Nat.testBit 1 0 = true by decide, Bool.or_true]
      simp; omega
    | succ k =>
      rw [dbl_bits, show Nat.testBit 1 (k + 1) = false by simp [Nat.testBit_succ], Bool.or_false, hmo k (by omega)]
  have hl2 : ∀ k, k < n → ((less2T n tn here gr fa ev be).testBit k = true ↔ D k (j + 1) - D k j = -1) := by
    intro k hk
    unfold less2T
    rw [Nat.testBit_and, whole_bit hk, Bool.and_true]
    cases k with
    | zero =>
      have h1 := G.top j
      have h2 := G.top (j + 1)
      rw [dbl_bit0]
      simp; omega
    | succ k => rw [dbl_bits, hle k (by omega)]
  refine ⟨fun k hk => ?_, fun k hk => ?_, fun k hk => ?_, fun k hk => ?_, ?_⟩
  · show (less2T n tn here gr fa ev be ||| ((2 ^ n - 1) ^^^ (evenT n tn here gr fa ev be ||| more2T n tn here gr fa ev be))).testBit k = true ↔ _
    obtain ⟨c1, c2, c3, c4, c5⟩ := G.cell k j
    have hhk := G.h k j
    rw [Nat.testBit_or, Nat.testBit_xor, whole_bit hk, Nat.testBit_or, Bool.or_eq_true, Bool.true_xor, Bool.not_eq_true', Bool.or_eq_false_iff, ← Bool.not_eq_true, ← Bool.not_eq_true, hl2 k hk, hev k hk, hm2 k hk]
    omega
  · show (more2T n tn here gr fa ev be &&& evenT n tn here gr fa ev be).testBit k = true ↔ _
    obtain ⟨c1, c2, c3, c4, c5⟩ := G.cell k j
    have hhk := G.h k j
    rw [Nat.testBit_and, Bool.and_eq_true, hev k hk, hm2 k hk]
    omega
  · show (evenT n tn here gr fa ev be).testBit k = true ↔ _
    rw [hev k hk, Nat.add_sub_cancel]
    exact ⟨fun h => ⟨by omega, h⟩, fun h => h.2⟩
  · show here.testBit k = true ↔ _
    rw [hh k hk, Nat.add_sub_cancel]
    exact ⟨fun h => ⟨by omega, h⟩, fun h => h.2⟩
  · show nu + (if moreT n tn here gr fa ev be &&& 2 ^ (n - 1) = 0 then 0 else 1) - (if lessT n tn here gr fa ev be &&& 2 ^ (n - 1) = 0 then 0 else 1) = D n (j + 1)
    have h1 := hmo (n - 1) (by omega)
    have h2 := hle (n - 1) (by omega)
    have h3 := G.h n j
    rw [show n - 1 + 1 = n by omega] at h1 h2
    have f1 := foot_bit (moreT n tn here gr fa ev be) (n - 1)
    have f2 := foot_bit (lessT n tn here gr fa ev be) (n - 1)
    rw [h1] at f1
    rw [h2] at f2
    rw [C5]
    split <;> split <;> omega
end Mine
end
section
open PySem PySem.W PyProof.Rows PySem.Builtin.Str
namespace Mine
/-- the beginnings of a text -/
def begs (y : Str) (j : Nat) : Str := Txt.slice y none (some (0 + (j : Int) + 1))
theorem ind_begs {j n : Nat} (h : j < n) : strSliceIndices none (some (0 + (j : Int) + 1)) 1 n = List.range (j + 1) := by
  have h2 : (1 : Int) > 0 := by decide
  have h0 : ¬ (0 + (j : Int) + 1 < 0) := by omega
  have e : max 0 (min (0 + (j : Int) + 1) (n : Int)) = ((j + 1 : Nat) : Int) := by omega
  simp only [strSliceIndices, sliceRange, h0, h2, if_false, if_true, e]
  have h3 : (0 : Int) < ((j + 1 : Nat) : Int) := by omega
  have e2 : ((((j + 1 : Nat) : Int) - 0 + 1 - 1) / 1).toNat = j + 1 := by omega
  simp only [h3, if_true, e2]
  apply List.ext_getElem
  · simp
  · intro i h1 h2
    simp
theorem fm_map {α β : Type} {f : α → Option β} {g : α → β} : ∀ {l : List α}, (∀ k ∈ l, f k = some (g k)) → l.filterMap f = l.map g
  | [], _ => rfl
  | a :: l, h => by
    rw [List.filterMap_cons, h a (List.mem_cons_self ..), List.map_cons, fm_map fun k hk => h k (List.mem_cons_of_mem _ hk)]
theorem begs_at {y : Str} {j : Nat} (h : j < y.length) : (begs y j).length = j + 1 ∧ ∀ k, k ≤ j → (begs y j).cps[k]? = y.cps[k]? := by
  unfold begs Txt.slice
  rw [ind_begs h]
  by_cases q : j + 1 = y.length
  · rw [if_pos (by simp [q])]
    exact ⟨q.symm, fun _ _ => rfl⟩
  · rw [if_neg (by simp [q])]
    have e : (List.range (j + 1)).filterMap (y.cps[·]?) = y.cps.toList.take (j + 1) := by
      apply List.ext_getElem?
      intro i
      have e1 : (List.range (j + 1)).filterMap (y.cps[·]?) = (List.range (j + 1)).map (fun k => y.cps.getD k 0) := by
        apply fm_map
        intro k hk
        have hk' : k < y.cps.size := by have := List.mem_range.mp hk; have : j < y.cps.size := h; omega
        simp [Array.getD, hk']
      rw [e1, List.getElem?_map, List.getElem?_take]
      by_cases hi : i < j + 1
      · have hi' : i < y.cps.size := by have : j < y.cps.size := h; omega
        simp [hi, Array.getD, hi']
      · simp [hi]
    rw [e]
    have hs : j + 1 ≤ y.cps.size := h
    constructor
    · show (List.take (j + 1) y.cps.toList).toArray.size = j + 1
      simp; omega
    · intro k hk
      simp only [List.getElem?_toArray, List.getElem?_take]
      rw [if_pos (by omega)]
      simp
theorem begs_len {y : Str} {j : Nat} (h : j < y.length) : (begs y j).length = j + 1 := (begs_at h).1
theorem item_congr {x y : Str} {k : Nat} (hx : k < x.length) (hy : k < y.length) (h : x.cps[k]? = y.cps[k]?) : Txt.item x (k : Int) = Txt.item y (k : Int) := by
  obtain ⟨c, hc⟩ : ∃ c, x.cps[k]? = some c := ⟨x.cps[k], Array.getElem?_eq_getElem hx⟩
  rw [item_at hc, item_at (h.symm.trans hc)]
theorem begs_item {y : Str} {j k : Nat} (h : j < y.length) (hk : k ≤ j) : Txt.item (begs y j) (k : Int) = Txt.item y (k : Int) :=
  item_congr (by rw [begs_len h]; omega) (by omega) ((begs_at h).2 k hk)
theorem begs_eqAt {x y : Str} {j : Nat} (h : j < y.length) (a b : Nat) (hb : b < j + 1) : eqAt x (begs y j) a b = eqAt x y a b := by
  unfold eqAt; rw [begs_item h (by omega)]
theorem eqAt_same (x y : Str) : Same (eqAt x y) := by
  intro i j a b h1 h2 h3
  have h1 := of_decide_eq_true h1
  have h2 := of_decide_eq_true h2
  have h3 := of_decide_eq_true h3
  exact decide_eq_true (by rw [h3, ← h1, h2])
/-- the plain distance, as __call__ tells it -/
theorem lev_beg {x y : Str} {j : Nat} (h : j < y.length) : (if x = begs y j then 0 else lv (eqAt x (begs y j)) x.length (begs y j).length) = lv (eqAt x y) x.length (j + 1) := by
  have e := lv_congr (e := eqAt x (begs y j)) (e' := eqAt x y) x.length (begs y j).length (fun a b _ hb => begs_eqAt h a b (by rw [← begs_len h]; exact hb))
  rw [e, begs_len h]
  split
  · next q =>
    have hl : x.length = j + 1 := by rw [q, begs_len h]
    rw [hl, (lv_grid _).diag]
    intro k hk
    rw [← begs_eqAt h k k hk, ← q]
    exact decide_eq_true rfl
  · rfl
theorem dam_beg {x y : Str} {j : Nat} (h : j < y.length) : (if x = begs y j then 0 else os (eqAt x (begs y j)) x.length (begs y j).length) = os (eqAt x y) x.length (j + 1) := by
  have e := os_congr (e := eqAt x (begs y j)) (e' := eqAt x y) x.length (begs y j).length (fun a b _ hb => begs_eqAt h a b (by rw [← begs_len h]; exact hb))
  rw [e, begs_len h]
  split
  · next q =>
    have hl : x.length = j + 1 := by rw [q, begs_len h]
    rw [hl, (os_grid _ (eqAt_same x y)).diag]
    intro k hk
    have h1 : eqAt x y k k = true := by
      rw [← begs_eqAt h k k hk, ← q]
      exact decide_eq_true rfl
    show (eqAt x y k k || _) = true
    rw [h1]; rfl
  · rfl
theorem sim_beg {x y : Str} {j : Nat} (h : j < y.length) : lc (eqAt x (begs y j)) x.length (begs y j).length = lc (eqAt x y) x.length (j + 1) := by
  have e := lc_congr (e := eqAt x (begs y j)) (e' := eqAt x y) x.length (begs y j).length (fun a b _ hb => begs_eqAt h a b (by rw [← begs_len h]; exact hb))
  rw [e, begs_len h]
end Mine
end
section
open PySem PySem.W PyProof.Rows PySem.Calls PySem.Spec
set_option maxRecDepth 100000
namespace Mine
section
variable {prog : Program} {w : World} {A : Around} {E : Value → Shared → Prop} {s : Shared}

/-- one turn of the set's filling loop: a text is taken from the walker and added -/
theorem upd_turn {I S : Addr} {fp wr : List Addr} {n i : Nat} {P : Nat → Value → Prop} {St : Nat → Heap → Prop} {R : Result → Shared → Prop} {T : Str → Bool} {c : Nat} {x : Str}
    (W : Walks prog w A.in1 I fp wr n P St) (hS : S ∉ fp) (hi : i < n) (hst : St i s.heap) (hx : ∀ v, P i v → ∃ t, v = .str x t)
    (hset : s.heap.SetOf (strKind prog w) S T c) (hc : c + 1 < scanBound)
    (h : ∀ h' tk, St (i + 1) h' → h'.SetOf (strKind prog w) S (fun k => T k || decide (k = x)) (if T x then c else c + 1) →
      (∀ b o, b ∉ S :: wr → s.heap.get? b = some o → h'.get? b = some o) →
      codeAny (model prog w) A (.builtin "set.update.loop" ⟨[.ref S, .ref I], []⟩) R { s with heap := h', toks := tk }) :
    codeAny (model prog w) A (.builtin "set.update.loop" ⟨[.ref S, .ref I], []⟩) R s := by
  refine codeAny_builtin F.entry_set_update_loop ?_
  rw [Around.under_plainId F.plain_set_update_loop _]
  show wpAny _ A.in1 (pyNext (.ref I) >>= _) _ _ s
  refine wpAny_bind (W.item i s _ _ hi hst fun v h₁ tk₁ hP hst₁ hk₁ => ?_)
  obtain ⟨t, rfl⟩ := hx v hP
  have hset₁ : h₁.SetOf (strKind prog w) S T c := by
    obtain ⟨o, es, ep, tb, ho, rest⟩ := hset
    exact ⟨o, es, ep, tb, hk₁ S _ (fun q => hS (W.sub _ q)) ho, rest⟩
  show wpAny _ A.in1 (holding [Value.str x t] (setAdd S (.str x t)) >>= _) _ _ _
  refine wpAny_bind (wpAny_holding ?_)
  unfold setAdd
  refine wpAny_holding (wpAny_bind ((strKind prog w).pyHash (k := x) (strKind_is _ _ _ _) ?_))
  refine wpAny_setAddHashed_of (knd := strKind prog w) (strKind_is _ _ _ _) rfl hset₁ hc fun h₂ hsb hset₂ => ?_
  refine wpAny_pure ⟨plainId_quiet F.plain_set_update_loop _, ?_⟩
  refine h h₂ _ (W.frame _ _ _ hst₁ fun b hb o e => ?_) hset₂ fun b o hb e => ?_
  · rw [hsb.2 b (fun q => hS (q ▸ hb))]; exact e
  · rw [hsb.2 b (fun q => hb (by rw [q]; exact List.mem_cons_self))]
    exact hk₁ b o (fun q => hb (List.mem_cons_of_mem _ q)) e

theorem upd_done {I S : Addr} {fp wr : List Addr} {n : Nat} {P : Nat → Value → Prop} {St : Nat → Heap → Prop} {R : Result → Shared → Prop} {T : Str → Bool} {c : Nat}
    (W : Walks prog w A.in1 I fp wr n P St) (hS : S ∉ fp) (hst : St n s.heap)
    (hset : s.heap.SetOf (strKind prog w) S T c)
    (h : ∀ h' tk, h'.SetOf (strKind prog w) S T c →
      (∀ b o, b ∉ wr → s.heap.get? b = some o → h'.get? b = some o) → R (.ok (.ret .none)) { s with heap := h', toks := tk }) :
    codeAny (model prog w) A (.builtin "set.update.loop" ⟨[.ref S, .ref I], []⟩) R s := by
  refine codeAny_builtin F.entry_set_update_loop ?_
  rw [Around.under_plainId F.plain_set_update_loop _]
  show wpAny _ A.in1 (pyNext (.ref I) >>= _) _ _ s
  refine wpAny_bind (W.done s _ _ hst fun h₁ tk₁ hk₁ => ?_)
  show wpAny _ A.in1 (ret Value.none) _ _ _
  refine wpAny_pure (h h₁ tk₁ ?_ hk₁)
  obtain ⟨o, es, ep, tb, ho, rest⟩ := hset
  exact ⟨o, es, ep, tb, hk₁ S _ (fun q => hS (W.sub _ q)) ho, rest⟩

theorem sub_tuple_set : isSubtype (.type "tuple") (.type "set") = pure false := by rw [isSubtype_type]; kernel_rfl
theorem sub_tuple_frozenset : isSubtype (.type "tuple") (.type "frozenset") = pure false := by rw [isSubtype_type]; kernel_rfl

abbrev freshSet (led : Bool) : Obj := { cls := .type "set", dict := none, data := .set #[] 0 (.fresh 0 0 led) }

set_option maxHeartbeats 3200000 in
/-- set((x, y)) of two texts -/
theorem set_two {l : Addr} {x y : Str} {t u : Tok} {Q : Value → Shared → Prop}
    (hh : A.handled = none) (hl : s.heap.IsTuple l #[.str x t, .str y u])
    (h : ∀ (h' : Heap) (tk : Nat), h'.SetOf (strKind prog w) s.heap.objs.size (fun k => (false || decide (k = x)) || decide (k = y)) (if x = y then 1 else 2) →
      (∀ b o, b < s.heap.objs.size → s.heap.get? b = some o → h'.get? b = some o) → Q (.ref s.heap.objs.size) { s with heap := h', toks := tk }) :
    wpAny (model prog w) A (call (.type "set") [.ref l]) Q E s := by
  obtain ⟨c, tl, hmro⟩ := F.called_set.mro
  have hmade := F.called_set.made
  have hsub := F.called_set.sub
  refine wpAny_call (codeAny_of_tree ?_)
  show wpAny _ _ (callAny (.type "set") _) _ _ _
  refine wpAny_pure ⟨Code.quiet_builtin _ (by decide +kernel), codeAny_builtin F.entry_type_call ?_⟩
  rw [Around.under_plain (weight_type_call_type "set" [.ref l] []) rfl]
  have h1 := F.called_set.notType
  have h2 := F.called_set.canCreate
  have hct := F.typeCall_set_1 (.ref l)
  repeat (any_goals (first | assumption | wp_step))
  refine codeAny_mono (code_set_new_1 (.ref l) (E := E) (Q₁ := fun obj s₁ => ∃ led : Bool, obj = .ref s.heap.objs.size ∧ s₁ = { s with heap := s.heap.push (freshSet led) }) fun led => ⟨led, rfl, rfl⟩) fun r s₁ hr => ?_
  match r, hr with
  | .error e, hr => exact hr
  | .ok .next, hr => exact hr.elim
  | .ok .brk, hr => exact hr.elim
  | .ok .cont, hr => exact hr.elim
  | .ok (.ret obj), hr =>
    obtain ⟨led, rfl, rfl⟩ := hr
    have hget : (s.heap.push (freshSet led)).get? s.heap.objs.size = some (freshSet led) := Heap.get?_push_size _ rfl
    have hT : Shared.TypeIs { s with heap := s.heap.push (freshSet led) } (.ref s.heap.objs.size) "set" := ⟨_, hget, rfl⟩
    have hli := F.called_set.init.lookup
    have hbi := F.called_set.init.bind (.ref s.heap.objs.size)
    repeat (any_goals (first | assumption | wp_step))
    refine codeAny_mono (codeAny_call_builtin (R := wants (fun r s₂ => r = .none ∧ ∃ h' tk, s₂ = { s with heap := h', toks := tk } ∧
        h'.SetOf (strKind prog w) s.heap.objs.size (fun k => (false || decide (k = x)) || decide (k = y)) (if x = y then 1 else 2) ∧
        (∀ b o, b < s.heap.objs.size → s.heap.get? b = some o → h'.get? b = some o)) E) F.called_set.init.plain F.entry_set_init (check_set_init_1 hT ?_)) fun r₂ s₂ hr₂ => ?_
    · obtain ⟨ol, hol, hcl, nl, hdl⟩ := hl
      obtain ⟨ocls, odict, odata, oslots⟩ := ol
      simp only at hcl hdl
      subst hcl; subst hdl
      have hol' : (s.heap.push (freshSet led)).get? l = some { cls := .type "tuple", dict := odict, data := .seq #[.str x t, .str y u] nl, slots := oslots } := Heap.get?_push_of_some _ hol
      have hsts := sub_tuple_set
      have hstf := sub_tuple_frozenset
      have hne : (Value.type "tuple" == Value.type "dict") = false := by decide
      have hl1 : (s.heap.push (freshSet led)).IsTuple l #[.str x t, .str y u] := ⟨_, hol', rfl, nl, rfl⟩
      unfold Builtin.«set.__init__» noKeywords Builtin.Frozenset.updateFrom
      generalize hPI : pyIter = PI
      wp_walk
      subst hPI
      refine wpAny_pyIter_tuple hl1 ?_
      refine wpAny_bind (wpAny_runValue ?_)
      have hlS : l < s.heap.objs.size := Heap.lt_size hol
      have hh3 : A.in1.in1.in1.handled = none := by simp [hh]
      have hneI : l ≠ (s.heap.push (freshSet led)).objs.size := by
        rw [Heap.size_push]; exact Nat.ne_of_lt (Nat.lt_succ_of_lt hlS)
      have hSf : s.heap.objs.size ∉ [(s.heap.push (freshSet led)).objs.size, l] := by
        rw [Heap.size_push]; simp only [List.mem_cons, List.not_mem_nil, or_false, not_or]
        exact ⟨Nat.ne_of_lt (Nat.lt_succ_self _), Nat.ne_of_gt hlS⟩
      have W := Walks.tuple (prog := prog) (w := w) (A := A.in1.in1.in1) hh3 (s.heap.push (freshSet led)).objs.size l hneI #[.str x t, .str y u]
      have hb1 : (0 : Nat) + 1 < scanBound := by unfold scanBound; omega
      refine upd_turn W hSf (i := 0) (x := x) (T := fun _ => false) (c := 0) (by simp) ⟨⟨_, Heap.get?_push_size _ rfl, rfl, rfl⟩, hl1.push _⟩ (fun v hv => ⟨t, by simpa using hv.symm⟩) ?s0 hb1 ?_
      case s0 =>
        exact (setObjOf_fresh (knd := strKind prog w) led).setOf (Heap.get?_push_of_some _ hget) (by unfold scanBound; omega)
      intro h₁ tk₁ st₁ set₁ k₁
      refine upd_turn W hSf (i := 1) (x := y) (by simp) st₁ (fun v hv => ⟨u, by simpa using hv.symm⟩) set₁ (by unfold scanBound; simp) ?_
      intro h₂ tk₂ st₂ set₂ k₂
      refine upd_done W hSf st₂ set₂ ?_
      intro h₃ tk₃ set₃ k₃
      show wpAny _ _ _ _ _ _
      refine wpAny_pure ?_
      show wpAny _ _ (ret Value.none) _ _ _
      refine wpAny_pure ⟨rfl, h₃, tk₃, rfl, ?_, fun b o hb e => ?_⟩
      · have en : (if ((false || decide (y = x)) = true) then (if (false = true) then 0 else 0 + 1) else (if (false = true) then 0 else 0 + 1) + 1) = (if x = y then 1 else 2) := by
          by_cases q : x = y
          · subst q; simp
          · have q' : ¬ y = x := fun z => q z.symm
            simp [q, q']
        rw [← en]; exact set₃
      · have hb1 : b ≠ s.heap.objs.size := Nat.ne_of_lt hb
        have hb2 : b ≠ (s.heap.push (freshSet led)).objs.size := by
          rw [Heap.size_push]; exact Nat.ne_of_lt (Nat.lt_succ_of_lt hb)
        have n1 : b ∉ [(s.heap.push (freshSet led)).objs.size] := by simpa using hb2
        have n2 : b ∉ s.heap.objs.size :: [(s.heap.push (freshSet led)).objs.size] := by
          simp only [List.mem_cons, List.not_mem_nil, or_false, not_or]; exact ⟨hb1, hb2⟩
        exact k₃ b o n1 (k₂ b o n2 (k₁ b o n2 (Heap.get?_push_of_some _ (Heap.get?_push_of_some _ e))))
    · match r₂, hr₂ with
      | .error e, hr₂ => exact hr₂
      | .ok .next, hr₂ => exact hr₂.elim
      | .ok .brk, hr₂ => exact hr₂.elim
      | .ok .cont, hr₂ => exact hr₂.elim
      | .ok (.ret r), hr₂ =>
        obtain ⟨rfl, h', tk, rfl, hS', hk'⟩ := hr₂
        repeat (any_goals (first | assumption | wp_step))
        exact h _ _ hS' hk'
end

section
variable {prog : Program} {w : World} {A : Around} {E : Value → Shared → Prop} {s : Shared} {h₀ : Heap} {L : Addr} {m : Str → Option Value} {news : List (Addr × Obj)}
/-- the same, over the frame and the ledger -/
theorem set_two_N {l : Addr} {x y : Str} {t u : Tok} {nn : Nat} {Q : Value → Shared → Prop} (hh : A.handled = none) (F : Fr h₀ L s.heap m) (N : News h₀ L s.heap news)
    (hl : (l, ({ cls := .type "tuple", data := .seq #[.str x t, .str y u] nn } : Obj)) ∈ news)
    (h : ∀ D h' (tk : Nat) o, Fr h₀ L h' m → News h₀ L h' ((D, o) :: news) → (∀ p ∈ news, p.1 < D) →
      o.SetObjOf (strKind prog w) (fun k => (false || decide (k = x)) || decide (k = y)) (if x = y then 1 else 2) →
      Q (.ref D) { s with heap := h', toks := tk }) :
    wpAny (model prog w) A (call (.type "set") [.ref l]) Q E s := by
  refine set_two hh ⟨_, (N _ hl).1, rfl, nn, rfl⟩ fun h' tk hS hk => ?_
  obtain ⟨o, ho, hso⟩ := hS.objOf
  obtain ⟨oL, _, _, hL, _⟩ := F.ns
  have hLlt : L < s.heap.objs.size := Heap.lt_size hL
  refine h _ h' tk o ⟨F.ns.at' fun o' e => hk L o' hLlt e, fun b o' e => hk b o' (Heap.lt_size (F.keep b o' e)) (F.keep b o' e), F.above⟩ (fun p hp => ?_) (fun p hp => Heap.lt_size (N p hp).1) hso
  rcases List.mem_cons.mp hp with rfl | hp
  · refine ⟨ho, Nat.ne_of_gt hLlt, ?_⟩
    cases hq : h₀.get? s.heap.objs.size with
    | none => rfl
    | some o' => exact absurd (Heap.lt_size (F.keep _ _ hq)) (Nat.lt_irrefl _)
  · exact ⟨hk _ _ (Heap.lt_size (N p hp).1) (N p hp).1, (N p hp).2.1, (N p hp).2.2⟩
end
end Mine
end
section
open PySem PySem.W PyProof.Rows PySem.Calls PySem.Spec
set_option maxRecDepth 100000
set_option maxHeartbeats 8000000
namespace Mine
local macro_rules | `(tactic| k_room) => `(tactic| ktr_room)
local macro_rules | `(tactic| k_units) => `(tactic| ktr_units)
local macro_rules | `(tactic| walk_at "call type:set cons nil") => `(tactic| (k_here; (with_reducible show wpAny _ _ (call (Value.type "set") [Value.ref _]) _ _ _); (k_dflt (refine' set_two_N ?k0 ?k1 ?k2 ?k3 ?_; (case k0 => with_unfolding_all rfl); (case k1 => k_asm); (case k2 => k_asm); (case k3 => k_mem); k_whole)); intro D' h' tk' o' F' N' l1 hs'; (try k_lt l1)))
abbrev PR : Program := PySem.Challenge.rw_dr5029_01.row.prog
theorem ident_tells {p : Program} {w : World} {loose : List Str} {mean : ExcName → Option Value} {mg mb : Str → Option Value} {dp un : Nat} {gd : Option (List Code)} {cn : Str} {nm : List (Str × NameKind)} {g1 c1 : Bool} {mo : List (Str × Const)} {a : Addr} {ccd : Value} {cl : List (Str × Addr)} {outer : List Env} {A₀ : Around} {base h₀ : Heap} {L : Addr} {m : Str → Option Value} {news : List (Addr × Obj)} {s : Shared} {Q E : Value → Shared → Prop}
    {x y : Str} {t1 t2 : Tok}
    (B : Below A₀ base outer h₀) (F : Fr h₀ L s.heap m) (X : (hd.heap_39 w.params).In h₀) (N : News h₀ L s.heap news) (T : Top p loose mean mg mb h₀) (hdp : dp + 10 < recursionLimit) (hu : un + 100 < cLine)
    (hret : ∀ h' tk', Fr h₀ L h' m → News h₀ L h' news → Q (.bool (decide (x = y))) { s with heap := h', toks := tk' }) :
    wpAny (model PySem.Challenge.rw_dr5029_01.row.prog w) (ktrTop dp un gd cn ⟨.function, nm, g1, c1, mo⟩ L a ccd cl outer) (call (.ref 100) [.str x t1, .str y t2]) Q E s := by
  w_top off
  revert X
  k_fill
  intro X
  refine wpAny_call ?_
  k_dflt k_enter
  k_steps
  have e : (((if x = y then 1 else 2 : Nat) : Int) == 1) = decide (x = y) := by
    by_cases q : x = y <;> simp [q]
  rw [e]
  exact hret _ _ (by k_asm) (cb_drop (by assumption) (by kcj_all))
end Mine
end
section
open PySem PySem.W PyProof.Rows PySem.Calls PySem.Spec
set_option maxRecDepth 100000
set_option maxHeartbeats 8000000
namespace Mine
local macro_rules | `(tactic| k_room) => `(tactic| ktr_room)
local macro_rules | `(tactic| k_units) => `(tactic| ktr_units)
local macro_rules | `(tactic| tb_rel) => `(tactic| first | exact List.mem_cons_self .. | assumption | (refine' List.mem_cons_of_mem _ ?_; tb_rel))
local macro_rules | `(tactic| k_mem) => `(tactic| tb_rel)
local macro_rules | `(tactic| k_all) => `(tactic| first | assumption | exact ne_of_allLt (by assumption))
local macro_rules | `(tactic| k_get) => `(tactic| assumption)
local macro_rules | `(tactic| walk_at "getMethod ref") => `(tactic| (k_here; k_dflt (refine' method_val ?k1 ?k2 ?k3 ?k4 ?k5 ?_; (case k1 => k_asm); (case k2 => k_asm); (case k3 => k_inst); (case k4 => k_is); (case k5 => k_is); k_whole)))
local macro_rules | `(tactic| walk_at "call ref") => `(tactic| (k_here; (with_reducible show wpAny _ _ (call (Value.ref 100) [Value.str _ _, Value.str _ _]) _ _ _); (k_dflt (refine' ident_tells ?k1 ?k2 ?k3 ?k4 ?k5 ?k6 ?k7 ?_; (case k1 => k_asm); (case k2 => k_asm); (case k3 => k_asm); (case k4 => k_asm); (case k5 => k_asm); (case k6 => k_room); (case k7 => k_units); k_whole)); intro h' tk' F' N'; (try dsimp only)))

local macro_rules | `(tactic| k_enter) => `(tactic| (kp_kind "rest"; (fail_if_success k_inElt); (refine' rest_cells ?k1 ?k2 ?k3 ?k4 ?k5 ?kA ?kF ?kK ?k6 ?k7 ?k8 ?kV ?kP ?kG ?kB ?kD ?_ ?c2 ?c3 ?c4; (case kA => exact rfl); (case kF => exact rfl); (case kK => exact rfl); (case k1 => k_asm); (case k2 => k_asm); (case k3 => k_asm); (case k4 => k_asm); (case k5 => k_asm); (case k6 => k_is); (case k7 => k_is); (case k8 => k_room); (case kV => kl_lit); (case kP => exact rfl); (case kG => exact fun _ => rfl); (case kB => exact fun _ => rfl); (case kD => decide +kernel); (case c2 => exact rfl); (case c3 => exact rfl); (case c4 => exact rfl); k_whole; intro D' g' L' h' tk' cells' l1 FG' F' N' Y' B' X' T' l2; (try k_lt l1); (try k_lt l2); k_cells Y'; (try simp only [List.cons_append, List.nil_append] at N'); (try dsimp only); (try k_lift B'); (try k_fold))))
local macro_rules | `(tactic| walk_at "eval Call Attribute") => `(tactic| (k_here; (with_reducible show wpAny _ _ (eval (Expr.Call (Expr.Attribute _ _ _) [Expr.Starred _ _] [] _) _) _ _ _); refine methodCall_star ?_))
local macro_rules | `(tactic| walk_at "getAttr ref") => `(tactic| (k_here; k_dflt (refine' get_sm ?k1 ?k2 ?k4 ?k5 ?k6 ?k7 ?k9 ?k10 ?k11 ?k12 ?k13 ?k14 ?_; (case k1 => k_asm); (case k2 => k_asm); (case k4 => k_inst); (case k5 => k_is); (case k6 => k_is); (case k7 => k_is); (case k9 => k_is); (case k10 => k_is); (case k11 => decide +kernel); (case k12 => k_get); (case k13 => k_is); (case k14 => k_handed); k_whole)))
local macro_rules | `(tactic| walk_at "call builtin:all") => `(tactic| (k_here; (with_reducible show wpAny _ _ (call (Value.builtin "all") [Value.ref _]) _ _ _); (k_dflt (refine' all_two ?k0 ?k1 ?k2 ?k3 ?k4 ?k5 ?_; (case k0 => with_unfolding_all rfl); (case k1 => k_asm); (case k2 => k_asm); (case k3 => k_mem); (case k4 => omega); (case k5 => omega); k_whole)); intro h' tk' F' N'; (try k_sweep)))
theorem seqs_code {p : Program} {w : World} {loose : List Str} {mean : ExcName → Option Value} {mg mb : Str → Option Value} {dp un : Nat} {gd : Option (List Code)} {cn : Str} {nm : List (Str × NameKind)} {g1 c1 : Bool} {mo : List (Str × Const)} {a : Addr} {ccd : Value} {cl : List (Str × Addr)} {outer : List Env} {A₀ : Around} {base h₀ : Heap} {L : Addr} {m : Str → Option Value} {news : List (Addr × Obj)} {s : Shared} {Q E : Value → Shared → Prop}
    {x y : Str} {t1 t2 : Tok} {C ob dx : Addr} {es : List DictEntry} {n : Nat} {v1 : Tok}
    (B : Below A₀ base outer h₀) (F : Fr h₀ L s.heap m) (X : (hd.heap_39 w.params).In h₀) (N : News h₀ L s.heap news) (T : Top p loose mean mg mb h₀) (hdp : dp + 20 < recursionLimit) (hu : un + 200 < cLine)
    (hC : C = 225 ∨ C = 266 ∨ C = 307) (ho1 : (ob, instObj C dx) ∈ news) (ho2 : (dx, dictOf es n) ∈ news) (hq : getL (Str.ofString "qval") es = some (some (.int 1 v1)))
    (hret : ∀ D c h' tk', Fr h₀ L h' m → News h₀ L h' ((D, listOf #[.str x t1, .str y t2] c) :: news) → AllLt D news → Q (.ref D) { s with heap := h', toks := tk' }) :
    codeAny (model PySem.Challenge.rw_dr5029_01.row.prog w) (ktrTop dp un gd cn ⟨.function, nm, g1, c1, mo⟩ L a ccd cl outer) (.call (.ref 108) ⟨[.ref ob, .str x t1, .str y t2], []⟩) (fun r s' => match r with | .ok (.ret v) => Q v s' | .ok _ => False | .error e => E e s') s := by
  w_top off
  revert X
  k_fill
  intro X
  rcases hC with rfl | rfl | rfl
  all_goals
    k_dflt k_enter
    k_steps
    refine' hret _ _ _ _ ?e1 ?e2 ?e3
    (case e1 => k_asm)
    (case e2 => (refine' cb_drop ?n1 ?s1; (case n1 => assumption); (case s1 => kcj_all)))
    (case e3 => (repeat (with_reducible rename (_ ∧ _) => hh9; cases hh9)); assumption)
theorem seqs_tells {p : Program} {w : World} {loose : List Str} {mean : ExcName → Option Value} {mg mb : Str → Option Value} {dp un : Nat} {gd : Option (List Code)} {cn : Str} {nm : List (Str × NameKind)} {g1 c1 : Bool} {mo : List (Str × Const)} {a : Addr} {ccd : Value} {cl : List (Str × Addr)} {outer : List Env} {A₀ : Around} {base h₀ : Heap} {L : Addr} {m : Str → Option Value} {news : List (Addr × Obj)} {s : Shared} {Q E : Value → Shared → Prop}
    {x y : Str} {t1 t2 : Tok} {C ob dx : Addr} {es : List DictEntry} {n : Nat} {v1 : Tok}
    (B : Below A₀ base outer h₀) (F : Fr h₀ L s.heap m) (X : (hd.heap_39 w.params).In h₀) (N : News h₀ L s.heap news) (T : Top p loose mean mg mb h₀) (hdp : dp + 20 < recursionLimit) (hu : un + 200 < cLine)
    (hC : C = 225 ∨ C = 266 ∨ C = 307) (ho1 : (ob, instObj C dx) ∈ news) (ho2 : (dx, dictOf es n) ∈ news) (hq : getL (Str.ofString "qval") es = some (some (.int 1 v1)))
    (hret : ∀ D c h' tk', Fr h₀ L h' m → News h₀ L h' ((D, listOf #[.str x t1, .str y t2] c) :: news) → AllLt D news → Q (.ref D) { s with heap := h', toks := tk' }) :
    wpAny (model PySem.Challenge.rw_dr5029_01.row.prog w) (ktrTop dp un gd cn ⟨.function, nm, g1, c1, mo⟩ L a ccd cl outer) (call (.ref 108) [.ref ob, .str x t1, .str y t2]) Q E s := wpAny_call (seqs_code B F X N T hdp hu hC ho1 ho2 hq hret)

theorem quick_tells {p : Program} {w : World} {loose : List Str} {mean : ExcName → Option Value} {mg mb : Str → Option Value} {dp un : Nat} {gd : Option (List Code)} {cn : Str} {nm : List (Str × NameKind)} {g1 c1 : Bool} {mo : List (Str × Const)} {a : Addr} {ccd : Value} {cl : List (Str × Addr)} {outer : List Env} {A₀ : Around} {base h₀ : Heap} {L : Addr} {m : Str → Option Value} {news : List (Addr × Obj)} {s : Shared} {Q E : Value → Shared → Prop}
    {x y : Str} {t1 t2 : Tok} {C ob dx : Addr} {es : List DictEntry} {n : Nat}
    (B : Below A₀ base outer h₀) (F : Fr h₀ L s.heap m) (X : (hd.heap_39 w.params).In h₀) (N : News h₀ L s.heap news) (T : Top p loose mean mg mb h₀) (hdp : dp + 20 < recursionLimit) (hu : un + 200 < cLine)
    (hC : C = 266 ∨ C = 307) (ho1 : (ob, instObj C dx) ∈ news) (ho2 : (dx, dictOf es n) ∈ news) (hq : getL (Str.ofString "_ident") es = some none) (hq2 : getL (Str.ofString "maximum") es = some none)
    (hx : 1 ≤ x.length ∧ x.length ≤ 1000) (hy : 1 ≤ y.length ∧ y.length ≤ 1000)
    (hret : ∀ t h' tk', x = y → Fr h₀ L h' m → News h₀ L h' news → Q (.int 0 t) { s with heap := h', toks := tk' })
    (hret2 : ∀ h' tk', x ≠ y → Fr h₀ L h' m → News h₀ L h' news → Q .none { s with heap := h', toks := tk' }) :
    wpAny (model PySem.Challenge.rw_dr5029_01.row.prog w) (ktrTop dp un gd cn ⟨.function, nm, g1, c1, mo⟩ L a ccd cl outer) (call (.ref 93) [.ref ob, .str x t1, .str y t2]) Q E s := by
  w_top off
  revert X
  k_fill
  intro X
  rcases hC with rfl | rfl
  all_goals
    refine wpAny_call ?_
    k_dflt k_enter
    k_steps
    · exact hret _ _ _ (by assumption) (by k_asm) (cb_drop (by assumption) (by kcj_all))
    · exact hret2 _ _ (by assumption) (by k_asm) (cb_drop (by assumption) (by kcj_all))
end Mine
end
section
open PySem PySem.W PyProof.Rows PySem.Calls PySem.Spec
set_option maxRecDepth 100000
set_option maxHeartbeats 8000000
namespace Mine
local macro_rules | `(tactic| walk_at "none") => `(tactic| fail)
local macro_rules | `(tactic| k_room) => `(tactic| ktr_room)
local macro_rules | `(tactic| k_units) => `(tactic| ktr_units)
local macro_rules | `(tactic| walk_at "exec For Name Call cons nil") => `(tactic| (k_here; refine Hold.of ?_))
local macro_rules | `(tactic| walk_at "pyIter ref") => `(tactic| (k_here; (with_reducible show wpAny _ _ (pyIter _) (fun _ _ => LoopAtV _ _ _ _ _ _ _ _ _ _ _) _ _); refine Hold.of ?_))
local macro_rules | `(tactic| walk_at "call ref") => `(tactic| (k_here; (with_reducible show wpAny _ _ (call (Value.ref 100) [Value.str _ _, Value.str _ _]) _ _ _); (k_dflt (refine' ident_tells ?k1 ?k2 ?k3 ?k4 ?k5 ?k6 ?k7 ?_; (case k1 => k_asm); (case k2 => k_asm); (case k3 => k_asm); (case k4 => k_asm); (case k5 => k_asm); (case k6 => k_room); (case k7 => k_units); k_whole)); intro h' tk' F' N'; (try dsimp only)))
local macro_rules | `(tactic| walk_at "getMethod ref") => `(tactic| (k_here; k_dflt (refine' method_val ?k1 ?k2 ?k3 ?k4 ?k5 ?_; (case k1 => k_asm); (case k2 => k_asm); (case k3 => k_inst); (case k4 => k_is); (case k5 => k_is); k_whole)))
local macro_rules | `(tactic| tb_rel) => `(tactic| first | exact List.mem_cons_self .. | assumption | (refine' List.mem_cons_of_mem _ ?_; tb_rel))
local macro_rules | `(tactic| k_mem) => `(tactic| tb_rel)
local macro_rules | `(tactic| walk_at "call builtin:min") => `(tactic| (k_here; (with_reducible show wpAny _ _ (call (Value.builtin _) [Value.int _ _, Value.int _ _, Value.int _ _]) _ _ _); (k_dflt (refine' min_three_N ?k0 ?k1 ?k2 ?_; (case k0 => with_unfolding_all rfl); (case k1 => k_asm); (case k2 => k_asm); k_whole)); intro h' tk' t' F' N'; (try k_sweep)))
local macro_rules | `(tactic| k_all) => `(tactic| first | exact List.forall_mem_nil _ | with_reducible assumption | exact ne_of_allLt (by with_reducible assumption) | (refine' List.forall_mem_cons.mpr ⟨?a, ?b⟩; (case a => k_ne); (case b => k_all)) | assumption | exact ne_of_allLt (by assumption))
local macro_rules | `(tactic| kcj_all) => `(tactic| with_reducible (first | exact List.forall_mem_nil _ | (refine' List.forall_mem_cons.mpr ⟨?a, ?b⟩; (case a => tb_rel); (case b => kcj_all)) | (intro p9 h9; tb_rel)))
abbrev methD (q1 q2 q3 : Int) (u1 u2 u3 v1 : Tok) : List DictEntry := [⟨q1, .str "qval" u1, .int 1 v1⟩, ⟨q2, .str "test_func" u2, .ref 100⟩, ⟨q3, .str "external" u3, .bool true⟩]
theorem cycled_tells {p : Program} {w : World} {loose : List Str} {mean : ExcName → Option Value} {mg mb : Str → Option Value} {dp un : Nat} {gd : Option (List Code)} {cn : Str} {nm : List (Str × NameKind)} {g1 c1 : Bool} {mo : List (Str × Const)} {a : Addr} {ccd : Value} {cl : List (Str × Addr)} {outer : List Env} {A₀ : Around} {base h₀ : Heap} {L : Addr} {m : Str → Option Value} {news : List (Addr × Obj)} {s : Shared} {Q E : Value → Shared → Prop}
    {x y : Str} {t1 t2 : Tok} {ob dx : Addr} {q1 q2 q3 : Int} {u1 u2 u3 v1 : Tok}
    (B : Below A₀ base outer h₀) (F : Fr h₀ L s.heap m) (X : (hd.heap_39 w.params).In h₀) (N : News h₀ L s.heap news) (T : Top p loose mean mg mb h₀) (hdp : dp + 20 < recursionLimit) (hu : un + 200 < cLine)
    (ho1 : (ob, instObj 266 dx) ∈ news) (ho2 : (dx, dictOf (methD q1 q2 q3 u1 u2 u3 v1) 3) ∈ news) (hx : x.length ≤ 6) (hy : y.length ≤ 6)
    (hret : ∀ t h' tk', Fr h₀ L h' m → News h₀ L h' news → Q (.int (lv (eqAt x y) x.length y.length) t) { s with heap := h', toks := tk' }) :
    wpAny (model PySem.Challenge.rw_dr5029_01.row.prog w) (ktrTop dp un gd cn ⟨.function, nm, g1, c1, mo⟩ L a ccd cl outer) (call (.ref 256) [.ref ob, .str x t1, .str y t2]) Q E s := by
  w_top off
  revert X
  k_fill
  intro X
  refine wpAny_call ?_
  k_dflt k_enter
  k_steps
  refine Hold.out ?_
  refine' for_any ?F ?hx ?hp ?hs ?hE ?_
  (case F => k_asm); (case hx => with_unfolding_all rfl); (case hp => with_unfolding_all rfl); (case hs => intro _; with_unfolding_all rfl); (case hE => passes_own)
  k_steps
  refine Hold.out ?_
  refine' iter_range (σ := Addr × List Value × List Int × Nat) (fun c => (c.1, listOf c.2.1.toArray c.2.2.2) :: news) (fun c => [("cur", .ref c.1), ("self", .ref ob), ("s1", .str x t1), ("s2", .str y t2), ("cols", .int (y.length + 1) _)])
    (fun i c => IntsAre c.2.1 c.2.2.1 ∧ c.2.2.1.length = y.length + 1 ∧ (∀ j ≤ y.length, c.2.2.1.getD j 0 = lv (eqAt x y) i j) ∧ AllLt c.1 news) (_, _, _, _) ?hh ?hr ?hsm ?hn ?F ?N ?hk ?hp ?turn ?done
  case hh => with_unfolding_all rfl
  case hr => assumption
  case F => k_asm
  case N => k_asm
  case hsm => exact small_one (by first | decide | omega) (by first | decide | omega) (by first | decide | omega) (by first | decide | omega)
  case hn => exact rangeSize_nat _ _
  case hk => kst_all
  case hp =>
    refine ⟨by assumption, by refine (rangeKs_length 0 _).trans ?_; omega, fun j hj => ?_, by ktn_lt⟩
    rw [lv_0]; exact rangeKs_getD _ _ (by omega)
  case turn =>
    rintro ⟨D, vs, ns, cc⟩ i k t u h tk I o hk hi ⟨hI, hl, hv, hlt⟩ hne F1 N1
    dsimp only [kstB] at F1 N1 hI hl hv hlt hne
    simp only [List.forall_mem_cons] at hne
    have hix : i < x.length := by omega
    k_steps
    refine Hold.out ?_
    refine' for_any ?F2 ?hx2 ?hp2 ?hs2 ?hE2 ?_
    (case F2 => k_asm); (case hx2 => with_unfolding_all rfl); (case hp2 => with_unfolding_all rfl); (case hs2 => intro _; with_unfolding_all rfl); (case hE2 => passes_own)
    k_steps
    refine Hold.out ?_
    refine' iter_range (σ := Addr × List Value × List Int × Nat) (fun c => (c.1, listOf c.2.1.toArray c.2.2.2) :: (D, listOf vs.toArray cc) :: (I, o) :: news) (fun c => [("cur", .ref c.1), ("prev", .ref D), ("r", .int k t), ("self", .ref ob), ("s1", .str x t1), ("s2", .str y t2), ("cols", .int (y.length + 1) _)])
      (fun j c => IntsAre c.2.1 c.2.2.1 ∧ c.2.2.1.length = y.length + 1 ∧ (∀ j' ≤ y.length, c.2.2.1.getD j' 0 = if j' < j + 1 then lv (eqAt x y) (i + 1) j' else 0) ∧ AllLt c.1 news ∧ (D : Nat) < c.1 ∧ (I : Nat) < c.1) (_, _, _, _) ?hh3 ?hr3 ?hsm3 ?hn3 ?F3 ?N3 ?hk3 ?hp3 ?turn3 ?done3
    case hh3 => with_unfolding_all rfl
    case hr3 => assumption
    case F3 => k_asm
    case N3 => refine' cb_drop ?n3 ?s3; (case n3 => k_asm); (case s3 => kcj_all)
    case hsm3 => exact small_one (by first | decide | omega) (by first | decide | omega) (by first | decide | omega) (by first | decide | omega)
    case hn3 => exact rangeSize_nat _ _
    case hk3 => kst_all
    case hp3 =>
      have e1 : ((y.length : Int) + 1 - 1).toNat = y.length := by omega
      repeat (with_reducible rename (_ ∧ _) => hh9; cases hh9)
      refine ⟨by assumption, by refine (row0_len _ _).trans ?_; omega, fun j hj => ?_, by assumption, ltN (by (try dsimp only); omega), ltN (by (try dsimp only); omega)⟩
      refine (row0_getD _ _ _).trans ?_
      by_cases hj0 : j < 1
      · have : j = 0 := by omega
        subst this
        rw [if_pos hj0, if_pos (by omega), lv_s0]; omega
      · rw [if_neg hj0, if_neg (by omega)]
    case turn3 =>
      rintro ⟨D1, vs1, ns1, cc1⟩ j k1 tt1 u1 h1 tk1 I1 o1 hk1 hi1 ⟨hI1, hl1, hv1, hlt1, hlt2, hlt3⟩ hne1 F2 N2
      dsimp only [kstB] at F2 N2 hI1 hl1 hv1 hlt1 hne1 hlt2 hlt3
      simp only [List.forall_mem_cons] at hne1
      obtain ⟨n1, n2, n3, n4⟩ := hne1
      replace n1 := neN n1; replace n2 := neN n2; replace n3 := neN n3; replace hlt2 := ltN hlt2; replace hlt3 := ltN hlt3
      k_steps
      refine' TurnEnd.intro (D1, _, _, cc1) ?F4 ?N4 ?hs4 ?hn4 ?hk4 ?hp4
      (case F4 => k_asm)
      (case N4 => k_asm)
      (case hs4 => kcj_all)
      (case hn4 => simp only [List.forall_mem_cons]; exact ⟨n1, n2, n3, n4⟩)
      (case hk4 => kst_all)
      (case hp4 =>
        have hj : j < y.length := by omega
        have e1 : k1.toNat = j + 1 := by omega
        have e2 : (k1 - 1).toNat = j := by omega
        have e3 : k - 1 = (i : Int) := by omega
        have e4 : k1 - 1 = (j : Int) := by omega
        have hval : min (min (ns.getD j 0 + if (!decide (Txt.item x (i : Int) = Txt.item y (j : Int))) = true then 1 else 0) (ns.getD (j + 1) 0 + 1)) (ns1.getD j 0 + 1) = lv (eqAt x y) (i + 1) (j + 1) := by
          rw [lv_ss, hv j (by omega), hv (j + 1) (by omega), hv1 j (by omega), if_pos (show j < j + 1 by omega)]
          rfl
        refine ⟨by assumption, (List.length_set ..).trans hl1, fun j' hj' => ?_, hlt1, hlt2, hlt3⟩
        dsimp only
        rw [e1, e2, e3, e4, hval, getD_set (by omega)]
        by_cases q : j' = j + 1
        · subst q
          rw [if_pos rfl, if_pos (by omega)]
        · rw [if_neg q, hv1 j' hj']
          by_cases q2 : j' < j + 1
          · rw [if_pos q2, if_pos (by omega)]
          · rw [if_neg q2, if_neg (by omega)])
    case done3 =>
      rintro ⟨D1, vs1, ns1, cc1⟩ u1 h1 tk1 ⟨hI1, hl1, hv1, hlt1, hlt2, hlt3⟩ F2 N2
      dsimp only [kstB] at F2 N2 hI1 hl1 hv1 hlt1 hlt2 hlt3
      replace hlt2 := ltN hlt2; replace hlt3 := ltN hlt3
      k_steps
      refine' TurnEnd.intro (D1, vs1, ns1, cc1) ?F5 ?N5 ?hs5 ?hn5 ?hk5 ?hp5
      (case F5 => k_asm)
      (case N5 => k_asm)
      (case hs5 => kcj_all)
      (case hn5 => simp only [List.forall_mem_cons]; exact ⟨by k_ne, hne.2⟩)
      (case hk5 => kst_all)
      (case hp5 =>
        refine ⟨hI1, hl1, fun j' hj' => ?_, hlt1⟩
        rw [hv1 j' hj', if_pos (by omega)])
  case done =>
    rintro ⟨D, vs, ns, cc⟩ u h tk ⟨hI, hl, hv, hlt⟩ F1 N1
    dsimp only [kstB] at F1 N1 hI hl hv hlt
    k_steps
    have e1 : (-1 + (ns.length : Int)).toNat = y.length := by omega
    have e2 : ((x.length : Int) + 1 - 1).toNat = x.length := by omega
    rw [e1, hv _ (Nat.le_refl _), e2]
    exact hret _ _ _ (by k_asm) (cb_drop (by assumption) (by kcj_all))
end Mine
end
section
open PySem PySem.W PyProof.Rows PySem.Calls PySem.Spec
set_option maxRecDepth 100000
set_option maxHeartbeats 8000000
namespace Mine
local macro_rules | `(tactic| k_room) => `(tactic| ktr_room)
local macro_rules | `(tactic| k_units) => `(tactic| ktr_units)
local macro_rules | `(tactic| tb_rel) => `(tactic| first | exact List.mem_cons_self .. | assumption | (refine' List.mem_cons_of_mem _ ?_; tb_rel))
local macro_rules | `(tactic| k_mem) => `(tactic| tb_rel)
local macro_rules | `(tactic| k_all) => `(tactic| first | exact List.forall_mem_nil _ | with_reducible assumption | exact ne_of_allLt (by with_reducible assumption) | (refine' List.forall_mem_cons.mpr ⟨?a, ?b⟩; (case a => k_ne); (case b => k_all)) | assumption | exact ne_of_allLt (by assumption))
local macro_rules | `(tactic| kcj_all) => `(tactic| with_reducible (first | exact List.forall_mem_nil _ | (refine' List.forall_mem_cons.mpr ⟨?a, ?b⟩; (case a => tb_rel); (case b => kcj_all)) | (intro p9 h9; tb_rel)))
local macro_rules | `(tactic| walk_at "call ref") => `(tactic| (k_here; (with_reducible show wpAny _ _ (call (Value.ref 108) _) _ _ _); (k_dflt (refine' seqs_tells ?k1 ?k2 ?k3 ?k4 ?k5 ?k6 ?k7 ?k8 ?k9 ?ka ?kb ?_; (case k1 => k_asm); (case k2 => k_asm); (case k3 => k_asm); (case k4 => k_asm); (case k5 => k_asm); (case k6 => k_room); (case k7 => k_units); (case k9 => k_mem); (case ka => k_mem); (case k8 => first | exact .inl rfl | exact .inr (.inl rfl) | exact .inr (.inr rfl)); (case kb => k_get); k_whole)); intro D' c' h' tk' F' N' l1; (try dsimp only)))
local macro_rules | `(tactic| walk_at "call ref") => `(tactic| (k_here; (with_reducible show wpAny _ _ (call (Value.ref 93) _) _ _ _); (k_dflt (refine' quick_tells ?k1 ?k2 ?k3 ?k4 ?k5 ?k6 ?k7 ?k8 ?k9 ?ka ?kb ?kc ?kd ?ke ?_ ?_; (case k1 => k_asm); (case k2 => k_asm); (case k3 => k_asm); (case k4 => k_asm); (case k5 => k_asm); (case k6 => k_room); (case k7 => k_units); (case k9 => k_mem); (case ka => k_mem); (case k8 => first | exact .inl rfl | exact .inr rfl); (case kb => k_get); (case kc => k_get); (case kd => omega); (case ke => omega))); (first | (intro t' h' tk' e' F' N'; (try dsimp only)) | (intro h' tk' e' F' N'; (try dsimp only)))))
local macro_rules | `(tactic| walk_at "call ref") => `(tactic| (k_here; (with_reducible show wpAny _ _ (call (Value.ref 256) _) _ _ _); (k_dflt (refine' cycled_tells ?k1 ?k2 ?k3 ?k4 ?k5 ?k6 ?k7 ?k8 ?k9 ?ka ?kb ?_; (case k1 => k_asm); (case k2 => k_asm); (case k3 => k_asm); (case k4 => k_asm); (case k5 => k_asm); (case k6 => k_room); (case k7 => k_units); (case k8 => k_mem); (case k9 => k_mem); (case ka => omega); (case kb => omega); k_whole)); intro t' h' tk' F' N'; (try dsimp only)))

theorem lev_code {p : Program} {w : World} {loose : List Str} {mean : ExcName → Option Value} {mg mb : Str → Option Value} {dp un : Nat} {gd : Option (List Code)} {cn : Str} {nm : List (Str × NameKind)} {g1 c1 : Bool} {mo : List (Str × Const)} {a : Addr} {ccd : Value} {cl : List (Str × Addr)} {outer : List Env} {A₀ : Around} {base h₀ : Heap} {L : Addr} {m : Str → Option Value} {news : List (Addr × Obj)} {s : Shared} {Q E : Value → Shared → Prop}
    {x y : Str} {t1 t2 : Tok} {ob dx : Addr} {q1 q2 q3 : Int} {u1 u2 u3 v1 : Tok}
    (B : Below A₀ base outer h₀) (F : Fr h₀ L s.heap m) (X : (hd.heap_39 w.params).In h₀) (N : News h₀ L s.heap news) (T : Top p loose mean mg mb h₀) (hdp : dp + 40 < recursionLimit) (hu : un + 400 < cLine)
    (ho1 : (ob, instObj 266 dx) ∈ news) (ho2 : (dx, dictOf (methD q1 q2 q3 u1 u2 u3 v1) 3) ∈ news) (hx : 1 ≤ x.length ∧ x.length ≤ 6) (hy : 1 ≤ y.length ∧ y.length ≤ 6)
    (hret : ∀ t h' tk', Fr h₀ L h' m → News h₀ L h' news → Q (.int (if x = y then 0 else lv (eqAt x y) x.length y.length) t) { s with heap := h', toks := tk' }) :
    codeAny (model PySem.Challenge.rw_dr5029_01.row.prog w) (ktrTop dp un gd cn ⟨.function, nm, g1, c1, mo⟩ L a ccd cl outer) (.call (.ref 263) ⟨[.ref ob, .str x t1, .str y t2], []⟩) (fun r s' => match r with | .ok (.ret v) => Q v s' | .ok _ => False | .error e => E e s') s := by
  w_top off
  revert X
  k_fill
  intro X
  k_dflt k_enter
  k_steps
  · rw [if_pos (by assumption)] at hret
    exact hret _ _ _ (by k_asm) (cb_drop (by assumption) (by kcj_all))
  · rw [if_neg (by assumption)] at hret
    exact hret _ _ _ (by k_asm) (cb_drop (by assumption) (by kcj_all))
end Mine
end
section
open PySem PySem.W PyProof.Rows PySem.Calls PySem.Spec
set_option maxRecDepth 100000
set_option maxHeartbeats 8000000
namespace Mine
local macro_rules | `(tactic| k_room) => `(tactic| ktr_room)
local macro_rules | `(tactic| k_units) => `(tactic| ktr_units)
local macro_rules | `(tactic| tb_rel) => `(tactic| first | exact List.mem_cons_self .. | assumption | (refine' List.mem_cons_of_mem _ ?_; tb_rel))
local macro_rules | `(tactic| k_mem) => `(tactic| tb_rel)
local macro_rules | `(tactic| k_all) => `(tactic| first | exact List.forall_mem_nil _ | with_reducible assumption | exact ne_of_allLt (by with_reducible assumption) | (refine' List.forall_mem_cons.mpr ⟨?a, ?b⟩; (case a => k_ne); (case b => k_all)) | assumption | exact ne_of_allLt (by assumption))
local macro_rules | `(tactic| kcj_all) => `(tactic| with_reducible (first | exact List.forall_mem_nil _ | (refine' List.forall_mem_cons.mpr ⟨?a, ?b⟩; (case a => tb_rel); (case b => kcj_all)) | (intro p9 h9; tb_rel)))
local macro_rules | `(tactic| walk_at "exec For Name Call cons nil") => `(tactic| (k_here; refine Hold.of ?_))
local macro_rules | `(tactic| walk_at "exec For Tuple Call cons nil") => `(tactic| (k_here; refine Hold.of ?_))
local macro_rules | `(tactic| walk_at "call type:enumerate") => `(tactic| (k_here; refine Hold.of ?_))
local macro_rules | `(tactic| walk_at "setItem ref ref") => `(tactic| (k_here; refine Hold.of ?_))
local macro_rules | `(tactic| walk_at "pyIter ref") => `(tactic| (k_here; (with_reducible show wpAny _ _ (pyIter _) (fun _ _ => LoopAtV _ _ _ _ _ _ _ _ _ _ _) _ _); refine Hold.of ?_))
local macro_rules | `(tactic| walk_at "call ref") => `(tactic| (k_here; (with_reducible show wpAny _ _ (call (Value.ref 100) [Value.str _ _, Value.str _ _]) _ _ _); (k_dflt (refine' ident_tells ?k1 ?k2 ?k3 ?k4 ?k5 ?k6 ?k7 ?_; (case k1 => k_asm); (case k2 => k_asm); (case k3 => k_asm); (case k4 => k_asm); (case k5 => k_asm); (case k6 => k_room); (case k7 => k_units); k_whole)); intro h' tk' F' N'; (try dsimp only)))
local macro_rules | `(tactic| walk_at "subscriptTail") => `(tactic| (k_here; (with_reducible show wpAny _ _ (subscriptTail _ _ (Value.ref _) (Value.ref _)) _ _ _); (k_dflt (refine' tt_get ?ku ?kN ?kT ?kS ?kk ?kl ?_ ?kh ?kg; (case ku => k_units); (case kN => k_asm); (case kT => with_reducible assumption); (case kS => (intro p9 h9; repeat (first | with_reducible exact h9 | refine List.mem_cons_of_mem _ ?_))); (case kk => k_mem); (case kl => with_reducible assumption); (case kh => with_unfolding_all rfl); (case kg => intro _; with_unfolding_all rfl); k_whole)); intro t' tk'))
local macro_rules | `(tactic| walk_at "call builtin:min") => `(tactic| (k_here; (with_reducible show wpAny _ _ (call (Value.builtin _) [Value.int _ _, Value.int _ _, Value.int _ _]) _ _ _); (k_dflt (refine' min_three_N ?k0 ?k1 ?k2 ?_; (case k0 => with_unfolding_all rfl); (case k1 => k_asm); (case k2 => k_asm); k_whole)); intro h' tk' t' F' N'; (try k_sweep)))
local macro_rules | `(tactic| walk_at "getMethod ref") => `(tactic| (k_here; k_dflt (refine' method_val ?k1 ?k2 ?k3 ?k4 ?k5 ?_; (case k1 => k_asm); (case k2 => k_asm); (case k3 => k_inst); (case k4 => k_is); (case k5 => k_is); k_whole)))
local macro_rules | `(tactic| walk_at "newTuple") => `(tactic| (k_here; k_dflt (refine' kup_newTuple ?F ?N ?_ ?z; (case F => k_asm); (case N => k_asm); (case z => kmk_size)); intro D' h' F' N' l1; (try k_lt l1); (try k_sweep)))
abbrev methD4 (q1 q2 q3 q4 : Int) (u1 u2 u3 u4 v1 : Tok) : List DictEntry := [⟨q1, .str "qval" u1, .int 1 v1⟩, ⟨q2, .str "test_func" u2, .ref 100⟩, ⟨q3, .str "external" u3, .bool true⟩, ⟨q4, .str "restricted" u4, .bool true⟩]
theorem osa_tells {p : Program} {w : World} {loose : List Str} {mean : ExcName → Option Value} {mg mb : Str → Option Value} {dp un : Nat} {gd : Option (List Code)} {cn : Str} {nm : List (Str × NameKind)} {g1 c1 : Bool} {mo : List (Str × Const)} {a : Addr} {ccd : Value} {cl : List (Str × Addr)} {outer : List Env} {A₀ : Around} {base h₀ : Heap} {L : Addr} {m : Str → Option Value} {news : List (Addr × Obj)} {s : Shared} {Q E : Value → Shared → Prop}
    {x y : Str} {t1 t2 : Tok} {ob dx : Addr} {q1 q2 q3 q4 : Int} {u1 u2 u3 u4 v1 : Tok}
    (B : Below A₀ base outer h₀) (F : Fr h₀ L s.heap m) (X : (hd.heap_39 w.params).In h₀) (N : News h₀ L s.heap news) (T : Top p loose mean mg mb h₀) (hdp : dp + 20 < recursionLimit) (hu : un + 200 < cLine)
    (ho1 : (ob, instObj 307 dx) ∈ news) (ho2 : (dx, dictOf (methD4 q1 q2 q3 q4 u1 u2 u3 u4 v1) 4) ∈ news) (hx : 1 ≤ x.length ∧ x.length ≤ 6) (hy : 1 ≤ y.length ∧ y.length ≤ 6)
    (hret : ∀ t h' tk', Fr h₀ L h' m → News h₀ L h' news → Q (.int (os (eqAt x y) x.length y.length) t) { s with heap := h', toks := tk' }) :
    wpAny (model PySem.Challenge.rw_dr5029_01.row.prog w) (ktrTop dp un gd cn ⟨.function, nm, g1, c1, mo⟩ L a ccd cl outer) (call (.ref 297) [.ref ob, .str x t1, .str y t2]) Q E s := by
  w_top off
  revert X
  k_fill
  intro X
  refine wpAny_call ?_
  k_dflt k_enter
  k_steps
  refine Hold.out ?_
  refine' for_any ?F ?hx ?hp ?hs ?hE ?_
  (case F => k_asm); (case hx => with_unfolding_all rfl); (case hp => with_unfolding_all rfl); (case hs => intro _; with_unfolding_all rfl); (case hE => passes_own)
  k_steps
  refine Hold.out ?_
  refine' iter_range (σ := Addr × List (Addr × Obj) × List (PyData × PyData)) (fun c => c.2.1) (fun c => [("d", .ref c.1), ("self", .ref ob), ("s1", .str x t1), ("s2", .str y t2)])
    (fun i c => TupTab (intKind PySem.Challenge.rw_dr5029_01.row.prog w) PyData.int c.2.1 c.1 c.2.2 ∧ c.2.2.length ≤ i ∧ (∀ p ∈ news, p ∈ c.2.1) ∧ AllLt c.1 news ∧ T1 i c.2.2) (_, _, []) ?hh ?hr ?hsm ?hn ?F2 ?N2 ?hk ?hp2 ?turn ?done
  case hh => with_unfolding_all rfl
  case hr => assumption
  case F2 => k_asm
  case N2 => k_asm
  case hsm => exact small_one (by first | decide | omega) (by first | decide | omega) (by first | decide | omega) (by first | decide | omega)
  case hn => exact rangeSize_nat _ _
  case hk => kst_all
  case hp2 =>
    refine ⟨TupTab.ofEmpty (List.mem_cons_self ..) (by assumption) (by assumption), Nat.le_refl _, fun p hp => List.mem_cons_of_mem _ hp, by ktn_lt, fun a ha => absurd ha (Nat.not_lt_zero _)⟩
  case turn =>
    rintro ⟨d, c, D⟩ i k t u h tk I o hk hi ⟨hT, hD, hsub, hlt, htab⟩ hne F1 N1
    dsimp only [kstB] at F1 N1 hT hD hsub hlt htab hne
    k_steps
    refine Hold.out ?_
    have hId : d ≠ I := by obtain ⟨_, hm⟩ := tt_mem hT; exact hne _ hm
    refine' tt_set (pre := [(I, o)]) ?hu1 ?F3 ?N3 hT ?hk3 ?hs3 ?hp3 ?hpd3 ?hsz3 ?h3
    case hu1 => k_units
    case F3 => k_asm
    case N3 => k_asm
    case hk3 => k_mem
    case hs3 => kcj_all
    case hp3 => kcj_all
    case hpd3 => exact fun p hp => by rw [List.mem_singleton.mp hp]; exact fun e => hId e.symm
    case hsz3 => omega
    case h3 =>
      intro h3 c3 tk3 F3 N3 T3 hm3 ha3
      simp only [List.cons_append, List.nil_append] at N3
      k_steps
      refine' TurnEnd.intro (d, c3, PyProof.V.putD (key2 k (-1)) (PyData.int (k + 1)) D) ?F4 ?N4 ?hs4 ?hn4 ?hk4 ?hp4
      (case F4 => k_asm)
      (case N4 => k_asm)
      (case hs4 => kcj_all)
      (case hn4 =>
        intro p hp
        repeat (with_reducible rename (_ ∧ _) => hh9; cases hh9)
        rcases ha3 p hp with e | ⟨q, hq, e⟩
        · rw [e]; k_ne
        · rw [← e]; exact hne q hq)
      (case hk4 => kst_all)
      (case hp4 =>
        exact ⟨T3, Nat.le_trans (len_put _ _ _ _) (by (try dsimp only); omega), fun p hp => hm3 p (hsub p hp) (ne_of_allLt hlt p hp), hlt, t1_put htab hk⟩)
  case done =>
    rintro ⟨d, c, D⟩ u h tk ⟨hT, hD, hsub, hlt, htab⟩ F1 N1
    dsimp only [kstB] at F1 N1 hT hD hsub hlt htab
    have hn1 : ((x.length : Int) + 1 - -1).toNat = x.length + 2 := by omega
    rw [hn1] at hD htab
    k_steps
    refine Hold.out ?_
    refine' for_any ?G ?gx ?gp ?gs ?gE ?_
    (case G => k_asm); (case gx => with_unfolding_all rfl); (case gp => with_unfolding_all rfl); (case gs => intro _; with_unfolding_all rfl); (case gE => passes_own)
    k_steps
    refine Hold.out ?_
    refine' iter_range (σ := List (Addr × Obj) × List (PyData × PyData)) (fun c => c.1) (fun c => [("d", .ref d), ("self", .ref ob), ("s1", .str x t1), ("s2", .str y t2)])
      (fun j c => TupTab (intKind PySem.Challenge.rw_dr5029_01.row.prog w) PyData.int c.1 d c.2 ∧ c.2.length ≤ 8 + j ∧ (∀ p ∈ news, p ∈ c.1) ∧ T1 (x.length + 2) c.2 ∧ T2 j c.2) (c, D) ?gh ?gr ?gsm ?gn ?gF ?gN ?gk ?gp2 ?gturn ?gdone
    case gh => with_unfolding_all rfl
    case gr => assumption
    case gF => k_asm
    case gN => k_asm
    case gsm => exact small_one (by first | decide | omega) (by first | decide | omega) (by first | decide | omega) (by first | decide | omega)
    case gn => exact rangeSize_nat _ _
    case gk => kst_all
    case gp2 => exact ⟨hT, by dsimp only; omega, hsub, htab, fun b hb => absurd hb (Nat.not_lt_zero _)⟩
    case gturn =>
      rintro ⟨c, D⟩ j k t u h tk I o hk hi ⟨hT, hD, hsub, ht1, ht2⟩ hne F1 N1
      dsimp only [kstB] at F1 N1 hT hD hsub ht1 ht2 hne
      k_steps
      refine Hold.out ?_
      have hId : d ≠ I := by obtain ⟨_, hm⟩ := tt_mem hT; exact hne _ hm
      refine' tt_set (pre := [(I, o)]) ?hu1 ?F3 ?N3 hT ?hk3 ?hs3 ?hp3 ?hpd3 ?hsz3 ?h3
      case hu1 => k_units
      case F3 => k_asm
      case N3 => k_asm
      case hk3 => k_mem
      case hs3 => kcj_all
      case hp3 => kcj_all
      case hpd3 => exact fun p hp => by rw [List.mem_singleton.mp hp]; exact fun e => hId e.symm
      case hsz3 => omega
      case h3 =>
        intro h3 c3 tk3 F3 N3 T3 hm3 ha3
        simp only [List.cons_append, List.nil_append] at N3
        k_steps
        refine' TurnEnd.intro (c3, PyProof.V.putD (key2 (-1) k) (PyData.int (k + 1)) D) ?F4 ?N4 ?hs4 ?hn4 ?hk4 ?hp4
        (case F4 => k_asm)
        (case N4 => k_asm)
        (case hs4 => kcj_all)
        (case hn4 =>
          intro p hp
          repeat (with_reducible rename (_ ∧ _) => hh9; cases hh9)
          rcases ha3 p hp with e | ⟨q, hq, e⟩
          · rw [e]; k_ne
          · rw [← e]; exact hne q hq)
        (case hk4 => kst_all)
        (case hp4 =>
          have r1 := (t2_put ht1 ht2 hk).1
          have r2 := (t2_put ht1 ht2 hk).2
          exact ⟨T3, Nat.le_trans (len_put _ _ _ _) (by (try dsimp only); omega), fun p hp => hm3 p (hsub p hp) (ne_of_allLt hlt p hp), r1, r2⟩)
    case gdone =>
      rintro ⟨c, D⟩ u h tk ⟨hT, hD, hsub, ht1, ht2⟩ F1 N1
      dsimp only [kstB] at F1 N1 hT hD hsub ht1 ht2
      have hn2 : ((y.length : Int) + 1 - -1).toNat = y.length + 2 := by omega
      rw [hn2] at hD ht2
      have ht3 := t3_start (e := eqAt x y) ht1 ht2
      clear ht1 ht2
      k_steps
      refine Hold.out ?_
      refine' for_pairs ?J ?js ?_
      (case J => k_asm); (case js => intro _; with_unfolding_all rfl)
      k_steps
      refine Hold.out ?_
      refine' call_enum ?JF ?JN ?_
      (case JF => k_asm); (case JN => k_asm)
      intro hA e1 it1 FA NA XA
      refine' iter_enum (σ := List (Addr × Obj) × List (PyData × PyData)) (fun c => c.1) (fun c => [("d", .ref d), ("self", .ref ob), ("s1", .str x t1), ("s2", .str y t2)])
        (fun i c => TupTab (intKind PySem.Challenge.rw_dr5029_01.row.prog w) PyData.int c.1 d c.2 ∧ c.2.length ≤ 100 + 20 * i ∧ (∀ p ∈ news, p ∈ c.1) ∧ T3 (eqAt x y) x.length y.length i 0 c.2) (c, D) ?lh XA ?lF ?lN ?ls ?lk ?lp ?lxi ?lxc ?lcl ?lE ?lturn ?ldone
      case lh => with_unfolding_all rfl
      case lF => k_asm
      case lN => k_asm
      case ls => exact fun p hp => hp
      case lk => kst_all
      case lp => exact ⟨hT, by dsimp only; omega, hsub, ht3⟩
      case lxi => with_unfolding_all rfl
      case lxc => with_unfolding_all rfl
      case lcl => with_unfolding_all rfl
      case lE => passes_own
      case lturn =>
        rintro ⟨c, D⟩ i k ti tc u h tk oe1 oi1 hki hi ⟨hT, hD, hsub, ht3⟩ hne F1 N1
        dsimp only [kstB] at F1 N1 hT hD hsub ht3 hne
        k_steps
        refine Hold.out ?_
        refine' for_pairs ?J2 ?js2 ?_
        (case J2 => k_asm); (case js2 => intro _; with_unfolding_all rfl)
        k_steps
        refine Hold.out ?_
        refine' call_enum ?JF2 ?JN2 ?_
        (case JF2 => k_asm); (case JN2 => k_asm)
        intro hA e2 it2 FA NA XA2
        refine' iter_enum (σ := List (Addr × Obj) × List (PyData × PyData)) (fun c => (e1, oe1) :: (it1, oi1) :: c.1) (fun c => [("d", .ref d), ("self", .ref ob), ("s1", .str x t1), ("s2", .str y t2), ("i", .int i ti), ("cs1", .str ⟨#[k]⟩ tc)])
          (fun j c => TupTab (intKind PySem.Challenge.rw_dr5029_01.row.prog w) PyData.int c.1 d c.2 ∧ c.2.length ≤ 100 + 20 * i + 2 * j ∧ (∀ p ∈ news, p ∈ c.1) ∧ T3 (eqAt x y) x.length y.length i j c.2 ∧ (∀ p ∈ c.1, p.1 ≠ e1 ∧ p.1 ≠ it1)) (c, D) ?mh XA2 ?mF ?mN ?ms ?mk ?mp ?mxi ?mxc ?mcl ?mE ?mturn ?mdone
        case mh => with_unfolding_all rfl
        case mF => k_asm
        case mN => k_asm
        case ms => exact fun p hp => hp
        case mk => kst_all
        case mp => exact ⟨hT, by dsimp only; omega, hsub, ht3, hne⟩
        case mxi => with_unfolding_all rfl
        case mxc => with_unfolding_all rfl
        case mcl => with_unfolding_all rfl
        case mE => passes_own
        case mturn =>
          rintro ⟨c, D⟩ j k2 tj tc2 u h tk oe2 oi2 hkj hj ⟨hT, hD, hsub, ht3, hne1⟩ hne2 F1 N1
          dsimp only [kstB] at F1 N1 hT hD hsub ht3 hne1 hne2
          simp only [List.forall_mem_cons] at hne2
          obtain ⟨n1, n2, n3⟩ := hne2
          have hob := hsub _ ho1
          have hdx := hsub _ ho2
          have g1 := t3_get1 ht3 hi hj
          have g2 := t3_get2 ht3 hi hj
          have g3 := t3_get3 ht3 hi hj
          have hic := item_at hki
          have hjc := item_at hkj
          have hosv : min (min (os (eqAt x y) i (j + 1) + 1) (os (eqAt x y) (i + 1) j + 1)) (os (eqAt x y) i j + if (!decide (({ cps := #[k] } : Str) = { cps := #[k2] })) = true then 1 else 0) = osv (eqAt x y) i j := by
            unfold osv osc eqAt; rw [hic, hjc]
          have d1 : e2 ≠ d := by obtain ⟨_, hm⟩ := tt_mem hT; exact fun e => (n3 _ hm).1 e.symm
          have d2 : it2 ≠ d := by obtain ⟨_, hm⟩ := tt_mem hT; exact fun e => (n3 _ hm).2 e.symm
          have d3 : e1 ≠ d := by obtain ⟨_, hm⟩ := tt_mem hT; exact fun e => (hne1 _ hm).1 e.symm
          have d4 : it1 ≠ d := by obtain ⟨_, hm⟩ := tt_mem hT; exact fun e => (hne1 _ hm).2 e.symm
          k_steps
          refine Hold.out ?_
          refine' tt_set (pre := [(e2, oe2), (it2, oi2), (e1, oe1), (it1, oi1)]) ?hu1 ?F3 ?N3 hT ?hk3 ?hs3 ?hp3 ?hpd3 ?hsz3 ?h3
          case hu1 => k_units
          case F3 => k_asm
          case N3 => k_asm
          case hk3 => k_mem
          case hs3 => first | kcj_all | (intro p9 h9; kst_mem)
          case hp3 => kcj_all
          case hpd3 => simp only [List.forall_mem_cons]; exact ⟨d1, d2, d3, d4, fun _ h => nomatch h⟩
          case hsz3 => omega
          case h3 =>
            intro h3 c3 tk3 F3 N3 T3' hm3 ha3
            simp only [List.cons_append, List.nil_append] at N3
            rw [hosv] at T3'
            have hob3 := hm3 _ hob (ne_of_allLt hlt _ ho1)
            have hdx3 := hm3 _ hdx (ne_of_allLt hlt _ ho2)
            have hoff : ∀ p ∈ c3, (p.1 ≠ e2 ∧ p.1 ≠ it2) ∧ (p.1 ≠ e1 ∧ p.1 ≠ it1) := by
              intro p hp
              rcases ha3 p hp with e | ⟨q, hq, e⟩
              · repeat (with_reducible rename (_ ∧ _) => hh9; cases hh9)
                rw [e]; exact ⟨⟨by k_ne, by k_ne⟩, by k_ne, by k_ne⟩
              · rw [← e]; exact ⟨n3 q hq, hne1 q hq⟩
            have hoff2 := fun p hp => (hoff p hp).1
            have hoff1 := fun p hp => (hoff p hp).2
            have hsub3 : ∀ p ∈ news, p ∈ c3 := fun p hp => hm3 p (hsub p hp) (ne_of_allLt hlt p hp)
            have hDD1 : ∃ D1, lookup (key2 (i : Int) (j : Int)) D1 = some (.int (osv (eqAt x y) i j)) ∧ (∀ a b : Int, ¬ (a = (i : Int) ∧ b = (j : Int)) → lookup (key2 a b) D1 = lookup (key2 a b) D) ∧ D1.length ≤ D.length + 1 ∧ TupTab (intKind PySem.Challenge.rw_dr5029_01.row.prog w) PyData.int c3 d D1 :=
              ⟨_, by rw [look_put, if_pos ⟨rfl, rfl⟩], fun a b h => by rw [look_put, if_neg h], len_put _ _ _ _, T3'⟩
            obtain ⟨D1, hlk, hlo, hln, T3'⟩ := hDD1
            clear g1 g2 g3 hoff ha3 hm3 hT hob hdx
            k_sweep
            by_cases hz : 1 ≤ i ∧ 1 ≤ j
            · obtain ⟨hz1, hz2⟩ := hz
              have g6 : lookup (key2 ((i : Int) - 2) ((j : Int) - 2)) D1 = some (.int (os (eqAt x y) (i - 1) (j - 1))) := by
                rw [hlo _ _ (by omega)]; exact t3_get4 ht3 hi hj hz1 hz2
              k_steps
              all_goals first
              | (exfalso; omega)
              | (refine Hold.out ?_
                 refine' tt_set (pre := [(e2, oe2), (it2, oi2), (e1, oe1), (it1, oi1)]) ?bu ?bF ?bN T3' ?bk ?bs ?bp ?bd ?bz ?bh
                 (case bu => k_units)
                 (case bF => k_asm)
                 (case bN => k_asm)
                 (case bk => k_mem)
                 (case bs => (intro p9 h9; repeat (first | with_reducible exact h9 | refine List.mem_cons_of_mem _ ?_)))
                 (case bp => kcj_all)
                 (case bd => simp only [List.forall_mem_cons]; exact ⟨d1, d2, d3, d4, fun _ h => nomatch h⟩)
                 (case bz => omega)
                 (case bh =>
                   intro h4 c4 tk4 F4 N4 T4 hm4 ha4
                   simp only [List.cons_append, List.nil_append] at N4
                   have hfin := os_yes hic hjc (i := i) (j := j) (by omega) (by omega) (by assumption) (by assumption)
                   have hDD2 : ∃ D2, lookup (key2 (i : Int) (j : Int)) D2 = some (.int (os (eqAt x y) (i + 1) (j + 1))) ∧ (∀ a b : Int, ¬ (a = (i : Int) ∧ b = (j : Int)) → lookup (key2 a b) D2 = lookup (key2 a b) D) ∧ D2.length ≤ D.length + 2 ∧ TupTab (intKind PySem.Challenge.rw_dr5029_01.row.prog w) PyData.int c4 d D2 :=
                     ⟨_, by rw [look_put, if_pos ⟨rfl, rfl⟩, hfin], fun a b h => by rw [look_put, if_neg h, hlo a b h], Nat.le_trans (len_put _ _ _ _) (by omega), T4⟩
                   obtain ⟨D2, hlk2, hlo2, hln2, T4'⟩ := hDD2
                   have hoff4 : ∀ p ∈ c4, (p.1 ≠ e2 ∧ p.1 ≠ it2) ∧ (p.1 ≠ e1 ∧ p.1 ≠ it1) := by
                     intro p hp
                     rcases ha4 p hp with e | ⟨q, hq, e⟩
                     · repeat (with_reducible rename (_ ∧ _) => hh9; cases hh9)
                       rw [e]; exact ⟨⟨by k_ne, by k_ne⟩, by k_ne, by k_ne⟩
                     · rw [← e]; exact ⟨hoff2 q hq, hoff1 q hq⟩
                   k_steps
                   refine' TurnEnd2.intro (c4, D2) ?aF ?aN ?as ?an ?ak ?ap
                   (case aF => k_asm)
                   (case aN => k_asm)
                   (case as => kcj_all)
                   (case an => simp only [List.forall_mem_cons]; exact ⟨n1, n2, fun p hp => (hoff4 p hp).1⟩)
                   (case ak => kst_all)
                   (case ap => exact ⟨T4', by dsimp only; omega, fun p hp => hm4 p (hsub3 p hp) (ne_of_allLt hlt p hp), t3_step ht3 hi hj hlo2 hlk2, fun p hp => (hoff4 p hp).2⟩)))
              | (have hfin := os_no hic hjc (i := i) (j := j) (by intro z1 z2 z3 z4; first | omega | exact absurd z3 (by assumption) | exact absurd z4 (by assumption))
                 refine' TurnEnd2.intro (c3, D1) ?aF ?aN ?as ?an ?ak ?ap
                 (case aF => k_asm)
                 (case aN => k_asm)
                 (case as => kcj_all)
                 (case an => simp only [List.forall_mem_cons]; exact ⟨n1, n2, hoff2⟩)
                 (case ak => kst_all)
                 (case ap => exact ⟨T3', by dsimp only; omega, hsub3, t3_step ht3 hi hj hlo (hfin ▸ hlk), hoff1⟩))
            · k_steps
              all_goals first
              | (exfalso; omega)
              | (have hfin := os_no hic hjc (i := i) (j := j) (by intro z1 z2 z3 z4; first | omega | exact absurd z3 (by assumption) | exact absurd z4 (by assumption))
                 refine' TurnEnd2.intro (c3, D1) ?aF ?aN ?as ?an ?ak ?ap
                 (case aF => k_asm)
                 (case aN => k_asm)
                 (case as => kcj_all)
                 (case an => simp only [List.forall_mem_cons]; exact ⟨n1, n2, hoff2⟩)
                 (case ak => kst_all)
                 (case ap => exact ⟨T3', by dsimp only; omega, hsub3, t3_step ht3 hi hj hlo (hfin ▸ hlk), hoff1⟩))
        case mdone =>
          rintro ⟨c, D⟩ u h tk ⟨hT, hD, hsub, ht3, hne1⟩ F1 N1
          dsimp only [kstB] at F1 N1 hT hD hsub ht3 hne1
          k_steps
          refine' TurnEnd2.intro (c, D) ?aF ?aN ?as ?an ?ak ?ap
          (case aF => k_asm)
          (case aN => k_asm)
          (case as => kcj_all)
          (case an => exact hne1)
          (case ak => kst_all)
          (case ap => exact ⟨hT, by dsimp only; omega, hsub, t3_row ht3⟩)
      case ldone =>
        rintro ⟨c, D⟩ u h tk ⟨hT, hD, hsub, ht3⟩ F1 N1
        dsimp only [kstB] at F1 N1 hT hD hsub ht3
        have g7 := t3_last ht3 hx.1 hy.1
        k_steps
        exact hret _ _ _ (by k_asm) (cb_drop (by assumption) (fun p hp => List.mem_cons_of_mem _ (hsub p hp)))
end Mine
end
section
open PySem PySem.W PyProof.Rows PySem.Calls PySem.Spec
set_option maxRecDepth 100000
set_option maxHeartbeats 8000000
namespace Mine
local macro_rules | `(tactic| k_room) => `(tactic| ktr_room)
local macro_rules | `(tactic| k_units) => `(tactic| ktr_units)
local macro_rules | `(tactic| tb_rel) => `(tactic| first | exact List.mem_cons_self .. | assumption | (refine' List.mem_cons_of_mem _ ?_; tb_rel))
local macro_rules | `(tactic| k_mem) => `(tactic| tb_rel)
local macro_rules | `(tactic| k_all) => `(tactic| first | exact List.forall_mem_nil _ | with_reducible assumption | exact ne_of_allLt (by with_reducible assumption) | (refine' List.forall_mem_cons.mpr ⟨?a, ?b⟩; (case a => k_ne); (case b => k_all)) | assumption | exact ne_of_allLt (by assumption))
local macro_rules | `(tactic| kcj_all) => `(tactic| with_reducible (first | exact List.forall_mem_nil _ | (refine' List.forall_mem_cons.mpr ⟨?a, ?b⟩; (case a => tb_rel); (case b => kcj_all)) | (intro p9 h9; tb_rel)))
local macro_rules | `(tactic| walk_at "call ref") => `(tactic| (k_here; (with_reducible show wpAny _ _ (call (Value.ref 108) _) _ _ _); (k_dflt (refine' seqs_tells ?k1 ?k2 ?k3 ?k4 ?k5 ?k6 ?k7 ?k8 ?k9 ?ka ?kb ?_; (case k1 => k_asm); (case k2 => k_asm); (case k3 => k_asm); (case k4 => k_asm); (case k5 => k_asm); (case k6 => k_room); (case k7 => k_units); (case k9 => k_mem); (case ka => k_mem); (case k8 => first | exact .inl rfl | exact .inr (.inl rfl) | exact .inr (.inr rfl)); (case kb => k_get); k_whole)); intro D' c' h' tk' F' N' l1; (try dsimp only)))
local macro_rules | `(tactic| walk_at "call ref") => `(tactic| (k_here; (with_reducible show wpAny _ _ (call (Value.ref 93) _) _ _ _); (k_dflt (refine' quick_tells ?k1 ?k2 ?k3 ?k4 ?k5 ?k6 ?k7 ?k8 ?k9 ?ka ?kb ?kc ?kd ?ke ?_ ?_; (case k1 => k_asm); (case k2 => k_asm); (case k3 => k_asm); (case k4 => k_asm); (case k5 => k_asm); (case k6 => k_room); (case k7 => k_units); (case k9 => k_mem); (case ka => k_mem); (case k8 => first | exact .inl rfl | exact .inr rfl); (case kb => k_get); (case kc => k_get); (case kd => omega); (case ke => omega))); (first | (intro t' h' tk' e' F' N'; (try dsimp only)) | (intro h' tk' e' F' N'; (try dsimp only)))))
local macro_rules | `(tactic| walk_at "call ref") => `(tactic| (k_here; (with_reducible show wpAny _ _ (call (Value.ref 297) _) _ _ _); (k_dflt (refine' osa_tells ?k1 ?k2 ?k3 ?k4 ?k5 ?k6 ?k7 ?k8 ?k9 ?ka ?kb ?_; (case k1 => k_asm); (case k2 => k_asm); (case k3 => k_asm); (case k4 => k_asm); (case k5 => k_asm); (case k6 => k_room); (case k7 => k_units); (case k8 => k_mem); (case k9 => k_mem); (case ka => omega); (case kb => omega); k_whole)); intro t' h' tk' F' N'; (try dsimp only)))

theorem dam_code {p : Program} {w : World} {loose : List Str} {mean : ExcName → Option Value} {mg mb : Str → Option Value} {dp un : Nat} {gd : Option (List Code)} {cn : Str} {nm : List (Str × NameKind)} {g1 c1 : Bool} {mo : List (Str × Const)} {a : Addr} {ccd : Value} {cl : List (Str × Addr)} {outer : List Env} {A₀ : Around} {base h₀ : Heap} {L : Addr} {m : Str → Option Value} {news : List (Addr × Obj)} {s : Shared} {Q E : Value → Shared → Prop}
    {x y : Str} {t1 t2 : Tok} {ob dx : Addr} {q1 q2 q3 q4 : Int} {u1 u2 u3 u4 v1 : Tok}
    (B : Below A₀ base outer h₀) (F : Fr h₀ L s.heap m) (X : (hd.heap_39 w.params).In h₀) (N : News h₀ L s.heap news) (T : Top p loose mean mg mb h₀) (hdp : dp + 40 < recursionLimit) (hu : un + 400 < cLine)
    (ho1 : (ob, instObj 307 dx) ∈ news) (ho2 : (dx, dictOf (methD4 q1 q2 q3 q4 u1 u2 u3 u4 v1) 4) ∈ news) (hx : 1 ≤ x.length ∧ x.length ≤ 6) (hy : 1 ≤ y.length ∧ y.length ≤ 6)
    (hret : ∀ t h' tk', Fr h₀ L h' m → News h₀ L h' news → Q (.int (if x = y then 0 else os (eqAt x y) x.length y.length) t) { s with heap := h', toks := tk' }) :
    codeAny (model PySem.Challenge.rw_dr5029_01.row.prog w) (ktrTop dp un gd cn ⟨.function, nm, g1, c1, mo⟩ L a ccd cl outer) (.call (.ref 304) ⟨[.ref ob, .str x t1, .str y t2], []⟩) (fun r s' => match r with | .ok (.ret v) => Q v s' | .ok _ => False | .error e => E e s') s := by
  w_top off
  revert X
  k_fill
  intro X
  k_dflt k_enter
  k_steps
  · rw [if_pos (by assumption)] at hret
    exact hret _ _ _ (by k_asm) (cb_drop (by assumption) (by kcj_all))
  · rw [if_neg (by assumption)] at hret
    exact hret _ _ _ (by k_asm) (cb_drop (by assumption) (by kcj_all))
end Mine
end
section
open PySem PySem.W PyProof.Rows PySem.Calls PySem.Spec
set_option maxRecDepth 100000
set_option maxHeartbeats 8000000
namespace Mine
local macro_rules | `(tactic| k_room) => `(tactic| ktr_room)
local macro_rules | `(tactic| k_units) => `(tactic| ktr_units)
local macro_rules | `(tactic| tb_rel) => `(tactic| first | exact List.mem_cons_self .. | assumption | (refine' List.mem_cons_of_mem _ ?_; tb_rel))
local macro_rules | `(tactic| k_mem) => `(tactic| tb_rel)
local macro_rules | `(tactic| k_all) => `(tactic| first | exact List.forall_mem_nil _ | with_reducible assumption | exact ne_of_allLt (by with_reducible assumption) | (refine' List.forall_mem_cons.mpr ⟨?a, ?b⟩; (case a => k_ne); (case b => k_all)) | assumption | exact ne_of_allLt (by assumption))
local macro_rules | `(tactic| kcj_all) => `(tactic| with_reducible (first | exact List.forall_mem_nil _ | (refine' List.forall_mem_cons.mpr ⟨?a, ?b⟩; (case a => tb_rel); (case b => kcj_all)) | (intro p9 h9; tb_rel)))
local macro_rules | `(tactic| walk_at "exec Assign cons ListComp") => `(tactic| (k_here; refine Hold.of ?_))
local macro_rules | `(tactic| walk_at "CompSrc") => `(tactic| (k_here; refine Hold.of ?_))
local macro_rules | `(tactic| walk_at "exec While BoolOp cons nil") => `(tactic| (k_here; refine Hold.of ?_))
local macro_rules | `(tactic| walk_at "call type:enumerate") => `(tactic| (k_here; refine Hold.of ?_))
local macro_rules | `(tactic| walk_at "setItem ref int") => `(tactic| (k_here; refine Hold.of ?_))
local macro_rules | `(tactic| walk_at "subscriptTail") => `(tactic| (k_here; (with_reducible show wpAny _ _ (subscriptTail _ _ (Value.ref _) (Value.int _ _)) _ _ _); (k_dflt (refine' mat_get ?kN ?kM ?kS ?k4 ?k5 ?k6 ?k7 ?_ ?kh; (case kM => with_reducible assumption); (case kN => k_asm); (case kS => kcj_all); (case k4 => omega); (case k5 => omega); (case k6 => omega); (case k7 => omega); (case kh => with_unfolding_all rfl); k_whole)); intro _))
local macro_rules | `(tactic| walk_at "subscriptTail") => `(tactic| (k_here; (with_reducible show wpAny _ _ (subscriptTail _ _ (Value.ref _) (Value.int _ _)) _ _ _); (k_dflt (refine' mat_row ?kN ?kM ?kS ?k4 ?k5 ?k6 ?_ ?kh; (case kM => with_reducible assumption); (case kN => k_asm); (case kS => kcj_all); (case k4 => omega); (case k5 => omega); (case k6 => omega); (case kh => with_unfolding_all rfl); k_whole))))
local macro_rules | `(tactic| walk_at "binaryOp Add str str") => `(tactic| (k_here; (with_reducible show wpAny _ _ (binaryOp Operator.Add (Value.str _ _) (Value.str _ _)) _ _ _); refine PyProof.Rows.P.add_str ?_ (by rw [sizeLine_eq]; omega); intro _ _))
local macro_rules | `(tactic| walk_at "exec For Tuple Call cons nil") => `(tactic| (k_here; refine Hold.of ?_))
theorem dyn_code {p : Program} {w : World} {loose : List Str} {mean : ExcName → Option Value} {mg mb : Str → Option Value} {dp un : Nat} {gd : Option (List Code)} {cn : Str} {nm : List (Str × NameKind)} {g1 c1 : Bool} {mo : List (Str × Const)} {a : Addr} {ccd : Value} {cl : List (Str × Addr)} {outer : List Env} {A₀ : Around} {base h₀ : Heap} {L : Addr} {m : Str → Option Value} {news : List (Addr × Obj)} {s : Shared} {Q E : Value → Shared → Prop}
    {x y : Str} {t1 t2 : Tok} {ob : Addr}
    (B : Below A₀ base outer h₀) (F : Fr h₀ L s.heap m) (X : (hd.heap_39 w.params).In h₀) (N : News h₀ L s.heap news) (T : Top p loose mean mg mb h₀) (hdp : dp + 20 < recursionLimit) (hu : un + 200 < cLine)
    (hx : 1 ≤ x.length ∧ x.length ≤ 6) (hy : 1 ≤ y.length ∧ y.length ≤ 6)
    (hret : ∀ z t h' tk', (z.length : Int) = lc (eqAt x y) x.length y.length → Fr h₀ L h' m → News h₀ L h' news → Q (.str z t) { s with heap := h', toks := tk' }) :
    codeAny (model PySem.Challenge.rw_dr5029_01.row.prog w) (ktrTop dp un gd cn ⟨.function, nm, g1, c1, mo⟩ L a ccd cl outer) (.call (.ref 203) ⟨[.ref ob, .str x t1, .str y t2], []⟩) (fun r s' => match r with | .ok (.ret v) => Q v s' | .ok _ => False | .error e => E e s') s := by
  w_top off
  revert X
  k_fill
  intro X
  k_dflt k_enter
  k_steps
  refine Hold.out ?_
  k_dflt (refine LCg.Assign_ListComp_U (F₀ := by k_asm) (by rfl) (by with_unfolding_all rfl) (by rfl) (by decide) (by rfl) (by decide) (by rfl) (by rfl) (by rfl) ?_)
  k_steps
  refine Hold.out ?_
  have hnn : ((x.length : Int) + 1 - 0).toNat = x.length + 1 := by omega
  refine LCg.CompSrc.range (n := x.length + 1) (by with_unfolding_all rfl) (by k_asm) (by k_asm) (by assumption) (small_one (by first | decide | omega) (by first | decide | omega) (by first | decide | omega) (by first | decide | omega)) ?hn (by rw [sizeLine_eq]; omega) ?_
  case hn => have := rangeSize_nat 0 ((x.length : Int) + 1); rw [hnn] at this; exact this
  intro g
  rename News _ _ _ ((_, _) :: news) => N7
  rename_i L1 hq1 tq1 fq1 fq2 bq xq tq lq oc hd1 hN1 h1 tk1 ta ua va ra rb rc
  have hLL : L1 + 1 = L1 + 1 := rfl
  have hocc : oc.data = oc.data := rfl
  refine comp_rest (σ := List (Addr × Obj) × (Nat → Addr)) (fun c => c.1) (fun i ys c => RowsIn _ c.1 c.2 i (y.length + 1) (fun _ _ => 0) ∧ ys.length = i ∧ ∀ k, k < i → ys[k]? = some (Value.ref (c.2 k))) (_, fun _ => 0) ⟨⟨fun p hp => hp, fun k hk => absurd hk (Nat.not_lt_zero _)⟩, rfl, fun k hk => absurd hk (Nat.not_lt_zero _)⟩ ?turn ?fin
  case turn =>
    rintro i ys ⟨c, ad⟩ v I oI C oC D m₂ h tk E' hi hv ⟨hR, hyl, hys⟩ hns hx F N off ne
    have hcell := hR.1 _ (List.mem_cons_self ..)
    dsimp only at N off hcell hR
    have hys' : ∀ k, k < i → ys[k]? = some (Value.ref (ad k)) := hys
    clear N7 hys
    k_steps
    repeat (with_reducible rename (_ ∧ _) => hh9; cases hh9)
    refine' LCg.CompEnd.intro (news' := _ :: c) ?e1 ?e2 ?e3 ?e4 trivial ⟨(_ :: c, fun k => if k = i then _ else ad k), rfl, RowsIn.add hR (by assumption) ?e5 ?e6 ?e7, ?e8, ?e9⟩
    (case e1 => k_asm)
    (case e2 => k_asm)
    (case e3 => kcj_all)
    (case e4 => exact ⟨⟨neN (by k_ne), neN (by k_ne), neN (by k_ne)⟩, off⟩)
    (case e5 => rw [zeros_flatten, List.length_replicate]; omega)
    (case e6 =>
      intro j hj
      rw [zeros_flatten, List.getD_eq_getElem?_getD, List.getElem?_replicate]
      split <;> rfl)
    (case e7 => exact fun p hp => Nat.ne_of_lt (ktn_ltOf (by assumption) p hp))
    (case e8 => rw [List.length_append, hyl]; rfl)
    (case e9 =>
      intro k hk
      dsimp only
      by_cases q : k = i
      · subst q
        rw [if_pos rfl, List.getElem?_append_right (by omega), hyl, Nat.sub_self]; rfl
      · rw [if_neg q, List.getElem?_append_left (by omega)]; exact hys' k (by omega))
  case fin =>
    rintro ys ⟨c, ad⟩ ⟨hR, hyl, hys⟩
    dsimp only at hR
    have hys' : ∀ k, k < x.length + 1 → ys[k]? = some (Value.ref (ad k)) := hys
    clear hys N7
    k_steps
    rename_i D h9 tk9 F9 N9 o9
    rename LCg.Off1 _ _ => hoff
    have hM := hR.mat hys' (e0 := ys.length) (off1_mem hoff)
    clear hoff
    have hN9 : ∀ {D : Addr} {g' h' : Heap} {L' : Addr}, News g' L' h' ((D, LCg.lst ys) :: c) → News g' L' h' ((D, listOf ys.toArray ys.length) :: c) := fun h => h
    rename News _ _ _ ((_, LCg.lst ys) :: c) => N8
    replace N8 := hN9 N8
    revert N8 hM
    generalize hNN : (_, listOf ys.toArray ys.length) :: c = NN
    intro hM N8
    clear hN9 hNN hR hys' hyl
    refine Hold.out ?_
    refine' for_pairs ?J ?js ?_
    (case J => k_asm); (case js => intro _; with_unfolding_all rfl)
    k_steps
    refine Hold.out ?_
    refine' call_enum ?JF ?JN ?_
    (case JF => k_asm); (case JN => k_asm)
    intro hA e1 it1 FA NA XA
    refine' iter_enum (σ := List (Addr × Obj) × (Nat → Nat → Int)) (fun c => c.1) (fun c => [("lengths", .ref D), ("self", .ref ob), ("seq1", .str x t1)])
      (fun i c => MatIn ((L1 + 1, oc) :: news) c.1 D ad (x.length + 1) (y.length + 1) c.2 ∧ LT (eqAt x y) x.length y.length i 0 c.2) (NN, fun _ _ => 0) ?lh XA ?lF ?lN ?ls ?lk ?lp ?lxi ?lxc ?lcl ?lE ?lturn ?ldone
    case lh => with_unfolding_all rfl
    case lF => k_asm
    case lN => k_asm
    case ls => exact fun p hp => hp
    case lk => kst_all
    case lp => exact ⟨hM, LT.zero _ _ _⟩
    case lxi => with_unfolding_all rfl
    case lxc => with_unfolding_all rfl
    case lcl => with_unfolding_all rfl
    case lE => passes_own
    case lturn =>
      rintro ⟨NN, f⟩ i k ti tc u h tk oe1 oi1 hki hi ⟨hM, hLT⟩ hne F1 N1
      dsimp only [kstB] at F1 N1 hM hLT hne
      have hcell := hM.1 _ (List.mem_cons_self ..)
      k_steps
      refine Hold.out ?_
      refine' for_pairs ?J2 ?js2 ?_
      (case J2 => k_asm); (case js2 => intro _; with_unfolding_all rfl)
      k_steps
      refine Hold.out ?_
      refine' call_enum ?JF2 ?JN2 ?_
      (case JF2 => k_asm); (case JN2 => k_asm)
      intro hA e2 it2 FA NA XA2
      refine' iter_enum (σ := List (Addr × Obj) × (Nat → Nat → Int)) (fun c => (e1, oe1) :: (it1, oi1) :: c.1) (fun c => [("lengths", .ref D), ("self", .ref ob), ("seq1", .str x t1), ("i", .int i ti), ("char1", .str ⟨#[k]⟩ tc)])
        (fun j c => MatIn ((L1 + 1, oc) :: news) c.1 D ad (x.length + 1) (y.length + 1) c.2 ∧ LT (eqAt x y) x.length y.length i j c.2 ∧ (∀ p ∈ c.1, p.1 ≠ e1 ∧ p.1 ≠ it1)) (NN, f) ?mh XA2 ?mF ?mN ?ms ?mk ?mp ?mxi ?mxc ?mcl ?mE ?mturn ?mdone
      case mh => with_unfolding_all rfl
      case mF => k_asm
      case mN => k_asm
      case ms => exact fun p hp => hp
      case mk => kst_all
      case mp => exact ⟨hM, hLT, hne⟩
      case mxi => with_unfolding_all rfl
      case mxc => with_unfolding_all rfl
      case mcl => with_unfolding_all rfl
      case mE => passes_own
      case mturn =>
        clear hcell hLT hM XA2 hne
        rintro ⟨NN, f⟩ j k2 tj tc2 u h tk oe2 oi2 hkj hj ⟨hM, hLT, hne1⟩ hne2 F1 N1
        dsimp only [kstB] at F1 N1 hM hLT hne1 hne2
        simp only [List.forall_mem_cons] at hne2
        obtain ⟨n1, n2, n3⟩ := hne2
        have hcell := hM.1 _ (List.mem_cons_self ..)
        have hic := item_at hki
        have hjc := item_at hkj
        have heq : eqAt x y i j = (({ cps := #[k] } : Str) == { cps := #[k2] }) := by
          unfold eqAt; rw [hic, hjc, Bool.eq_iff_iff]; simp
        k_steps
        · refine Hold.out ?_
          refine' mat_set (pre := [(e2, oe2), (it2, oi2), (e1, oe1), (it1, oi1)]) ?F9 ?N9 hM ?s9 ?p9 (mat_four hM hne1 n3) ?i9 ?k9 ?l9 ?f9 ?h9
          case F9 => k_asm
          case N9 => k_asm
          case s9 => kcj_all
          case p9 => kcj_all
          case i9 => omega
          case k9 => omega
          case l9 => omega
          case f9 => omega
          case h9 =>
            intro h9 NN9 F9 N9 M9 hsame
            simp only [List.cons_append, List.nil_append] at N9
            k_steps
            refine' TurnEnd2.intro (NN9, upd f (i + 1) (j + 1) (lc (eqAt x y) (i + 1) (j + 1))) ?F4 ?N4 ?hs4 ?hn4 ?hk4 ?hp4
            (case F4 => k_asm)
            (case N4 => k_asm)
            (case hs4 => kcj_all)
            (case hn4 =>
              simp only [List.forall_mem_cons]
              refine ⟨n1, n2, fun p hp => ?_⟩
              obtain ⟨q, hq, e⟩ := hsame p hp
              rw [← e]; exact n3 q hq)
            (case hk4 => kst_all)
            (case hp4 =>
              refine ⟨mat_eq M9 (by omega) (by omega) ?_, LT.put hLT rfl, fun p hp => ?_⟩
              · have z1 : ((i : Int) + 1).toNat = i + 1 := by omega
                have z2 : ((j : Int) + 1).toNat = j + 1 := by omega
                simp only [z1, z2, Int.toNat_natCast]
                have he : eqAt x y i j = true := heq.trans (by assumption)
                rw [lc_ss, if_pos he, hLT.here (by omega) (by omega) (by omega)]
              · obtain ⟨q, hq, e⟩ := hsame p hp
                rw [← e]; exact hne1 q hq)
        · refine Hold.out ?_
          refine' mat_set (pre := [(e2, oe2), (it2, oi2), (e1, oe1), (it1, oi1)]) ?F9 ?N9 hM ?s9 ?p9 (mat_four hM hne1 n3) ?i9 ?k9 ?l9 ?f9 ?h9
          case F9 => k_asm
          case N9 => k_asm
          case s9 => kcj_all
          case p9 => kcj_all
          case i9 => omega
          case k9 => omega
          case l9 => omega
          case f9 => omega
          case h9 =>
            intro h9 NN9 F9 N9 M9 hsame
            simp only [List.cons_append, List.nil_append] at N9
            k_steps
            refine' TurnEnd2.intro (NN9, upd f (i + 1) (j + 1) (lc (eqAt x y) (i + 1) (j + 1))) ?F4 ?N4 ?hs4 ?hn4 ?hk4 ?hp4
            (case F4 => k_asm)
            (case N4 => k_asm)
            (case hs4 => kcj_all)
            (case hn4 =>
              simp only [List.forall_mem_cons]
              refine ⟨n1, n2, fun p hp => ?_⟩
              obtain ⟨q, hq, e⟩ := hsame p hp
              rw [← e]; exact n3 q hq)
            (case hk4 => kst_all)
            (case hp4 =>
              refine ⟨mat_eq M9 (by omega) (by omega) ?_, LT.put hLT rfl, fun p hp => ?_⟩
              · have z1 : ((i : Int) + 1).toNat = i + 1 := by omega
                have z2 : ((j : Int) + 1).toNat = j + 1 := by omega
                simp only [z1, z2, Int.toNat_natCast]
                have he : eqAt x y i j = false := heq.trans (by assumption)
                rw [hLT.here (a := i) (b := j + 1) (by omega) (by omega) (by omega), hLT.here (a := i + 1) (b := j) (by omega) (by omega) (by omega), lc_ss, he]
                simp only [Bool.false_eq_true, if_false]
                split <;> omega
              · obtain ⟨q, hq, e⟩ := hsame p hp
                rw [← e]; exact hne1 q hq)
      case mdone =>
        clear hcell hLT hM XA2
        rintro ⟨NN, f⟩ u h tk ⟨hM, hLT, hne1⟩ F1 N1
        dsimp only [kstB] at F1 N1 hM hLT hne1
        k_steps
        refine' TurnEnd2.intro (NN, f) ?F6 ?N6 ?hs6 ?hn6 ?hk6 ?hp6
        (case F6 => k_asm)
        (case N6 => k_asm)
        (case hs6 => kcj_all)
        (case hn6 => exact hne1)
        (case hk6 => kst_all)
        (case hp6 => exact ⟨hM, LT.row hLT⟩)
    case ldone =>
      rintro ⟨NN, f⟩ u h tk ⟨hM, hLT⟩ F1 N1
      dsimp only [kstB] at F1 N1 hM hLT
      have hcell := hM.1 _ (List.mem_cons_self ..)
      k_steps
      have hall : ∀ a b, a ≤ x.length → b ≤ y.length → f a b = lc (eqAt x y) a b := fun a b ha hb => hLT.here ha hb (.inl ha)
      clear hLT XA
      refine Hold.out ?_
      rename Fr _ _ _ _ => F5
      rename News _ _ _ _ => N5
      refine' while_any (σ := Int × Int × Str × Tok × Tok × Tok) (fun c => NN) (fun c => [("lengths", .ref D), ("self", .ref ob), ("seq1", .str x t1), ("i", .int c.1 c.2.2.2.1), ("j", .int c.2.1 c.2.2.2.2.1), ("result", .str c.2.2.1 c.2.2.2.2.2)])
        (fun c => (c.2.2.1.length : Int) + c.1 ≤ x.length ∧ 0 ≤ c.1 ∧ c.1 ≤ x.length ∧ 0 ≤ c.2.1 ∧ c.2.1 ≤ y.length ∧ (c.2.2.1.length : Int) + lc (eqAt x y) c.1.toNat c.2.1.toNat = lc (eqAt x y) x.length y.length) (fun c => (c.1 + c.2.1).toNat) (_, _, Str.ofString "", _, _, _) ?wF ?wN ?wk ?wp ?wE ?wt
      case wF => k_asm
      case wN => refine' cb_drop ?wn ?ws; (case wn => k_asm); (case ws => kcj_all)
      case wk => kst_all
      case wE => passes_own
      case wp => exact ⟨by dsimp only; exact Int.le_of_eq (Int.zero_add _), by dsimp only; omega, Int.le_refl _, by dsimp only; omega, Int.le_refl _, by dsimp only; rw [Int.toNat_natCast, Int.toNat_natCast]; exact Int.zero_add _⟩
      case wt =>
        clear F5 N5
        rintro ⟨i, j, z, ti, tj, tz⟩ u h tk ⟨p0, p1, p2, p3, p4, p5⟩ F1 N1
        dsimp only [kstB] at F1 N1 p0 p1 p2 p3 p4 p5
        k_steps
        · have e1 : lc (eqAt x y) i.toNat j.toNat = lc (eqAt x y) (i - 1).toNat j.toNat := by
            rw [← hall _ _ (by omega) (by omega), ← hall _ _ (by omega) (by omega)]; assumption
          refine' WEnd.intro (i - 1, j, z, _, tj, tz) ?a1 ?a2 ?a3 ?a4 ?a5 ?a6
          (case a1 => k_asm)
          (case a2 => k_asm)
          (case a3 => kcj_all)
          (case a4 => kst_all)
          (case a5 => exact ⟨by dsimp only; omega, by dsimp only; omega, by dsimp only; omega, p3, p4, by dsimp only; rw [← e1]; exact p5⟩)
          (case a6 => dsimp only; omega)
        · have e1 : lc (eqAt x y) i.toNat j.toNat = lc (eqAt x y) i.toNat (j - 1).toNat := by
            rw [← hall _ _ (by omega) (by omega), ← hall _ _ (by omega) (by omega)]; assumption
          refine' WEnd.intro (i, j - 1, z, ti, _, tz) ?b1 ?b2 ?b3 ?b4 ?b5 ?b6
          (case b1 => k_asm)
          (case b2 => k_asm)
          (case b3 => kcj_all)
          (case b4 => kst_all)
          (case b5 => exact ⟨p0, p1, p2, by dsimp only; omega, by dsimp only; omega, by dsimp only; rw [← e1]; exact p5⟩)
          (case b6 => dsimp only; omega)
        · have e1 : lc (eqAt x y) i.toNat j.toNat = lc (eqAt x y) (i - 1).toNat (j - 1).toNat + 1 := by
            have q1 : i.toNat = (i - 1).toNat + 1 := by omega
            have q2 : j.toNat = (j - 1).toNat + 1 := by omega
            have q3 : ((i - 1).toNat : Int) = i - 1 := by omega
            have q4 : ((j - 1).toNat : Int) = j - 1 := by omega
            rw [q1, q2, lc_ss, if_pos]
            · unfold eqAt; rw [q3, q4]
              rename (_ == _) = true => hq
              simpa using hq
          refine' WEnd.intro (i - 1, j - 1, Txt.item x (i - 1) ++ z, _, _, _) ?c1 ?c2 ?c3 ?c4 ?c5 ?c6
          (case c1 => k_asm)
          (case c2 => k_asm)
          (case c3 => kcj_all)
          (case c4 => kst_all)
          (case c5 =>
            have hl : (Txt.item x (i - 1) ++ z).length = 1 + z.length := PySem.Str.length_append _ _
            exact ⟨by dsimp only; omega, by dsimp only; omega, by dsimp only; omega, by dsimp only; omega, by dsimp only; omega, by dsimp only; rw [hl]; omega⟩)
          (case c6 => dsimp only; omega)
        · exfalso
          have q1 : i.toNat = (i - 1).toNat + 1 := by omega
          have q2 : j.toNat = (j - 1).toNat + 1 := by omega
          have q3 : ((i - 1).toNat : Int) = i - 1 := by omega
          have q4 : ((j - 1).toNat : Int) = j - 1 := by omega
          have h3 : lc (eqAt x y) i.toNat j.toNat = max (lc (eqAt x y) i.toNat (j - 1).toNat) (lc (eqAt x y) (i - 1).toNat j.toNat) := by
            rw [q1, q2, lc_ss, if_neg]
            unfold eqAt; rw [q3, q4]
            rename (_ == _) = false => hq
            simpa using hq
          rename f i.toNat j.toNat ≠ f i.toNat (j - 1).toNat => g1
          rename f i.toNat j.toNat ≠ f (i - 1).toNat j.toNat => g2
          rw [hall _ _ (by omega) (by omega), hall _ _ (by omega) (by omega)] at g1 g2
          omega
        · refine hret _ _ _ _ ?_ (by k_asm) (fun p hp => ‹News h₀ L _ NN› p (hM.1 p (List.mem_cons_of_mem _ hp)))
          rename j = 0 => hz
          rw [hz] at p5
          rw [← p5, Int.toNat_zero, lc_z, Int.add_zero]
        · refine hret _ _ _ _ ?_ (by k_asm) (fun p hp => ‹News h₀ L _ NN› p (hM.1 p (List.mem_cons_of_mem _ hp)))
          rename i = 0 => hz
          rw [hz] at p5
          rw [← p5, Int.toNat_zero, lc_0, Int.add_zero]
end Mine
end
section
open PySem PySem.W PyProof.Rows PySem.Calls PySem.Spec
set_option maxRecDepth 100000
set_option maxHeartbeats 8000000
namespace Mine
local macro_rules | `(tactic| k_room) => `(tactic| ktr_room)
local macro_rules | `(tactic| k_units) => `(tactic| ktr_units)
local macro_rules | `(tactic| tb_rel) => `(tactic| first | exact List.mem_cons_self .. | assumption | (refine' List.mem_cons_of_mem _ ?_; tb_rel))
local macro_rules | `(tactic| k_mem) => `(tactic| tb_rel)
local macro_rules | `(tactic| k_all) => `(tactic| first | assumption | exact ne_of_allLt (by assumption))
local macro_rules | `(tactic| walk_at "eval Call Attribute") => `(tactic| (k_here; (with_reducible show wpAny _ _ (eval (Expr.Call (Expr.Attribute _ _ _) [Expr.Starred _ _] [] _) _) _ _ _); refine methodCall_star ?_))
local macro_rules | `(tactic| walk_at "call ref") => `(tactic| (k_here; (with_reducible show wpAny _ _ (call (Value.ref _) [Value.str _ _, Value.str _ _]) _ _ _); (k_dflt (refine' call_meth ?kn ?kq (seqs_code ?k1 ?k2 ?k3 ?k4 ?k5 ?k6 ?k7 ?k8 ?k9 ?ka ?kb ?_); (case kn => k_asm); (case kq => k_mem); (case k1 => k_asm); (case k2 => k_asm); (case k3 => k_asm); (case k4 => k_asm); (case k5 => k_asm); (case k6 => k_room); (case k7 => k_units); (case k9 => k_mem); (case ka => k_mem); (case k8 => first | exact .inl rfl | exact .inr (.inl rfl) | exact .inr (.inr rfl)); (case kb => k_get); k_whole)); intro D' c' h' tk' F' N' l1; (try dsimp only)))
local macro_rules | `(tactic| walk_at "call ref") => `(tactic| (k_here; (with_reducible show wpAny _ _ (call (Value.ref _) [Value.str _ _, Value.str _ _]) _ _ _); (k_dflt (refine' call_meth ?kn ?kq (dyn_code ?k1 ?k2 ?k3 ?k4 ?k5 ?k6 ?k7 ?k8 ?k9 ?_); (case kn => k_asm); (case kq => k_mem); (case k1 => k_asm); (case k2 => k_asm); (case k3 => k_asm); (case k4 => k_asm); (case k5 => k_asm); (case k6 => k_room); (case k7 => k_units); (case k8 => omega); (case k9 => omega); k_whole)); intro z' t' h' tk' hz' F' N'; (try dsimp only)))
local macro_rules | `(tactic| walk_at "callWith ref") => `(tactic| (k_here; (with_reducible show wpAny _ _ (callWith _ (Value.ref _) _ (backTo _ (starEach [Expr.Starred _ _] _)) []) _ _ _); k_dflt (refine' callWith_MS ?k1 ?k2 ?k3 ?k4 ?_; (case k1 => k_asm); (case k2 => k_asm); (case k3 => k_mem); (case k4 => k_is); k_whole)))
local macro_rules | `(tactic| walk_at "callWith ref") => `(tactic| (k_here; (with_reducible show wpAny _ _ (callWith _ (Value.ref _) _ (backTo _ (starEach [Expr.Starred _ _] _)) []) _ _ _); k_dflt (refine' callWith_IS ?k1 ?k2 ?k3 ?k4 ?_; (case k1 => k_in); (case k2 => k_inst); (case k3 => rfl); (case k4 => k_is); k_whole)))
theorem lcall_code {p : Program} {w : World} {loose : List Str} {mean : ExcName → Option Value} {mg mb : Str → Option Value} {dp un : Nat} {gd : Option (List Code)} {cn : Str} {nm : List (Str × NameKind)} {g1 c1 : Bool} {mo : List (Str × Const)} {a : Addr} {ccd : Value} {cl : List (Str × Addr)} {outer : List Env} {A₀ : Around} {base h₀ : Heap} {L : Addr} {m : Str → Option Value} {news : List (Addr × Obj)} {s : Shared} {Q E : Value → Shared → Prop}
    {x y : Str} {t1 t2 : Tok} {ob dx : Addr} {q1 q2 q3 : Int} {u1 u2 u3 v1 : Tok}
    (B : Below A₀ base outer h₀) (F : Fr h₀ L s.heap m) (X : (hd.heap_39 w.params).In h₀) (N : News h₀ L s.heap news) (T : Top p loose mean mg mb h₀) (hdp : dp + 40 < recursionLimit) (hu : un + 400 < cLine)
    (ho1 : (ob, instObj 225 dx) ∈ news) (ho2 : (dx, dictOf (methD q1 q2 q3 u1 u2 u3 v1) 3) ∈ news) (hx : 1 ≤ x.length ∧ x.length ≤ 6) (hy : 1 ≤ y.length ∧ y.length ≤ 6)
    (hret : ∀ z t h' tk', (z.length : Int) = lc (eqAt x y) x.length y.length → Fr h₀ L h' m → News h₀ L h' news → Q (.str z t) { s with heap := h', toks := tk' }) :
    codeAny (model PySem.Challenge.rw_dr5029_01.row.prog w) (ktrTop dp un gd cn ⟨.function, nm, g1, c1, mo⟩ L a ccd cl outer) (.call (.ref 215) ⟨[.ref ob, .str x t1, .str y t2], []⟩) (fun r s' => match r with | .ok (.ret v) => Q v s' | .ok _ => False | .error e => E e s') s := by
  w_top off
  revert X
  k_fill
  intro X
  k_dflt k_enter
  k_steps
  exact hret _ _ _ _ (by assumption) (by k_asm) (cb_drop (by assumption) (by kcj_all))
local macro_rules | `(tactic| walk_at "call ref") => `(tactic| (k_here; (with_reducible show wpAny _ _ (call (Value.ref _) [Value.str _ _, Value.str _ _]) _ _ _); (k_dflt (refine wpAny_call ?_; refine' kco_code ?i1 ?i2 ?i3 ?i4 ?i5 ?i6 (lcall_code ?k1 ?k2 ?k3 ?k4 ?k5 ?k6 ?k7 ?k8 ?k9 ?ka ?kb ?_); (case i1 => k_in); (case i2 => k_inst); (case i3 => rfl); (case i4 => k_is); (case i5 => k_is); (case i6 => k_is); (case k1 => k_asm); (case k2 => k_asm); (case k3 => k_asm); (case k4 => k_asm); (case k5 => k_asm); (case k6 => k_room); (case k7 => k_units); (case k8 => k_mem); (case k9 => k_mem); (case ka => omega); (case kb => omega); k_whole)); intro z' t' h' tk' hz' F' N'; (try dsimp only)))
theorem lc_le (e : Nat → Nat → Bool) : ∀ i j : Nat, lc e i j ≤ i
  | 0, j => by rw [lc_0]; exact Int.le_refl _
  | i + 1, 0 => by rw [lc_z]; omega
  | i + 1, j + 1 => by
    have h1 := lc_le e i j
    have h2 := lc_le e (i + 1) j
    have h3 := lc_le e i (j + 1)
    rw [lc_ss]
    split <;> omega
termination_by i j => (i, j)
local macro_rules | `(tactic| walk_at "call builtin:len") => `(tactic| (k_here; (with_reducible show wpAny _ _ (call (Value.builtin "len") [Value.str _ _]) _ _ _); refine len_str (by omega) ?_))
theorem sim_tells {p : Program} {w : World} {loose : List Str} {mean : ExcName → Option Value} {mg mb : Str → Option Value} {dp un : Nat} {gd : Option (List Code)} {cn : Str} {nm : List (Str × NameKind)} {g1 c1 : Bool} {mo : List (Str × Const)} {a : Addr} {ccd : Value} {cl : List (Str × Addr)} {outer : List Env} {A₀ : Around} {base h₀ : Heap} {L : Addr} {m : Str → Option Value} {news : List (Addr × Obj)} {s : Shared} {Q E : Value → Shared → Prop}
    {x y : Str} {t1 t2 : Tok} {ob dx : Addr} {q1 q2 q3 : Int} {u1 u2 u3 v1 : Tok}
    (B : Below A₀ base outer h₀) (F : Fr h₀ L s.heap m) (X : (hd.heap_39 w.params).In h₀) (N : News h₀ L s.heap news) (T : Top p loose mean mg mb h₀) (hdp : dp + 60 < recursionLimit) (hu : un + 600 < cLine)
    (ho1 : (ob, instObj 225 dx) ∈ news) (ho2 : (dx, dictOf (methD q1 q2 q3 u1 u2 u3 v1) 3) ∈ news) (hx : 1 ≤ x.length ∧ x.length ≤ 6) (hy : 1 ≤ y.length ∧ y.length ≤ 6)
    (hret : ∀ t h' tk', Fr h₀ L h' m → News h₀ L h' news → Q (.int (lc (eqAt x y) x.length y.length) t) { s with heap := h', toks := tk' }) :
    wpAny (model PySem.Challenge.rw_dr5029_01.row.prog w) (ktrTop dp un gd cn ⟨.function, nm, g1, c1, mo⟩ L a ccd cl outer) (call (.ref 222) [.ref ob, .str x t1, .str y t2]) Q E s := by
  w_top off
  revert X
  k_fill
  intro X
  have hle := lc_le (eqAt x y) x.length y.length
  refine wpAny_call ?_
  k_dflt k_enter
  k_steps
  rename (_ : Int) = lc _ _ _ => hz'
  rw [← hz'] at hret
  exact hret _ _ _ (by k_asm) (cb_drop (by assumption) (by kcj_all))
end Mine
end
section
open PySem PySem.W PyProof.Rows PySem.Calls PySem.Spec
set_option maxRecDepth 100000
set_option maxHeartbeats 8000000
namespace Mine
local macro_rules | `(tactic| k_room) => `(tactic| ktr_room)
local macro_rules | `(tactic| k_units) => `(tactic| ktr_units)
local macro_rules | `(tactic| tb_rel) => `(tactic| first | exact List.mem_cons_self .. | assumption | (refine' List.mem_cons_of_mem _ ?_; tb_rel))
local macro_rules | `(tactic| k_mem) => `(tactic| tb_rel)
local macro_rules | `(tactic| k_all) => `(tactic| first | exact List.forall_mem_nil _ | with_reducible assumption | exact ne_of_allLt (by with_reducible assumption) | (refine' List.forall_mem_cons.mpr ⟨?a, ?b⟩; (case a => k_ne); (case b => k_all)) | assumption | exact ne_of_allLt (by assumption))
local macro_rules | `(tactic| kcj_all) => `(tactic| with_reducible (first | exact List.forall_mem_nil _ | (refine' List.forall_mem_cons.mpr ⟨?a, ?b⟩; (case a => tb_rel); (case b => kcj_all)) | (intro p9 h9; tb_rel)))
local macro_rules | `(tactic| walk_at "exec For Name Call cons nil") => `(tactic| (k_here; refine Hold.of ?_))
local macro_rules | `(tactic| walk_at "pyIter ref") => `(tactic| (k_here; (with_reducible show wpAny _ _ (pyIter _) (fun _ _ => LoopAtV _ _ _ _ _ _ _ _ _ _ _) _ _); refine Hold.of ?_))
def markTo (x z : Str) : Nat → Int
  | 0 => 0
  | i + 1 => markTo x z i + if Txt.item x (i : Int) = z then 2 ^ i else 0
def markN (x z : Str) : Nat → Nat
  | 0 => 0
  | i + 1 => markN x z i + if Txt.item x (i : Int) = z then 2 ^ i else 0
theorem markTo_N (x z : Str) : ∀ n, markTo x z n = ((markN x z n : Nat) : Int)
  | 0 => rfl
  | n + 1 => by
    rw [markTo, markN, markTo_N x z n, Int.natCast_add]
    by_cases h : Txt.item x (n : Int) = z
    · rw [if_pos h, if_pos h, Int.natCast_pow]; rfl
    · rw [if_neg h, if_neg h]; rfl
theorem markN_lt (x z : Str) : ∀ n, markN x z n < 2 ^ n
  | 0 => Nat.one_pos
  | n + 1 => by
    have h := markN_lt x z n
    rw [markN, Nat.pow_succ]
    split <;> omega
theorem marks_tells {p : Program} {w : World} {loose : List Str} {mean : ExcName → Option Value} {mg mb : Str → Option Value} {dp un : Nat} {gd : Option (List Code)} {cn : Str} {nm : List (Str × NameKind)} {g1 c1 : Bool} {mo : List (Str × Const)} {a : Addr} {ccd : Value} {cl : List (Str × Addr)} {outer : List Env} {A₀ : Around} {base h₀ : Heap} {L : Addr} {m : Str → Option Value} {news : List (Addr × Obj)} {s : Shared} {Q E : Value → Shared → Prop}
    {x : Str} {t1 : Tok}
    (B : Below A₀ base outer h₀) (F : Fr h₀ L s.heap m) (X : (hd.heap_39 w.params).In h₀) (N : News h₀ L s.heap news) (T : Top p loose mean mg mb h₀) (hdp : dp + 20 < recursionLimit) (hu : un + 200 < cLine)
    (hx : 1 ≤ x.length ∧ x.length ≤ 6)
    (hret : ∀ d o kv c h' tk', Fr h₀ L h' m → News h₀ L h' ((d, o) :: news) → Obj.IsDictOf (PySem.strKind PySem.Challenge.rw_dr5029_01.row.prog w) o kv → PyProof.V.FlatPairs PyData.str kv (kdpD c) → (∀ z, kdpLook c z 0 = ((markN x z x.length : Nat) : Int)) → AllLt d news → (d == sysModules) = false → Q (.ref d) { s with heap := h', toks := tk' }) :
    wpAny (model PySem.Challenge.rw_dr5029_01.row.prog w) (ktrTop dp un gd cn ⟨.function, nm, g1, c1, mo⟩ L a ccd cl outer) (call (.ref 317) [.str x t1]) Q E s := by
  w_top off
  revert X
  k_fill
  intro X
  refine wpAny_call ?_
  k_dflt k_enter
  k_steps
  refine Hold.out ?_
  refine' for_any ?F ?hx ?hp ?hs ?hE ?_
  (case F => k_asm); (case hx => with_unfolding_all rfl); (case hp => with_unfolding_all rfl); (case hs => intro _; with_unfolding_all rfl); (case hE => passes_own)
  k_steps
  refine Hold.out ?_
  refine' iter_range (σ := Addr × Obj × List (Str × Value) × List (Str × Int)) (fun c => (c.1, c.2.1) :: news) (fun c => [("marks", .ref c.1), ("word", .str x t1)])
    (fun i c => Obj.IsDictOf (PySem.strKind PySem.Challenge.rw_dr5029_01.row.prog w) c.2.1 c.2.2.1 ∧ PyProof.V.FlatPairs PyData.str c.2.2.1 (kdpD c.2.2.2) ∧ c.2.2.2.length ≤ i ∧ (∀ z, kdpLook c.2.2.2 z 0 = markTo x z i) ∧ AllLt c.1 news ∧ (c.1 == sysModules) = false) (_, _, [], []) ?hh ?hr ?hsm ?hn ?F2 ?N2 ?hk ?hp2 ?turn ?done
  case hh => with_unfolding_all rfl
  case hr => assumption
  case F2 => k_asm
  case N2 => k_asm
  case hsm => exact small_one (by first | decide | omega) (by first | decide | omega) (by first | decide | omega) (by first | decide | omega)
  case hn => exact rangeSize_nat _ _
  case hk => kst_all
  case hp2 => exact ⟨by assumption, by assumption, Nat.le_refl _, fun z => rfl, by ktn_lt, by assumption⟩
  case turn =>
    rintro ⟨d, o, kv, c⟩ i k t u h tk I oI hk hi ⟨hd1, hf1, hl1, hv1, hlt, hsm⟩ hne F1 N1
    dsimp only [kstB] at F1 N1 hd1 hf1 hl1 hv1 hne hlt hsm
    simp only [List.forall_mem_cons] at hne
    obtain ⟨n1, n2⟩ := hne
    replace n1 := neN n1
    have hix : i < x.length := by omega
    k_steps
    refine' TurnEnd.intro (d, _, _, kdpPut c (Txt.item x k) (kdpLook c (Txt.item x k) 0 + 2 ^ k.toNat)) ?F4 ?N4 ?hs4 ?hn4 ?hk4 ?hp4
    (case F4 => k_asm)
    (case N4 => k_asm)
    (case hs4 => kcj_all)
    (case hn4 => simp only [List.forall_mem_cons]; exact ⟨n1, n2⟩)
    (case hk4 => kst_all)
    (case hp4 =>
      refine ⟨by assumption, by assumption, Nat.le_trans (kdpPut_len _ _ _) (Nat.succ_le_succ hl1), fun z => ?_, hlt, hsm⟩
      have e1 : k = (i : Int) := by omega
      have e2 : k.toNat = i := by omega
      dsimp only
      rw [look_kput, markTo, e2, hv1, hv1, e1]
      by_cases q : z = Txt.item x (i : Int)
      · rw [if_pos q, if_pos q.symm, ← q]
      · rw [if_neg q, if_neg (fun e => q e.symm), Int.add_zero])
  case done =>
    rintro ⟨d, o, kv, c⟩ u h tk ⟨hd1, hf1, hl1, hv1, hlt, hsm⟩ F1 N1
    dsimp only [kstB] at F1 N1 hd1 hf1 hl1 hv1 hlt hsm
    have e1 : ((x.length : Int) - 0).toNat = x.length := by omega
    rw [e1] at hv1
    k_steps
    exact hret _ _ _ _ _ _ (by k_asm) (by k_asm) hd1 hf1 (fun z => (hv1 z).trans (markTo_N x z _)) hlt hsm
end Mine
end
section
open PySem PySem.W PyProof.Rows PySem.Calls PySem.Spec
set_option maxRecDepth 100000
set_option maxHeartbeats 8000000
namespace Mine
local macro_rules | `(tactic| k_room) => `(tactic| ktr_room)
local macro_rules | `(tactic| k_units) => `(tactic| ktr_units)
local macro_rules | `(tactic| tb_rel) => `(tactic| first | exact List.mem_cons_self .. | assumption | (refine' List.mem_cons_of_mem _ ?_; tb_rel))
local macro_rules | `(tactic| k_mem) => `(tactic| tb_rel)
local macro_rules | `(tactic| k_all) => `(tactic| first | exact List.forall_mem_nil _ | with_reducible assumption | exact ne_of_allLt (by with_reducible assumption) | (refine' List.forall_mem_cons.mpr ⟨?a, ?b⟩; (case a => k_ne); (case b => k_all)) | assumption | exact ne_of_allLt (by assumption))
local macro_rules | `(tactic| kcj_all) => `(tactic| with_reducible (first | exact List.forall_mem_nil _ | (refine' List.forall_mem_cons.mpr ⟨?a, ?b⟩; (case a => tb_rel); (case b => kcj_all)) | (intro p9 h9; tb_rel)))
local macro_rules | `(tactic| walk_at "execs cons") => `(tactic| (k_here; (with_reducible show wpAny _ _ _ _ _ ⟨_, _, _, _ + 1, _⟩); with_reducible refine wp_gentoks ?_; intro tk))
local macro_rules | `(tactic| walk_at "execs nil") => `(tactic| (k_here; (with_reducible show wpAny _ _ _ _ _ ⟨_, _, _, _ + 1, _⟩); with_reducible refine wp_gentoks ?_; intro tk))
local macro_rules | `(tactic| walk_at "call ref") => `(tactic| (k_here; (with_reducible show wpAny _ _ (call (Value.ref 317) _) _ _ _); (k_dflt (refine' marks_tells ?k1 ?k2 ?k3 ?k4 ?k5 ?k6 ?k7 ?k8 ?_; (case k1 => k_asm); (case k2 => k_asm); (case k3 => k_asm); (case k4 => k_asm); (case k5 => k_asm); (case k6 => k_room); (case k7 => k_units); (case k8 => omega); k_whole)); intro d' o' kv' c' h' tk' F' N' hd' hf' hv' hl' hs'; (try dsimp only)))
local macro_rules | `(tactic| walk_at "binaryOp BitAnd int int") => `(tactic| with_reducible refine and_N ?_)
local macro_rules | `(tactic| walk_at "binaryOp BitOr int int") => `(tactic| with_reducible refine or_1 ?_)
local macro_rules | `(tactic| walk_at "binaryOp BitOr int int") => `(tactic| with_reducible refine or_N ?_)
local macro_rules | `(tactic| walk_at "binaryOp BitXor int int") => `(tactic| with_reducible refine xor_N ?_)
local macro_rules | `(tactic| walk_at "binaryOp Add int int") => `(tactic| with_reducible refine add_N ?_)
local macro_rules | `(tactic| walk_at "binaryOp LShift int int") => `(tactic| ((with_reducible refine lsh_1 ?bnd ?_); (case bnd => repeat' (first | with_reducible assumption | refine Nat.or_lt_two_pow ?_ ?_ | refine Nat.xor_lt_two_pow ?_ ?_ | refine Nat.and_lt_two_pow _ ?_))))
local macro_rules | `(tactic| walk_at "call builtin:dict.get") => `(tactic| (k_here; k_dflt (refine' get_mark ?gT ?gh ?_; (case gh => with_reducible assumption); (case gT => k_tabat)); intro _))
local macro_rules | `(tactic| walk_at "call builtin:list.append") => `(tactic| (k_here; (with_reducible show wpAny _ _ (call (Value.builtin _) [Value.ref _, _]) _ _ _); k_dflt (refine' app_list ?k1 ?k2 ?k3 ?k4 ?_; (case k1 => k_asm); (case k2 => k_asm); (case k3 => k_upd); (case k4 => with_reducible assumption); k_whole); intro h' F' N'; (try k_sweep)))
local macro_rules | `(tactic| walk_at "eval IfExp") => `(tactic| (k_here; refine Hold.of ?_))
local macro_rules | `(tactic| walk_at "pyIter str") => `(tactic| (k_here; (with_reducible show wpAny _ _ (pyIter _) (fun _ _ => LoopAtV _ _ _ _ _ _ _ _ _ _ _) _ _); refine Hold.of ?_))
local macro_rules | `(tactic| walk_at "exec For Name Name cons nil") => `(tactic| (k_here; refine Hold.of ?_))
theorem changes_tells {p : Program} {w : World} {loose : List Str} {mean : ExcName → Option Value} {mg mb : Str → Option Value} {dp un : Nat} {gd : Option (List Code)} {cn : Str} {nm : List (Str × NameKind)} {g1 c1 : Bool} {mo : List (Str × Const)} {a : Addr} {ccd : Value} {cl : List (Str × Addr)} {outer : List Env} {A₀ : Around} {base h₀ : Heap} {L : Addr} {m : Str → Option Value} {news : List (Addr × Obj)} {s : Shared} {Q E : Value → Shared → Prop}
    {x y : Str} {t1 t2 : Tok} {tn : Bool}
    (B : Below A₀ base outer h₀) (F : Fr h₀ L s.heap m) (X : (hd.heap_39 w.params).In h₀) (N : News h₀ L s.heap news) (T : Top p loose mean mg mb h₀) (hdp : dp + 40 < recursionLimit) (hu : un + 400 < cLine)
    (hx : 1 ≤ x.length ∧ x.length ≤ 6) (hy : 1 ≤ y.length ∧ y.length ≤ 6)
    (hret : ∀ D vs ns cc h' tk', Fr h₀ L h' m → News h₀ L h' ((D, listOf (List.toArray vs) cc) :: news) → IntsAre vs ns → ns = (List.range y.length).map (fun j => (colT x.length tn (fun j => markN x (Txt.item y (j : Int)) x.length) (j + 1)).2.2.2.2) → AllLt D news → Q (.ref D) { s with heap := h', toks := tk' }) :
    wpAny (model PySem.Challenge.rw_dr5029_01.row.prog w) (ktrTop dp un gd cn ⟨.function, nm, g1, c1, mo⟩ L a ccd cl outer) (call (.ref 324) [.str x t1, .str y t2, .bool tn]) Q E s := by
  w_top off
  revert X
  k_fill
  intro X
  refine wpAny_call ?_
  k_dflt k_enter
  have hW : (2 ^ ((x.length : Nat) : Int).toNat - 1 : Int) = ((2 ^ x.length - 1 : Nat) : Int) := by
    rw [Int.toNat_natCast, Int.ofNat_sub (Nat.one_le_two_pow), Int.natCast_pow]; rfl
  have hFt : (2 ^ (((x.length : Nat) : Int) - 1).toNat : Int) = ((2 ^ (x.length - 1) : Nat) : Int) := by
    rw [show (((x.length : Nat) : Int) - 1).toNat = x.length - 1 by omega, Int.natCast_pow]; rfl
  have hW20 : 2 ^ x.length - 1 < 2 ^ 20 := by
    have := Nat.pow_le_pow_right (n := 2) (by decide) (show x.length ≤ 6 by omega)
    omega
  have hZ20 : (0 : Nat) < 2 ^ 20 := by decide
  k_steps
  refine Hold.out ?_
  rename Fr _ _ _ _ => F5
  rw [hW, hFt] at F5
  refine' for_any ?F ?hx ?hp ?hs ?hE ?_
  (case F => k_asm); (case hx => with_unfolding_all rfl); (case hp => with_unfolding_all rfl); (case hs => intro _; with_unfolding_all rfl); (case hE => passes_own)
  k_steps
  refine Hold.out ?_
  refine' iter_str (σ := Addr × Addr × Obj × List (Str × Value) × List (Str × Int) × (Nat × Nat × Nat × Nat × Int) × (Tok × Tok × Tok × Tok × Tok) × List Value × List Int × Nat)
    (fun c => (c.1, listOf c.2.2.2.2.2.2.2.1.toArray c.2.2.2.2.2.2.2.2.2) :: (c.2.1, c.2.2.1) :: news)
    (fun c => [("numbers", .ref c.1), ("marks", .ref c.2.1), ("word", .str x t1), ("turning", .bool tn), ("whole", .int ((2 ^ x.length - 1 : Nat) : Int) _), ("foot", .int ((2 ^ (x.length - 1) : Nat) : Int) _), ("grows", .int ((c.2.2.2.2.2.1.1 : Nat) : Int) c.2.2.2.2.2.2.1.1), ("falls", .int ((c.2.2.2.2.2.1.2.1 : Nat) : Int) c.2.2.2.2.2.2.1.2.1), ("even", .int ((c.2.2.2.2.2.1.2.2.1 : Nat) : Int) c.2.2.2.2.2.2.1.2.2.1), ("before", .int ((c.2.2.2.2.2.1.2.2.2.1 : Nat) : Int) c.2.2.2.2.2.2.1.2.2.2.1), ("number", .int c.2.2.2.2.2.1.2.2.2.2 c.2.2.2.2.2.2.1.2.2.2.2)])
    (fun i c => Obj.IsDictOf (PySem.strKind PySem.Challenge.rw_dr5029_01.row.prog w) c.2.2.1 c.2.2.2.1 ∧ PyProof.V.FlatPairs PyData.str c.2.2.2.1 (kdpD c.2.2.2.2.1) ∧ (c.2.1 == sysModules) = false ∧ (∀ z, kdpLook c.2.2.2.2.1 z 0 = ((markN x z x.length : Nat) : Int)) ∧ AllLt c.2.1 news ∧ AllLt c.1 news ∧ (c.2.1 : Nat) < c.1 ∧ IntsAre c.2.2.2.2.2.2.2.1 c.2.2.2.2.2.2.2.2.1 ∧ c.2.2.2.2.2.1 = colT x.length tn (fun j => markN x (Txt.item y (j : Int)) x.length) i ∧ c.2.2.2.2.2.2.2.2.1 = (List.range i).map (fun j => (colT x.length tn (fun j => markN x (Txt.item y (j : Int)) x.length) (j + 1)).2.2.2.2) ∧ c.2.2.2.2.2.1.1 < 2 ^ 20 ∧ c.2.2.2.2.2.1.2.1 < 2 ^ 20 ∧ c.2.2.2.2.2.1.2.2.1 < 2 ^ 20 ∧ c.2.2.2.2.2.1.2.2.2.1 < 2 ^ 20) (_, _, _, _, _, (2 ^ x.length - 1, 0, 0, 0, (x.length : Int)), (_, _, _, _, _), [], [], 0) ?hh ?F2 ?N2 ?hk ?hp2 ?turn ?done
  case hh => with_unfolding_all rfl
  case F2 => k_asm
  case hk => kst_all
  case N2 => refine' cb_drop ?n3 ?s3; (case n3 => k_asm); (case s3 => kcj_all)
  case hp2 =>
    repeat (with_reducible rename (_ ∧ _) => hh9; cases hh9)
    exact ⟨by assumption, by assumption, by assumption, by assumption, by assumption, by ktn_lt, by assumption, .nil, rfl, rfl, hW20, hZ20, hZ20, hZ20⟩
  case turn =>
    rintro ⟨nd, d, o, kv, c, ⟨gr, fa, ev, be, nu⟩, ⟨tg, tf, te, tb, tn1⟩, vs, ns, cc⟩ i k t u h tk I oI hk hi ⟨hd1, hf1, hs1, hv1, hl1, hl2, hl3, hI1, hst, hns, b1, b2, b3, b4⟩ hne F1 N1
    dsimp only [kstB] at F1 N1 hne hd1 hf1 hs1 hv1 hl1 hl2 hl3 hI1 hst hns b1 b2 b3 b4
    replace hl3 := ltN hl3
    simp only [List.forall_mem_cons] at hne
    obtain ⟨n1, n2, n3⟩ := hne
    replace n1 := neN n1; replace n2 := neN n2
    have hvl : vs.length ≤ 1000 := by rw [hI1.length, hns, List.length_map, List.length_range]; have : y.cps.size ≤ 6 := hy.2; omega
    have hwi : Txt.item y (i : Int) = ⟨#[k]⟩ := item_at hk
    have b5 : markN x ⟨#[k]⟩ x.length < 2 ^ 20 := Nat.lt_of_lt_of_le (markN_lt x _ _) (Nat.pow_le_pow_right (by decide) (by omega))
    k_steps
    refine Hold.out ?_
    refine' cut_int ((turnT x.length tn (markN x ⟨#[k]⟩ x.length) ev be : Nat) : Int) ?t1 ?t2
    case t1 =>
      refine wpAny_IfExp ?_
      k_steps
      · rename tn = true => hq
        exact IntIs.intro (by unfold turnT; rw [if_pos hq])
      · rename tn = false => hq
        exact IntIs.intro (by unfold turnT; rw [hq]; rfl)
    case t2 =>
      intro tt1 tk1
      k_steps
      refine Hold.out ?_
      refine' cut_int (if moreT x.length tn (markN x ⟨#[k]⟩ x.length) gr fa ev be &&& 2 ^ (x.length - 1) = 0 then 0 else 1) ?t3 ?t4
      case t3 =>
        refine wpAny_IfExp ?_
        k_steps
        · exact IntIs.intro (bit_pos (by assumption) rfl)
        · exact IntIs.intro (bit_neg (by assumption) rfl)
      case t4 =>
        intro tt2 tk2
        k_steps
        refine Hold.out ?_
        refine' cut_int (if lessT x.length tn (markN x ⟨#[k]⟩ x.length) gr fa ev be &&& 2 ^ (x.length - 1) = 0 then 0 else 1) ?t5 ?t6
        case t5 =>
          refine wpAny_IfExp ?_
          k_steps
          · exact IntIs.intro (bit_pos (by assumption) rfl)
          · exact IntIs.intro (bit_neg (by assumption) rfl)
        case t6 =>
          intro tt3 tk3
          k_steps
          refine' TurnEnd.intro (nd, d, o, kv, c, (_, _, _, _, _), (_, _, _, _, _), vs ++ [_], ns ++ [nu + (if moreT x.length tn (markN x ⟨#[k]⟩ x.length) gr fa ev be &&& 2 ^ (x.length - 1) = 0 then 0 else 1) - (if lessT x.length tn (markN x ⟨#[k]⟩ x.length) gr fa ev be &&& 2 ^ (x.length - 1) = 0 then 0 else 1)], _) ?F4 ?N4 ?hs4 ?hn4 ?hk4 ?hp4
          (case F4 => k_asm)
          (case N4 => k_asm)
          (case hk4 => kst_all)
          (case hs4 => kcj_all)
          (case hn4 => simp only [List.forall_mem_cons]; exact ⟨n1, n2, n3⟩)
          (case hp4 =>
            have hstep := congrArg (stepT x.length tn (markN x ⟨#[k]⟩ x.length)) hst
            refine ⟨hd1, hf1, hs1, hv1, hl1, hl2, hl3, IntsAre.append hI1 (.cons _ _ .nil), ?_, ?_, ?_, ?_, ?_, ?_⟩
            · dsimp only
              rw [colT, hwi, ← hstep]
              rfl
            · dsimp only
              rw [List.range_succ, List.map_append, ← hns]
              simp only [List.map_cons, List.map_nil, colT, hwi, ← hst]
              rfl
            all_goals (dsimp only; (repeat' (first | with_reducible assumption | refine Nat.or_lt_two_pow ?_ ?_ | refine Nat.xor_lt_two_pow ?_ ?_ | refine Nat.and_lt_two_pow _ ?_))))
  case done =>
    rintro ⟨nd, d, o, kv, c, ⟨gr, fa, ev, be, nu⟩, ⟨tg, tf, te, tb, tn1⟩, vs, ns, cc⟩ u h tk ⟨hd1, hf1, hs1, hv1, hl1, hl2, hl3, hI1, hst, hns, b1, b2, b3, b4⟩ F1 N1
    dsimp only [kstB] at F1 N1 hl2 hI1 hns
    k_steps
    exact hret _ _ _ _ _ _ (by k_asm) (cb_drop (by assumption) (by kcj_all)) hI1 hns hl2
end Mine
end
section
open PySem PySem.W PyProof.Rows PySem.Calls PySem.Spec
set_option maxRecDepth 100000
set_option maxHeartbeats 8000000
namespace Mine
local macro_rules | `(tactic| k_room) => `(tactic| ktr_room)
local macro_rules | `(tactic| k_units) => `(tactic| ktr_units)
local macro_rules | `(tactic| tb_rel) => `(tactic| first | exact List.mem_cons_self .. | assumption | (refine' List.mem_cons_of_mem _ ?_; tb_rel))
local macro_rules | `(tactic| k_mem) => `(tactic| tb_rel)
local macro_rules | `(tactic| k_all) => `(tactic| first | exact List.forall_mem_nil _ | with_reducible assumption | exact ne_of_allLt (by with_reducible assumption) | exact ne_of_allLtS (by with_reducible assumption) | (refine' List.forall_mem_cons.mpr ⟨?a, ?b⟩; (case a => k_ne); (case b => k_all)) | assumption | exact ne_of_allLt (by assumption))
local macro_rules | `(tactic| kcj_all) => `(tactic| with_reducible (first | exact List.forall_mem_nil _ | (refine' List.forall_mem_cons.mpr ⟨?a, ?b⟩; (case a => tb_rel); (case b => kcj_all)) | (intro p9 h9; tb_rel)))
local macro_rules | `(tactic| walk_at "call ref") => `(tactic| (k_here; (with_reducible show wpAny _ _ (call (Value.ref 317) _) _ _ _); (k_dflt (refine' marks_tells ?k1 ?k2 ?k3 ?k4 ?k5 ?k6 ?k7 ?k8 ?_; (case k1 => k_asm); (case k2 => k_asm); (case k3 => k_asm); (case k4 => k_asm); (case k5 => k_asm); (case k6 => k_room); (case k7 => k_units); (case k8 => omega); k_whole)); intro d' o' kv' c' h' tk' F' N' hd' hf' hv' hl' hs'; (try simp only [AllLt] at hl'); (try dsimp only)))
local macro_rules | `(tactic| walk_at "binaryOp BitAnd int int") => `(tactic| with_reducible refine and_N ?_)
local macro_rules | `(tactic| walk_at "binaryOp BitAnd int int") => `(tactic| with_reducible refine and_1 ?_)
local macro_rules | `(tactic| walk_at "binaryOp RShift int int") => `(tactic| ((with_reducible refine rsh_N ?bnd ?_); (case bnd => omega)))
local macro_rules | `(tactic| walk_at "binaryOp BitOr int int") => `(tactic| with_reducible refine or_1 ?_)
local macro_rules | `(tactic| walk_at "binaryOp BitOr int int") => `(tactic| with_reducible refine or_N ?_)
local macro_rules | `(tactic| walk_at "binaryOp BitXor int int") => `(tactic| with_reducible refine xor_N ?_)
local macro_rules | `(tactic| walk_at "binaryOp Add int int") => `(tactic| with_reducible refine add_N ?_)
local macro_rules | `(tactic| walk_at "binaryOp Sub int int") => `(tactic| with_reducible refine sub_N Nat.and_le_left ?_)
local macro_rules | `(tactic| walk_at "binaryOp LShift int int") => `(tactic| ((with_reducible refine lsh_1 ?bnd ?_); (case bnd => repeat' (first | with_reducible assumption | refine Nat.or_lt_two_pow ?_ ?_ | refine Nat.xor_lt_two_pow ?_ ?_ | refine Nat.and_lt_two_pow _ ?_))))
local macro_rules | `(tactic| walk_at "call builtin:dict.get") => `(tactic| (k_here; k_dflt (refine' get_mark ?gT ?gh ?_; (case gh => with_reducible assumption); (case gT => k_tabat)); intro _))
local macro_rules | `(tactic| walk_at "call builtin:list.append") => `(tactic| (k_here; (with_reducible show wpAny _ _ (call (Value.builtin _) [Value.ref _, _]) _ _ _); k_dflt (refine' app_list ?k1 ?k2 ?k3 ?k4 ?_; (case k1 => k_asm); (case k2 => k_asm); (case k3 => k_upd); (case k4 => with_reducible assumption); k_whole); intro h' F' N'; (try k_sweep)))
local macro_rules | `(tactic| walk_at "pyIter str") => `(tactic| (k_here; (with_reducible show wpAny _ _ (pyIter _) (fun _ _ => LoopAtV _ _ _ _ _ _ _ _ _ _ _) _ _); refine Hold.of ?_))
local macro_rules | `(tactic| walk_at "CompSrcT") => `(tactic| (k_here; refine Hold.of ?_))
local macro_rules | `(tactic| walk_at "eval ListComp") => `(tactic| (k_here; refine Hold.of ?_))
local macro_rules | `(tactic| walk_at "exec For Name Name cons nil") => `(tactic| (k_here; refine Hold.of ?_))
theorem zerosN_le (re : Nat) : ∀ i, zerosN re i ≤ i
  | 0 => Nat.le_refl _
  | i + 1 => by
    have := zerosN_le re i
    rw [zerosN]
    split <;> omega
theorem zeros_y {X re i : Nat} (e : X = re) (h : ((X / 2 ^ i &&& 1 : Nat) : Int) = 0) : zerosN re (i + 1) = zerosN re i + 1 := by
  subst e; rw [zerosN, if_pos (by omega)]
theorem zeros_n {X re i : Nat} (e : X = re) (h : ((X / 2 ^ i &&& 1 : Nat) : Int) ≠ 0) : zerosN re (i + 1) = zerosN re i := by
  subst e; rw [zerosN, if_neg (by omega)]
  rfl
theorem len_lst {prog : Program} {w : World} {A : Around} {E : Value → Shared → Prop} {s : Shared} {h₀ : Heap} {L : Addr} {news : List (Addr × Obj)} {D : Addr} {ys : List Value} {n : Nat} {Q : Value → Shared → Prop} (N : News h₀ L s.heap news) (hm : (D, LCg.lst ys) ∈ news) (hs : ys.length = n) (hf : n ≤ 1000) (h : Q (.int (n : Nat) (s.toks + 1)) { s with toks := s.toks + 1 + 1 }) :
    wpAny (model prog w) A (call (.builtin "len") [.ref D]) Q E s := KM.len_K (its := ys.toArray) (c := ys.length) N hm (by rw [List.size_toArray, hs]) (by omega) h
theorem reached_tells {p : Program} {w : World} {loose : List Str} {mean : ExcName → Option Value} {mg mb : Str → Option Value} {dp un : Nat} {gd : Option (List Code)} {cn : Str} {nm : List (Str × NameKind)} {g1 c1 : Bool} {mo : List (Str × Const)} {a : Addr} {ccd : Value} {cl : List (Str × Addr)} {outer : List Env} {A₀ : Around} {base h₀ : Heap} {L : Addr} {m : Str → Option Value} {news : List (Addr × Obj)} {s : Shared} {Q E : Value → Shared → Prop}
    {x y : Str} {t1 t2 : Tok} 
    (B : Below A₀ base outer h₀) (F : Fr h₀ L s.heap m) (X : (hd.heap_39 w.params).In h₀) (N : News h₀ L s.heap news) (T : Top p loose mean mg mb h₀) (hdp : dp + 40 < recursionLimit) (hu : un + 400 < cLine)
    (hx : 1 ≤ x.length ∧ x.length ≤ 6) (hy : 1 ≤ y.length ∧ y.length ≤ 6)
    (hret : ∀ D vs ns cc h' tk', Fr h₀ L h' m → News h₀ L h' ((D, listOf vs.toArray cc) :: news) → IntsAre vs ns → ns = (List.range y.length).map (fun j => ((zerosN (restT x.length (fun j => markN x (Txt.item y (j : Int)) x.length) (j + 1)) x.length : Nat) : Int)) → AllLt D news → Q (.ref D) { s with heap := h', toks := tk' }) :
    wpAny (model PySem.Challenge.rw_dr5029_01.row.prog w) (ktrTop dp un gd cn ⟨.function, nm, g1, c1, mo⟩ L a ccd cl outer) (call (.ref 329) [.str x t1, .str y t2]) Q E s := by
  w_top off
  revert X
  k_fill
  intro X
  refine wpAny_call ?_
  k_dflt k_enter
  have hW : (2 ^ ((x.length : Nat) : Int).toNat - 1 : Int) = ((2 ^ x.length - 1 : Nat) : Int) := by
    rw [Int.toNat_natCast, Int.ofNat_sub (Nat.one_le_two_pow), Int.natCast_pow]; rfl
  k_steps
  rename_i L1 q1 q2 q3 q4 q5 q6 q7 oc0 dc0 d0 o0 kv0 c0 q8 q9 hd0 hf0 hv0 hl0 hs0 l0 q10 hl1 D0 q11 hl2 q12 q13 q14 q15 q16 oc1 F5 N5 hdc
  refine Hold.out ?_
  rw [hW] at F5 hdc
  refine' for_any ?F ?hx ?hp ?hs ?hE ?_
  (case F => k_asm); (case hx => with_unfolding_all rfl); (case hp => with_unfolding_all rfl); (case hs => intro _; with_unfolding_all rfl); (case hE => passes_own)
  k_steps
  refine Hold.out ?_
  refine' iter_str (σ := Obj × Nat × Tok × List Value × List Int × Nat)
    (fun c => (l0, listOf c.2.2.2.1.toArray c.2.2.2.2.2) :: (d0, o0) :: (L1 + 1, c.1) :: news)
    (fun c => [("numbers", .ref l0), ("marks", .ref d0), ("word", .str x t1), ("whole", .int ((2 ^ x.length - 1 : Nat) : Int) c.2.2.1)])
    (fun i c => (∃ tr, c.1.data = Data.cell (some (.int ((c.2.1 : Nat) : Int) tr))) ∧ IntsAre c.2.2.2.1 c.2.2.2.2.1 ∧ c.2.1 = restT x.length (fun j => markN x (Txt.item y (j : Int)) x.length) i ∧ c.2.2.2.2.1 = (List.range i).map (fun j => ((zerosN (restT x.length (fun j => markN x (Txt.item y (j : Int)) x.length) (j + 1)) x.length : Nat) : Int))) (oc1, 2 ^ x.length - 1, _, [], [], 0) ?hh ?F2 ?N2 ?hk ?hp2 ?turn ?done
  case hh => with_unfolding_all rfl
  case F2 => k_asm
  case hk => kst_all
  case N2 => refine' cb_drop ?n3 ?s3; (case n3 => k_asm); (case s3 => kcj_all)
  case hp2 => exact ⟨⟨_, hdc⟩, .nil, rfl, rfl⟩
  case turn =>
    rintro ⟨oc, re, tw, vs, ns, cc⟩ i k t u h tk I oI hk hi ⟨⟨tr, hdc⟩, hI1, hre, hns⟩ hne F1 N1
    dsimp only [kstB] at F1 N1 hne hdc hI1 hre hns
    simp only [List.forall_mem_cons] at hne
    obtain ⟨n1, n2, n4, n3⟩ := hne
    replace n1 := neN n1; replace n2 := neN n2; replace n4 := neN n4
    have hvl : vs.length ≤ 1000 := by rw [hI1.length, hns, List.length_map, List.length_range]; have : y.cps.size ≤ 6 := hy.2; omega
    have hwi : Txt.item y (i : Int) = ⟨#[k]⟩ := item_at hk
    k_steps
    refine Hold.out ?_
    k_dflt (refine LCt.ListComp_T (F₀ := by k_asm) (by with_unfolding_all rfl) (by decide) (by rfl) (by decide) (by rfl) ?_)
    k_steps
    refine Hold.out ?_
    rename IsRange _ _ _ _ _ _ _ _ => hrg
    rename News _ _ _ _ => N6
    refine LCt.CompSrcT.range (n := x.length) (by with_unfolding_all rfl) (by k_asm) N6 hrg (small_one (by first | decide | omega) (by first | decide | omega) (by first | decide | omega) (by first | decide | omega)) ?hn9 (by rw [sizeLine_eq]; omega) ?_
    case hn9 =>
      have h9 := rangeSize_nat 0 ((x.length : Nat) : Int)
      rw [show (((x.length : Nat) : Int) - 0).toNat = x.length by omega] at h9
      exact h9
    intro g
    refine comp_restT (σ := Unit) (fun _ => _) (fun i ys _ => ys.length = zerosN (reachT x.length (markN x ⟨#[k]⟩ x.length) re) i) () rfl ?ct ?cf
    case ct =>
      rintro j ys ⟨⟩ v I1 oI1 C oC D m₂ h tk E' hj ⟨tv, hv⟩ hyl hns hx1 F N off ne
      subst hv
      have hjn : ((0 : Int) + (j : Int)).toNat = j := by omega
      obtain ⟨ne1, ne2, ne3⟩ := ne
      k_steps
      · rename _ = (0 : Int) => hz
        rw [hjn] at hz
        refine LCg.CompEnd.intro (by assumption) (by assumption) _ (by kcj_all) off trivial ⟨(), rfl, ?_⟩
        rw [List.length_append, hyl]
        exact (zeros_y rfl hz).symm
      · rename _ ≠ (0 : Int) => hz
        rw [hjn] at hz
        refine LCg.CompEnd.intro (by assumption) (by assumption) _ (by kcj_all) off trivial ⟨(), rfl, ?_⟩
        rw [hyl]
        exact (zeros_n rfl hz).symm
    case cf =>
      rintro ys ⟨⟩ hyl
      have hz6 := zerosN_le (reachT x.length (markN x ⟨#[k]⟩ x.length) re) x.length
      k_steps
      k_dflt (refine' len_lst ?k1 ?k2 ?k3 ?k4 ?_; (case k1 => k_asm); (case k2 => k_mem); (case k3 => with_reducible assumption); (case k4 => omega))
      k_steps
      refine' TurnEnd.intro (_, reachT x.length (markN x ⟨#[k]⟩ x.length) re, _, vs ++ [_], ns ++ [((zerosN (reachT x.length (markN x ⟨#[k]⟩ x.length) re) x.length : Nat) : Int)], _) ?F4 ?N4 ?hs4 ?hn4 ?hk4 ?hp4
      (case F4 => k_asm)
      (case N4 => k_asm)
      (case hk4 => kst_all)
      (case hs4 => kcj_all)
      (case hn4 => simp only [List.forall_mem_cons]; exact ⟨n1, n2, n4, n3⟩)
      (case hp4 =>
        have hr2 : reachT x.length (markN x ⟨#[k]⟩ x.length) re = restT x.length (fun j => markN x (Txt.item y (j : Int)) x.length) (i + 1) := by rw [restT, hwi, ← hre]
        refine ⟨⟨_, by assumption⟩, IntsAre.append hI1 (.cons _ _ .nil), hr2, ?_⟩
        dsimp only
        rw [List.range_succ, List.map_append, ← hns, hr2]
        rfl)
  case done =>
    rintro ⟨oc, re, tw, vs, ns, cc⟩ u h tk ⟨⟨tr, hdc⟩, hI1, hre, hns⟩ F1 N1
    dsimp only [kstB] at F1 N1 hdc hI1 hre hns
    k_steps
    exact hret _ _ _ _ _ _ (by k_asm) (cb_drop (by assumption) (by kcj_all)) hI1 hns hl1.2.2
end Mine
end
section
open PySem PySem.W PyProof.Rows
namespace Mine
theorem mark_bit (x z : Str) : ∀ n k, k < n → ((markN x z n).testBit k = true ↔ Txt.item x (k : Int) = z)
  | 0, k, h => absurd h (Nat.not_lt_zero _)
  | n + 1, k, h => by
    rw [markN]
    by_cases q : Txt.item x (n : Int) = z
    · rw [if_pos q, Nat.add_comm]
      by_cases e : k = n
      · subst e
        rw [Nat.testBit_two_pow_add_eq, Nat.testBit_lt_two_pow (markN_lt x z k)]
        exact ⟨fun _ => q, fun _ => rfl⟩
      · rw [Nat.testBit_two_pow_add_gt (by omega)]
        exact mark_bit x z n k (by omega)
    · rw [if_neg q, Nat.add_zero]
      by_cases e : k = n
      · subst e
        rw [Nat.testBit_lt_two_pow (markN_lt x z k)]
        exact ⟨fun h => (by cases h), fun h => absurd h q⟩
      · exact mark_bit x z n k (by omega)
theorem here_bit (x y : Str) (n j k : Nat) (h : k < n) : (markN x (Txt.item y (j : Int)) n).testBit k = true ↔ eqAt x y k j = true := by
  rw [mark_bit x _ n k h]
  unfold eqAt
  rw [decide_eq_true_eq]
theorem col_0 {D : Nat → Nat → Int} {e : Nat → Nat → Bool} {E : Nat → Nat → Bool} (G : Grid D E) (n : Nat) : Col D e n 0 (2 ^ n - 1, 0, 0, 0, (n : Int)) where
  gr k hk := by
    rw [whole_bit hk, G.side, G.side]
    simp; omega
  fa k hk := by
    rw [Nat.zero_testBit, G.side, G.side]
    simp; omega
  ev k hk := by rw [Nat.zero_testBit]; simp
  be k hk := by rw [Nat.zero_testBit]; simp
  nu := (G.side n).symm
theorem lev_col (e : Nat → Nat → Bool) {n : Nat} (hn : 1 ≤ n) (here : Nat → Nat) (hh : ∀ j k, k < n → ((here j).testBit k = true ↔ e k j = true)) : ∀ j, Col (lv e) e n j (colT n false here j)
  | 0 => col_0 (lv_grid e) n
  | j + 1 => by
    have ih := lev_col e hn here hh j
    rw [colT]
    have ht : ∀ a b c, turnT n false a b c = 0 := fun _ _ _ => rfl
    refine col_step (lv_grid e) hn ih (hh j) (fun k hk => ?_) (fun k hk h => ?_)
    · rw [ht, Nat.zero_testBit]; simp
    · rw [ht, Nat.zero_testBit] at h; cases h
theorem dam_col (e : Nat → Nat → Bool) (S : Same e) {n : Nat} (hn : 1 ≤ n) (here : Nat → Nat) (hh : ∀ j k, k < n → ((here j).testBit k = true ↔ e k j = true)) : ∀ j, Col (os e) e n j (colT n true here j)
  | 0 => col_0 (os_grid e S) n
  | j + 1 => by
    have ih := dam_col e S hn here hh j
    rw [colT]
    have ht : ∀ k, k < n → ((turnT n true (here j) (colT n true here j).2.2.1 (colT n true here j).2.2.2.1).testBit k = true ↔ turnB e k j = true) := by
      intro k hk
      show (2 * (((2 ^ n - 1) ^^^ (colT n true here j).2.2.1) &&& here j) &&& (colT n true here j).2.2.2.1).testBit k = true ↔ _
      unfold turnB
      rw [Nat.testBit_and, Bool.and_eq_true, ih.be k hk, decide_eq_true_eq]
      cases k with
      | zero =>
        rw [dbl_bit0]
        constructor
        · rintro ⟨h, _⟩; cases h
        · rintro ⟨h, _⟩; omega
      | succ k =>
        rw [dbl_bits, Nat.testBit_and, Nat.testBit_xor, whole_bit (by omega), Bool.true_xor, Bool.and_eq_true, Bool.not_eq_true', ← Bool.not_eq_true, ih.ev k (by omega), hh j k (by omega), Nat.add_sub_cancel]
        constructor
        · rintro ⟨⟨h1, h2⟩, h3, h4⟩
          exact ⟨by omega, h3, h4, h2, fun q => h1 ⟨h3, q⟩⟩
        · rintro ⟨_, h3, h4, h2, h5⟩
          exact ⟨⟨fun q => h5 q.2, h2⟩, h3, h4⟩
    refine col_step (os_grid e S) hn ih (hh j) (fun k hk => ?_) (fun k hk h => ?_)
    · rw [ht k hk, Bool.or_eq_true]
    · exact turn_flat e S k j ((ht k hk).mp h)

theorem lc_hv (e : Nat → Nat → Bool) : ∀ s k j, k + j = s → (0 ≤ lc e k (j + 1) - lc e k j ∧ lc e k (j + 1) - lc e k j ≤ 1) ∧ (0 ≤ lc e (k + 1) j - lc e k j ∧ lc e (k + 1) j - lc e k j ≤ 1) := by
  intro s
  induction s with
  | zero =>
    intro k j h
    have hk : k = 0 := by omega
    have hj : j = 0 := by omega
    subst hk; subst hj
    rw [lc_0, lc_0, lc_z]; omega
  | succ s ih =>
    intro k j h
    constructor
    · cases k with
      | zero => rw [lc_0, lc_0]; omega
      | succ k =>
        have := ih k j (by omega)
        have hc := lc_ss e k j
        split at hc <;> omega
    · cases j with
      | zero => rw [lc_z, lc_z]; omega
      | succ j =>
        have := ih k j (by omega)
        have hc := lc_ss e k j
        split at hc <;> omega
theorem sub_part (a b : Nat) : a - (a &&& b) = a ^^^ (a &&& b) := by
  have h := or_xor_and a (a &&& b)
  have e1 : a ||| (a &&& b) = a := by
    apply Nat.eq_of_testBit_eq; intro i
    rw [Nat.testBit_or, Nat.testBit_and]
    cases a.testBit i <;> rfl
  have e2 : a &&& (a &&& b) = a &&& b := by
    apply Nat.eq_of_testBit_eq; intro i
    rw [Nat.testBit_and, Nat.testBit_and]
    cases a.testBit i <;> rfl
  rw [e1, e2] at h
  omega
/-- the law's rest: a bit stands where the common row does not grow -/
theorem rest_col (e : Nat → Nat → Bool) {n : Nat} (here : Nat → Nat) (hh : ∀ j k, k < n → ((here j).testBit k = true ↔ e k j = true)) : ∀ j k, k < n → ((restT n here j).testBit k = true ↔ lc e (k + 1) j = lc e k j)
  | 0, k, hk => by
    rw [restT, whole_bit hk, lc_z, lc_z]
    simp
  | j + 1, k, hk => by
    have ih := rest_col e here hh j
    have hc : ∀ k, k ≤ n → (cry (restT n here j) (restT n here j &&& here j) k = true ↔ lc e k (j + 1) - lc e k j = 1) := by
      intro k
      induction k with
      | zero => intro _; rw [lc_0, lc_0]; simp [cry]
      | succ k i =>
        intro hk
        have i := i (by omega)
        have g := ih k (by omega)
        have hl := hh j k (by omega)
        have e1 : cry (restT n here j) (restT n here j &&& here j) (k + 1) = ((restT n here j).testBit k && ((here j).testBit k || cry (restT n here j) (restT n here j &&& here j) k)) := by
          rw [cry, Nat.testBit_and]
          cases (here j).testBit k <;> cases (restT n here j).testBit k <;> cases cry (restT n here j) (restT n here j &&& here j) k <;> rfl
        rw [e1, Bool.and_eq_true, Bool.or_eq_true, g, hl, i]
        have hv := lc_hv e _ k j rfl
        have hs := lc_ss e k j
        by_cases q : e k j = true
        · rw [if_pos q] at hs
          constructor
          · rintro ⟨h1, h2⟩; omega
          · intro h; exact ⟨by omega, .inl q⟩
        · rw [if_neg q] at hs
          constructor
          · rintro ⟨h1, h2 | h2⟩
            · exact absurd h2 q
            · omega
          · intro h; exact ⟨by omega, .inr (by omega)⟩
    rw [restT, reachT, sub_part, Nat.testBit_and, whole_bit hk, Bool.and_true, Nat.testBit_or, add_bit, Nat.testBit_xor, Nat.testBit_and]
    have e1 : (((restT n here j).testBit k ^^ ((restT n here j).testBit k && (here j).testBit k ^^ cry (restT n here j) (restT n here j &&& here j) k)) || ((restT n here j).testBit k ^^ ((restT n here j).testBit k && (here j).testBit k))) = (cry (restT n here j) (restT n here j &&& here j) k || ((restT n here j).testBit k && !(here j).testBit k)) := by
      cases (here j).testBit k <;> cases (restT n here j).testBit k <;> cases cry (restT n here j) (restT n here j &&& here j) k <;> rfl
    have hl := hh j k hk
    rw [e1, Bool.or_eq_true, Bool.and_eq_true, Bool.not_eq_true', ← Bool.not_eq_true, hc k (by omega), ih k hk, hl]
    have hv := lc_hv e _ k j rfl
    have hs := lc_ss e k j
    by_cases q : e k j = true
    · rw [if_pos q] at hs
      constructor
      · rintro (h | ⟨_, h⟩)
        · omega
        · exact absurd q h
      · intro h; exact .inl (by omega)
    · rw [if_neg q] at hs
      constructor
      · rintro (h | ⟨h, _⟩) <;> omega
      · intro h
        by_cases z : lc e k (j + 1) - lc e k j = 1
        · exact .inl z
        · exact .inr ⟨by omega, q⟩
theorem zero_bit (a n : Nat) : (a / 2 ^ n &&& 1 = 0) ↔ ¬ a.testBit n = true := by
  rw [Nat.and_comm, ← Nat.shiftRight_eq_div_pow]
  unfold Nat.testBit
  simp
theorem zeros_lc (e : Nat → Nat → Bool) {n j : Nat} {re : Nat} (h : ∀ k, k < n → (re.testBit k = true ↔ lc e (k + 1) j = lc e k j)) : ∀ i, i ≤ n → ((zerosN re i : Nat) : Int) = lc e i j
  | 0, _ => by rw [zerosN, lc_0]; rfl
  | i + 1, hi => by
    have ih := zeros_lc e h i (by omega)
    have hb := h i (by omega)
    have hz := zero_bit re i
    have hv := (lc_hv e _ i j rfl).2
    rw [hb] at hz
    rw [zerosN]
    split <;> omega
theorem changes_plain (x y : Str) (hx : 1 ≤ x.length) (j : Nat) : (colT x.length false (fun j => markN x (Txt.item y (j : Int)) x.length) j).2.2.2.2 = lv (eqAt x y) x.length j :=
  (lev_col (eqAt x y) hx _ (fun j k hk => here_bit x y x.length j k hk) j).nu
theorem changes_turn (x y : Str) (hS : Same (eqAt x y)) (hx : 1 ≤ x.length) (j : Nat) : (colT x.length true (fun j => markN x (Txt.item y (j : Int)) x.length) j).2.2.2.2 = os (eqAt x y) x.length j :=
  (dam_col (eqAt x y) hS hx _ (fun j k hk => here_bit x y x.length j k hk) j).nu
theorem reached_plain (x y : Str) (j : Nat) : ((zerosN (restT x.length (fun j => markN x (Txt.item y (j : Int)) x.length) j) x.length : Nat) : Int) = lc (eqAt x y) x.length j :=
  zeros_lc (eqAt x y) (rest_col (eqAt x y) _ (fun j k hk => here_bit x y x.length j k hk) j) _ (Nat.le_refl _)
end Mine
end
section
open PySem PySem.W PyProof.Rows PySem.Calls PySem.Spec
set_option maxRecDepth 100000
set_option maxHeartbeats 8000000
namespace Mine
local macro_rules | `(tactic| k_room) => `(tactic| ktr_room)
local macro_rules | `(tactic| k_units) => `(tactic| ktr_units)
local macro_rules | `(tactic| tb_rel) => `(tactic| first | exact List.mem_cons_self .. | assumption | (refine' List.mem_cons_of_mem _ ?_; tb_rel))
local macro_rules | `(tactic| k_mem) => `(tactic| tb_rel)
local macro_rules | `(tactic| k_all) => `(tactic| first | assumption | exact ne_of_allLt (by assumption))
local macro_rules | `(tactic| k_in) => `(tactic| (refine' Frag.In.keeps ?kx (Fr.keep ?kf); (case kf => with_reducible assumption); (case kx => with_reducible assumption)))
local macro_rules | `(tactic| walk_at "getAttr ref") => `(tactic| (k_here; k_dflt (refine' get_sm ?k1 ?k2 ?k4 ?k5 ?k6 ?k7 ?k9 ?k10 ?k11 ?k12 ?k13 ?k14 ?_; (case k1 => k_asm); (case k2 => k_asm); (case k4 => k_inst); (case k5 => k_is); (case k6 => k_is); (case k7 => k_is); (case k9 => k_is); (case k10 => k_is); (case k11 => decide +kernel); (case k12 => k_get); (case k13 => k_is); (case k14 => k_handed); k_whole)))
theorem allLt_of {d : Addr} : ∀ {l : List (Addr × Obj)}, (∀ p ∈ l, p.1 < d) → AllLt d l
  | [], _ => trivial
  | q :: r, h => ⟨h q (List.mem_cons_self ..), allLt_of fun p hp => h p (List.mem_cons_of_mem _ hp)⟩
theorem lev_make {p : Program} {w : World} {loose : List Str} {mean : ExcName → Option Value} {mg mb : Str → Option Value} {dp un : Nat} {gd : Option (List Code)} {cn : Str} {nm : List (Str × NameKind)} {g1 c1 : Bool} {mo : List (Str × Const)} {a : Addr} {ccd : Value} {cl : List (Str × Addr)} {outer : List Env} {A₀ : Around} {base h₀ : Heap} {L : Addr} {m : Str → Option Value} {news : List (Addr × Obj)} {s : Shared} {Q E : Value → Shared → Prop}
    (B : Below A₀ base outer h₀) (F : Fr h₀ L s.heap m) (X : (hd.heap_39 w.params).In h₀) (N : News h₀ L s.heap news) (T : Top p loose mean mg mb h₀) (hdp : dp + 40 < recursionLimit) (hu : un + 400 < cLine)
    (hret : ∀ x d q1 q2 q3 u1 u2 u3 v1 h' tk', Fr h₀ L h' m → News h₀ L h' ((x, instObj 266 d) :: (d, dictOf (methD q1 q2 q3 u1 u2 u3 v1) 3) :: news) → AllLt d news → @LT.lt Nat _ d x → Q (.ref x) { s with heap := h', toks := tk' }) :
    wpAny (model PySem.Challenge.rw_dr5029_01.row.prog w) (ktrTop dp un gd cn ⟨.function, nm, g1, c1, mo⟩ L a ccd cl outer) (call (.ref 266) []) Q E s := by
  w_top off
  revert X
  k_fill
  intro X
  k_steps
  exact hret _ _ _ _ _ _ _ _ _ _ _ (by k_asm) (by assumption) (allLt_of (by assumption)) (by assumption)
theorem dam_make {p : Program} {w : World} {loose : List Str} {mean : ExcName → Option Value} {mg mb : Str → Option Value} {dp un : Nat} {gd : Option (List Code)} {cn : Str} {nm : List (Str × NameKind)} {g1 c1 : Bool} {mo : List (Str × Const)} {a : Addr} {ccd : Value} {cl : List (Str × Addr)} {outer : List Env} {A₀ : Around} {base h₀ : Heap} {L : Addr} {m : Str → Option Value} {news : List (Addr × Obj)} {s : Shared} {Q E : Value → Shared → Prop}
    (B : Below A₀ base outer h₀) (F : Fr h₀ L s.heap m) (X : (hd.heap_39 w.params).In h₀) (N : News h₀ L s.heap news) (T : Top p loose mean mg mb h₀) (hdp : dp + 40 < recursionLimit) (hu : un + 400 < cLine)
    (hret : ∀ x d q1 q2 q3 q4 u1 u2 u3 u4 v1 h' tk', Fr h₀ L h' m → News h₀ L h' ((x, instObj 307 d) :: (d, dictOf (methD4 q1 q2 q3 q4 u1 u2 u3 u4 v1) 4) :: news) → AllLt d news → @LT.lt Nat _ d x → Q (.ref x) { s with heap := h', toks := tk' }) :
    wpAny (model PySem.Challenge.rw_dr5029_01.row.prog w) (ktrTop dp un gd cn ⟨.function, nm, g1, c1, mo⟩ L a ccd cl outer) (call (.ref 307) []) Q E s := by
  w_top off
  revert X
  k_fill
  intro X
  k_steps
  exact hret _ _ _ _ _ _ _ _ _ _ _ _ _ (by k_asm) (by assumption) (allLt_of (by assumption)) (by assumption)
theorem sim_make {p : Program} {w : World} {loose : List Str} {mean : ExcName → Option Value} {mg mb : Str → Option Value} {dp un : Nat} {gd : Option (List Code)} {cn : Str} {nm : List (Str × NameKind)} {g1 c1 : Bool} {mo : List (Str × Const)} {a : Addr} {ccd : Value} {cl : List (Str × Addr)} {outer : List Env} {A₀ : Around} {base h₀ : Heap} {L : Addr} {m : Str → Option Value} {news : List (Addr × Obj)} {s : Shared} {Q E : Value → Shared → Prop}
    (B : Below A₀ base outer h₀) (F : Fr h₀ L s.heap m) (X : (hd.heap_39 w.params).In h₀) (N : News h₀ L s.heap news) (T : Top p loose mean mg mb h₀) (hdp : dp + 40 < recursionLimit) (hu : un + 400 < cLine)
    (hret : ∀ x d q1 q2 q3 u1 u2 u3 v1 h' tk', Fr h₀ L h' m → News h₀ L h' ((x, instObj 225 d) :: (d, dictOf (methD q1 q2 q3 u1 u2 u3 v1) 3) :: news) → AllLt d news → @LT.lt Nat _ d x → Q (.ref x) { s with heap := h', toks := tk' }) :
    wpAny (model PySem.Challenge.rw_dr5029_01.row.prog w) (ktrTop dp un gd cn ⟨.function, nm, g1, c1, mo⟩ L a ccd cl outer) (call (.ref 225) []) Q E s := by
  w_top off
  revert X
  k_fill
  intro X
  k_steps
  exact hret _ _ _ _ _ _ _ _ _ _ _ (by k_asm) (by assumption) (allLt_of (by assumption)) (by assumption)
end Mine
end
section
open PySem PySem.W PyProof.Rows PySem.Calls PySem.Spec
set_option maxRecDepth 100000
namespace Mine
theorem changes_lev {p : Program} {w : World} {loose : List Str} {mean : ExcName → Option Value} {mg mb : Str → Option Value} {dp un : Nat} {gd : Option (List Code)} {cn : Str} {nm : List (Str × NameKind)} {g1 c1 : Bool} {mo : List (Str × Const)} {a : Addr} {ccd : Value} {cl : List (Str × Addr)} {outer : List Env} {A₀ : Around} {base h₀ : Heap} {L : Addr} {m : Str → Option Value} {news : List (Addr × Obj)} {s : Shared} {Q E : Value → Shared → Prop}
    {x y : Str} {t1 t2 : Tok}
    (B : Below A₀ base outer h₀) (F : Fr h₀ L s.heap m) (X : (hd.heap_39 w.params).In h₀) (N : News h₀ L s.heap news) (T : Top p loose mean mg mb h₀) (hdp : dp + 40 < recursionLimit) (hu : un + 400 < cLine)
    (hx : 1 ≤ x.length ∧ x.length ≤ 6) (hy : 1 ≤ y.length ∧ y.length ≤ 6)
    (hret : ∀ D vs cc h' tk', Fr h₀ L h' m → News h₀ L h' ((D, listOf vs.toArray cc) :: news) → IntsAre vs ((List.range y.length).map (fun j => lv (eqAt x y) x.length (j + 1))) → AllLt D news → Q (.ref D) { s with heap := h', toks := tk' }) :
    wpAny (model PySem.Challenge.rw_dr5029_01.row.prog w) (ktrTop dp un gd cn ⟨.function, nm, g1, c1, mo⟩ L a ccd cl outer) (call (.ref 324) [.str x t1, .str y t2, .bool false]) Q E s :=
  changes_tells B F X N T hdp hu hx hy fun D vs ns cc h' tk' F' N' hI hns hl => hret D vs cc h' tk' F' N' (by
    rw [show (fun j => lv (eqAt x y) x.length (j + 1)) = (fun j => (colT x.length false (fun j => markN x (Txt.item y (j : Int)) x.length) (j + 1)).2.2.2.2) from funext fun j => (changes_plain x y hx.1 (j + 1)).symm, ← hns]; exact hI) hl
theorem changes_dam {p : Program} {w : World} {loose : List Str} {mean : ExcName → Option Value} {mg mb : Str → Option Value} {dp un : Nat} {gd : Option (List Code)} {cn : Str} {nm : List (Str × NameKind)} {g1 c1 : Bool} {mo : List (Str × Const)} {a : Addr} {ccd : Value} {cl : List (Str × Addr)} {outer : List Env} {A₀ : Around} {base h₀ : Heap} {L : Addr} {m : Str → Option Value} {news : List (Addr × Obj)} {s : Shared} {Q E : Value → Shared → Prop}
    {x y : Str} {t1 t2 : Tok}
    (B : Below A₀ base outer h₀) (F : Fr h₀ L s.heap m) (X : (hd.heap_39 w.params).In h₀) (N : News h₀ L s.heap news) (T : Top p loose mean mg mb h₀) (hdp : dp + 40 < recursionLimit) (hu : un + 400 < cLine)
    (hx : 1 ≤ x.length ∧ x.length ≤ 6) (hy : 1 ≤ y.length ∧ y.length ≤ 6)
    (hret : ∀ D vs cc h' tk', Fr h₀ L h' m → News h₀ L h' ((D, listOf vs.toArray cc) :: news) → IntsAre vs ((List.range y.length).map (fun j => os (eqAt x y) x.length (j + 1))) → AllLt D news → Q (.ref D) { s with heap := h', toks := tk' }) :
    wpAny (model PySem.Challenge.rw_dr5029_01.row.prog w) (ktrTop dp un gd cn ⟨.function, nm, g1, c1, mo⟩ L a ccd cl outer) (call (.ref 324) [.str x t1, .str y t2, .bool true]) Q E s :=
  changes_tells B F X N T hdp hu hx hy fun D vs ns cc h' tk' F' N' hI hns hl => hret D vs cc h' tk' F' N' (by
    rw [show (fun j => os (eqAt x y) x.length (j + 1)) = (fun j => (colT x.length true (fun j => markN x (Txt.item y (j : Int)) x.length) (j + 1)).2.2.2.2) from funext fun j => (changes_turn x y (eqAt_same x y) hx.1 (j + 1)).symm, ← hns]; exact hI) hl
theorem reached_lcs {p : Program} {w : World} {loose : List Str} {mean : ExcName → Option Value} {mg mb : Str → Option Value} {dp un : Nat} {gd : Option (List Code)} {cn : Str} {nm : List (Str × NameKind)} {g1 c1 : Bool} {mo : List (Str × Const)} {a : Addr} {ccd : Value} {cl : List (Str × Addr)} {outer : List Env} {A₀ : Around} {base h₀ : Heap} {L : Addr} {m : Str → Option Value} {news : List (Addr × Obj)} {s : Shared} {Q E : Value → Shared → Prop}
    {x y : Str} {t1 t2 : Tok} 
    (B : Below A₀ base outer h₀) (F : Fr h₀ L s.heap m) (X : (hd.heap_39 w.params).In h₀) (N : News h₀ L s.heap news) (T : Top p loose mean mg mb h₀) (hdp : dp + 40 < recursionLimit) (hu : un + 400 < cLine)
    (hx : 1 ≤ x.length ∧ x.length ≤ 6) (hy : 1 ≤ y.length ∧ y.length ≤ 6)
    (hret : ∀ D vs cc h' tk', Fr h₀ L h' m → News h₀ L h' ((D, listOf vs.toArray cc) :: news) → IntsAre vs ((List.range y.length).map (fun j => lc (eqAt x y) x.length (j + 1))) → AllLt D news → Q (.ref D) { s with heap := h', toks := tk' }) :
    wpAny (model PySem.Challenge.rw_dr5029_01.row.prog w) (ktrTop dp un gd cn ⟨.function, nm, g1, c1, mo⟩ L a ccd cl outer) (call (.ref 329) [.str x t1, .str y t2]) Q E s :=
  reached_tells B F X N T hdp hu hx hy fun D vs ns cc h' tk' F' N' hI hns hl => hret D vs cc h' tk' F' N' (by
    rw [show (fun j => lc (eqAt x y) x.length (j + 1)) = (fun j => ((zerosN (restT x.length (fun j => markN x (Txt.item y (j : Int)) x.length) (j + 1)) x.length : Nat) : Int)) from funext fun j => (reached_plain x y (j + 1)).symm, ← hns]; exact hI) hl
section
variable {prog : Program} {w : World} {A : Around} {E : Value → Shared → Prop} {s : Shared} {h₀ : Heap} {L : Addr} {news : List (Addr × Obj)} {a b : Addr} {vs us : List Value} {ns : List Int} {c : Nat} {Q : Value → Shared → Prop}
theorem ne_same (N : News h₀ L s.heap news) (h1 : (a, LCg.lst vs) ∈ news) (h2 : (b, listOf us.toArray c) ∈ news) (i1 : IntsAre vs ns) (i2 : IntsAre us ns) (hu : A.units + 64 < cLine) (h : Q (.bool false) s) : wpAny (model prog w) A (compareOp .NotEq (.ref a) (.ref b)) Q E s :=
  ne_intsK (News.isList N h1) i1 (News.isList N h2) i2 hu (by rw [decide_eq_true rfl]; exact h)
theorem eq_same (N : News h₀ L s.heap news) (h1 : (a, LCg.lst vs) ∈ news) (h2 : (b, listOf us.toArray c) ∈ news) (i1 : IntsAre vs ns) (i2 : IntsAre us ns) (hu : A.units + 64 < cLine) (h : Q (.bool true) s) : wpAny (model prog w) A (compareOp .Eq (.ref a) (.ref b)) Q E s :=
  eq_intsK (News.isList N h1) i1 (News.isList N h2) i2 hu (by rw [decide_eq_true rfl]; exact h)
end
theorem below_as {K : Frag} {A : Around} {h hb h' : Heap} {outer : List Env} (_ : Frag.In K h) (B : Below A hb outer h') (e : hb = h) (e' : h' = h) : Below A h outer h := by subst e; subst e'; exact B
theorem news_tl {h₀ h : Heap} {L : Addr} {p : Addr × Obj} {news : List (Addr × Obj)} (N : News h₀ L h (p :: news)) : News h₀ L h news := fun q hq => N q (List.mem_cons_of_mem _ hq)
theorem len_snoc {α : Type} {ys : List α} {y : α} {j : Nat} (h : ys.length = j) : (ys ++ [y]).length = j + 1 := by rw [List.length_append, h]; rfl
theorem len_arr {ys : List Value} {ws : List Value} (h : ys.length = ws.toArray.size) (hn : 1 ≤ ws.length ∧ ws.length ≤ 6) : 1 ≤ ys.length ∧ ys.length ≤ 6 := by rw [h, List.size_toArray]; exact hn
theorem snoc_strs {ys : List Value} {f : Nat → Str} {i : Nat} {t : Tok} (h : StrsAre ys ((List.range i).map f)) : StrsAre (ys ++ [.str (f i) t]) ((List.range (i + 1)).map f) := by
  rw [List.range_succ, List.map_append]; exact kct_snoc h
theorem snoc_ints {vs : List Value} {f : Nat → Int} {i : Nat} {k : Int} {t : Tok} (h : IntsAre vs ((List.range i).map f)) (e : k = f i) : IntsAre (vs ++ [.int k t]) ((List.range (i + 1)).map f) := by
  rw [List.range_succ, List.map_append, e]; exact IntsAre.append h (.cons _ _ .nil)
theorem strs_sz {ys : List Value} {f : Nat → Str} {n : Nat} (h : StrsAre ys ((List.range n).map f)) : ys.toArray.size = n := by
  rw [List.size_toArray, h.length, List.length_map, List.length_range]
theorem draw_len {α : Type} (f : Int → α) : (List.map f (rangeKs 0 ((14 : Int) - 0).toNat)).length = 14 := by rw [List.length_map, rangeKs_length]; rfl
theorem slice_len {ws : List Value} {ns : List Int} {f : Int → Int} {a c : Int} {k : Nat} (h : IntsAre ws ns) (e : ns.length = min (min (a + c.fmod 6).toNat (List.map f (rangeKs 0 ((14 : Int) - 0).toNat)).length - k) ((List.map f (rangeKs 0 ((14 : Int) - 0).toNat)).length - k)) (hk : k ≤ 8 := by decide) (ha : a = k + 1 := by rfl) : 1 ≤ ws.length ∧ ws.length ≤ 6 := by
  rw [h.length, e, draw_len]
  have h1 := Int.fmod_nonneg_of_pos c (show (0 : Int) < 6 by decide)
  have h2 := Int.fmod_lt_of_pos c (show (0 : Int) < 6 by decide)
  omega
inductive OnesAre : List Value → Prop
  | nil : OnesAre []
  | snoc {ys : List Value} (z : Str) (t : Tok) : OnesAre ys → z.length = 1 → OnesAre (ys ++ [.str z t])
theorem OnesAre.strs {ys : List Value} (h : OnesAre ys) : ∃ zs, StrsAre ys zs ∧ ∀ z ∈ zs, z.length = 1 := by
  induction h with
  | nil => exact ⟨[], .nil, fun _ h => nomatch h⟩
  | snoc z t _ hz ih =>
    obtain ⟨zs, h1, h2⟩ := ih
    refine ⟨zs ++ [z], kct_snoc h1, fun y hy => ?_⟩
    rcases List.mem_append.mp hy with hy | hy
    · exact h2 y hy
    · rw [List.mem_singleton.mp hy]; exact hz
theorem sum_ones : ∀ {zs : List Str}, (∀ z ∈ zs, z.length = 1) → (zs.map (·.length)).sum = zs.length
  | [], _ => rfl
  | z :: zs, h => by
    rw [List.map_cons, List.sum_cons, sum_ones fun y hy => h y (List.mem_cons_of_mem _ hy), h z (List.mem_cons_self ..), List.length_cons]
    omega
theorem join_ones_L {prog : Program} {w : World} {A : Around} {E : Value → Shared → Prop} {s : Shared} {h₀ : Heap} {L : Addr} {news : List (Addr × Obj)} {D : Addr} {t : Tok} {ys : List Value} {Q : Value → Shared → Prop} (N : News h₀ L s.heap news) (hm : (D, LCg.lst ys) ∈ news) (hO : OnesAre ys) (hl : ys.length ≤ 6) (h : ∀ z t' k, z.length = ys.length → Q (.str z t') { s with toks := k }) :
    wpAny (model prog w) A (call (.builtin "str.join") [.str (Str.ofString "") t, .ref D]) Q E s := by
  obtain ⟨zs, h1, h2⟩ := hO.strs
  have hz : zs.length = ys.length := h1.length.symm
  exact join_list (items := ys.toArray) (News.isList N hm) h1 (by rw [sum_ones h2, show (Str.ofString "").length = 0 from rfl]; omega) fun t' k => h _ t' k (by rw [KT.join_ones zs h2, hz])
theorem strs_at : ∀ {vs : List Value} {zs : List Str}, StrsAre vs zs → ∀ (i : Nat) (v : Value), vs[i]? = some v → ∃ z t, v = .str z t ∧ zs[i]? = some z
  | _, _, .nil, i, v, h => by simp at h
  | _, _, .cons y t r, 0, v, h => ⟨y, t, by simpa using h.symm, rfl⟩
  | _, _, .cons y t r, i + 1, v, h => strs_at r i v (by simpa using h)
theorem beg_at {vs : List Value} {y : Str} {n i : Nat} {v : Value} (h : StrsAre vs ((List.range n).map (begs y))) (hv : vs[i]? = some v) : i < n ∧ ∃ t, v = .str (begs y i) t := by
  obtain ⟨z, t, rfl, hz⟩ := strs_at h i v hv
  have hi : i < n := by
    have := (List.getElem?_eq_some_iff.mp hz).1
    simpa using this
  simp only [List.getElem?_map, List.getElem?_range hi, Option.map_some, Option.some.injEq] at hz
  exact ⟨hi, t, by rw [hz]⟩
end Mine
end
section
open PySem PySem.W PyProof.Rows PySem.Calls PySem.Spec
set_option maxRecDepth 100000
set_option maxHeartbeats 8000000
open Mine
local macro_rules | `(tactic| walk_at "eval ListComp") => `(tactic| (k_here; (with_reducible show wpAny _ _ (eval (Expr.ListComp (Expr.Subscript (Expr.Constant _ _ _) _ _) _ _ _) _) _ _ _); refine Hold.of ?_))
local macro_rules | `(tactic| walk_at "eval ListComp") => `(tactic| (k_here; (with_reducible show wpAny _ _ (eval (Expr.ListComp (Expr.Call _ _ _ _) _ _ _) _) _ _ _); refine Hold.of ?_))
local macro_rules | `(tactic| walk_at "exec Assign cons ListComp") => `(tactic| (k_here; (with_reducible show wpAny _ _ (exec (Stmt.Assign _ (Expr.ListComp (Expr.Subscript (Expr.Name _ _) _ _) _ _ _) _) _) _ _ _); refine Hold.of ?_))
local macro_rules | `(tactic| walk_at "CompSrc") => `(tactic| (k_here; (with_reducible show LCg.CompSrc _ _ _ _ _ _ _ (Expr.Subscript (Expr.Constant _ _ _) _ _) _ _ _ _ _ _); refine Hold.of ?_))
local macro_rules | `(tactic| walk_at "CompSrc") => `(tactic| (k_here; (with_reducible show LCg.CompSrc _ _ _ _ _ _ _ (Expr.Subscript (Expr.Name _ _) _ _) _ _ _ _ _ _); refine Hold.of ?_))
local macro_rules | `(tactic| walk_at "CompSrc") => `(tactic| (k_here; (with_reducible show LCg.CompSrc _ _ _ _ _ _ _ (Expr.Call _ _ _ _) _ _ _ _ _ _); refine Hold.of ?_))
local macro_rules | `(tactic| k_in) => `(tactic| (refine' Frag.In.keeps ?kx (Fr.keep ?kf); (case kf => with_reducible assumption); (case kx => with_reducible assumption)))
local macro_rules | `(tactic| walk_at "call ref") => `(tactic| (k_here; (with_reducible show wpAny _ _ (call (Value.ref 266) _) _ _ _); (k_dflt (refine' lev_make ?k1 ?k2 ?k3 ?k4 ?k5 ?k6 ?k7 ?_; (case k1 => k_asm); (case k2 => k_asm); (case k3 => k_asm); (case k4 => k_asm); (case k5 => k_asm); (case k6 => k_room); (case k7 => k_units); k_whole)); intros; (with_reducible rename AllLt _ _ => hl'); (simp only [AllLt, and_true] at hl'); (try dsimp only)))
local macro_rules | `(tactic| walk_at "call ref") => `(tactic| (k_here; (with_reducible show wpAny _ _ (call (Value.ref 307) _) _ _ _); (k_dflt (refine' dam_make ?k1 ?k2 ?k3 ?k4 ?k5 ?k6 ?k7 ?_; (case k1 => k_asm); (case k2 => k_asm); (case k3 => k_asm); (case k4 => k_asm); (case k5 => k_asm); (case k6 => k_room); (case k7 => k_units); k_whole)); intros; (with_reducible rename AllLt _ _ => hl'); (simp only [AllLt, and_true] at hl'); (try dsimp only)))
local macro_rules | `(tactic| walk_at "call ref") => `(tactic| (k_here; (with_reducible show wpAny _ _ (call (Value.ref 225) _) _ _ _); (k_dflt (refine' sim_make ?k1 ?k2 ?k3 ?k4 ?k5 ?k6 ?k7 ?_; (case k1 => k_asm); (case k2 => k_asm); (case k3 => k_asm); (case k4 => k_asm); (case k5 => k_asm); (case k6 => k_room); (case k7 => k_units); k_whole)); intros; (with_reducible rename AllLt _ _ => hl'); (simp only [AllLt, and_true] at hl'); (try dsimp only)))
local macro_rules | `(tactic| walk_at "call ref") => `(tactic| (k_here; (with_reducible show wpAny _ _ (call (Value.ref _) [Value.str _ _, Value.str _ _]) _ _ _); (k_dflt (refine wpAny_call ?_; refine' kco_code ?i1 ?i2 ?i3 ?i4 ?i5 ?i6 (lev_code ?k1 ?k2 ?k3 ?k4 ?k5 ?k6 ?k7 ?k8 ?k9 ?ka ?kb ?_); (case k2 => k_asm); (case k4 => k_asm); (case k8 => k_mem); (case k9 => k_mem); (case i1 => k_in); (case i2 => k_inst); (case i3 => rfl); (case i4 => k_is); (case i5 => k_is); (case i6 => k_is); (case k1 => k_asm); (case k3 => k_asm); (case k5 => k_asm); (case k6 => k_room); (case k7 => k_units); (case ka => omega); (case kb => omega); k_whole)); intro t' h' tk' F' N'; (try dsimp only)))
local macro_rules | `(tactic| walk_at "call ref") => `(tactic| (k_here; (with_reducible show wpAny _ _ (call (Value.ref _) [Value.str _ _, Value.str _ _]) _ _ _); (k_dflt (refine wpAny_call ?_; refine' kco_code ?i1 ?i2 ?i3 ?i4 ?i5 ?i6 (dam_code ?k1 ?k2 ?k3 ?k4 ?k5 ?k6 ?k7 ?k8 ?k9 ?ka ?kb ?_); (case k2 => k_asm); (case k4 => k_asm); (case k8 => k_mem); (case k9 => k_mem); (case i1 => k_in); (case i2 => k_inst); (case i3 => rfl); (case i4 => k_is); (case i5 => k_is); (case i6 => k_is); (case k1 => k_asm); (case k3 => k_asm); (case k5 => k_asm); (case k6 => k_room); (case k7 => k_units); (case ka => omega); (case kb => omega); k_whole)); intro t' h' tk' F' N'; (try dsimp only)))
local macro_rules | `(tactic| walk_at "call ref") => `(tactic| (k_here; (with_reducible show wpAny _ _ (call (Value.ref 222) _) _ _ _); (k_dflt (refine' sim_tells ?k1 ?k2 ?k3 ?k4 ?k5 ?k6 ?k7 ?k8 ?k9 ?ka ?kb ?_; (case k1 => k_asm); (case k2 => k_asm); (case k3 => k_asm); (case k4 => k_asm); (case k5 => k_asm); (case k8 => k_mem); (case k9 => k_mem); (case k6 => k_room); (case k7 => k_units); (case ka => omega); (case kb => omega); k_whole)); intro t' h' tk' F' N'; (try dsimp only)))
local macro_rules | `(tactic| walk_at "call ref") => `(tactic| (k_here; (with_reducible show wpAny _ _ (call (Value.ref 324) [_, _, Value.bool false]) _ _ _); (k_dflt (refine' changes_lev ?k1 ?k2 ?k3 ?k4 ?k5 ?k6 ?k7 ?k8 ?k9 ?_; (case k1 => k_asm); (case k2 => k_asm); (case k3 => k_asm); (case k4 => k_asm); (case k5 => k_asm); (case k6 => k_room); (case k7 => k_units); (case k8 => omega); (case k9 => omega); k_whole)); intro D' vs' cc' h' tk' F' N' hI' hl'; (simp only [AllLt, and_true] at hl'); (try dsimp only)))
local macro_rules | `(tactic| walk_at "call ref") => `(tactic| (k_here; (with_reducible show wpAny _ _ (call (Value.ref 324) [_, _, Value.bool true]) _ _ _); (k_dflt (refine' changes_dam ?k1 ?k2 ?k3 ?k4 ?k5 ?k6 ?k7 ?k8 ?k9 ?_; (case k1 => k_asm); (case k2 => k_asm); (case k3 => k_asm); (case k4 => k_asm); (case k5 => k_asm); (case k6 => k_room); (case k7 => k_units); (case k8 => omega); (case k9 => omega); k_whole)); intro D' vs' cc' h' tk' F' N' hI' hl'; (simp only [AllLt, and_true] at hl'); (try dsimp only)))
local macro_rules | `(tactic| walk_at "call ref") => `(tactic| (k_here; (with_reducible show wpAny _ _ (call (Value.ref 329) _) _ _ _); (k_dflt (refine' reached_lcs ?k1 ?k2 ?k3 ?k4 ?k5 ?k6 ?k7 ?k8 ?k9 ?_; (case k1 => k_asm); (case k2 => k_asm); (case k3 => k_asm); (case k4 => k_asm); (case k5 => k_asm); (case k6 => k_room); (case k7 => k_units); (case k8 => omega); (case k9 => omega); k_whole)); intro D' vs' cc' h' tk' F' N' hI' hl'; (simp only [AllLt, and_true] at hl'); (try dsimp only)))
local macro_rules | `(tactic| walk_at "compareOp NotEq ref ref") => `(tactic| (k_here; refine Hold.of ?_))
local macro_rules | `(tactic| walk_at "compareOp Eq ref ref") => `(tactic| (k_here; refine Hold.of ?_))
theorem PySem.Challenge.cw_dr5029_01_holds : PySem.Challenge.rw_dr5029_01.Holds := by
  exact hd (by
    k_go0
    (all_goals try k_fold)
    with_reducible rename Frag.In _ _ => KX0
    with_reducible rename Below _ _ _ _ => K0
    have K1 := below_as KX0 K0 rfl rfl
    k_steps
    refine Hold.out ?_
    k_dflt (refine LCg.ListComp_U (F₀ := by k_asm) (by rfl) (by decide) (by rfl) (by decide) (by rfl) ?_)
    k_steps
    refine Hold.out ?_
    rename IntsAre _ _ => hI
    rename Eq (List.length _) (Min.min _ _) => hC
    have hn : 1 ≤ _ ∧ _ ≤ 6 := slice_len (k := 2) hI hC
    clear hC
    rename News _ _ _ ((_, PySem.W.listOf _ _) :: _) => N6
    refine LCg.CompSrc.ledger (by rfl) (by k_asm) N6 (List.mem_cons_self ..) (by rw [sizeLine_eq, List.size_toArray]; omega) ?_
    intro g
    refine comp_rest (σ := Unit) (fun _ => _) (fun i ys _ => OnesAre ys ∧ ys.length = i) () ⟨.nil, rfl⟩ ?ct ?cf
    case ct =>
      rintro j ys ⟨⟩ v I1 oI1 C oC D m₂ h tk E' hj hv ⟨hyo, hyl⟩ hns hx1 F N off ne
      have hat := IntsAre.at hI j v (by simpa using hv)
      obtain ⟨k, tv, rfl, hk⟩ := hat
      obtain ⟨ne1, ne2, ne3⟩ := ne
      k_steps
      exact LCg.CompEnd.intro (by assumption) (by assumption) _ (by kcj_all) off (.inr ⟨_, List.mem_cons_self .., rfl, _, rfl⟩) ⟨(), rfl, OnesAre.snoc _ _ hyo (by assumption), len_snoc hyl⟩
    case cf =>
      rintro ys ⟨⟩ ⟨hyo, hyl⟩
      replace hn := len_arr hyl hn
      clear hyl hI
      k_steps
      k_dflt (refine' join_ones_L (ys := ys) ?jN ?jm hyo hn.2 ?_; (case jN => k_asm); (case jm => k_mem))
      intro z2 tj kj hj
      rw [← hj] at hn
      clear hj hyo
      rename News _ _ _ _ => N1
      replace N1 := news_tl (news_tl N1)
      with_reducible rename (_ ≠ _ ∧ _) => o1
      with_reducible rename (_ < _ ∧ _) => l1
      clear o1 l1
      k_steps
      refine Hold.out ?_
      k_dflt (refine LCg.ListComp_U (F₀ := by k_asm) (by rfl) (by decide) (by rfl) (by decide) (by rfl) ?_)
      k_steps
      refine Hold.out ?_
      rename IntsAre _ _ => hI
      rename Eq (List.length _) (Min.min _ _) => hC
      have hn : 1 ≤ _ ∧ _ ≤ 6 := slice_len (k := 8) hI hC
      clear hC
      rename News _ _ _ ((_, PySem.W.listOf _ _) :: _) => N6
      refine LCg.CompSrc.ledger (by rfl) (by k_asm) N6 (List.mem_cons_self ..) (by rw [sizeLine_eq, List.size_toArray]; omega) ?_
      intro g
      refine comp_rest (σ := Unit) (fun _ => _) (fun i ys _ => OnesAre ys ∧ ys.length = i) () ⟨.nil, rfl⟩ ?ct ?cf
      case ct =>
        rintro j ys ⟨⟩ v I1 oI1 C oC D m₂ h tk E' hj hv ⟨hyo, hyl⟩ hns hx1 F N off ne
        have hat := IntsAre.at hI j v (by simpa using hv)
        obtain ⟨k, tv, rfl, hk⟩ := hat
        obtain ⟨ne1, ne2, ne3⟩ := ne
        k_steps
        exact LCg.CompEnd.intro (by assumption) (by assumption) _ (by kcj_all) off (.inr ⟨_, List.mem_cons_self .., rfl, _, rfl⟩) ⟨(), rfl, OnesAre.snoc _ _ hyo (by assumption), len_snoc hyl⟩
      case cf =>
        rintro ys ⟨⟩ ⟨hyo, hyl⟩
        replace hn := len_arr hyl hn
        clear hyl hI
        k_steps
        k_dflt (refine' join_ones_L (ys := ys) ?jN ?jm hyo hn.2 ?_; (case jN => k_asm); (case jm => k_mem))
        intro z8 tj kj hj
        rw [← hj] at hn
        clear hj hyo
        rename News _ _ _ _ => N1
        replace N1 := news_tl (news_tl N1)
        with_reducible rename (_ ≠ _ ∧ _) => o1
        with_reducible rename (_ < _ ∧ _) => l1
        clear o1 l1
        replace N1 := news_tl N1
        with_reducible rename (_ ≠ _ ∧ _) => o1
        with_reducible rename IntsAre _ _ => hI8
        clear o1 hI8
        k_steps
        refine Hold.out ?_
        k_dflt (refine LCg.Assign_ListComp_U (F₀ := by k_asm) (by rfl) (by with_unfolding_all rfl) (by rfl) (by decide) (by rfl) (by decide) (by rfl) (by rfl) (by rfl) ?_)
        k_steps
        refine Hold.out ?_
        rename IsRange _ _ _ _ _ _ _ _ => hrg
        rename News _ _ _ _ => N7
        refine LCg.CompSrc.range (n := z8.length) (by rfl) (by k_asm) N7 hrg (small_one (by first | decide | omega) (by first | decide | omega) (by first | decide | omega) (by first | decide | omega)) ?hn9 (by rw [sizeLine_eq]; omega) ?_
        case hn9 =>
          have h9 := rangeSize_nat 0 ((z8.length : Nat) : Int)
          rw [show (((z8.length : Nat) : Int) - 0).toNat = z8.length by omega] at h9
          exact h9
        intro g
        refine comp_rest (σ := Unit) (fun _ => _) (fun i ys _ => StrsAre ys ((List.range i).map (begs z8))) () .nil ?ct2 ?cf2
        case ct2 =>
          rintro j ys ⟨⟩ v I1 oI1 C oC D m₂ h tk E' hj ⟨tv, hv⟩ hys hns hx1 F N off ne
          subst hv
          obtain ⟨ne1, ne2, ne3⟩ := ne
          k_steps
          exact LCg.CompEnd.intro (by assumption) (by assumption) _ (by kcj_all) off trivial ⟨(), rfl, snoc_strs hys⟩
        case cf2 =>
          rintro ys ⟨⟩ hys
          have hsz := strs_sz hys
          k_steps
          refine Hold.out ?_
          k_dflt (refine LCg.ListComp_U (F₀ := by k_asm) (by rfl) (by decide) (by rfl) (by decide) (by rfl) ?_)
          k_steps
          refine Hold.out ?_
          rename News _ _ _ _ => N7
          refine LCg.CompSrc.ledger (by rfl) (by k_asm) N7 (by k_mem) (by rw [sizeLine_eq, hsz]; omega) ?_
          intro g
          refine comp_rest (σ := Unit) (fun _ => _) (fun i vs _ => IntsAre vs ((List.range i).map (fun j => lv (eqAt z2 z8) z2.length (j + 1)))) () .nil ?ct3 ?cf3
          case ct3 =>
            rintro j vs ⟨⟩ v I1 oI1 C oC D m₂ h tk E' hj hv hvs hns hx1 F N off ne
            have hat := beg_at hys (by simpa using hv)
            obtain ⟨hj8, tv, rfl⟩ := hat
            have hbl := begs_len hj8
            have hle := lev_beg (x := z2) hj8
            obtain ⟨ne1, ne2, ne3⟩ := ne
            k_steps
            exact LCg.CompEnd.intro (by assumption) (by assumption) _ (by kcj_all) off (.inr ⟨LCg.lst ys, by k_mem, rfl, _, rfl⟩) ⟨(), rfl, snoc_ints hvs hle⟩
          case cf3 =>
            rintro vs ⟨⟩ hvs
            rw [hsz] at hvs
            k_steps
            refine Hold.out ?_
            k_dflt (refine' ne_same ?k1 ?k2 ?k3 hvs ?k5 ?k6 ?_; (case k1 => k_asm); (case k2 => k_mem); (case k3 => k_mem); (case k5 => with_reducible assumption); (case k6 => units_room))
            k_steps
            rename News _ _ _ _ => N1
            replace N1 := news_tl (news_tl N1)
            with_reducible rename (_ ≠ _ ∧ _) => o1
            with_reducible rename (_ < _ ∧ _) => l1
            clear o1 l1 hvs
            with_reducible rename IntsAre _ _ => hI9
            clear hI9
            refine Hold.out ?_
            k_dflt (refine LCg.ListComp_U (F₀ := by k_asm) (by rfl) (by decide) (by rfl) (by decide) (by rfl) ?_)
            k_steps
            refine Hold.out ?_
            rename News _ _ _ _ => N7
            refine LCg.CompSrc.ledger (by rfl) (by k_asm) N7 (by k_mem) (by rw [sizeLine_eq, hsz]; omega) ?_
            intro g
            refine comp_rest (σ := Unit) (fun _ => _) (fun i vs _ => IntsAre vs ((List.range i).map (fun j => Mine.os (eqAt z2 z8) z2.length (j + 1)))) () .nil ?ct4 ?cf4
            case ct4 =>
              rintro j vs ⟨⟩ v I1 oI1 C oC D m₂ h tk E' hj hv hvs hns hx1 F N off ne
              have hat := beg_at hys (by simpa using hv)
              obtain ⟨hj8, tv, rfl⟩ := hat
              have hbl := begs_len hj8
              have hle := dam_beg (x := z2) hj8
              obtain ⟨ne1, ne2, ne3⟩ := ne
              k_steps
              exact LCg.CompEnd.intro (by assumption) (by assumption) _ (by kcj_all) off (.inr ⟨LCg.lst ys, by k_mem, rfl, _, rfl⟩) ⟨(), rfl, snoc_ints hvs hle⟩
            case cf4 =>
              rintro vs ⟨⟩ hvs
              rw [hsz] at hvs
              k_steps
              refine Hold.out ?_
              k_dflt (refine' ne_same ?k1 ?k2 ?k3 hvs ?k5 ?k6 ?_; (case k1 => k_asm); (case k2 => k_mem); (case k3 => k_mem); (case k5 => with_reducible assumption); (case k6 => units_room))
              k_steps
              rename News _ _ _ _ => N1
              replace N1 := news_tl (news_tl N1)
              with_reducible rename (_ ≠ _ ∧ _) => o1
              with_reducible rename (_ < _ ∧ _) => l1
              clear o1 l1 hvs
              with_reducible rename IntsAre _ _ => hI9
              clear hI9
              refine Hold.out ?_
              k_dflt (refine LCg.ListComp_U (F₀ := by k_asm) (by rfl) (by decide) (by rfl) (by decide) (by rfl) ?_)
              k_steps
              refine Hold.out ?_
              rename News _ _ _ _ => N7
              refine LCg.CompSrc.ledger (by rfl) (by k_asm) N7 (by k_mem) (by rw [sizeLine_eq, hsz]; omega) ?_
              intro g
              refine comp_rest (σ := Unit) (fun _ => _) (fun i vs _ => IntsAre vs ((List.range i).map (fun j => lc (eqAt z2 z8) z2.length (j + 1)))) () .nil ?ct5 ?cf5
              case ct5 =>
                rintro j vs ⟨⟩ v I1 oI1 C oC D m₂ h tk E' hj hv hvs hns hx1 F N off ne
                have hat := beg_at hys (by simpa using hv)
                obtain ⟨hj8, tv, rfl⟩ := hat
                have hbl := begs_len hj8
                have hle := sim_beg (x := z2) hj8
                obtain ⟨ne1, ne2, ne3⟩ := ne
                k_steps
                exact LCg.CompEnd.intro (by assumption) (by assumption) _ (by kcj_all) off (.inr ⟨LCg.lst ys, by k_mem, rfl, _, rfl⟩) ⟨(), rfl, snoc_ints hvs hle⟩
              case cf5 =>
                rintro vs ⟨⟩ hvs
                rw [hsz] at hvs
                k_steps
                refine Hold.out ?_
                k_dflt (refine' eq_same ?k1 ?k2 ?k3 hvs ?k5 ?k6 ?_; (case k1 => k_asm); (case k2 => k_mem); (case k3 => k_mem); (case k5 => with_reducible assumption); (case k6 => units_room))
                k_steps)
end
