import PyProof.Rows.All
import Wide.All
import OpenK.AllK
import Wide.FinOn
import PySem.Challenge.RW_dn0116_02
open PySem PySem.W PyProof.Rows
set_option Elab.async false
set_option maxRecDepth 100000
set_option maxHeartbeats 8000000
set_option linter.unusedVariables false
section
namespace Mine

structure Stop (P : Prop) : Prop where
  out : P

/-- what a turn of a for-loop must leave -/
def TurnSt {σ : Type} (h₀ : Heap) (L : Addr) (x : Str) (I : Addr) (oI : Obj) (Mp : σ → Str → Option Value) (Nw : σ → List (Addr × Obj)) (P : σ → Prop) (s₁ : Shared) (Q : Flow → Shared → Prop) (f : Flow) (s₂ : Shared) : Prop :=
  match f with
  | .ret v => Q (.ret v) s₂
  | .brk => Q .next s₂
  | _ => ∃ (c : σ) (h' : Heap) (tk : Nat) (m' : Str → Option Value) (news' : List (Addr × Obj)), s₂ = { s₁ with heap := h', toks := tk } ∧ Fr h₀ L h' m' ∧ News h₀ L h' news' ∧ (∀ p ∈ (I, oI) :: Nw c, p ∈ news') ∧ (∀ p ∈ Nw c, p.1 ≠ I) ∧ (∀ y, y ≠ x → m' y = Mp c y) ∧ P c

section
variable {prog : Program} {w : World} {A : Around} {E : Value → Shared → Prop} {s : Shared} {env : Env} {h₀ : Heap} {x : Str} {body : List Stmt} {Q : Flow → Shared → Prop} {m : Str → Option Value} {news : List (Addr × Obj)}

theorem loop_st {σ : Type} {I : Addr} {fp : List Addr} {n : Nat} {Pv : Nat → Value → Prop} {St : Nat → Heap → Prop} (W : Walks prog w A I fp [I] n Pv St) (Mp : σ → Str → Option Value) (Nw : σ → List (Addr × Obj)) (P : Nat → σ → Prop) (c₀ : σ)
    (hlive : ∀ i h, St i h → ∃ o, h.get? I = some o)
    (hfx : ∀ b ∈ fp, b ≠ I → (∃ o, h₀.get? b = some o) ∨ ∃ o, ∀ c, (b, o) ∈ Nw c)
    (hI : h₀.get? I = none) (hIL : env.locals ∉ fp) (hst : St 0 s.heap) (F : Fr h₀ env.locals s.heap m) (N : News h₀ env.locals s.heap news) (hn : ∀ p ∈ Nw c₀, p ∈ news) (hni : ∀ p ∈ Nw c₀, p.1 ≠ I) (hm : ∀ y, y ≠ x → m y = Mp c₀ y) (hp : P 0 c₀)
    (turn : ∀ i v c h tk oI, i < n → Pv i v → P i c → (∀ p ∈ Nw c, p.1 ≠ I) → Fr h₀ env.locals h (fun y => if y = x then some v else Mp c y) → News h₀ env.locals h ((I, oI) :: Nw c) →
      wpAny (model prog w) A (execs body env) (TurnSt h₀ env.locals x I oI Mp Nw (P (i + 1)) { s with heap := h, toks := tk } Q) E { s with heap := h, toks := tk })
    (done : ∀ c h tk u, P n c → Fr h₀ env.locals h (fun y => if y = x then u else Mp c y) → News h₀ env.locals h (Nw c) → Q .next { s with heap := h, toks := tk }) :
    LoopAtV prog w A h₀ env x body Q E (.ref I) s := by
  refine ⟨I, fp, [I], n, Pv, St, m, Nw c₀, (fun i m' news' => ∃ c, news' = Nw c ∧ (∀ p ∈ Nw c, p.1 ≠ I) ∧ (∀ y, y ≠ x → m' y = Mp c y) ∧ P i c), rfl, W, hIL, ?_, ?_, hst, F, (fun p hp => N p (hn p hp)), ⟨c₀, rfl, hni, hm, hp⟩, ?_, ?_⟩
  · intro b hb; rw [List.mem_singleton.mp hb]; exact hI
  · intro p hp hb; exact hni p hp (List.mem_singleton.mp hb)
  · rintro i v m₁ news₁ s₁ own ⟨hh, tk, rfl⟩ hi hv ⟨c, rfl, hc1, hc2, hc3⟩ _ hsub hget hall hst₁ F₁ N₁
    obtain ⟨oI, hoI⟩ := hlive _ _ hst₁
    have hIfp : I ∈ fp := W.sub I (by simp)
    have e : (fun y => if y = x then some v else m₁ y) = fun y => if y = x then some v else Mp c y := by
      funext y
      by_cases h : y = x
      · simp [h]
      · simp only [if_neg h]; exact hc2 y h
    rw [e] at F₁
    have N₂ : News h₀ env.locals hh ((I, oI) :: Nw c) := by
      intro p hp
      rcases List.mem_cons.mp hp with rfl | hp
      · exact N₁ _ (List.mem_append_left _ (hall _ hIfp hI _ hoI))
      · exact N₁ _ (List.mem_append_right _ hp)
    refine wpAny_mono (turn i v c hh tk oI hi hv hc3 hc1 F₁ N₂) (fun f s₂ q => ?_) fun _ _ e => e
    have fin : (∃ (c : σ) (h' : Heap) (tk' : Nat) (m' : Str → Option Value) (news' : List (Addr × Obj)), s₂ = { s with heap := h', toks := tk' } ∧ Fr h₀ env.locals h' m' ∧ News h₀ env.locals h' news' ∧ (∀ p ∈ (I, oI) :: Nw c, p ∈ news') ∧ (∀ p ∈ Nw c, p.1 ≠ I) ∧ (∀ y, y ≠ x → m' y = Mp c y) ∧ P (i + 1) c) →
        LoopStepU h₀ env.locals [I] own (fun m' news' => ∃ c, news' = Nw c ∧ (∀ p ∈ Nw c, p.1 ≠ I) ∧ (∀ y, y ≠ x → m' y = Mp c y) ∧ P (i + 1) c) { s with heap := hh, toks := tk } .next s₂ := by
      rintro ⟨c', h', tk', m', news', rfl, F', N', hsub', hne', hm', hp'⟩
      refine ⟨rfl, h', tk', m', Nw c', rfl, F', ?_, ?_, c', rfl, hne', hm', hp'⟩
      · intro p hp
        rcases List.mem_append.mp hp with hp | hp
        · have h1 := hget p hp
          by_cases hpI : p.1 = I
          · have : p = (I, oI) := by
              obtain ⟨p1, p2⟩ := p
              simp only at hpI h1
              subst hpI
              have h2 : hh.get? p1 = some oI := hoI
              have h3 : hh.get? p1 = some p2 := h1
              rw [h2] at h3; cases h3; rfl
            rw [this]; exact N' _ (hsub' _ (List.mem_cons_self))
          · rcases hfx p.1 (hsub p hp) hpI with ⟨o, ho⟩ | ⟨o, ho⟩
            · have := (N₁ p (List.mem_append_left _ hp)).2.2
              rw [this] at ho; cases ho
            · have h2 := (N₁ _ (List.mem_append_right _ (ho c))).1
              have h3 : hh.get? p.1 = some p.2 := h1
              have h4 : hh.get? p.1 = some o := h2
              rw [h3] at h4; cases h4
              exact N' _ (hsub' _ (List.mem_cons_of_mem _ (ho c')))
        · exact N' _ (hsub' _ (List.mem_cons_of_mem _ hp))
      · intro p hp hb; exact hne' p hp (List.mem_singleton.mp hb)
    cases f with
    | ret v => exact .ret q
    | brk => exact .brk q
    | next => exact .next (fin q)
    | cont => exact .cont (fin q)
  · rintro h' tk m' news' F' N' _ ⟨c, rfl, _, hm', hp'⟩
    refine done c h' tk (m' x) hp' ?_ N'
    have e : (fun y => if y = x then m' x else Mp c y) = m' := by
      funext y
      by_cases h : y = x
      · simp [h]
      · simp only [if_neg h]; exact (hm' y h).symm
    rw [e]; exact F'

theorem iter_str_st {σ : Type} {z : Str} {t : Tok} (Mp : σ → Str → Option Value) (Nw : σ → List (Addr × Obj)) (P : Nat → σ → Prop) (c₀ : σ)
    (hh : A.handled = none) (F : Fr h₀ env.locals s.heap m) (N : News h₀ env.locals s.heap news) (hn : ∀ p ∈ Nw c₀, p ∈ news) (hm : ∀ y, y ≠ x → m y = Mp c₀ y) (hp : P 0 c₀)
    (turn : ∀ i cp u c h tk I oI, z.cps[i]? = some cp → P i c → (∀ p ∈ Nw c, p.1 ≠ I) → Fr h₀ env.locals h (fun y => if y = x then some (.str ⟨#[cp]⟩ u) else Mp c y) → News h₀ env.locals h ((I, oI) :: Nw c) →
      wpAny (model prog w) A (execs body env) (TurnSt h₀ env.locals x I oI Mp Nw (P (i + 1)) { s with heap := h, toks := tk } Q) E { s with heap := h, toks := tk })
    (done : ∀ c h tk u, P z.cps.size c → Fr h₀ env.locals h (fun y => if y = x then u else Mp c y) → News h₀ env.locals h (Nw c) → Q .next { s with heap := h, toks := tk }) :
    wpAny (model prog w) A (pyIter (.str z t)) (fun it s₂ => LoopAtV prog w A h₀ env x body Q E it s₂) E s := by
  have hsz : s.heap.objs.size ∉ ([] : List Addr) := by simp
  have hI : h₀.get? s.heap.objs.size = none := next_is_new F
  have key : ∀ (nm : String), (Walks prog w A s.heap.objs.size [s.heap.objs.size] [s.heap.objs.size] z.cps.size (SignAt z) (fun i h => h.IsStrIter s.heap.objs.size nm z t i)) → ∀ o, (s.heap.push o).IsStrIter s.heap.objs.size nm z t 0 →
      LoopAtV prog w A h₀ env x body Q E (.ref s.heap.objs.size) { s with heap := s.heap.push o } := by
    intro nm W o hst
    refine loop_st (s := { s with heap := s.heap.push o }) (news := news) W Mp Nw P c₀ (fun i h st => ⟨_, st.choose_spec.1⟩) ?_ hI ?_ hst (F.push _) (fun p hp => ⟨Heap.get?_push_of_some _ (N p hp).1, (N p hp).2⟩) hn ?_ hm hp ?_ done
    · intro b hb hne; exact absurd (List.mem_singleton.mp hb) hne
    · intro hb; exact absurd F.ns.lt ((List.mem_singleton.mp hb) ▸ Nat.lt_irrefl _)
    · intro p hp e; exact absurd (Heap.lt_size (N p (hn p hp)).1) (e ▸ Nat.lt_irrefl _)
    · rintro i v c h tk oI hi ⟨cp, u, hcp, rfl⟩ hP hne F₁ N₁
      exact turn i cp u c h tk _ oI hcp hP hne F₁ N₁
  cases ha : z.cps.all (· < 128)
  · exact wpAny_pyIter_wide ha (key _ (Walks.strWide hh _ z t) _ ⟨_, Heap.get?_push_size _ rfl, rfl, rfl⟩)
  · exact wpAny_pyIter_ascii ha (key _ (Walks.strAscii hh _ z t) _ ⟨_, Heap.get?_push_size _ rfl, rfl, rfl⟩)

theorem iter_range_st {σ : Type} {r : Addr} {a₀ b₀ : Int} {t₀ u₀ v₀ : Tok} (n : Nat) (Mp : σ → Str → Option Value) (Nw : σ → List (Addr × Obj)) (P : Nat → σ → Prop) (c₀ : σ)
    (hh : A.handled = none) (hr : IsRange s.heap r a₀ b₀ 1 t₀ u₀ v₀) (hsmall : Builtin.Range.small a₀ b₀ 1 = true) (hnn : Builtin.Range.rangeSize a₀ b₀ 1 = (n : Int))
    (F : Fr h₀ env.locals s.heap m) (N : News h₀ env.locals s.heap news) (hn : ∀ p ∈ Nw c₀, p ∈ news) (hm : ∀ y, y ≠ x → m y = Mp c₀ y) (hp : P 0 c₀)
    (turn : ∀ i u c h tk I oI, i < n → P i c → (∀ p ∈ Nw c, p.1 ≠ I) → Fr h₀ env.locals h (fun y => if y = x then some (.int (a₀ + (i : Int)) u) else Mp c y) → News h₀ env.locals h ((I, oI) :: Nw c) →
      wpAny (model prog w) A (execs body env) (TurnSt h₀ env.locals x I oI Mp Nw (P (i + 1)) { s with heap := h, toks := tk } Q) E { s with heap := h, toks := tk })
    (done : ∀ c h tk u, P n c → Fr h₀ env.locals h (fun y => if y = x then u else Mp c y) → News h₀ env.locals h (Nw c) → Q .next { s with heap := h, toks := tk }) :
    wpAny (model prog w) A (pyIter (.ref r)) (fun it s₂ => LoopAtV prog w A h₀ env x body Q E it s₂) E s := by
  have hI : h₀.get? s.heap.objs.size = none := next_is_new F
  refine wpAny_pyIter_range hr hsmall ?_
  refine loop_st (s := { s with heap := s.heap.push _ }) (news := news) (LCg.range_walks (I := s.heap.objs.size) hh a₀ n) Mp Nw P c₀ (fun i h st => ⟨_, st⟩) ?_ hI ?_ (by show IsRangeIter _ _ _ _ _; rw [hnn]; simpa using Heap.get?_push_size _ rfl) (F.push _) (fun p hp => ⟨Heap.get?_push_of_some _ (N p hp).1, (N p hp).2⟩) hn ?_ hm hp ?_ done
  · intro b hb hne; exact absurd (List.mem_singleton.mp hb) hne
  · intro hb; exact absurd F.ns.lt ((List.mem_singleton.mp hb) ▸ Nat.lt_irrefl _)
  · intro p hp e; exact absurd (Heap.lt_size (N p (hn p hp)).1) (e ▸ Nat.lt_irrefl _)
  · rintro i v c h tk oI hi ⟨u, rfl⟩ hP hne F₁ N₁
    exact turn i u c h tk _ oI hi hP hne F₁ N₁

theorem iter_ints_st {σ : Type} {l : Addr} {vs : List Value} {ns : List Int} (Mp : σ → Str → Option Value) (Nw : σ → List (Addr × Obj)) (P : Nat → σ → Prop) (c₀ : σ)
    (hh : A.handled = none) (hl : h₀.IsList l vs.toArray) (hi : IntsAre vs ns)
    (F : Fr h₀ env.locals s.heap m) (N : News h₀ env.locals s.heap news) (hn : ∀ p ∈ Nw c₀, p ∈ news) (hm : ∀ y, y ≠ x → m y = Mp c₀ y) (hp : P 0 c₀)
    (turn : ∀ i n u c h tk I oI, ns[i]? = some n → P i c → (∀ p ∈ Nw c, p.1 ≠ I) → Fr h₀ env.locals h (fun y => if y = x then some (.int n u) else Mp c y) → News h₀ env.locals h ((I, oI) :: Nw c) →
      wpAny (model prog w) A (execs body env) (TurnSt h₀ env.locals x I oI Mp Nw (P (i + 1)) { s with heap := h, toks := tk } Q) E { s with heap := h, toks := tk })
    (done : ∀ c h tk u, P ns.length c → Fr h₀ env.locals h (fun y => if y = x then u else Mp c y) → News h₀ env.locals h (Nw c) → Q .next { s with heap := h, toks := tk }) :
    wpAny (model prog w) A (pyIter (.ref l)) (fun it s₂ => LoopAtV prog w A h₀ env x body Q E it s₂) E s := by
  have hI : h₀.get? s.heap.objs.size = none := next_is_new F
  have hls : s.heap.IsList l vs.toArray := hl.at fun o e => F.keep l o e
  obtain ⟨ol, hol, _⟩ := id hl
  have hlt : l < h₀.objs.size := Heap.lt_size hol
  have hne : l ≠ s.heap.objs.size := Nat.ne_of_lt (Nat.lt_trans (Nat.lt_of_lt_of_le hlt F.above) F.ns.lt)
  refine wpAny_pyIter_list hls ?_
  have W := Walks.list (prog := prog) (w := w) hh s.heap.objs.size l hne vs.toArray
  have hlen : vs.toArray.size = ns.length := by simp [hi.length]
  rw [hlen] at W
  refine loop_st (s := { s with heap := s.heap.push _ }) (news := news) W Mp Nw P c₀ (fun i h st => ⟨_, st.1.choose_spec.1⟩) ?_ hI ?_ ⟨⟨_, Heap.get?_push_size _ rfl, rfl, rfl⟩, hls.at fun o e => Heap.get?_push_of_some _ e⟩ (F.push _) (fun p hp => ⟨Heap.get?_push_of_some _ (N p hp).1, (N p hp).2⟩) hn ?_ hm hp ?_ done
  · intro b hb hne
    rcases List.mem_cons.mp hb with rfl | hb
    · exact absurd rfl hne
    · rw [List.mem_singleton.mp hb]; exact .inl ⟨ol, hol⟩
  · intro hm
    rcases List.mem_cons.mp hm with e | hm
    · exact absurd F.ns.lt (e ▸ Nat.lt_irrefl _)
    · exact absurd (Nat.lt_of_lt_of_le hlt F.above) ((List.mem_singleton.mp hm) ▸ Nat.lt_irrefl _)
  · intro p hp e; exact absurd (Heap.lt_size (N p (hn p hp)).1) (e ▸ Nat.lt_irrefl _)
  · rintro i v c h tk oI hin hP hPc hne F₁ N₁
    obtain ⟨t, hx⟩ := hi.get i ns[i] (by simp [hin])
    have hv : v = .int ns[i] t := by
      have hP' : vs[i]? = some v := by simpa using hP
      rw [hx] at hP'; exact (Option.some.inj hP').symm
    subst hv
    exact turn i ns[i] t c h tk _ oI (by simp [hin]) hPc hne F₁ N₁

/-- what a turn of a while-loop must leave -/
def WTurnSt {σ : Type} (h₀ : Heap) (L : Addr) (Mp : σ → Str → Option Value) (Nw : σ → List (Addr × Obj)) (P : σ → Prop) (meas : σ → Nat) (k : Nat) (s : Shared) (Q : Flow → Shared → Prop) (f : Flow) (s₂ : Shared) : Prop :=
  match f with
  | .ret v => Q (.ret v) s₂
  | .brk => Q .next s₂
  | _ => ∃ (c : σ) (h' : Heap) (tk : Nat) (m' : Str → Option Value) (news' : List (Addr × Obj)), s₂ = { s with heap := h', toks := tk } ∧ Fr h₀ L h' m' ∧ News h₀ L h' news' ∧ (∀ p ∈ Nw c, p ∈ news') ∧ (∀ y, m' y = Mp c y) ∧ P c ∧ meas c < k

theorem while_st {σ : Type} {L : Addr} {test : Expr} {pos : Pos} (Mp : σ → Str → Option Value) (Nw : σ → List (Addr × Obj)) (P : σ → Prop) (meas : σ → Nat) (c₀ : σ)
    (F : Fr h₀ L s.heap m) (N : News h₀ L s.heap news) (hn : ∀ p ∈ Nw c₀, p ∈ news) (hm : ∀ y, m y = Mp c₀ y) (hp : P c₀)
    (turn : ∀ c h tk, P c → Fr h₀ L h (Mp c) → News h₀ L h (Nw c) →
      wpAny (model prog w) A (isTrue test env (eval test env)) (fun b s₂ =>
        if b = true then wpAny (model prog w) A (execs body env) (WTurnSt h₀ L Mp Nw P meas (meas c) s Q) E s₂ else Q .next s₂) E { s with heap := h, toks := tk })
    (hE : PassesOwn (model prog w) A env E := by passes_own) :
    wpAny (model prog w) A (exec (.While test body [] pos) env) Q E s := by
  refine While_inv2 (fun k m' news' => ∃ c, news' = Nw c ∧ (∀ y, m' y = Mp c y) ∧ P c ∧ meas c = k) (n₀ := meas c₀) F (fun p hp => N p (hn p hp)) ⟨c₀, rfl, hm, hp, rfl⟩ ?_ hE
  rintro k m₁ news₁ h₁ tk₁ F₁ N₁ ⟨c, rfl, hm₁, hP, rfl⟩
  have e : m₁ = Mp c := funext hm₁
  subst e
  refine wpAny_mono (turn c h₁ tk₁ hP F₁ N₁) (fun b s₂ q => ?_) fun _ _ e => e
  cases b with
  | false => exact q
  | true =>
    simp only [if_true] at q ⊢
    refine wpAny_mono q (fun f s₃ q => ?_) fun _ _ e => e
    have fin : (∃ (c' : σ) (h' : Heap) (tk : Nat) (m' : Str → Option Value) (news' : List (Addr × Obj)), s₃ = { s with heap := h', toks := tk } ∧ Fr h₀ L h' m' ∧ News h₀ L h' news' ∧ (∀ p ∈ Nw c', p ∈ news') ∧ (∀ y, m' y = Mp c' y) ∧ P c' ∧ meas c' < meas c) →
        ∃ h' tk m₂ news₂ n', s₃ = { s with heap := h', toks := tk } ∧ Fr h₀ L h' m₂ ∧ News h₀ L h' news₂ ∧ n' < meas c ∧ ∃ c', news₂ = Nw c' ∧ (∀ y, m₂ y = Mp c' y) ∧ P c' ∧ meas c' = n' := by
      rintro ⟨c', h', tk, m', news', rfl, F', N', hs', hm', hp', hlt⟩
      exact ⟨h', tk, m', Nw c', meas c', rfl, F', fun p hp => N' p (hs' p hp), hlt, c', rfl, hm', hp', rfl⟩
    cases f with
    | ret v => exact q
    | brk => exact q
    | next => exact fin q
    | cont => exact fin q
end
abbrev tupObj (vs : List Value) : Obj := { cls := .type "tuple", data := .seq vs.toArray }

/-- what _splitext hands back, in the words of the rules -/
def SplitSpec (p : Str) (sepi dot : Int) (ext a b : Str) : Prop :=
  (sepi < dot ∧ (∃ i, sepi + 1 ≤ i ∧ i < dot ∧ Txt.slice p (some i) (some (i + 1)) ≠ ext) ∧ a = Txt.slice p none (some dot) ∧ b = Txt.slice p (some dot) none) ∨
  (¬ (sepi < dot ∧ ∃ i, sepi + 1 ≤ i ∧ i < dot ∧ Txt.slice p (some i) (some (i + 1)) ≠ ext) ∧ a = p ∧ b = Txt.slice p none (some 0))

def AltIx (p sep : Str) (alt : Value) (i : Int) : Prop :=
  match alt with
  | .str y _ => if (y.length : Int) = 0 then i = Txt.rfind p sep else i = (if Txt.rfind p y > Txt.rfind p sep then Txt.rfind p y else Txt.rfind p sep)
  | _ => i = Txt.rfind p sep
theorem altIx_none {p sep : Str} : AltIx p sep .none (Txt.rfind p sep) := rfl
theorem altIx_some {p sep y : Str} {u : Tok} (h : (y.length : Int) ≠ 0) : AltIx p sep (.str y u) (if Txt.rfind p y > Txt.rfind p sep then Txt.rfind p y else Txt.rfind p sep) := by
  unfold AltIx; simp only [if_neg h]
theorem altIx_zero {p sep y : Str} {u : Tok} (h : (y.length : Int) = 0) : AltIx p sep (.str y u) (Txt.rfind p sep) := by
  unfold AltIx; simp only [if_pos h]

section
variable {prog : Program} {w : World} {A : Around} {E : Value → Shared → Prop} {s : Shared} {env : Env} {h₀ : Heap} {x : Str} {body : List Stmt} {Q : Flow → Shared → Prop} {m : Str → Option Value} {news : List (Addr × Obj)}
def WTurnInt (h₀ : Heap) (L : Addr) (x : Str) (m : Str → Option Value) (news : List (Addr × Obj)) (P : Int → Prop) (meas : Int → Nat) (k : Nat) (s : Shared) (Q : Flow → Shared → Prop) (f : Flow) (s₂ : Shared) : Prop :=
  WTurnSt h₀ L (fun (c : Int × Tok) y => if y = x then some (.int c.1 c.2) else m y) (fun _ => news) (fun c => P c.1) (fun c => meas c.1) k s Q f s₂
theorem while_int {L : Addr} {test : Expr} {pos : Pos} {i₀ : Int} {t₀ : Tok} (P : Int → Int → Prop) (meas : Int → Nat)
    (F : Fr h₀ L s.heap (fun y => if y = x then some (.int i₀ t₀) else m y)) (N : News h₀ L s.heap news) (hp : P i₀ i₀)
    (turn : ∀ i t h tk, P i₀ i → Fr h₀ L h (fun y => if y = x then some (.int i t) else m y) → News h₀ L h news →
      wpAny (model prog w) A (isTrue test env (eval test env)) (fun b s₂ =>
        if b = true then wpAny (model prog w) A (execs body env) (WTurnInt h₀ L x m news (P i₀) meas (meas i) s Q) E s₂ else Q .next s₂) E { s with heap := h, toks := tk })
    (hE : PassesOwn (model prog w) A env E := by passes_own) :
    wpAny (model prog w) A (exec (.While test body [] pos) env) Q E s :=
  while_st (σ := Int × Tok) (fun c y => if y = x then some (.int c.1 c.2) else m y) (fun _ => news) (fun c => P i₀ c.1) (fun c => meas c.1) (i₀, t₀) F N (fun _ h => h) (fun _ => rfl) hp (fun c h tk hP F₁ N₁ => turn c.1 c.2 h tk hP F₁ N₁) hE
end
theorem map_again {x : Str} {a b : Option Value} {m : Str → Option Value} (y : Str) : (if y = x then a else if y = x then b else m y) = if y = x then a else m y := by
  by_cases h : y = x
  · simp [h]
  · simp [h]

theorem WTurnInt.ret {h₀ : Heap} {L : Addr} {x : Str} {m : Str → Option Value} {news : List (Addr × Obj)} {P : Int → Prop} {meas : Int → Nat} {k : Nat} {s s₂ : Shared} {Q : Flow → Shared → Prop} {v : Value} (h : Q (.ret v) s₂) : WTurnInt h₀ L x m news P meas k s Q (.ret v) s₂ := h
theorem TurnSt.ret {σ : Type} {h₀ : Heap} {L : Addr} {x : Str} {I : Addr} {oI : Obj} {Mp : σ → Str → Option Value} {Nw : σ → List (Addr × Obj)} {P : σ → Prop} {s₁ s₂ : Shared} {Q : Flow → Shared → Prop} {v : Value} (h : Q (.ret v) s₂) : TurnSt h₀ L x I oI Mp Nw P s₁ Q (.ret v) s₂ := h
theorem WTurnInt.next {h₀ : Heap} {L : Addr} {x : Str} {b : Option Value} {m : Str → Option Value} {news news' : List (Addr × Obj)} {P : Int → Prop} {meas : Int → Nat} {k : Nat} {s : Shared} {Q : Flow → Shared → Prop} {h' : Heap} {tk : Nat} {i' : Int} {t' : Tok}
    (F : Fr h₀ L h' (fun y => if y = x then some (.int i' t') else if y = x then b else m y)) (N : News h₀ L h' news') (hn : ∀ p ∈ news, p ∈ news') (hp : P i') (hlt : meas i' < k) :
    WTurnInt h₀ L x m news P meas k s Q .next { s with heap := h', toks := tk } :=
  ⟨(i', t'), h', tk, _, news', rfl, F, N, hn, fun y => map_again y, hp, hlt⟩

/-- a map overlaid by a few names -/
def ovl (ps : List (Str × Option Value)) (m : Str → Option Value) (y : Str) : Option Value :=
  match ps with
  | [] => m y
  | p :: r => if y = p.1 then p.2 else ovl r m y
def OvlAt (ps : List (Str × Option Value)) (m : Str → Option Value) : Prop :=
  match ps with
  | [] => True
  | p :: r => m p.1 = p.2 ∧ OvlAt r m
theorem ovl_self {m : Str → Option Value} : ∀ {ps : List (Str × Option Value)}, OvlAt ps m → ∀ y, m y = ovl ps m y
  | [], _, _ => rfl
  | p :: r, h, y => by
    unfold ovl
    by_cases e : y = p.1
    · rw [if_pos e, e]; exact h.1
    · rw [if_neg e]; exact ovl_self h.2 y

theorem ovl1_of {m' m : Str → Option Value} {x k1 : Str} {v1 : Option Value} (h1 : m' k1 = v1) (h3 : ∀ y, y ≠ x → y ≠ k1 → m' y = m y) : ∀ y, y ≠ x → m' y = ovl [(k1, v1)] m y := by
  intro y hx
  simp only [ovl]
  by_cases e1 : y = k1
  · subst e1; simp [h1]
  · simp only [if_neg e1]; exact h3 y hx e1
theorem ovl2_of {m' m : Str → Option Value} {x k1 k2 : Str} {v1 v2 : Option Value} (h1 : m' k1 = v1) (h2 : m' k2 = v2) (h3 : ∀ y, y ≠ x → y ≠ k1 → y ≠ k2 → m' y = m y) : ∀ y, y ≠ x → m' y = ovl [(k1, v1), (k2, v2)] m y := by
  intro y hx
  simp only [ovl]
  by_cases e1 : y = k1
  · subst e1; simp [h1]
  · by_cases e2 : y = k2
    · subst e2; simp [e1, h2]
    · simp only [if_neg e1, if_neg e2]; exact h3 y hx e1 e2
theorem ovl3_of {m' m : Str → Option Value} {x k1 k2 k3 : Str} {v1 v2 v3 : Option Value} (h1 : m' k1 = v1) (h2 : m' k2 = v2) (h4 : m' k3 = v3) (h3 : ∀ y, y ≠ x → y ≠ k1 → y ≠ k2 → y ≠ k3 → m' y = m y) : ∀ y, y ≠ x → m' y = ovl [(k1, v1), (k2, v2), (k3, v3)] m y := by
  intro y hx
  simp only [ovl]
  by_cases e1 : y = k1
  · subst e1; simp [h1]
  · by_cases e2 : y = k2
    · subst e2; simp [e1, h2]
    · by_cases e3 : y = k3
      · subst e3; simp [e1, e2, h4]
      · simp only [if_neg e1, if_neg e2, if_neg e3]; exact h3 y hx e1 e2 e3
section
variable {prog : Program} {w : World} {A : Around} {E : Value → Shared → Prop} {s : Shared} {env : Env} {h₀ : Heap} {x : Str} {body : List Stmt} {Q : Flow → Shared → Prop} {m : Str → Option Value} {news : List (Addr × Obj)}
theorem iter_str_ov {σ : Type} {z : Str} {t : Tok} (ps : σ → List (Str × Option Value)) (Nw : σ → List (Addr × Obj)) (P : Nat → σ → Prop) (c₀ : σ)
    (hh : A.handled = none) (F : Fr h₀ env.locals s.heap m) (N : News h₀ env.locals s.heap news) (hn : ∀ p ∈ Nw c₀, p ∈ news) (hm : OvlAt (ps c₀) m) (hp : P 0 c₀)
    (turn : ∀ i cp u c h tk I oI, z.cps[i]? = some cp → P i c → (∀ p ∈ Nw c, p.1 ≠ I) → Fr h₀ env.locals h (fun y => if y = x then some (.str ⟨#[cp]⟩ u) else ovl (ps c) m y) → News h₀ env.locals h ((I, oI) :: Nw c) →
      wpAny (model prog w) A (execs body env) (TurnSt h₀ env.locals x I oI (fun c => ovl (ps c) m) Nw (P (i + 1)) { s with heap := h, toks := tk } Q) E { s with heap := h, toks := tk })
    (done : ∀ c h tk u, P z.cps.size c → Fr h₀ env.locals h (fun y => if y = x then u else ovl (ps c) m y) → News h₀ env.locals h (Nw c) → Q .next { s with heap := h, toks := tk }) :
    wpAny (model prog w) A (pyIter (.str z t)) (fun it s₂ => LoopAtV prog w A h₀ env x body Q E it s₂) E s :=
  iter_str_st (fun c => ovl (ps c) m) Nw P c₀ hh F N hn (fun y _ => ovl_self hm y) hp turn done
theorem iter_range_ov {σ : Type} {r : Addr} {a₀ b₀ : Int} {t₀ u₀ v₀ : Tok} (n : Nat) (ps : σ → List (Str × Option Value)) (Nw : σ → List (Addr × Obj)) (P : Nat → σ → Prop) (c₀ : σ)
    (hh : A.handled = none) (hr : IsRange s.heap r a₀ b₀ 1 t₀ u₀ v₀) (hsmall : Builtin.Range.small a₀ b₀ 1 = true) (hnn : Builtin.Range.rangeSize a₀ b₀ 1 = (n : Int))
    (F : Fr h₀ env.locals s.heap m) (N : News h₀ env.locals s.heap news) (hn : ∀ p ∈ Nw c₀, p ∈ news) (hm : OvlAt (ps c₀) m) (hp : P 0 c₀)
    (turn : ∀ i u c h tk I oI, i < n → P i c → (∀ p ∈ Nw c, p.1 ≠ I) → Fr h₀ env.locals h (fun y => if y = x then some (.int (a₀ + (i : Int)) u) else ovl (ps c) m y) → News h₀ env.locals h ((I, oI) :: Nw c) →
      wpAny (model prog w) A (execs body env) (TurnSt h₀ env.locals x I oI (fun c => ovl (ps c) m) Nw (P (i + 1)) { s with heap := h, toks := tk } Q) E { s with heap := h, toks := tk })
    (done : ∀ c h tk u, P n c → Fr h₀ env.locals h (fun y => if y = x then u else ovl (ps c) m y) → News h₀ env.locals h (Nw c) → Q .next { s with heap := h, toks := tk }) :
    wpAny (model prog w) A (pyIter (.ref r)) (fun it s₂ => LoopAtV prog w A h₀ env x body Q E it s₂) E s :=
  iter_range_st n (fun c => ovl (ps c) m) Nw P c₀ hh hr hsmall hnn F N hn (fun y _ => ovl_self hm y) hp turn done
theorem iter_ints_ov {σ : Type} {l : Addr} {vs : List Value} {ns : List Int} (ps : σ → List (Str × Option Value)) (Nw : σ → List (Addr × Obj)) (P : Nat → σ → Prop) (c₀ : σ)
    (hh : A.handled = none) (hl : h₀.IsList l vs.toArray) (hi : IntsAre vs ns)
    (F : Fr h₀ env.locals s.heap m) (N : News h₀ env.locals s.heap news) (hn : ∀ p ∈ Nw c₀, p ∈ news) (hm : OvlAt (ps c₀) m) (hp : P 0 c₀)
    (turn : ∀ i n u c h tk I oI, ns[i]? = some n → P i c → (∀ p ∈ Nw c, p.1 ≠ I) → Fr h₀ env.locals h (fun y => if y = x then some (.int n u) else ovl (ps c) m y) → News h₀ env.locals h ((I, oI) :: Nw c) →
      wpAny (model prog w) A (execs body env) (TurnSt h₀ env.locals x I oI (fun c => ovl (ps c) m) Nw (P (i + 1)) { s with heap := h, toks := tk } Q) E { s with heap := h, toks := tk })
    (done : ∀ c h tk u, P ns.length c → Fr h₀ env.locals h (fun y => if y = x then u else ovl (ps c) m y) → News h₀ env.locals h (Nw c) → Q .next { s with heap := h, toks := tk }) :
    wpAny (model prog w) A (pyIter (.ref l)) (fun it s₂ => LoopAtV prog w A h₀ env x body Q E it s₂) E s :=
  iter_ints_st (fun c => ovl (ps c) m) Nw P c₀ hh hl hi F N hn (fun y _ => ovl_self hm y) hp turn done

theorem For_F {E : Value → Shared → Prop} {px pos : Pos} {iter : Expr} (F : Fr h₀ env.locals s.heap m) (hx : env.kindOf x = some .local)
    (hp : (env.scope.kind == .class || (env.scope.kind == .module && env.locals != env.globals)) = false)
    (h : wpAny (model prog w) A (eval iter env) (fun xv s₁ => wpAny (model prog w) A (pyIter xv) (fun it s₂ => LoopAtV prog w A h₀ env x body Q E it s₂) E s₁) E s)
    (hs : ∀ x, foldedSetIterable iter env x = pure x := by intro _; rfl)
    (hE : PassesOwn (model prog w) A env E := by passes_own) :
    wpAny (model prog w) A (exec (.For (.Name x px) iter body [] pos) env) Q E s := For_invV h₀ hx hp h hs hE
theorem TurnSt.next {σ : Type} {L I : Addr} {oI : Obj} {Mp : σ → Str → Option Value} {Nw : σ → List (Addr × Obj)} {P : σ → Prop} {s₁ : Shared} {h' : Heap} {tk : Nat} {m' : Str → Option Value} {news' : List (Addr × Obj)} (c : σ)
    (F : Fr h₀ L h' m') (N : News h₀ L h' news') (hs : ∀ p ∈ (I, oI) :: Nw c, p ∈ news') (hne : ∀ p ∈ Nw c, p.1 ≠ I) (hm : ∀ y, y ≠ x → m' y = Mp c y) (hP : P c) :
    TurnSt h₀ L x I oI Mp Nw P s₁ Q .next { s₁ with heap := h', toks := tk } := ⟨c, h', tk, m', news', rfl, F, N, hs, hne, hm, hP⟩
end
end Mine
end

section
open PySem.Spec PySem.Calls
namespace Mine
open LCg

/-- what the tests (and the element) of one turn of a comprehension must leave -/
def CEnd {σ : Type} (h₀ : Heap) (L : Addr) (m : Str → Option Value) (s : Shared) (I : Addr) (oI : Obj) (C : Addr) (oC : Obj) (D : Addr) (oD : Obj) (Nw : σ → List (Addr × Obj)) (R : σ → Prop) (s₂ : Shared) : Prop :=
  ∃ (c : σ) (h' : Heap) (tk : Nat) (news' : List (Addr × Obj)), s₂ = { s with heap := h', toks := tk } ∧ Fr h₀ L h' m ∧ News h₀ L h' news' ∧ (∀ p ∈ (I, oI) :: (C, oC) :: (D, oD) :: Nw c, p ∈ news') ∧ (∀ p ∈ Nw c, p.1 ≠ I ∧ p.1 ≠ C ∧ p.1 ≠ D) ∧ R c

theorem CEnd.intro {σ : Type} {h₀ : Heap} {L : Addr} {m : Str → Option Value} {s : Shared} {I C D : Addr} {oI oC oD : Obj} {Nw : σ → List (Addr × Obj)} {R : σ → Prop} {h' : Heap} {tk : Nat} {news' : List (Addr × Obj)} (c : σ)
    (F : Fr h₀ L h' m) (N : News h₀ L h' news') (hs : ∀ p ∈ (I, oI) :: (C, oC) :: (D, oD) :: Nw c, p ∈ news') (off : ∀ p ∈ Nw c, p.1 ≠ I ∧ p.1 ≠ C ∧ p.1 ≠ D) (hR : R c) :
    CEnd h₀ L m s I oI C oC D oD Nw R { s with heap := h', toks := tk } := ⟨c, h', tk, news', rfl, F, N, hs, off, hR⟩

section
variable {prog : Program} {w : World} {A : Around} {E : Value → Shared → Prop} {s : Shared} {h₀ : Heap} {L : Addr} {m : Str → Option Value} {env : Env} {news : List (Addr × Obj)}

theorem comp_block {σ : Type} {elt iter : Expr} {x : Str} {px : Pos} {ifs : List Expr} {scope : Scope} {cl : List (Str × Addr)} {pos : Pos} {I : Addr} {fp : List Addr} {n : Nat} {Pv : Nat → Value → Prop} {St : Nat → Heap → Prop}
    (W : Walks prog w A I fp [I] n Pv St) (hsz : n ≤ sizeLine) (Nw : σ → List (Addr × Obj)) (R : Nat → σ → List Value → Prop) (c₀ : σ)
    (hlive : ∀ i h, St i h → ∃ o, h.get? I = some o)
    (hfx : ∀ b ∈ fp, b ≠ I → (∃ o, h₀.get? b = some o) ∨ ∃ o, ∀ c, (b, o) ∈ Nw c)
    (hcell : ∀ y ∈ scope.names, y.2 ≠ .cell) (hkind : scope.kind = .function) (hx : scope.names.lookup x = some .local)
    (hst : St 0 s.heap) (hfp : ∀ b ∈ fp, b < s.heap.objs.size) (F : Fr h₀ L s.heap m) (N : News h₀ L s.heap news) (hn : ∀ p ∈ Nw c₀, p ∈ news) (hIL : L ≠ I) (hI : h₀.get? I = none) (hni : ∀ p ∈ Nw c₀, p.1 ≠ I) (hR : R 0 c₀ [])
    {RR : Value → Addr → Result → Shared → Prop}
    (turn : ∀ i v c ys oI C oC D m₂ h tk (E' : Value → Shared → Prop), i < n → Pv i v → R i c ys → ys.length ≤ i → NsObj oC m₂ → m₂ x = some v → Fr h₀ L h m → News h₀ L h ((I, oI) :: (C, oC) :: (D, lst ys) :: Nw c) →
      (∀ p ∈ Nw c, p.1 ≠ I ∧ p.1 ≠ C ∧ p.1 ≠ D) → I ≠ C ∧ I ≠ D ∧ C ≠ D →
      wpAny (model prog w) A (forIn ifs true fun c r => if r = true then do let ok ← isTrue c (compEnvC scope cl C env) (eval c (compEnvC scope cl C env)); pure (ForInStep.yield ok) else pure (ForInStep.yield r))
        (fun ok s₃ => if ok = true then wpAny (model prog w) A (eval elt (compEnvC scope cl C env)) (fun y s₄ => CEnd h₀ L m s I oI C oC D (lst ys) Nw (fun c' => R (i + 1) c' (ys ++ [y])) s₄) E' s₃
          else CEnd h₀ L m s I oI C oC D (lst ys) Nw (fun c' => R (i + 1) c' ys) s₃) E' { s with heap := h, toks := tk })
    (done : ∀ D C h tk m' c ys, R n c ys → Fr h₀ L h m → News h₀ L h ((D, lst ys) :: Nw c) → (∀ p ∈ Nw c, p.1 ≠ D) → h.Ns C m' → h₀.get? C = none → h₀.get? D = none → C ≠ L → D ≠ L → C ≠ D → (∀ p ∈ Nw c, p.1 ≠ C) → RR (.ref D) C (.ok .next) { s with heap := h, toks := tk }) :
    wpAny (model prog w) A (newList []) (fun acc s₃ => wpAny (model prog w) A (newFunctionEnv scope env.globals cl [] env.qual none .none (some env)) (fun cenv s₄ =>
      codeAny (model prog w) A (.compStart (.ListComp elt [⟨.Name x px, iter, ifs, 0⟩] scope pos) 0 (.ref I) acc { cenv with scope := relabel scope env }) (RR acc cenv.locals) s₄) E s₃) E s := by
  refine wpAny_newObj_type (wpAny_newFunctionEnv hcell (by intro y hy; simp at hy) (fun h₁ hns₁ hsb₁ => ?_) hkind)
  dsimp only at hns₁ hsb₁ ⊢
  generalize hH : s.heap.push { cls := .type "list", dict := none, data := .seq ([] : List Value).toArray } = H at hns₁ hsb₁ ⊢
  generalize hD : s.heap.objs.size = D
  generalize hC : H.objs.size = C at hns₁ hsb₁ ⊢
  have hCD : C = D + 1 := by rw [← hC, ← hH, Heap.size_push, hD]
  have lt_of : ∀ (b : Nat) o, s.heap.get? b = some o → b < D := fun b o e => hD ▸ Heap.lt_size e
  have old : ∀ b o, s.heap.get? b = some o → h₁.get? b = some o := fun b o e =>
    hsb₁.extBut b o (neN (by have := lt_of b o e; omega)) (Heap.get?_push_of_some _ (hH ▸ Heap.get?_push_of_some _ e))
  have hacc : h₁.get? D = some (lst []) := hsb₁.extBut _ _ (neN (by omega)) (Heap.get?_push_of_some _ (by rw [← hH, ← hD]; exact Heap.get?_push_size _ rfl))
  have hIfp : I ∈ fp := W.sub I (by simp)
  have hID : @LT.lt Nat _ I D := hD ▸ hfp I hIfp
  have hLD : @LT.lt Nat _ L D := hD ▸ F.ns.lt
  have fresh : ∀ (a : Nat), D ≤ a → h₀.get? a = none := fun a ha => by
    cases e : h₀.get? a with
    | none => rfl
    | some o => have := lt_of a o (F.keep a o e); omega
  have hD₀ : h₀.get? D = none := fresh D (Nat.le_refl _)
  have hC₀ : h₀.get? C = none := fresh C (by omega)
  have hDf : D ∉ fp := fun hm => by have : @LT.lt Nat _ D s.heap.objs.size := hfp D hm; omega
  have hCf : C ∉ fp := fun hm => by have : @LT.lt Nat _ C s.heap.objs.size := hfp C hm; omega
  have loop : ∀ s₃ : Shared, s₃ = { s with heap := h₁, toks := s.toks + ([] : List (Str × Value)).length } →
      codeAny (model prog w) A (.compLoop (.ListComp elt [⟨.Name x px, iter, ifs, 0⟩] scope pos) 0 (.ref I) (.ref D) (compEnvC scope cl C env)) (RR (.ref D) C) s₃ := by
    rintro s₃ rfl
    refine codeAny_compLoop_tests
      (fun k s' => ∃ h' tk i ys m' c, s' = { s with heap := h', toks := tk } ∧ i ≤ n ∧ k = n + 1 - i ∧ ys.length ≤ i ∧ St i h' ∧ Fr h₀ L h' m ∧ h'.Ns C m' ∧ News h₀ L h' ((D, lst ys) :: Nw c) ∧ (∀ p ∈ Nw c, p.1 ≠ I ∧ p.1 ≠ C ∧ p.1 ≠ D) ∧ R i c ys) ?_ (n + 1)
      ⟨h₁, _, 0, [], _, c₀, rfl, Nat.zero_le _, rfl, Nat.le_refl _, W.frame _ _ _ hst fun b _ o e => old b o e, F.keeps old, hns₁, ?_, ?_, hR⟩
    · rintro k s' ⟨h', tk, i, ys, m', c, rfl, hi, rfl, hyl, hst', F', hn', N', off', hR'⟩
      by_cases hlt : i < n
      · refine W.item i _ _ _ hlt hst' fun v h₂ tk₂ hPv hst₂ hk₂ => ?_
        have hk₂' : ∀ b o, b ≠ I → h'.get? b = some o → h₂.get? b = some o := fun b o hb e => hk₂ b o (by simpa using hb) e
        refine wpAny_assign_Name (wpAny_storeName_local (lookup_relabel_local hx) (hn'.at' fun o e => hk₂' _ o (neN (by omega)) e) (fun h₃ hn₃ hs₃ => ?_) (by simp [compEnvC, relabel, hkind]))
        have up : ∀ b o, b ≠ I → b ≠ C → h'.get? b = some o → h₃.get? b = some o := fun b o h1 h2 e => hs₃.extBut b o h2 (hk₂' b o h1 e)
        have hst₃ : St (i + 1) h₃ := W.frame _ _ _ hst₂ fun b hb o e => hs₃.extBut b o (fun q => hCf (by have q' : b = C := q; rw [← q']; exact hb)) e
        obtain ⟨oI, heI⟩ := hlive _ _ hst₃
        obtain ⟨oC, heC, hoC⟩ := ns_obj hn₃
        have F₃ : Fr h₀ L h₃ m := (fr_but F' hk₂ hIL hI).change hs₃ ((neN (by omega) : @Ne Nat C L)) hC₀
        have N₃ : News h₀ L h₃ ((I, oI) :: (C, oC) :: (D, lst ys) :: Nw c) := fun p hp => by
          rcases List.mem_cons.mp hp with rfl | hp
          · exact ⟨heI, Ne.symm hIL, hI⟩
          · rcases List.mem_cons.mp hp with rfl | hp
            · exact ⟨heC, (neN (by omega) : @Ne Nat C L), hC₀⟩
            · have z := N' p hp
              rcases List.mem_cons.mp hp with rfl | hp
              · exact ⟨up _ _ ((neN (by omega) : @Ne Nat D I)) ((neN (by omega) : @Ne Nat D C)) z.1, z.2⟩
              · exact ⟨up _ _ (off' p hp).1 (off' p hp).2.1 z.1, z.2⟩
        refine wpAny_mono (turn i v c ys oI C oC D _ h₃ _ _ hlt hPv hR' hyl hoC (by simp) F₃ N₃ off' ⟨neN (by omega), neN (by omega), neN (by omega)⟩) (fun ok s₄ q => ?_) fun _ _ e => e
        have after : ∀ (ys' : List Value) (s₅ : Shared), CEnd h₀ L m s I oI C oC D (lst ys) Nw (fun c' => R (i + 1) c' ys') s₅ → ∃ c' h₅ tk₅, s₅ = { s with heap := h₅, toks := tk₅ } ∧ Fr h₀ L h₅ m ∧ News h₀ L h₅ ((D, lst ys) :: Nw c') ∧ (∀ p ∈ Nw c', p.1 ≠ I ∧ p.1 ≠ C ∧ p.1 ≠ D) ∧ St (i + 1) h₅ ∧ (∃ m₅, h₅.Ns C m₅) ∧ R (i + 1) c' ys' := by
          rintro ys' s₅ ⟨c', h₅, tk₅, nw, rfl, F₅, N₅, sub, off₅, R₅⟩
          refine ⟨c', h₅, tk₅, rfl, F₅, fun p hp => N₅ p (sub p (List.mem_cons_of_mem _ (List.mem_cons_of_mem _ hp))), off₅, ?_, ⟨_, hoC.ns (N₅ _ (sub _ (List.mem_cons_of_mem _ List.mem_cons_self))).1⟩, R₅⟩
          refine W.frame _ _ _ hst₃ fun b hb o e => ?_
          by_cases hbI : b = I
          · subst hbI
            have : o = oI := by have e' : h₃.get? b = some oI := heI; rw [e] at e'; cases e'; rfl
            rw [this]; exact (N₅ _ (sub _ List.mem_cons_self)).1
          · rcases hfx b hb hbI with ⟨o', ho'⟩ | ⟨o', ho'⟩
            · have e1 := F₃.keep b o' ho'
              rw [e] at e1; cases e1
              exact F₅.keep b o ho'
            · have e1 := (N₃ _ (List.mem_cons_of_mem _ (List.mem_cons_of_mem _ (List.mem_cons_of_mem _ (ho' c))))).1
              have e1' : h₃.get? b = some o' := e1
              rw [e] at e1'; cases e1'
              exact (N₅ _ (sub _ (List.mem_cons_of_mem _ (List.mem_cons_of_mem _ (List.mem_cons_of_mem _ (ho' c')))))).1
        cases ok with
        | false =>
          simp only [Bool.false_eq_true, if_false] at q ⊢
          obtain ⟨c', h₅, tk₅, rfl, F₅, N₅, off₅, st₅, ⟨m₅, ns₅⟩, R₅⟩ := after ys _ q
          exact ⟨n + 1 - (i + 1), by omega, h₅, tk₅, i + 1, ys, m₅, c', rfl, hlt, rfl, by omega, st₅, F₅, ns₅, N₅, off₅, R₅⟩
        | true =>
          simp only [if_true] at q ⊢
          refine wpAny_mono q (fun y s₅ q => ?_) fun _ _ e => e
          obtain ⟨c', h₅, tk₅, rfl, F₅, N₅, off₅, st₅, ⟨m₅, ns₅⟩, R₅⟩ := after (ys ++ [y]) _ q
          refine append_at (hsz := by show ys.toArray.size ≤ sizeLine; rw [List.size_toArray]; omega) (N₅ _ List.mem_cons_self).1 fun h₆ hs₆ hD₆ => ?_
          refine ⟨n + 1 - (i + 1), by omega, h₆, tk₅, i + 1, ys ++ [y], m₅, c', rfl, hlt, rfl, by rw [List.length_append, List.length_singleton]; omega, W.frame _ _ _ st₅ fun b hb o e => hs₆.extBut b o (fun q => hDf (by have q' : b = D := q; rw [← q']; exact hb)) e, F₅.change hs₆ ((neN (by omega) : @Ne Nat D L)) hD₀, ns₅.sameBut hs₆ ((neN (by omega) : @Ne Nat C D)), fun p hp => ?_, off₅, R₅⟩
          rcases List.mem_cons.mp hp with rfl | hp
          · exact ⟨hD₆.trans (congrArg some (lst_snoc ys y)), (neN (by omega) : @Ne Nat D L), hD₀⟩
          · have z := N₅ p (List.mem_cons_of_mem _ hp)
            exact ⟨hs₆.extBut _ _ (off₅ p hp).2.2 z.1, z.2⟩
      · obtain rfl : i = n := Nat.le_antisymm hi (Nat.not_lt.mp hlt)
        refine W.done _ _ _ hst' fun h₂ tk₂ hk₂ => ?_
        refine done D C h₂ tk₂ m' c ys hR' (fr_but F' hk₂ hIL hI) (news_but N' hk₂ fun p hp => ?_) (fun p hp => (off' p hp).2.2) (hn'.at' fun o e => hk₂ _ o (by simpa using (neN (by omega) : @Ne Nat C I)) e) hC₀ hD₀ (neN (by omega)) (neN (by omega)) (neN (by omega)) (fun p hp => (off' p hp).2.1)
        rcases List.mem_cons.mp hp with rfl | hp
        · exact (neN (by omega) : @Ne Nat D I)
        · exact (off' p hp).1
    · intro p hp
      rcases List.mem_cons.mp hp with rfl | hp
      · exact ⟨hacc, (neN (by omega) : @Ne Nat D L), hD₀⟩
      · exact ⟨old _ _ (N p (hn p hp)).1, (N p (hn p hp)).2⟩
    · intro p hp
      have := lt_of _ _ (N p (hn p hp)).1
      exact ⟨hni p hp, neN (by omega), neN (by omega)⟩
  exact codeAny_compStart_list (loop _ rfl) (W.self 0 _ _ _ (W.frame _ _ _ hst fun b _ o e => old b o e) (loop _ rfl))

/-- behind the source of a comprehension: what is left to run -/
def CompGo (prog : Program) (w : World) (A : Around) (E : Value → Shared → Prop) (h₀ : Heap) (L : Addr) (m : Str → Option Value) (env : Env) (elt : Expr) (ifs : List Expr) (x : Str) (px : Pos) (iter : Expr) (scope : Scope) (pos : Pos) (cl : List (Str × Addr)) (Fin : Addr → List (Addr × Obj) → Shared → Prop) (xv : Value) (s₁ : Shared) : Prop :=
  ∀ RR : Value → Addr → Result → Shared → Prop,
    (∀ D C h tk m' news' , Fr h₀ L h m → News h₀ L h news' → h.Ns C m' → h₀.get? C = none → h₀.get? D = none → C ≠ L → D ≠ L → C ≠ D → (∀ p ∈ news', p.1 ≠ C) →
      Fin D news' s₁ → RR (.ref D) C (.ok .next) { s₁ with heap := h, toks := tk }) →
    wpAny (model prog w) A (pyIter xv) (fun it s₂ => wpAny (model prog w) A (newList []) (fun acc s₃ => wpAny (model prog w) A (newFunctionEnv scope env.globals cl [] env.qual none .none (some env)) (fun cenv s₄ =>
      codeAny (model prog w) A (.compStart (.ListComp elt [⟨.Name x px, iter, ifs, 0⟩] scope pos) 0 it acc { cenv with scope := relabel scope env }) (RR acc cenv.locals) s₄) E s₃) E s₂) E s₁

def CFinE (h₀ : Heap) (L : Addr) (m : Str → Option Value) (Q : Value → Shared → Prop) (D : Addr) (news' : List (Addr × Obj)) (s : Shared) : Prop :=
  ∀ h' tk', Fr h₀ L h' m → News h₀ L h' news' → Q (.ref D) { s with heap := h', toks := tk' }
def CFinA (h₀ : Heap) (L : Addr) (m : Str → Option Value) (y : Str) (Q : Flow → Shared → Prop) (D : Addr) (news' : List (Addr × Obj)) (s : Shared) : Prop :=
  ∀ h' tk', Fr h₀ L h' (fun z => if z = y then some (.ref D) else m z) → News h₀ L h' news' → Q .next { s with heap := h', toks := tk' }

theorem ListComp_go {elt iter : Expr} {ifs : List Expr} {x : Str} {px : Pos} {scope : Scope} {cl : List (Str × Addr)} {pos : Pos} {Q : Value → Shared → Prop} (hF0 : Fr h₀ L s.heap m)
    (hclos : closureFor scope env = pure cl) (hkind : scope.kind = .function)
    (hnames : ∀ y ∈ scope.names, y.2 = .local → scope.names.lookup y.1 = some .local)
    (h : wpAny (model prog w) A (eval iter env) (fun xv s₁ => CompGo prog w A E h₀ L m env elt ifs x px iter scope pos cl (CFinE h₀ L m Q) xv s₁) E s)
    (hs : ∀ x, foldedSetIterable iter env x = pure x := by intro _; rfl) :
    wpAny (model prog w) A (eval (.ListComp elt [⟨.Name x px, iter, ifs, 0⟩] scope pos) env) Q E s := by
  rw [eval_ListComp]
  refine wpAny_comprehension_free (use := none) rfl hs hclos hkind hnames (wpAny_mono h (fun xv s₁ h₁ => ?_) fun _ _ e => e)
  refine h₁ (fun acc C r s' => compPost (model prog w) A E none Q acc C r s') ?_
  intro D C hh tk m' news' F N hns hC₀ hD₀ hCL hDL hCD off fin
  exact ⟨m', hns, fun h'' hs'' => fin h'' tk (F.change hs'' hCL hC₀) fun p hp => ⟨hs''.extBut _ _ (off p hp) (N p hp).1, (N p hp).2⟩⟩

theorem Assign_ListComp_go {elt iter : Expr} {ifs : List Expr} {x y : Str} {px py : Pos} {scope : Scope} {cl : List (Str × Addr)} {pos spos : Pos} {Q : Flow → Shared → Prop} (hF0 : Fr h₀ L s.heap m) (hLe : env.locals = L)
    (hsw : swapsWith (.ListComp elt [⟨.Name x px, iter, ifs, 0⟩] scope pos) (some (.Name y py)) spos.line env = pure true)
    (hclos : closureFor scope env = pure cl) (hkind : scope.kind = .function)
    (hnames : ∀ z ∈ scope.names, z.2 = .local → scope.names.lookup z.1 = some .local)
    (hy : env.kindOf y = some .local) (hp : (env.scope.kind == .class || (env.scope.kind == .module && env.locals != env.globals)) = false)
    (h : wpAny (model prog w) A (eval iter env) (fun xv s₁ => CompGo prog w A E h₀ L m env elt ifs x px iter scope pos cl (CFinA h₀ L m y Q) xv s₁) E s)
    (hs : ∀ x, foldedSetIterable iter env x = pure x := by intro _; rfl) :
    wpAny (model prog w) A (exec (.Assign [.Name y py] (.ListComp elt [⟨.Name x px, iter, ifs, 0⟩] scope pos) spos) env) Q E s := by
  subst hLe
  rw [exec_Assign_Name_used _ _ _ _ hsw]
  refine wpAny_bind (wpAny_standAt (wpAny_bind ?_))
  show wpAny _ A (do let _ ← comprehension (.ListComp elt [⟨.Name x px, iter, ifs, 0⟩] scope pos) scope env _ (newList []) false (eval iter env) (some (assign (.Name y py) env))) _ _ s
  refine wpAny_bind (wpAny_mono (wpAny_comprehension_free (use := some (assign (.Name y py) env)) (Q := fun _ s' => Q .next s') rfl hs hclos hkind hnames
    (wpAny_mono h (fun xv s₁ h₁ => ?_) fun _ _ e => e)) (fun _ s' hq => wpAny_pure (wpAny_pure hq)) fun _ _ e => e)
  refine h₁ (fun acc C r s' => compPost (model prog w) A E (some (assign (.Name y py) env)) (fun _ s' => Q .next s') acc C r s') ?_
  intro D C hh tk m' news' F N hns hC₀ hD₀ hCL hDL hCD off fin
  show wpAny _ A (assign (.Name y py) env (.ref D)) _ _ _
  refine wpAny_assign_Name (wpAny_storeName_local hy F.ns (fun h₂ hn₂ hs₂ => ?_) hp)
  have hL₀ : h₀.get? env.locals = none := Heap.get?_none_of_le F.above
  have F₂ : Fr h₀ env.locals h₂ (fun z => if z = y then some (.ref D) else m z) := ⟨hn₂, fun b o e => hs₂.extBut b o (fun q => by rw [q, hL₀] at e; cases e) (F.keep b o e), F.above⟩
  exact ⟨m', hns.sameBut hs₂ hCL, fun h'' hs'' => fin h'' _ (F₂.change hs'' hCL hC₀) fun p hp => ⟨hs''.extBut _ _ (off p hp) (hs₂.extBut _ _ (N p hp).2.1 (N p hp).1), (N p hp).2⟩⟩

theorem CompGo.str {σ : Type} {elt iter : Expr} {ifs : List Expr} {x : Str} {px : Pos} {scope : Scope} {cl : List (Str × Addr)} {pos : Pos} {Fin : Addr → List (Addr × Obj) → Shared → Prop} {z : Str} {t : Tok}
    (Nw : σ → List (Addr × Obj)) (R : Nat → σ → List Value → Prop) (c₀ : σ) (hh : A.handled = none) (F : Fr h₀ L s.heap m) (N : News h₀ L s.heap news) (hn : ∀ p ∈ Nw c₀, p ∈ news) (hsz : z.cps.size ≤ sizeLine) (hR : R 0 c₀ [])
    (hcell : ∀ y ∈ scope.names, y.2 ≠ .cell) (hkind : scope.kind = .function) (hx : scope.names.lookup x = some .local)
    (turn : ∀ i cp u c ys I oI C oC D m₂ h tk (E' : Value → Shared → Prop), z.cps[i]? = some cp → R i c ys → ys.length ≤ i → NsObj oC m₂ → m₂ x = some (.str ⟨#[cp]⟩ u) → Fr h₀ L h m → News h₀ L h ((I, oI) :: (C, oC) :: (D, lst ys) :: Nw c) →
      (∀ p ∈ Nw c, p.1 ≠ I ∧ p.1 ≠ C ∧ p.1 ≠ D) → I ≠ C ∧ I ≠ D ∧ C ≠ D →
      wpAny (model prog w) A (forIn ifs true fun c r => if r = true then do let ok ← isTrue c (compEnvC scope cl C env) (eval c (compEnvC scope cl C env)); pure (ForInStep.yield ok) else pure (ForInStep.yield r))
        (fun ok s₃ => if ok = true then wpAny (model prog w) A (eval elt (compEnvC scope cl C env)) (fun y s₄ => CEnd h₀ L m s I oI C oC D (lst ys) Nw (fun c' => R (i + 1) c' (ys ++ [y])) s₄) E' s₃
          else CEnd h₀ L m s I oI C oC D (lst ys) Nw (fun c' => R (i + 1) c' ys) s₃) E' { s with heap := h, toks := tk })
    (done : ∀ D c ys, R z.cps.size c ys → (∀ p ∈ Nw c, p.1 ≠ D) → Fin D ((D, lst ys) :: Nw c) s) :
    CompGo prog w A E h₀ L m env elt ifs x px iter scope pos cl Fin (.str z t) s := by
  intro RR hRR
  have hI : h₀.get? s.heap.objs.size = none := next_is_new F
  have key : ∀ (nm : String), (Walks prog w A s.heap.objs.size [s.heap.objs.size] [s.heap.objs.size] z.cps.size (SignAt z) (fun i h => h.IsStrIter s.heap.objs.size nm z t i)) → ∀ o, (s.heap.push o).IsStrIter s.heap.objs.size nm z t 0 →
      wpAny (model prog w) A (newList []) (fun acc s₃ => wpAny (model prog w) A (newFunctionEnv scope env.globals cl [] env.qual none .none (some env)) (fun cenv s₄ =>
        codeAny (model prog w) A (.compStart (.ListComp elt [⟨.Name x px, iter, ifs, 0⟩] scope pos) 0 (.ref s.heap.objs.size) acc { cenv with scope := relabel scope env }) (RR acc cenv.locals) s₄) E s₃) E { s with heap := s.heap.push o } := by
    intro nm W o hst
    refine comp_block (s := { s with heap := s.heap.push o }) (news := news) W hsz Nw R c₀ (fun i h st => ⟨_, st.choose_spec.1⟩) ?_ hcell hkind hx hst ?_ (F.push _) (fun p hp => ⟨Heap.get?_push_of_some _ (N p hp).1, (N p hp).2⟩) hn (Nat.ne_of_lt F.ns.lt) hI ?_ hR ?_ ?_
    · intro b hb hne; exact absurd (List.mem_singleton.mp hb) hne
    · intro b hb; rw [List.mem_singleton.mp hb]; show s.heap.objs.size < (s.heap.push _).objs.size; rw [Heap.size_push]; exact Nat.lt_succ_self _
    · intro p hp e; exact absurd (Heap.lt_size (N p (hn p hp)).1) (e ▸ Nat.lt_irrefl _)
    · rintro i v c ys oI C oC D m₂ h tk E' hi ⟨cp, u, hcp, rfl⟩ hRi hyl hC hm F₁ N₁ off dis
      exact turn i cp u c ys _ oI C oC D m₂ h tk E' hcp hRi hyl hC hm F₁ N₁ off dis
    · intro D C h tk m' c ys hRn F₁ N₁ off hns hC₀ hD₀ hCL hDL hCD offC
      refine hRR D C h tk m' _ F₁ N₁ hns hC₀ hD₀ hCL hDL hCD ?_ (done D c ys hRn off)
      intro p hp
      rcases List.mem_cons.mp hp with rfl | hp
      · exact Ne.symm hCD
      · exact offC p hp
  cases ha : z.cps.all (· < 128)
  · exact wpAny_pyIter_wide ha (key _ (Walks.strWide hh _ z t) _ ⟨_, Heap.get?_push_size _ rfl, rfl, rfl⟩)
  · exact wpAny_pyIter_ascii ha (key _ (Walks.strAscii hh _ z t) _ ⟨_, Heap.get?_push_size _ rfl, rfl, rfl⟩)

theorem CompGo.range {σ : Type} {elt iter : Expr} {ifs : List Expr} {x : Str} {px : Pos} {scope : Scope} {cl : List (Str × Addr)} {pos : Pos} {Fin : Addr → List (Addr × Obj) → Shared → Prop} {r : Addr} {a₀ b₀ : Int} {t₀ u₀ v₀ : Tok} (n : Nat)
    (Nw : σ → List (Addr × Obj)) (R : Nat → σ → List Value → Prop) (c₀ : σ) (hh : A.handled = none) (hr : IsRange s.heap r a₀ b₀ 1 t₀ u₀ v₀) (hsmall : Builtin.Range.small a₀ b₀ 1 = true) (hnn : Builtin.Range.rangeSize a₀ b₀ 1 = (n : Int))
    (F : Fr h₀ L s.heap m) (N : News h₀ L s.heap news) (hn : ∀ p ∈ Nw c₀, p ∈ news) (hsz : n ≤ sizeLine) (hR : R 0 c₀ [])
    (hcell : ∀ y ∈ scope.names, y.2 ≠ .cell) (hkind : scope.kind = .function) (hx : scope.names.lookup x = some .local)
    (turn : ∀ i u c ys I oI C oC D m₂ h tk (E' : Value → Shared → Prop), i < n → R i c ys → ys.length ≤ i → NsObj oC m₂ → m₂ x = some (.int (a₀ + (i : Int)) u) → Fr h₀ L h m → News h₀ L h ((I, oI) :: (C, oC) :: (D, lst ys) :: Nw c) →
      (∀ p ∈ Nw c, p.1 ≠ I ∧ p.1 ≠ C ∧ p.1 ≠ D) → I ≠ C ∧ I ≠ D ∧ C ≠ D →
      wpAny (model prog w) A (forIn ifs true fun c r => if r = true then do let ok ← isTrue c (compEnvC scope cl C env) (eval c (compEnvC scope cl C env)); pure (ForInStep.yield ok) else pure (ForInStep.yield r))
        (fun ok s₃ => if ok = true then wpAny (model prog w) A (eval elt (compEnvC scope cl C env)) (fun y s₄ => CEnd h₀ L m s I oI C oC D (lst ys) Nw (fun c' => R (i + 1) c' (ys ++ [y])) s₄) E' s₃
          else CEnd h₀ L m s I oI C oC D (lst ys) Nw (fun c' => R (i + 1) c' ys) s₃) E' { s with heap := h, toks := tk })
    (done : ∀ D c ys, R n c ys → (∀ p ∈ Nw c, p.1 ≠ D) → Fin D ((D, lst ys) :: Nw c) s) :
    CompGo prog w A E h₀ L m env elt ifs x px iter scope pos cl Fin (.ref r) s := by
  intro RR hRR
  have hI : h₀.get? s.heap.objs.size = none := next_is_new F
  refine wpAny_pyIter_range hr hsmall ?_
  refine comp_block (s := { s with heap := s.heap.push _ }) (news := news) (LCg.range_walks (I := s.heap.objs.size) hh a₀ n) hsz Nw R c₀ (fun i h st => ⟨_, st⟩) ?_ hcell hkind hx (by show IsRangeIter _ _ _ _ _; rw [hnn]; simpa using Heap.get?_push_size _ rfl) ?_ (F.push _) (fun p hp => ⟨Heap.get?_push_of_some _ (N p hp).1, (N p hp).2⟩) hn (Nat.ne_of_lt F.ns.lt) hI ?_ hR ?_ ?_
  · intro b hb hne; exact absurd (List.mem_singleton.mp hb) hne
  · intro b hb; rw [List.mem_singleton.mp hb]; show s.heap.objs.size < (s.heap.push _).objs.size; rw [Heap.size_push]; exact Nat.lt_succ_self _
  · intro p hp e; exact absurd (Heap.lt_size (N p (hn p hp)).1) (e ▸ Nat.lt_irrefl _)
  · rintro i v c ys oI C oC D m₂ h tk E' hi ⟨u, rfl⟩ hRi hyl hC hm F₁ N₁ off dis
    exact turn i u c ys _ oI C oC D m₂ h tk E' hi hRi hyl hC hm F₁ N₁ off dis
  · intro D C h tk m' c ys hRn F₁ N₁ off hns hC₀ hD₀ hCL hDL hCD offC
    refine hRR D C h tk m' _ F₁ N₁ hns hC₀ hD₀ hCL hDL hCD ?_ (done D c ys hRn off)
    intro p hp
    rcases List.mem_cons.mp hp with rfl | hp
    · exact Ne.symm hCD
    · exact offC p hp

/-- the source is a list of the ledger -/
theorem CompGo.made {σ : Type} {elt iter : Expr} {ifs : List Expr} {x : Str} {px : Pos} {scope : Scope} {cl : List (Str × Addr)} {pos : Pos} {Fin : Addr → List (Addr × Obj) → Shared → Prop} {l : Addr} {its : Array Value} {e : Nat}
    (Nw : σ → List (Addr × Obj)) (R : Nat → σ → List Value → Prop) (c₀ : σ) (hh : A.handled = none) (hl : ∀ c, (l, W.listOf its e) ∈ Nw c)
    (F : Fr h₀ L s.heap m) (N : News h₀ L s.heap news) (hn : ∀ p ∈ Nw c₀, p ∈ news) (hsz : its.size ≤ sizeLine) (hR : R 0 c₀ [])
    (hcell : ∀ y ∈ scope.names, y.2 ≠ .cell) (hkind : scope.kind = .function) (hx : scope.names.lookup x = some .local)
    (turn : ∀ i v c ys I oI C oC D m₂ h tk (E' : Value → Shared → Prop), its[i]? = some v → R i c ys → ys.length ≤ i → NsObj oC m₂ → m₂ x = some v → Fr h₀ L h m → News h₀ L h ((I, oI) :: (C, oC) :: (D, lst ys) :: Nw c) →
      (∀ p ∈ Nw c, p.1 ≠ I ∧ p.1 ≠ C ∧ p.1 ≠ D) → I ≠ C ∧ I ≠ D ∧ C ≠ D →
      wpAny (model prog w) A (forIn ifs true fun c r => if r = true then do let ok ← isTrue c (compEnvC scope cl C env) (eval c (compEnvC scope cl C env)); pure (ForInStep.yield ok) else pure (ForInStep.yield r))
        (fun ok s₃ => if ok = true then wpAny (model prog w) A (eval elt (compEnvC scope cl C env)) (fun y s₄ => CEnd h₀ L m s I oI C oC D (lst ys) Nw (fun c' => R (i + 1) c' (ys ++ [y])) s₄) E' s₃
          else CEnd h₀ L m s I oI C oC D (lst ys) Nw (fun c' => R (i + 1) c' ys) s₃) E' { s with heap := h, toks := tk })
    (done : ∀ D c ys, R its.size c ys → (∀ p ∈ Nw c, p.1 ≠ D) → Fin D ((D, lst ys) :: Nw c) s) :
    CompGo prog w A E h₀ L m env elt ifs x px iter scope pos cl Fin (.ref l) s := by
  intro RR hRR
  have hI : h₀.get? s.heap.objs.size = none := next_is_new F
  have hls : s.heap.IsList l its := ⟨_, (N _ (hn _ (hl c₀))).1, rfl, _, rfl⟩
  have hlt : l < s.heap.objs.size := Heap.lt_size (N _ (hn _ (hl c₀))).1
  have hne : l ≠ s.heap.objs.size := Nat.ne_of_lt hlt
  refine wpAny_pyIter_list hls ?_
  refine comp_block (s := { s with heap := s.heap.push _ }) (news := news) (Walks.list hh s.heap.objs.size l hne its) hsz Nw R c₀ (fun i h st => ⟨_, st.1.choose_spec.1⟩) ?_ hcell hkind hx ⟨⟨_, Heap.get?_push_size _ rfl, rfl, rfl⟩, hls.at fun o e => Heap.get?_push_of_some _ e⟩ ?_ (F.push _) (fun p hp => ⟨Heap.get?_push_of_some _ (N p hp).1, (N p hp).2⟩) hn (Nat.ne_of_lt F.ns.lt) hI ?_ hR ?_ ?_
  · intro b hb hne
    rcases List.mem_cons.mp hb with rfl | hb
    · exact absurd rfl hne
    · rw [List.mem_singleton.mp hb]; exact .inr ⟨_, hl⟩
  · intro b hb
    show b < (s.heap.push _).objs.size
    rw [Heap.size_push]
    rcases List.mem_cons.mp hb with rfl | hb
    · exact Nat.lt_succ_self _
    · rw [List.mem_singleton.mp hb]; exact Nat.lt_succ_of_lt hlt
  · intro p hp e; exact absurd (Heap.lt_size (N p (hn p hp)).1) (e ▸ Nat.lt_irrefl _)
  · rintro i v c ys oI C oC D m₂ h tk E' hi hv hRi hyl hC hm F₁ N₁ off dis
    exact turn i v c ys _ oI C oC D m₂ h tk E' hv hRi hyl hC hm F₁ N₁ off dis
  · intro D C h tk m' c ys hRn F₁ N₁ off hns hC₀ hD₀ hCL hDL hCD offC
    refine hRR D C h tk m' _ F₁ N₁ hns hC₀ hD₀ hCL hDL hCD ?_ (done D c ys hRn off)
    intro p hp
    rcases List.mem_cons.mp hp with rfl | hp
    · exact Ne.symm hCD
    · exact offC p hp

/-- `in` a list of a text and None or another text -/
def wallHit (sep : Str) (alt : Value) (z : Str) : Bool := sep == z || valHitsStr z alt
theorem in_walls {wl : Addr} {sep z : Str} {alt : Value} {t u : Tok} {e : Nat} {Q : Value → Shared → Prop} (N : News h₀ L s.heap news) (hm : (wl, W.listOf #[.str sep t, alt] e) ∈ news) (ha : alt = .none ∨ ∃ y u, alt = .str y u)
    (h : Q (.bool (wallHit sep alt z)) s) : wpAny (model prog w) A (compareOp .In (.str z u) (.ref wl)) Q E s := by
  refine PySem.SeqAt.in_listAt (valHitsStr z) (items := #[.str sep t, alt]) ⟨_, (N _ hm).1, rfl, _, rfl⟩ ?_ ?_
  · intro y hy
    have hy' : y = .str sep t ∨ y = alt := by simpa using hy
    rcases hy' with rfl | rfl
    · exact PySem.SeqAt.EqAt.str_str _ _ _ _
    · rcases ha with rfl | ⟨y, u, rfl⟩
      · exact PySem.SeqAt.EqAt.none_str _ _
      · exact PySem.SeqAt.EqAt.str_str _ _ _ _
  · simpa [wallHit, valHitsStr] using h
theorem notin_walls {wl : Addr} {sep z : Str} {alt : Value} {t u : Tok} {e : Nat} {Q : Value → Shared → Prop} (N : News h₀ L s.heap news) (hm : (wl, W.listOf #[.str sep t, alt] e) ∈ news) (ha : alt = .none ∨ ∃ y u, alt = .str y u)
    (h : Q (.bool (!wallHit sep alt z)) s) : wpAny (model prog w) A (compareOp .NotIn (.str z u) (.ref wl)) Q E s := by
  refine PySem.SeqAt.notIn_listAt (valHitsStr z) (items := #[.str sep t, alt]) ⟨_, (N _ hm).1, rfl, _, rfl⟩ ?_ ?_
  · intro y hy
    have hy' : y = .str sep t ∨ y = alt := by simpa using hy
    rcases hy' with rfl | rfl
    · exact PySem.SeqAt.EqAt.str_str _ _ _ _
    · rcases ha with rfl | ⟨y, u, rfl⟩
      · exact PySem.SeqAt.EqAt.none_str _ _
      · exact PySem.SeqAt.EqAt.str_str _ _ _ _
  · simpa [wallHit, valHitsStr] using h
theorem ne_nilK {l b : Addr} {items : Array Value} {Q : Value → Shared → Prop} (hl : s.heap.IsList l items) (hb : s.heap.IsList b #[]) (hu : A.units < cLine)
    (h : Q (.bool (items.size != 0)) s) : wpAny (model prog w) A (compareOp .NotEq (.ref l) (.ref b)) Q E s := by
  by_cases hz : items.size = 0
  · have e : items = #[] := Array.eq_empty_of_size_eq_zero hz
    subst e
    refine PySem.SeqAt.RcNeAt.lists (e := fun _ => true) hl hb rfl hu ?_ prog w E Q ?_
    · intro j h1 _; exact absurd h1 (Nat.not_lt_zero _)
    · exact h
  · refine PySem.SeqAt.RcNeAt.lists_lengths hl hb ?_ hu prog w E Q ?_
    · simpa using hz
    · have : (items.size != 0) = true := by simpa using hz
      rw [this] at h; exact h
end
end Mine
end

section
open PySem.Builtin PySem.Builtin.Str
namespace Mine
theorem slice_ab (x : Str) (a b : Nat) (hab : a ≤ b) (hb : b ≤ x.length) : Txt.slice x (some (a : Int)) (some (b : Int)) = ⟨((x.cps.toList.drop a).take (b - a)).toArray⟩ := by
  have hl : x.cps.toList.length = x.length := by simp [Str.length]
  have e : (strSliceIndices (some (a : Int)) (some (b : Int)) 1 x.length).filterMap (x.cps[·]?) = (x.cps.toList.drop a).take (b - a) := by
    exact StrLaws.sliced_plain x hab hb
  unfold Txt.slice
  split
  · rename_i h
    simp only [BEq.rfl, Bool.true_and] at h
    rw [StrLaws.strSliceIndices_plain hab hb] at h
    simp at h
    have ha : a = 0 := by omega
    have hb' : b = x.length := by omega
    subst ha
    subst hb'
    have : (List.drop 0 x.cps.toList).take (x.length - 0) = x.cps.toList := by
      rw [List.drop_zero, Nat.sub_zero, ← hl, List.take_length]
    rw [this]
  · rw [e]
theorem slice_none_l (x : Str) (u : Option Int) : Txt.slice x none u = Txt.slice x (some 0) u := by
  have : strSliceIndices none u 1 x.length = strSliceIndices (some 0) u 1 x.length := by
    unfold strSliceIndices
    simp only [show (1 : Int) > 0 by decide, if_true]
    have : max 0 (min (if (0 : Int) < 0 then (0 : Int) + (x.length : Int) else 0) (x.length : Int)) = 0 := by split <;> omega
    rw [this]
  unfold Txt.slice; rw [this]
theorem slice_none_r (x : Str) (l : Option Int) : Txt.slice x l none = Txt.slice x l (some (x.length : Int)) := by
  have : strSliceIndices l none 1 x.length = strSliceIndices l (some (x.length : Int)) 1 x.length := by
    unfold strSliceIndices
    simp only [show (1 : Int) > 0 by decide, if_true]
    have : max 0 (min (if (x.length : Int) < 0 then (x.length : Int) + (x.length : Int) else (x.length : Int)) (x.length : Int)) = (x.length : Int) := by split <;> omega
    rw [this]
  unfold Txt.slice; rw [this]
theorem slice_from (x : Str) (a : Nat) (h : a ≤ x.length) : Txt.slice x (some (a : Int)) none = ⟨(x.cps.toList.drop a).toArray⟩ := by
  rw [slice_none_r, slice_ab x a x.length h (Nat.le_refl _)]
  congr 2
  apply List.take_of_length_le
  simp [Str.length]
theorem slice_to (x : Str) (b : Nat) (h : b ≤ x.length) : Txt.slice x none (some (b : Int)) = ⟨(x.cps.toList.take b).toArray⟩ := by
  rw [slice_none_l]
  have := slice_ab x 0 b (Nat.zero_le _) h
  simpa using this
theorem slice_one (x : Str) (i : Nat) (h : i < x.length) : Txt.slice x (some (i : Int)) (some ((i : Int) + 1)) = ⟨#[x.cps.toList[i]'(by simpa [Str.length] using h)]⟩ := by
  have := slice_ab x i (i + 1) (by omega) (by omega)
  rw [show (((i + 1 : Nat) : Int)) = (i : Int) + 1 by omega] at this
  rw [this]
  have hl : i < x.cps.toList.length := by simpa [Str.length] using h
  rw [show i + 1 - i = 1 by omega, List.drop_eq_getElem_cons hl]
  simp
theorem item_at (x : Str) (i : Nat) (h : i < x.length) : Txt.item x (i : Int) = ⟨#[x.cps.toList[i]'(by simpa [Str.length] using h)]⟩ := by
  have h' : i < x.cps.size := h
  unfold Txt.item Txt.charAt seqIndex?
  have h0 : ¬ ((i : Int) < 0) := by omega
  simp only [if_neg h0]
  have : (decide (0 ≤ (i : Int)) && decide ((i : Int) < (x.length : Int))) = true := by simp; omega
  rw [if_pos this]
  simp [h']
theorem mk1 {a b : Nat} : ((⟨#[a]⟩ : Str) = ⟨#[b]⟩) ↔ a = b := by simp
theorem mk1_beq {a b : Nat} : ((⟨#[a]⟩ : Str) == ⟨#[b]⟩) = (a == b) := by
  by_cases h : a = b
  · subst h; simp
  · have : ¬ ((⟨#[a]⟩ : Str) = ⟨#[b]⟩) := fun e => h (mk1.mp e)
    rw [beq_eq_false_iff_ne.mpr this, beq_eq_false_iff_ne.mpr h]

/-- the last place of a sign, -1 if there is none -/
def lastIx (c : Nat) : List Nat → Int
  | [] => -1
  | x :: r => if 0 ≤ lastIx c r then lastIx c r + 1 else if x = c then 0 else -1
theorem lastIx_ge (c : Nat) : ∀ xs, -1 ≤ lastIx c xs
  | [] => by simp [lastIx]
  | x :: r => by unfold lastIx; have := lastIx_ge c r; split <;> (try split) <;> omega
theorem lastIx_lt (c : Nat) : ∀ xs : List Nat, lastIx c xs < xs.length
  | [] => by simp [lastIx]
  | x :: r => by unfold lastIx; have := lastIx_lt c r; simp only [List.length_cons]; split <;> (try split) <;> omega
theorem lastIx_spec (c : Nat) : ∀ (xs : List Nat) (i : Nat), lastIx c xs = (i : Int) ↔ (xs[i]? = some c ∧ ∀ j, i < j → xs[j]? ≠ some c)
  | [], i => by simp [lastIx]
  | x :: r, i => by
    have ih := lastIx_spec c r
    have hge := lastIx_ge c r
    unfold lastIx
    by_cases h : 0 ≤ lastIx c r
    · rw [if_pos h]
      obtain ⟨k, hk⟩ : ∃ k : Nat, lastIx c r = k := ⟨(lastIx c r).toNat, by omega⟩
      obtain ⟨a1, a2⟩ := (ih k).mp hk
      constructor
      · intro e
        have : i = k + 1 := by omega
        subst this
        refine ⟨by simpa using a1, fun j hj => ?_⟩
        obtain ⟨j', rfl⟩ : ∃ j', j = j' + 1 := ⟨j - 1, by omega⟩
        simpa using a2 j' (by omega)
      · rintro ⟨b1, b2⟩
        cases i with
        | zero => exact absurd (by simpa using a1) (b2 (k + 1) (by omega))
        | succ i =>
          have : lastIx c r = (i : Int) := (ih i).mpr ⟨by simpa using b1, fun j hj => by simpa using b2 (j + 1) (by omega)⟩
          omega
    · rw [if_neg h]
      have hn : ∀ (j : Nat), r[j]? ≠ some c := by
        intro j hj
        -- take the last one
        have : ∃ k : Nat, r[k]? = some c ∧ ∀ j, k < j → r[j]? ≠ some c := by
          have : ∀ n, ∀ j : Nat, r.length - j ≤ n → r[j]? = some c → ∃ k : Nat, r[k]? = some c ∧ ∀ j, k < j → r[j]? ≠ some c := by
            intro n
            induction n with
            | zero => intro j hl hj; rw [List.getElem?_eq_none (by omega)] at hj; cases hj
            | succ n ihn =>
              intro j hl hj
              by_cases hex : ∃ j', j < j' ∧ r[j']? = some c
              · obtain ⟨j', h1, h2⟩ := hex
                exact ihn j' (by omega) h2
              · exact ⟨j, hj, fun j' h1 h2 => hex ⟨j', h1, h2⟩⟩
          exact this _ j (Nat.le_refl _) hj
        obtain ⟨k, h1, h2⟩ := this
        have := (ih k).mpr ⟨h1, h2⟩
        omega
      constructor
      · intro e
        split at e
        · rename_i hx
          have : i = 0 := by omega
          subst this
          exact ⟨by simp [hx], fun j hj => by obtain ⟨j', rfl⟩ : ∃ j', j = j' + 1 := ⟨j - 1, by omega⟩; simpa using hn j'⟩
        · omega
      · rintro ⟨b1, b2⟩
        cases i with
        | zero =>
          have : x = c := by simpa using b1
          rw [if_pos this]; rfl
        | succ i => exact absurd (by simpa using b1) (hn i)
theorem at_one (x : Str) (c i : Nat) : StrLaws.At x ⟨#[c]⟩ x.length i ↔ x.cps.toList[i]? = some c := by
  unfold StrLaws.At
  rw [StrLaws.subAt_eq]
  have h1 : (⟨#[c]⟩ : Str).length = 1 := rfl
  rw [h1]
  have hl : x.length = x.cps.toList.length := by simp [Str.length]
  rw [hl]
  constructor
  · rintro ⟨h2, h3⟩
    have hlt : i < x.cps.toList.length := by omega
    rw [List.drop_eq_getElem_cons hlt] at h3
    simp at h3
    rw [List.getElem?_eq_getElem hlt]
    simpa using h3
  · intro h
    have hlt : i < x.cps.toList.length := by
      rcases Nat.lt_or_ge i x.cps.toList.length with q | q
      · exact q
      · rw [List.getElem?_eq_none q] at h; cases h
    refine ⟨by omega, ?_⟩
    rw [List.drop_eq_getElem_cons hlt]
    rw [List.getElem?_eq_getElem hlt] at h
    have := Option.some.inj h
    simp at this
    simp [this]
theorem rfind_one (x : Str) (c : Nat) : Txt.rfind x ⟨#[c]⟩ = lastIx c x.cps.toList := by
  rcases rfind_whole x ⟨#[c]⟩ with ⟨h, hn⟩ | ⟨i, h, hi, hn⟩
  · rw [h]
    have hge := lastIx_ge c x.cps.toList
    rcases Int.lt_or_le (lastIx c x.cps.toList) 0 with q | q
    · omega
    · obtain ⟨k, hk⟩ : ∃ k : Nat, lastIx c x.cps.toList = k := ⟨(lastIx c x.cps.toList).toNat, by omega⟩
      exact absurd ((at_one x c k).mpr ((lastIx_spec c _ k).mp hk).1) (hn k)
  · rw [h]
    exact ((lastIx_spec c _ i).mpr ⟨(at_one x c i).mp hi, fun j hj e => hn j hj ((at_one x c j).mpr e)⟩).symm
end Mine
end

section
namespace Mine
def absI (n : Int) : Int := if n < 0 then -n else n
theorem absI_eq (n : Int) : absI n = (n.natAbs : Int) := by unfold absI; split <;> omega
theorem fmodN (k d : Nat) : (Int.fmod (k : Int) (d : Int)).toNat = k % d := by
  rw [Int.fmod_eq_emod_of_nonneg _ (Int.natCast_nonneg d)]; omega
theorem fdivN (k d : Nat) : Int.fdiv (k : Int) (d : Int) = ((k / d : Nat) : Int) := by
  rw [Int.fdiv_eq_ediv_of_nonneg _ (Int.natCast_nonneg d)]; simp
theorem sign0 (n : Int) : (Int.fmod (if n < 0 then -n else n) 6).toNat = n.natAbs % 6 := by
  have := absI_eq n; unfold absI at this; rw [this]; exact fmodN _ 6
theorem sign1 (n : Int) : (Int.fmod (Int.fdiv (if n < 0 then -n else n) 6) 6).toNat = n.natAbs / 6 % 6 := by
  have := absI_eq n; unfold absI at this; rw [this]
  have h := fdivN n.natAbs 6
  rw [show ((6 : Nat) : Int) = 6 from rfl] at h
  rw [h]; exact fmodN _ 6
theorem sign2 (n : Int) : (Int.fmod (Int.fdiv (if n < 0 then -n else n) 36) 6).toNat = n.natAbs / 36 % 6 := by
  have := absI_eq n; unfold absI at this; rw [this]
  have h := fdivN n.natAbs 36
  rw [show ((36 : Nat) : Int) = 36 from rfl] at h
  rw [h]; exact fmodN _ 6
def signsOf (n : Nat) : List Nat := [n % 6] ++ (if n > 5 then [n / 6 % 6] else []) ++ (if n > 35 then [n / 36 % 6] else [])
def placesOf (ns : List Int) : List Nat := ns.flatMap fun x => signsOf x.natAbs
theorem placesOf_step {ns : List Int} {i : Nat} {n : Int} (h : ns[i]? = some n) : placesOf (ns.take (i + 1)) = placesOf (ns.take i) ++ signsOf n.natAbs := by
  rw [List.take_add_one, h]; simp [placesOf]
theorem signsOf_length (n : Nat) : (signsOf n).length ≤ 3 := by unfold signsOf; split <;> split <;> simp
theorem placesOf_length (ns : List Int) : (placesOf ns).length ≤ 3 * ns.length := by
  induction ns with
  | nil => simp [placesOf]
  | cons n r ih =>
    have := signsOf_length n.natAbs
    simp only [placesOf, List.flatMap_cons, List.length_append, List.length_cons] at *
    omega
theorem str_app (xs ys : List Nat) : (⟨xs.toArray⟩ : Str) ++ ⟨ys.toArray⟩ = ⟨(xs ++ ys).toArray⟩ := by
  show (⟨xs.toArray ++ ys.toArray⟩ : Str) = _
  simp
theorem text_step3 {ns : List Int} {i : Nat} {n : Int} {f : Nat → Nat} {tx : Str} (h : ns[i]? = some n) (htx : tx = ⟨((placesOf (ns.take i)).map f).toArray⟩) (h35 : 35 < if n < 0 then -n else n) :
    tx ++ ⟨#[f (Int.fmod (if n < 0 then -n else n) 6).toNat]⟩ ++ ⟨#[f (Int.fmod (Int.fdiv (if n < 0 then -n else n) 6) 6).toNat]⟩ ++ ⟨#[f (Int.fmod (Int.fdiv (if n < 0 then -n else n) 36) 6).toNat]⟩ = ⟨((placesOf (ns.take (i + 1))).map f).toArray⟩ := by
  rw [sign0, sign1, sign2, htx, placesOf_step h]
  have e : signsOf n.natAbs = [n.natAbs % 6] ++ [n.natAbs / 6 % 6] ++ [n.natAbs / 36 % 6] := by
    unfold signsOf; rw [if_pos (by omega), if_pos (by omega)]
  rw [e, List.map_append, List.map_append, List.map_append, ← str_app, ← str_app, ← str_app]
  simp only [List.map_cons, List.map_nil]
  show _ = (_ : Str) ++ (_ ++ _ ++ _)
  apply congrArg Str.mk
  show ((_ ++ _) ++ _) ++ _ = _ ++ ((_ ++ _) ++ _)
  simp only [Array.append_assoc]
theorem text_step2 {ns : List Int} {i : Nat} {n : Int} {f : Nat → Nat} {tx : Str} (h : ns[i]? = some n) (htx : tx = ⟨((placesOf (ns.take i)).map f).toArray⟩) (h5 : 5 < if n < 0 then -n else n) (h35 : ¬ 35 < if n < 0 then -n else n) :
    tx ++ ⟨#[f (Int.fmod (if n < 0 then -n else n) 6).toNat]⟩ ++ ⟨#[f (Int.fmod (Int.fdiv (if n < 0 then -n else n) 6) 6).toNat]⟩ = ⟨((placesOf (ns.take (i + 1))).map f).toArray⟩ := by
  rw [sign0, sign1, htx, placesOf_step h]
  have e : signsOf n.natAbs = [n.natAbs % 6] ++ [n.natAbs / 6 % 6] := by
    unfold signsOf; rw [if_pos (by omega), if_neg (by omega)]; simp
  rw [e, List.map_append, List.map_append, ← str_app, ← str_app]
  simp only [List.map_cons, List.map_nil]
  apply congrArg Str.mk
  show ((_ ++ _) ++ _) = _ ++ (_ ++ _)
  simp only [Array.append_assoc]
theorem text_step1 {ns : List Int} {i : Nat} {n : Int} {f : Nat → Nat} {tx : Str} (h : ns[i]? = some n) (htx : tx = ⟨((placesOf (ns.take i)).map f).toArray⟩) (h5 : ¬ 5 < if n < 0 then -n else n) :
    tx ++ ⟨#[f (Int.fmod (if n < 0 then -n else n) 6).toNat]⟩ = ⟨((placesOf (ns.take (i + 1))).map f).toArray⟩ := by
  rw [sign0, htx, placesOf_step h]
  have e : signsOf n.natAbs = [n.natAbs % 6] := by
    unfold signsOf; rw [if_neg (by omega), if_neg (by omega)]; simp
  rw [e, List.map_append, ← str_app]
  simp only [List.map_cons, List.map_nil]
end Mine
end

section
namespace Mine
def IsLast (p : Nat → Bool) (ts : List Nat) (i : Int) : Prop :=
  -1 ≤ i ∧ (∀ (j : Nat) (c : Nat), i < j → ts[j]? = some c → p c = false) ∧ (0 ≤ i → ∃ c, ts[i.toNat]? = some c ∧ p c = true)
theorem isLast_one (c : Nat) (ts : List Nat) : IsLast (fun x => c == x) ts (lastIx c ts) := by
  have hge := lastIx_ge c ts
  refine ⟨hge, ?_, ?_⟩
  · intro j d hj hd
    by_cases h : c = d
    · subst h
      exfalso
      by_cases h0 : 0 ≤ lastIx c ts
      · obtain ⟨k, hk⟩ : ∃ k : Nat, lastIx c ts = k := ⟨(lastIx c ts).toNat, by omega⟩
        exact ((lastIx_spec c ts k).mp hk).2 j (by omega) hd
      · -- no place at all
        have : ∀ n, ∀ j : Nat, ts.length - j ≤ n → ts[j]? = some c → ∃ k : Nat, ts[k]? = some c ∧ ∀ j, k < j → ts[j]? ≠ some c := by
          intro n
          induction n with
          | zero => intro j hl hj; rw [List.getElem?_eq_none (by omega)] at hj; cases hj
          | succ n ihn =>
            intro j hl hj
            by_cases hex : ∃ j', j < j' ∧ ts[j']? = some c
            · obtain ⟨j', h1, h2⟩ := hex
              exact ihn j' (by omega) h2
            · exact ⟨j, hj, fun j' h1 h2 => hex ⟨j', h1, h2⟩⟩
        obtain ⟨k, h1, h2⟩ := this _ j (Nat.le_refl _) hd
        have := (lastIx_spec c ts k).mpr ⟨h1, h2⟩
        omega
    · simpa using h
  · intro h0
    obtain ⟨k, hk⟩ : ∃ k : Nat, lastIx c ts = k := ⟨(lastIx c ts).toNat, by omega⟩
    have := ((lastIx_spec c ts k).mp hk).1
    exact ⟨c, by rw [hk]; simpa using this, by simp⟩
theorem isLast_or {p q : Nat → Bool} {ts : List Nat} {i j : Int} (hp : IsLast p ts i) (hq : IsLast q ts j) : IsLast (fun x => p x || q x) ts (if j > i then j else i) := by
  obtain ⟨a1, a2, a3⟩ := hp
  obtain ⟨b1, b2, b3⟩ := hq
  split
  · rename_i h
    refine ⟨b1, fun k c hk hc => ?_, fun h0 => ?_⟩
    · show (p c || q c) = false; rw [a2 k c (by omega) hc, b2 k c hk hc]; rfl
    · obtain ⟨c, hc, hc'⟩ := b3 h0
      exact ⟨c, hc, by show (p c || q c) = true; rw [hc']; simp⟩
  · rename_i h
    refine ⟨a1, fun k c hk hc => ?_, fun h0 => ?_⟩
    · show (p c || q c) = false; rw [a2 k c hk hc, b2 k c (by omega) hc]; rfl
    · obtain ⟨c, hc, hc'⟩ := a3 h0
      exact ⟨c, hc, by show (p c || q c) = true; rw [hc']; rfl⟩
theorem isLast_congr {p q : Nat → Bool} {ts : List Nat} {i : Int} (h : IsLast p ts i) (e : ∀ x, p x = q x) : IsLast q ts i := by
  have : p = q := funext e
  exact this ▸ h
end Mine
end

section
namespace Mine
open_top hd2 for PySem.Challenge.rw_dn0116_02
end Mine
end

section
open PySem.Builtin
namespace Mine
theorem slot_bytes_rfind : Slot "bytes" "rfind" "bytes.rfind" :=
  .of (owner := "bytes") (n := "rfind") (by rw [typeLookup_type, builtinLookup_eq_fast]; kernel_rfl) (by decide +kernel) (by decide +kernel) (by decide +kernel)
    (by first | exact .inl (by decide +kernel) | exact .inr (by decide +kernel)) (by rw [isSubtype_type]; kernel_rfl)
theorem type_bytes_rfind : typeOf (.builtin "bytes.rfind") = pure (.type "method_descriptor") := by show builtinType _ = _; rw [builtinType_eq_fast]; kernel_rfl
theorem entry_bytes_rfind : entryFor table "bytes.rfind" = some Builtin.«bytes.rfind» := entryFor_of_tree (by kernel_rfl)
theorem args_bytes_rfind_2 (a b : Value) : argsOk "bytes.rfind" ⟨[a, b], []⟩ := by
  unfold argsOk; rw [signature?_of (id := "bytes.rfind") (n := ['d', 'n', 'i', 'f', 'r']) (o := ['s', 'e', 't', 'y', 'b']) (by kernel_rfl) FB.owner_bytes]; kernel_rfl
theorem look_str_buffer : typeLookup (.type "str") "__buffer__" = pure none := by rw [typeLookup_type, builtinLookup_eq_fast]; kernel_rfl
theorem look_str_index : typeLookup (.type "str") "__index__" = pure none := by rw [typeLookup_type, builtinLookup_eq_fast]; kernel_rfl
section
variable {prog : Program} {w : World} {A : Around} {E : Value → Shared → Prop} {s : Shared} {b c : Array UInt8} {t u : Tok} {x y : PySem.Str}
theorem getMethod_bytes_rfind {M : Model} {pl : Sem Bool} {Q : Value × List Value → Shared → Prop} (h : Q (.builtin "bytes.rfind", [.bytes b t]) s) : wpAny M A (getMethod (.bytes b t) "rfind" pl) Q E s := by
  with_reducible exact KBd.method_of (.bytes b t) (typeIs_bytes _ _ _) slot_bytes_rfind type_bytes_rfind KBd.noRef h

def bfind (b c : Array UInt8) : Int := match (if (b.size : Int) < c.size then none else Bytes.rfind? b c 0 b.size) with | some i => (i : Int) | none => -1

theorem bytes_rfind {Q : Value → Shared → Prop} (h : ∀ k, Q (.int (bfind b c) k) { s with toks := k + 1 }) : wpAny (model prog w) A (call (.builtin "bytes.rfind") [.bytes b t, .bytes c u]) Q E s := by
  refine wpAny_call_entry slot_bytes_rfind (typeIs_bytes _ _ _) entry_bytes_rfind ?_ (args_bytes_rfind_2 _ _)
  show wpAny _ _ (Bytes.searchArgs .bytes "rfind" ⟨[.bytes b t, .bytes c u], []⟩ >>= _) _ _ s
  refine wpAny_bind ?_
  show wpAny _ _ (Bytes.buffer? "bytes.rfind" (.bytes c u) >>= fun r => _) _ _ s
  refine wpAny_bind (wpAny_of_eq KBy.buffer_eq ?_)
  refine wpAny_bind (wpAny_pure ?_)
  show wpAny _ _ (pure (b, c, if (Min.min (b.size : Int) (b.size : Int)) - 0 < (c.size : Int) then none else some (0, (Min.min (b.size : Int) (b.size : Int)).toNat))) _ _ s
  refine wpAny_pure ?_
  have e : ((Min.min (b.size : Int) (b.size : Int)) - 0 < (c.size : Int)) = ((b.size : Int) < c.size) := by rw [Int.min_self, Int.sub_zero]
  have e2 : (Min.min (b.size : Int) (b.size : Int)).toNat = b.size := by rw [Int.min_self]; rfl
  simp only [e, e2]
  have key : ∀ o : Option Nat, (match o with | some i => (i : Int) | none => -1) = bfind b c → wpAny (model prog w) A.in1 (match o with | some i => retInt i | none => (do rule "bytes.rfind.not-found"; retInt (-1))) (fun fin s' => ∃ v, fin = .done (.ret v) ∧ Q v s') E s := by
    intro o ho
    cases o with
    | none =>
      refine wpAny_bind (wpAny_rule ?_)
      have := h s.toks
      rw [← ho] at this
      exact wpAny_bind (wpAny_mkInt (wpAny_pure ⟨_, rfl, this⟩))
    | some i =>
      have := h s.toks
      rw [← ho] at this
      exact wpAny_bind (wpAny_mkInt (wpAny_pure ⟨_, rfl, this⟩))
  by_cases hc : (b.size : Int) < c.size
  · have := key none (by unfold bfind; rw [if_pos hc])
    simp only [if_pos hc]
    exact this
  · have := key (Bytes.rfind? b c 0 b.size) (by unfold bfind; rw [if_neg hc])
    simp only [if_neg hc]
    exact this

theorem buffer_str {id : String} : Bytes.buffer? id (.str x u) = pure none := by
  unfold Bytes.buffer?
  have h : specialOf (.str x u) "__buffer__" = pure none := by
    show (typeOf (.str x u) >>= fun T => typeLookup T "__buffer__") = _
    show typeLookup (.type "str") "__buffer__" = _
    exact look_str_buffer
  rw [h]
  rfl
theorem bytes_rfind_str {Q : Value → Shared → Prop} (hA : A.handled = none) (h : ∀ h' tk e, Heap.NewExc s.heap h' e "TypeError" → E (.ref e) { s with heap := h', toks := tk }) : wpAny (model prog w) A (call (.builtin "bytes.rfind") [.bytes b t, .str x u]) Q E s := by
  refine wpAny_call_entry slot_bytes_rfind (typeIs_bytes _ _ _) entry_bytes_rfind ?_ (args_bytes_rfind_2 _ _)
  show wpAny _ _ (Bytes.searchArgs .bytes "rfind" ⟨[.bytes b t, .str x u], []⟩ >>= _) _ _ s
  refine wpAny_bind ?_
  unfold Bytes.searchArgs
  refine wpAny_bind (wpAny_of_eq (a := (.bytes b t, [.str x u])) rfl ?_)
  refine wpAny_bind (wpAny_of_eq (a := none) rfl ?_)
  refine wpAny_bind (wpAny_of_eq (a := none) rfl ?_)
  refine wpAny_bind (wpAny_of_eq buffer_str ?_)
  refine wpAny_bind (wpAny_specialOf (typeIs_str _ _ _) look_str_index ?_)
  show wpAny _ _ (rule _ >>= fun _ => _) _ _ s
  refine wpAny_bind (wpAny_rule ?_)
  refine wpAny_bind (wpAny_typeNameOf' (typeIs_str _ _ _) (by decide) ?_)
  refine wpAny_bind ?_
  refine wpAny_raiseErrorMade plainExc_TypeError hA h ?_
  decide +kernel
theorem str_rfind_bytes {Q : Value → Shared → Prop} (hA : A.handled = none) (h : ∀ h' tk e, Heap.NewExc s.heap h' e "TypeError" → E (.ref e) { s with heap := h', toks := tk }) : wpAny (model prog w) A (call (.builtin "str.rfind") [.str x t, .bytes b u]) Q E s := by
  refine wpAny_call_entry F.slot_str_rfind (typeIs_str _ _ _) F.entry_str_rfind ?_ (F.args_str_rfind_2 _ _)
  show wpAny _ _ (Str.searchArgs "rfind" ⟨[.str x t, .bytes b u], []⟩ >>= _) _ _ s
  refine wpAny_bind ?_
  show wpAny _ _ (Str.strArg "str.rfind" "rfind" "1" (.bytes b u) >>= fun r => _) _ _ s
  refine wpAny_bind ?_
  show wpAny _ _ (rule _ >>= fun _ => typeNameOf (.bytes b u) >>= fun got => _) _ _ s
  refine wpAny_bind (wpAny_rule ?_)
  refine wpAny_bind (wpAny_typeNameOf' (typeIs_bytes _ _ _) (by decide) ?_)
  refine wpAny_raiseErrorMade plainExc_TypeError hA h ?_
  decide +kernel
end
end Mine
end

section
namespace Mine
local macro_rules | `(tactic| walk_at "WTurnInt") => `(tactic| (with_reducible refine WTurnInt.ret ?_))
local macro_rules | `(tactic| walk_at "exec While Compare cons nil") => `(tactic| (with_reducible refine Stop.out ?_))
local macro_rules | `(tactic| walk_at "getMethod bytes") => `(tactic| (with_reducible refine getMethod_bytes_rfind ?_))
local macro_rules | `(tactic| walk_at "call builtin:bytes.rfind") => `(tactic| ((refine bytes_rfind ?_); intro _))
local macro_rules | `(tactic| walk_at "call builtin:bytes.rfind") => `(tactic| ((refine bytes_rfind_str (by rfl) ?_); intro h' tk' e' x'))
local macro_rules | `(tactic| walk_at "call builtin:str.rfind") => `(tactic| ((refine str_rfind_bytes (by rfl) ?_); intro h' tk' e' x'))

theorem truthy_bytes0 {prog : Program} {w : World} {A : Around} {E : Value → Shared → Prop} {s : Shared} {u : Tok} {Q : Bool → Shared → Prop} (h : ∀ k, Q false { s with toks := k }) : wpAny (model prog w) A (truthy (.bytes #[] u)) Q E s :=
  truthy_bytes (by decide) (h _)
theorem truthy_str0 {prog : Program} {w : World} {A : Around} {E : Value → Shared → Prop} {s : Shared} {u : Tok} {Q : Bool → Shared → Prop} (h : ∀ k, Q false { s with toks := k }) : wpAny (model prog w) A (truthy (.str ⟨#[]⟩ u)) Q E s :=
  PyProof.Rows.SBL.truthy (by decide) (h _)
local macro_rules | `(tactic| walk_at "truthy bytes") => `(tactic| ((with_reducible refine truthy_bytes0 ?_); intro _))
local macro_rules | `(tactic| walk_at "truthy str") => `(tactic| ((with_reducible refine truthy_str0 ?_); intro _))
theorem altIx_bytes {p sep : Str} {u : Tok} : AltIx p sep (.bytes #[] u) (Txt.rfind p sep) := rfl
theorem splitext_s : ∀ (w : World) (mean : ExcName → Option Value) (mg mb : Str → Option Value) (dp un : Nat) (gd : Option (List Code)) (cn : Str) (cs : Scope) (a : Addr) (ccd : Value) (cl : List (Str × Addr)) (outer : List Env) (A₀ : Around) (base h₀ : Heap) (L : Addr) (m : Str → Option Value) (news : List (Addr × Obj)) (s : Shared)
    (p sep ext : Str) (alt : Value) (t1 t2 t3 : Tok) (Q E : Value → Shared → Prop),
    Below A₀ base outer h₀ → Fr h₀ L s.heap m → (hd2.heap_39 w.params).In h₀ → News h₀ L s.heap news → Top hd2.view_39 (looseW hd2.view_39 []) mean mg mb h₀ → cs.kind = .function → dp < 900 → un < 900 → p.length ≤ 1000000 →
    (alt = .none ∨ (∃ u, alt = .bytes #[] u) ∨ ∃ y u, alt = .str y u ∧ y.length ≤ 1000000) →
    (∀ sepi t a b ta tb h' tk', AltIx p sep alt sepi → SplitSpec p sepi (Txt.rfind p ext) ext a b → Fr h₀ L h' m → News h₀ L h' ((t, tupObj [.str a ta, .str b tb]) :: news) → (∀ q ∈ news, q.1 < t) → Q (.ref t) { s with heap := h', toks := tk' }) →
    wpAny (model PySem.Challenge.rw_dn0116_02.prog w) (ktrTop dp un gd cn cs L a ccd cl outer) (call (.ref 21) [.str p t1, .str sep t2, alt, .str ext t3]) Q E s := by
  k_fill
  intro w mean mg mb dp un gd cn cs a ccd cl outer A₀ base h₀ L m news s p sep ext alt t1 t2 t3 Q E B F X N T hk hd hu hlen halt hret
  rcases halt with rfl | ⟨u, rfl⟩ | ⟨al, u, rfl, hal⟩
  all_goals
    refine wpAny_call ?_
    k_dflt ktr_enter
    k_steps
  all_goals first
    | exact hret _ _ _ _ _ _ _ _ (by first | exact altIx_none | exact altIx_bytes | exact altIx_some (by assumption) | exact altIx_zero (by assumption)) (.inr ⟨fun h => absurd h.1 (by assumption), rfl, rfl⟩) (by assumption) (by assumption) (by assumption)
    | refine ⟨?_⟩
      refine while_int (fun i₀ i => i₀ ≤ i ∧ ∀ j, i₀ ≤ j → j < i → Txt.slice p (some j) (some (j + 1)) = ext) (fun i => (Txt.rfind p ext - i).toNat) (by with_reducible assumption) (by with_reducible assumption) ⟨Int.le_refl _, fun j h1 h2 => absurd h1 (by omega)⟩ ?_
      rintro i t h tk ⟨hi, hall⟩ F9 N9
      k_steps
      all_goals first
        | exact hret _ _ _ _ _ _ _ _ (by first | exact altIx_none | exact altIx_bytes | exact altIx_some (by assumption) | exact altIx_zero (by assumption)) (.inl ⟨by assumption, ⟨i, hi, by assumption, by simpa using (by assumption : (Txt.slice p (some i) (some (i + 1)) != ext) = true)⟩, rfl, rfl⟩) (by assumption) (by assumption) (by assumption)
        | exact hret _ _ _ _ _ _ _ _ (by first | exact altIx_none | exact altIx_bytes | exact altIx_some (by assumption) | exact altIx_zero (by assumption)) (.inr ⟨fun h => let ⟨j, h1, h2, h3⟩ := h.2; h3 (hall j h1 (by omega)), rfl, rfl⟩) (by assumption) (by assumption) (by assumption)
        | refine WTurnInt.next (by with_reducible assumption) (by with_reducible assumption) (fun _ h => h) ⟨by omega, fun j h1 h2 => ?_⟩ (by omega)
          rcases Int.lt_or_eq_of_le (Int.le_of_lt_add_one h2) with h3 | h3
          · exact hall j h1 h3
          · subst h3; simpa using (by assumption : (Txt.slice p (some _) (some (_ + 1)) != ext) = false)

def SplitSpecB (p : Array UInt8) (sepi dot : Int) (ext a b : Array UInt8) : Prop :=
  (sepi < dot ∧ (∃ i, sepi + 1 ≤ i ∧ i < dot ∧ KBy.picked p (some i) (some (i + 1)) ≠ ext) ∧ a = KBy.picked p none (some dot) ∧ b = KBy.picked p (some dot) none) ∨
  (¬ (sepi < dot ∧ ∃ i, sepi + 1 ≤ i ∧ i < dot ∧ KBy.picked p (some i) (some (i + 1)) ≠ ext) ∧ a = p ∧ b = KBy.picked p none (some 0))
def AltIxB (p sep : Array UInt8) (alt : Value) (i : Int) : Prop :=
  match alt with
  | .bytes y _ => if (y.size : Int) = 0 then i = bfind p sep else i = (if bfind p y > bfind p sep then bfind p y else bfind p sep)
  | _ => i = bfind p sep
theorem ne_of_toList {a b : Array UInt8} (h : (a.toList != b.toList) = true) : a ≠ b := by
  rintro rfl; simp at h
theorem eq_of_toList {a b : Array UInt8} (h : (a.toList != b.toList) = false) : a = b := by
  have : a.toList = b.toList := by simpa using h
  exact Array.toList_inj.mp this
theorem altIxB_none {p sep : Array UInt8} : AltIxB p sep .none (bfind p sep) := rfl
theorem altIxB_str {p sep : Array UInt8} {u : Tok} : AltIxB p sep (.str ⟨#[]⟩ u) (bfind p sep) := rfl
theorem altIxB_some {p sep y : Array UInt8} {u : Tok} (h : (y.size : Int) ≠ 0) : AltIxB p sep (.bytes y u) (if bfind p y > bfind p sep then bfind p y else bfind p sep) := by
  unfold AltIxB; simp only [if_neg h]
theorem altIxB_zero {p sep y : Array UInt8} {u : Tok} (h : (y.size : Int) = 0) : AltIxB p sep (.bytes y u) (bfind p sep) := by
  unfold AltIxB; simp only [if_pos h]
theorem splitext_b : ∀ (w : World) (mean : ExcName → Option Value) (mg mb : Str → Option Value) (dp un : Nat) (gd : Option (List Code)) (cn : Str) (cs : Scope) (a : Addr) (ccd : Value) (cl : List (Str × Addr)) (outer : List Env) (A₀ : Around) (base h₀ : Heap) (L : Addr) (m : Str → Option Value) (news : List (Addr × Obj)) (s : Shared)
    (p sep ext : Array UInt8) (ks : List Int) (alt : Value) (t1 t2 t3 : Tok) (Q E : Value → Shared → Prop),
    Below A₀ base outer h₀ → Fr h₀ L s.heap m → (hd2.heap_39 w.params).In h₀ → News h₀ L s.heap news → Top hd2.view_39 (looseW hd2.view_39 []) mean mg mb h₀ → cs.kind = .function → dp < 900 → un < 900 → KBw.bInts p = ks → ks.length ≤ 1000 →
    (alt = .none ∨ (∃ u, alt = .str ⟨#[]⟩ u) ∨ ∃ y u, alt = .bytes y u ∧ y.size ≤ 1000) →
    (∀ sepi t a b ta tb h' tk', AltIxB p sep alt sepi → SplitSpecB p sepi (bfind p ext) ext a b → Fr h₀ L h' m → News h₀ L h' ((t, tupObj [.bytes a ta, .bytes b tb]) :: news) → (∀ q ∈ news, q.1 < t) → Q (.ref t) { s with heap := h', toks := tk' }) →
    wpAny (model PySem.Challenge.rw_dn0116_02.prog w) (ktrTop dp un gd cn cs L a ccd cl outer) (call (.ref 21) [.bytes p t1, .bytes sep t2, alt, .bytes ext t3]) Q E s := by
  k_fill
  intro w mean mg mb dp un gd cn cs a ccd cl outer A₀ base h₀ L m news s p sep ext ks alt t1 t2 t3 Q E B F X N T hk hd hu hks hlen halt hret
  rcases halt with rfl | ⟨u, rfl⟩ | ⟨al, u, rfl, hal⟩
  all_goals
    refine wpAny_call ?_
    k_dflt ktr_enter
    k_steps
  all_goals first
    | exact hret _ _ _ _ _ _ _ _ (by first | exact altIxB_none | exact altIxB_str | exact altIxB_some (by assumption) | exact altIxB_zero (by assumption)) (.inr ⟨fun h => absurd h.1 (by assumption), rfl, rfl⟩) (by assumption) (by assumption) (by assumption)
    | refine ⟨?_⟩
      refine while_int (fun i₀ i => i₀ ≤ i ∧ ∀ j, i₀ ≤ j → j < i → KBy.picked p (some j) (some (j + 1)) = ext) (fun i => (bfind p ext - i).toNat) (by with_reducible assumption) (by with_reducible assumption) ⟨Int.le_refl _, fun j h1 h2 => absurd h1 (by omega)⟩ ?_
      rintro i t h tk ⟨hi, hall⟩ F9 N9
      k_steps
      all_goals first
        | exact hret _ _ _ _ _ _ _ _ (by first | exact altIxB_none | exact altIxB_str | exact altIxB_some (by assumption) | exact altIxB_zero (by assumption)) (.inl ⟨by assumption, ⟨i, hi, by assumption, ne_of_toList (by assumption)⟩, rfl, rfl⟩) (by assumption) (by assumption) (by assumption)
        | exact hret _ _ _ _ _ _ _ _ (by first | exact altIxB_none | exact altIxB_str | exact altIxB_some (by assumption) | exact altIxB_zero (by assumption)) (.inr ⟨fun h => let ⟨j, h1, h2, h3⟩ := h.2; h3 (hall j h1 (by omega)), rfl, rfl⟩) (by assumption) (by assumption) (by assumption)
        | refine WTurnInt.next (by with_reducible assumption) (by with_reducible assumption) (fun _ h => h) ⟨by omega, fun j h1 h2 => ?_⟩ (by omega)
          rcases Int.lt_or_eq_of_le (Int.le_of_lt_add_one h2) with h3 | h3
          · exact hall j h1 h3
          · subst h3; exact eq_of_toList (by assumption)

/-- the values that a call with a strange part gets -/
inductive Mixed : Value → Value → Value → Value → Prop
  | sepT (p : Str) (t1 : Tok) (b : Array UInt8) (t2 : Tok) (alt ext : Value) : Mixed (.str p t1) (.bytes b t2) alt ext
  | sepB (p : Array UInt8) (t1 : Tok) (b : Str) (t2 : Tok) (alt ext : Value) : Mixed (.bytes p t1) (.str b t2) alt ext
  | altT (p : Str) (t1 : Tok) (b : Str) (t2 : Tok) (y : Array UInt8) (u : Tok) (ext : Value) (h : y.size ≠ 0) (h' : y.size ≤ 1000) : Mixed (.str p t1) (.str b t2) (.bytes y u) ext
  | altB (p : Array UInt8) (t1 : Tok) (b : Array UInt8) (t2 : Tok) (y : Str) (u : Tok) (ext : Value) (h : y.length ≠ 0) (h' : y.length ≤ 1000) : Mixed (.bytes p t1) (.bytes b t2) (.str y u) ext
  | extT (p : Str) (t1 : Tok) (b : Str) (t2 : Tok) (alt : Value) (e : Array UInt8) (t3 : Tok) (h : alt = .none ∨ (∃ u, alt = .bytes #[] u) ∨ ∃ y u, alt = .str y u ∧ y.length ≤ 1000) : Mixed (.str p t1) (.str b t2) alt (.bytes e t3)
  | extB (p : Array UInt8) (t1 : Tok) (b : Array UInt8) (t2 : Tok) (alt : Value) (e : Str) (t3 : Tok) (h : alt = .none ∨ (∃ u, alt = .str ⟨#[]⟩ u) ∨ ∃ y u, alt = .bytes y u ∧ y.size ≤ 1000) : Mixed (.bytes p t1) (.bytes b t2) alt (.str e t3)
theorem splitext_r : ∀ (w : World) (mean : ExcName → Option Value) (mg mb : Str → Option Value) (dp un : Nat) (gd : Option (List Code)) (cn : Str) (cs : Scope) (a : Addr) (ccd : Value) (cl : List (Str × Addr)) (outer : List Env) (A₀ : Around) (base h₀ : Heap) (L : Addr) (m : Str → Option Value) (news : List (Addr × Obj)) (s : Shared)
    (p sep alt ext : Value) (Q E : Value → Shared → Prop),
    Below A₀ base outer h₀ → Fr h₀ L s.heap m → (hd2.heap_39 w.params).In h₀ → News h₀ L s.heap news → Top hd2.view_39 (looseW hd2.view_39 []) mean mg mb h₀ → cs.kind = .function → dp < 900 → un < 900 → Mixed p sep alt ext →
    (∀ e g h' tk', Fr h₀ L g m → g.UpToSlots h' → RaisedN base (envX cn cs L a ccd cl :: outer) e (.type "TypeError") news h' → E (.ref e) { s with heap := h', toks := tk' }) →
    wpAny (model PySem.Challenge.rw_dn0116_02.prog w) (ktrTop dp un gd cn cs L a ccd cl outer) (call (.ref 21) [p, sep, alt, ext]) Q E s := by
  k_fill
  intro w mean mg mb dp un gd cn cs a ccd cl outer A₀ base h₀ L m news s p sep alt ext Q E B F X N T hk hd hu hmix hret
  rcases hmix with ⟨p, t1, b, t2, alt, ext⟩ | ⟨p, t1, b, t2, alt, ext⟩ | ⟨p, t1, b, t2, y, u, ext, h, h'⟩ | ⟨p, t1, b, t2, y, u, ext, h, h'⟩ | ⟨p, t1, b, t2, alt, e, t3, rfl | ⟨u, rfl⟩ | ⟨y, u, rfl, h'⟩⟩ | ⟨p, t1, b, t2, alt, e, t3, rfl | ⟨u, rfl⟩ | ⟨y, u, rfl, h'⟩⟩
  all_goals
    refine wpAny_call ?_
    k_dflt ktr_enter
    k_steps
  all_goals first
    | exact hret _ _ _ _ (by assumption) (by assumption) (by assumption)
    | (exfalso; omega)
end Mine
end

section
namespace Mine
/-- six ints -/
def PoolInts (vs : List Value) (g : Nat → Int) : Prop := vs.length = 6 ∧ ∀ i, i < 6 → ∃ t, vs[i]? = some (.int (g i) t)
theorem intsAre_snoc (k : Int) (t : Tok) : ∀ {vs : List Value} {ns : List Int}, IntsAre vs ns → IntsAre (vs ++ [.int k t]) (ns ++ [k])
  | _, _, .nil => .cons k t .nil
  | _, _, .cons k' t' r => .cons k' t' (intsAre_snoc k t r)
section
variable {prog : Program} {w : World} {A : Around} {E : Value → Shared → Prop} {s : Shared} {h₀ : Heap} {L : Addr} {m : Str → Option Value} {news : List (Addr × Obj)}
theorem pool_int {value slice : PySem.Expr} {pl : Addr} {pv : List Value} {g : Nat → Int} {k : Int} {u : Tok} {Q : Value → Shared → Prop} (hp : PoolInts pv g) (N : News h₀ L s.heap news) (hm : (pl, LCg.lst pv) ∈ news) (h0 : 0 ≤ k) (h6 : k < 6)
    (hs : subscripted slice false (.ref pl) (.int k u) = operate [.ref pl, .int k u] (getItem (.ref pl) (.int k u)))
    (h : ∀ t, Q (.int (g k.toNat) t) s) :
    wpAny (model prog w) A (subscriptTail value slice (.ref pl) (.int k u)) Q E s := by
  obtain ⟨t, ht⟩ := hp.2 k.toNat (by omega)
  exact item_litK (News.isList N hm) h0 (by omega) ht (h t) hs
end
local macro_rules | `(tactic| walk_at "TurnSt") => `(tactic| (with_reducible refine TurnSt.ret ?_))
local macro_rules | `(tactic| walk_at "exec For Name Name cons nil") => `(tactic| (with_reducible refine Stop.out ?_))
local macro_rules | `(tactic| walk_at "pyIter ref") => `(tactic| (with_reducible refine Stop.out ?_))
local macro_rules | `(tactic| walk_at "subscriptTail") => `(tactic| ((with_reducible show wpAny _ _ (subscriptTail _ _ (Value.ref _) (Value.int _ _)) _ _ _); refine pool_int (by with_reducible assumption) (by with_reducible assumption) (by repeat' first | assumption | refine List.mem_cons_of_mem _ ?_) (by first | omega | exact Int.fmod_nonneg_of_pos _ (by decide)) (by first | omega | exact Int.fmod_lt_of_pos _ (by decide)) (by with_unfolding_all rfl) ?_; intro _))
local macro_rules | `(tactic| walk_at "call builtin:list.append") => `(tactic| ((k_dflt (refine append_K (by assumption) (by assumption) (Upd.tail (by assumption) (Upd.head (by assumption))) ?_ (by simp only [Array.size_push, sizeLine_eq]; omega))); intro h' F' N'))

theorem num_step3 {ns : List Int} {i : Nat} {n : Int} {g : Nat → Int} {xs : List Int} (h : ns[i]? = some n) (hx : xs = (placesOf (ns.take i)).map g) (h35 : 35 < if n < 0 then -n else n) :
    xs ++ [g (Int.fmod (if n < 0 then -n else n) 6).toNat] ++ [g (Int.fmod (Int.fdiv (if n < 0 then -n else n) 6) 6).toNat] ++ [g (Int.fmod (Int.fdiv (if n < 0 then -n else n) 36) 6).toNat] = (placesOf (ns.take (i + 1))).map g := by
  rw [sign0, sign1, sign2, hx, placesOf_step h]
  have e : signsOf n.natAbs = [n.natAbs % 6] ++ [n.natAbs / 6 % 6] ++ [n.natAbs / 36 % 6] := by
    unfold signsOf; rw [if_pos (by omega), if_pos (by omega)]
  rw [e]; simp
theorem num_step2 {ns : List Int} {i : Nat} {n : Int} {g : Nat → Int} {xs : List Int} (h : ns[i]? = some n) (hx : xs = (placesOf (ns.take i)).map g) (h5 : 5 < if n < 0 then -n else n) (h35 : ¬ 35 < if n < 0 then -n else n) :
    xs ++ [g (Int.fmod (if n < 0 then -n else n) 6).toNat] ++ [g (Int.fmod (Int.fdiv (if n < 0 then -n else n) 6) 6).toNat] = (placesOf (ns.take (i + 1))).map g := by
  rw [sign0, sign1, hx, placesOf_step h]
  have e : signsOf n.natAbs = [n.natAbs % 6] ++ [n.natAbs / 6 % 6] := by
    unfold signsOf; rw [if_pos (by omega), if_neg (by omega)]; simp
  rw [e]; simp
theorem num_step1 {ns : List Int} {i : Nat} {n : Int} {g : Nat → Int} {xs : List Int} (h : ns[i]? = some n) (hx : xs = (placesOf (ns.take i)).map g) (h5 : ¬ 5 < if n < 0 then -n else n) :
    xs ++ [g (Int.fmod (if n < 0 then -n else n) 6).toNat] = (placesOf (ns.take (i + 1))).map g := by
  rw [sign0, hx, placesOf_step h]
  have e : signsOf n.natAbs = [n.natAbs % 6] := by
    unfold signsOf; rw [if_neg (by omega), if_neg (by omega)]; simp
  rw [e]; simp
theorem numbers_c : ∀ (w : World) (mean : ExcName → Option Value) (mg mb : Str → Option Value) (dp un : Nat) (gd : Option (List Code)) (cn : Str) (cs : Scope) (a : Addr) (ccd : Value) (cl : List (Str × Addr)) (outer : List Env) (A₀ : Around) (base h₀ : Heap) (L : Addr) (m : Str → Option Value) (news : List (Addr × Obj)) (s : Shared)
    (l pl : Addr) (vs pv : List Value) (ns : List Int) (g : Nat → Int) (Q E : Value → Shared → Prop),
    Below A₀ base outer h₀ → Fr h₀ L s.heap m → (hd2.heap_39 w.params).In h₀ → News h₀ L s.heap news → Top hd2.view_39 (looseW hd2.view_39 []) mean mg mb h₀ → cs.kind = .function → dp < 900 → un < 900 →
    base.IsList l vs.toArray → IntsAre vs ns → ns.length ≤ 63 → (pl, LCg.lst pv) ∈ news → PoolInts pv g →
    (∀ d its e h' tk', IntsAre its.toList ((placesOf ns).map g) → (∀ p ∈ news, p.1 < d) → Fr h₀ L h' m → News h₀ L h' ((d, W.listOf its e) :: news) → Q (.ref d) { s with heap := h', toks := tk' }) →
    wpAny (model PySem.Challenge.rw_dn0116_02.prog w) (ktrTop dp un gd cn cs L a ccd cl outer) (call (.ref 28) [.ref l, .ref pl]) Q E s := by
  k_fill
  intro w mean mg mb dp un gd cn cs a ccd cl outer A₀ base h₀ L m news s l pl vs pv ns g Q E B F X N T hk hd hu hl hI hlen hpl hpool hret
  refine wpAny_call ?_
  w_on
  k_dflt ktr_enter
  k_steps
  refine ⟨?_⟩
  refine For_F (by assumption) (by rfl) (by rfl) ?_
  k_steps
  refine ⟨?_⟩
  rename Below (ktrTop _ _ _ _ _ _ _ _ _ _) _ _ _ => B'
  have hl' := stays_list (Below.stays B') hl
  rename_i d hA l1 hB F1 N1
  have hrest : ∀ p ∈ news, p.1 ≠ d := fun p hp => Nat.ne_of_lt (l1 p hp)
  refine iter_ints_ov (σ := Array Value × List Int × Nat × Option Value) (fun c => [("n", c.2.2.2)]) (fun c => (d, W.listOf c.1 c.2.2.1) :: news) (fun i c => IntsAre c.1.toList c.2.1 ∧ c.2.1 = (placesOf (ns.take i)).map g ∧ c.1.size ≤ 3 * i) (#[], [], 0, none) (by rfl) hl' hI F1 N1 (fun _ h => h) ⟨by rfl, trivial⟩ ⟨.nil, by rfl, by exact Nat.le_refl 0⟩ ?_ ?_
  · rintro i n u ⟨its, xs, e, nv⟩ h tk I oI hn ⟨hint, hxs, hsz⟩ hne F9 N9
    dsimp only at hint hxs hsz hne F9 N9
    have hId : I ≠ d := Ne.symm (hne (d, _) List.mem_cons_self)
    have hi : i < ns.length := by
      rcases Nat.lt_or_ge i ns.length with h | h
      · exact h
      · rw [List.getElem?_eq_none h] at hn; cases hn
    k_steps
    all_goals
      refine TurnSt.next (σ := Array Value × List Int × Nat × Option Value) ⟨_, (placesOf (ns.take (i + 1))).map g, _, _⟩ (by assumption) (by assumption) (by intro p hp; exact hp) ?_ (ovl1_of (by rfl) ?_) ⟨?_, rfl, ?_⟩
      · intro p hp
        rcases List.mem_cons.mp hp with rfl | hp
        · exact Ne.symm hId
        · exact hne p (List.mem_cons_of_mem _ hp)
      · intro y h1 h2
        simp only [ovl, if_neg h1, if_neg h2]
      · dsimp only
        simp only [Array.toList_push, List.concat_eq_append]
        first
          | (rw [← num_step3 hn hxs (by assumption)]; exact intsAre_snoc _ _ (intsAre_snoc _ _ (intsAre_snoc _ _ hint)))
          | (rw [← num_step2 hn hxs (by assumption) (by assumption)]; exact intsAre_snoc _ _ (intsAre_snoc _ _ hint))
          | (rw [← num_step1 hn hxs (by assumption)]; exact intsAre_snoc _ _ hint)
      · dsimp only; simp only [Array.size_push, Array.size, List.length_concat, Array.toList_push, List.length_append, List.length_singleton] at hsz ⊢; omega
  · rintro ⟨its, xs, e, nv⟩ h tk u ⟨hint, hxs, hsz⟩ F9 N9
    dsimp only at hint hxs hsz F9 N9
    rw [List.take_length] at hxs
    subst hxs
    k_steps
    exact hret _ _ _ _ _ hint l1 (by assumption) (by assumption)
end Mine
end

section
namespace Mine
local macro_rules | `(tactic| walk_at "eval ListComp") => `(tactic| k_dflt (refine ListComp_go (by assumption) (by rfl) (by rfl) (by decide) ?_))
local macro_rules | `(tactic| walk_at "call builtin:str.join") => `(tactic| (with_reducible refine Stop.out ?_))
local macro_rules | `(tactic| walk_at "call type:bytes") => `(tactic| (with_reducible refine Stop.out ?_))
def txtOf (ns : List Int) : Str := ⟨(ns.map Int.toNat).toArray⟩
def bytOf (ns : List Int) : Array UInt8 := (ns.map fun n => n.toNat.toUInt8).toArray
theorem strs_snoc (x : Str) (t : Tok) : ∀ {vs : List Value} {ss : List Str}, StrsAre vs ss → StrsAre (vs ++ [.str x t]) (ss ++ [x])
  | _, _, .nil => .cons x t .nil
  | _, _, .cons y u r => .cons y u (strs_snoc x t r)
theorem glue_fold : ∀ (ns : List Int) (acc : List Nat), (ns.map fun n => (⟨#[n.toNat]⟩ : Str)).foldl (fun (a : Array Nat) p => a ++ (Str.ofString "").cps ++ p.cps) acc.toArray = (acc ++ ns.map Int.toNat).toArray
  | [], acc => by simp
  | n :: r, acc => by
    rw [List.map_cons, List.foldl_cons]
    have e : acc.toArray ++ (Str.ofString "").cps ++ (⟨#[n.toNat]⟩ : Str).cps = (acc ++ [n.toNat]).toArray := by
      show acc.toArray ++ #[] ++ #[n.toNat] = _
      simp
    rw [e, glue_fold r]
    simp
theorem join_ones (ns : List Int) : Txt.join (Str.ofString "") (ns.map fun n => (⟨#[n.toNat]⟩ : Str)) = txtOf ns := by
  unfold Txt.join PySem.Builtin.Str.glued txtOf
  cases ns with
  | nil => rfl
  | cons n r =>
    apply congrArg Str.mk
    show (r.map fun n => (⟨#[n.toNat]⟩ : Str)).foldl _ #[n.toNat] = _
    have := glue_fold r [n.toNat]
    simpa using this
theorem sum_ones (ns : List Int) : ((ns.map fun n => (⟨#[n.toNat]⟩ : Str)).map (·.length)).sum = ns.length := by
  induction ns with
  | nil => rfl
  | cons n r ih =>
    rw [List.map_cons, List.map_cons, List.sum_cons, ih, List.length_cons]
    show 1 + r.length = _
    omega
theorem made_c : ∀ (w : World) (mean : ExcName → Option Value) (mg mb : Str → Option Value) (dp un : Nat) (gd : Option (List Code)) (cn : Str) (cs : Scope) (a : Addr) (ccd : Value) (cl : List (Str × Addr)) (outer : List Env) (A₀ : Around) (base h₀ : Heap) (L : Addr) (m : Str → Option Value) (news : List (Addr × Obj)) (s : Shared)
    (d : Addr) (its : Array Value) (e : Nat) (ns : List Int) (b : Bool) (Q E : Value → Shared → Prop),
    Below A₀ base outer h₀ → Fr h₀ L s.heap m → (hd2.heap_39 w.params).In h₀ → News h₀ L s.heap news → Top hd2.view_39 (looseW hd2.view_39 []) mean mg mb h₀ → cs.kind = .function → dp < 900 → un < 900 →
    (d, W.listOf its e) ∈ news → IntsAre its.toList ns → (∀ n ∈ ns, 0 ≤ n ∧ n < 256) → ns.length ≤ 200 →
    (∀ t h' tk', Fr h₀ L h' m → News h₀ L h' news → Q (if b then .str (txtOf ns) t else .bytes (bytOf ns) t) { s with heap := h', toks := tk' }) →
    wpAny (model PySem.Challenge.rw_dn0116_02.prog w) (ktrTop dp un gd cn cs L a ccd cl outer) (call (.ref 33) [.ref d, .bool b]) Q E s := by
  k_fill
  intro w mean mg mb dp un gd cn cs a ccd cl outer A₀ base h₀ L m news s d its e ns b Q E B F X N T hk hd hu hmem hI hr hlen hret
  have hsz : its.size = ns.length := by have := hI.length; simpa using this
  cases b
  · refine wpAny_call ?_
    w_on
    k_dflt ktr_enter
    k_steps
    refine ⟨?_⟩
    refine bytes_K (vs := its.toList) (by assumption) (by assumption) ?hl hI hr (by rw [Array.length_toList, sizeLine_eq]; omega) (by rfl) ?_
    case hl => exact ⟨_, ((by assumption : News _ _ _ news) _ hmem).1, rfl, _, rfl⟩
    intro h4 t4 k4 F4 N4 hB4
    k_steps
    exact hret _ _ _ (by assumption) (by assumption)
  · refine wpAny_call ?_
    k_dflt ktr_enter
    k_steps
    refine CompGo.made (σ := Unit) (its := its) (e := e) (fun _ => _) (fun i _ ys => StrsAre ys ((ns.take i).map fun n => (⟨#[n.toNat]⟩ : Str))) () (by rfl) (fun _ => hmem) (by assumption) (by assumption) (fun _ h => h) (by rw [sizeLine_eq]; omega) .nil (by decide) (by rfl) (by rfl) ?_ ?_
    · intro i v c ys I oI C oC D m₂ h tk E' hcp hR hyl hC hm F1 N1 off dis
      have hcp' : its.toList[i]? = some v := by simpa using hcp
      have hi : i < ns.length := by
        rcases Nat.lt_or_ge i its.size with q | q
        · omega
        · rw [Array.getElem?_eq_none q] at hcp; cases hcp
      obtain ⟨t5, hx⟩ := hI.get i ns[i] (by simp [hi])
      rw [hx] at hcp'
      obtain rfl := Option.some.inj hcp'
      have hrn := hr ns[i] (List.getElem_mem hi)
      refine PySem.wpAny_tests_nil ?_
      rw [if_pos rfl]
      k_steps
      refine CEnd.intro () (by assumption) (by assumption) (fun _ h => h) off ?_
      have e1 : (ns.take (i + 1)).map (fun n => (⟨#[n.toNat]⟩ : Str)) = (ns.take i).map (fun n => (⟨#[n.toNat]⟩ : Str)) ++ [⟨#[ns[i].toNat]⟩] := by
        rw [List.take_add_one, List.getElem?_eq_getElem hi, List.map_append]; rfl
      rw [e1]
      exact strs_snoc _ _ hR
    · intro D c ys hR off
      intro h4 tk4 F4 N4
      rw [hsz, List.take_length] at hR
      k_steps
      refine ⟨?_⟩
      dsimp only [List.cons_append, List.nil_append]
      refine join_list (items := ys.toArray) (News.isList (by assumption) List.mem_cons_self) (by simpa using hR) ?hok ?_
      case hok =>
        rw [sum_ones, List.length_map]
        show ns.length + ns.length * 0 ≤ _
        omega
      intro t5 k5
      rw [join_ones]
      k_steps
      exact hret _ _ _ (by assumption) (fun p hp => (by assumption : News h₀ L _ (_ :: news)) p (List.mem_cons_of_mem _ hp))
end Mine
end

section
namespace Mine
section
variable {prog : Program} {w : World} {A : Around} {E : Value → Shared → Prop} {s : Shared} {h₀ : Heap} {L : Addr} {m : Str → Option Value} {news : List (Addr × Obj)}
theorem ints_item {value slice : PySem.Expr} {d : Addr} {its : Array Value} {e : Nat} {ns : List Int} {i : Nat} {u : Tok} {Q : Value → Shared → Prop} (N : News h₀ L s.heap news) (hm : (d, W.listOf its e) ∈ news) (hI : IntsAre its.toList ns) (hi : i < ns.length) (hb : ns.length ≤ 1000)
    (hs : subscripted slice false (.ref d) (.int (i : Int) u) = operate [.ref d, .int (i : Int) u] (getItem (.ref d) (.int (i : Int) u)))
    (h : ∀ t, Q (.int (ns.getD i 0) t) s) :
    wpAny (model prog w) A (subscriptTail value slice (.ref d) (.int (i : Int) u)) Q E s := by
  obtain ⟨t, ht⟩ := hI.get i ns[i] (by simp [hi])
  have e1 : ns.getD i 0 = ns[i] := by simp [List.getD_eq_getElem?_getD, List.getElem?_eq_getElem hi]
  rw [e1] at h
  refine item_litK (vs := its.toList) (v := .int ns[i] t) ?_ (Int.natCast_nonneg i) (by omega) (by simpa using ht) (h t) hs
  exact ⟨_, (N _ hm).1, rfl, e, by simp⟩
theorem in_ints {d : Addr} {its : Array Value} {e : Nat} {ns : List Int} {k : Int} {u : Tok} {Q : Value → Shared → Prop} (N : News h₀ L s.heap news) (hm : (d, W.listOf its e) ∈ news) (hI : IntsAre its.toList ns)
    (h : Q (.bool (ns.any (· == k))) s) : wpAny (model prog w) A (compareOp .In (.int k u) (.ref d)) Q E s := by
  have hl : s.heap.IsList d its.toList.toArray := ⟨_, (N _ hm).1, rfl, e, by simp⟩
  exact in_list_ints hl hI h
theorem len_ints {d : Addr} {its : Array Value} {e : Nat} {ns : List Int} {Q : Value → Shared → Prop} (N : News h₀ L s.heap news) (hm : (d, W.listOf its e) ∈ news) (hI : IntsAre its.toList ns) (hb : ns.length ≤ 1000)
    (h : ∀ t k, Q (.int (ns.length : Int) t) { s with toks := k }) : wpAny (model prog w) A (call (.builtin "len") [.ref d]) Q E s := by
  have hsz : its.size = ns.length := by have := hI.length; simpa using this
  refine len_list (items := its) ⟨_, (N _ hm).1, rfl, e, rfl⟩ (by omega) ?_
  rw [hsz]; exact h _ _
end
local macro_rules | `(tactic| walk_at "call builtin:len") => `(tactic| ((with_reducible show wpAny _ _ (call (Value.builtin "len") [Value.ref _]) _ _ _); k_dflt (refine len_ints (by with_reducible assumption) (by repeat' first | assumption | refine List.mem_cons_of_mem _ ?_) (by with_reducible assumption) (by assumption) ?_); intro _ _))
local macro_rules | `(tactic| walk_at "TurnSt") => `(tactic| (with_reducible refine TurnSt.ret ?_))
local macro_rules | `(tactic| walk_at "exec For Name Call cons nil") => `(tactic| (with_reducible refine Stop.out ?_))
local macro_rules | `(tactic| walk_at "pyIter ref") => `(tactic| (with_reducible refine Stop.out ?_))
local macro_rules | `(tactic| walk_at "subscriptTail") => `(tactic| ((with_reducible show wpAny _ _ (subscriptTail _ _ (Value.ref _) (Value.int _ _)) _ _ _); k_dflt (refine ints_item (by with_reducible assumption) (by repeat' first | assumption | refine List.mem_cons_of_mem _ ?_) (by with_reducible assumption) (by assumption) (by assumption) (by with_unfolding_all rfl) ?_); intro _))
local macro_rules | `(tactic| walk_at "compareOp In int ref") => `(tactic| k_dflt (refine in_ints (by with_reducible assumption) (by repeat' first | assumption | refine List.mem_cons_of_mem _ ?_) (by with_reducible assumption) ?_))
/-- the law's own walk: where it cuts, and whether the piece is solid -/
def cutAt (ns : List Int) (W : Int → Bool) (e : Int) : Nat → Nat × Bool
  | 0 => (ns.length, false)
  | i + 1 => if W (ns.getD i 0) then (ns.length, false) else if ns.getD i 0 ≠ e then ((cutAt ns W e i).1, true) else if (cutAt ns W e i).2 then (i, true) else ((cutAt ns W e i).1, false)
theorem cutAt_w {ns : List Int} {W : Int → Bool} {e : Int} {i : Nat} (h : W (ns.getD i 0) = true) : cutAt ns W e (i + 1) = (ns.length, false) := by
  rw [cutAt, if_pos h]
theorem cutAt_n {ns : List Int} {W : Int → Bool} {e : Int} {i : Nat} (h : W (ns.getD i 0) = false) (h2 : ns.getD i 0 ≠ e) : cutAt ns W e (i + 1) = ((cutAt ns W e i).1, true) := by
  rw [cutAt, if_neg (by rw [h]; exact Bool.false_ne_true), if_pos h2]
theorem cutAt_c {ns : List Int} {W : Int → Bool} {e : Int} {i : Nat} {so : Bool} (h : W (ns.getD i 0) = false) (h2 : ns.getD i 0 = e) (hs : so = (cutAt ns W e i).2) (h3 : so = true) : cutAt ns W e (i + 1) = (i, true) := by
  rw [cutAt, if_neg (by rw [h]; exact Bool.false_ne_true), if_neg (fun q => q h2), if_pos (by rw [← hs, h3])]
theorem cutAt_s {ns : List Int} {W : Int → Bool} {e : Int} {i : Nat} {so : Bool} (h : W (ns.getD i 0) = false) (h2 : ns.getD i 0 = e) (hs : so = (cutAt ns W e i).2) (h3 : so = false) : cutAt ns W e (i + 1) = ((cutAt ns W e i).1, false) := by
  rw [cutAt, if_neg (by rw [h]; exact Bool.false_ne_true), if_neg (fun q => q h2), if_neg (by rw [← hs, h3]; exact Bool.false_ne_true)]
theorem cut_c : ∀ (w : World) (mean : ExcName → Option Value) (mg mb : Str → Option Value) (dp un : Nat) (gd : Option (List Code)) (cn : Str) (cs : Scope) (a : Addr) (ccd : Value) (cl : List (Str × Addr)) (outer : List Env) (A₀ : Around) (base h₀ : Heap) (L : Addr) (m : Str → Option Value) (news : List (Addr × Obj)) (s : Shared)
    (d wl : Addr) (its wits : Array Value) (e we : Nat) (ns ws : List Int) (ec : Int) (t1 : Tok) (Q E : Value → Shared → Prop),
    Below A₀ base outer h₀ → Fr h₀ L s.heap m → (hd2.heap_39 w.params).In h₀ → News h₀ L s.heap news → Top hd2.view_39 (looseW hd2.view_39 []) mean mg mb h₀ → cs.kind = .function → dp < 900 → un < 900 →
    (d, W.listOf its e) ∈ news → IntsAre its.toList ns → ns.length ≤ 1000 → (wl, W.listOf wits we) ∈ news → IntsAre wits.toList ws →
    (∀ t h' tk', Fr h₀ L h' m → News h₀ L h' news → Q (.int ((cutAt ns (fun x => ws.any (· == x)) ec ns.length).1 : Int) t) { s with heap := h', toks := tk' }) →
    wpAny (model PySem.Challenge.rw_dn0116_02.prog w) (ktrTop dp un gd cn cs L a ccd cl outer) (call (.ref 40) [.ref d, .ref wl, .int ec t1]) Q E s := by
  k_fill
  intro w mean mg mb dp un gd cn cs a ccd cl outer A₀ base h₀ L m news s d wl its wits e we ns ws ec t1 Q E B F X N T hk hd hu hmem hI hlen hwl hWI hret
  have hsz : its.size = ns.length := by have := hI.length; simpa using this
  refine wpAny_call ?_
  w_on
  k_dflt ktr_enter
  k_steps
  refine ⟨?_⟩
  refine For_F (by assumption) (by rfl) (by rfl) ?_
  k_steps
  refine ⟨?_⟩
  rename IsRange _ _ _ _ _ _ _ _ => hrng
  refine iter_range_ov (σ := Nat × Tok × Bool) ns.length (fun c => [("cut", some (.int (c.1 : Int) c.2.1)), ("solid", some (.bool c.2.2))]) (fun _ => news)
    (fun i c => c.1 = (cutAt ns (fun x => ws.any (· == x)) ec i).1 ∧ c.2.2 = (cutAt ns (fun x => ws.any (· == x)) ec i).2) (ns.length, _, false) (by rfl) hrng ?hsmall ?hsize (by assumption) (by assumption) (fun _ h => h) ⟨by rfl, by rfl, trivial⟩ ⟨by rfl, by rfl⟩ ?_ ?_
  case hsmall => exact small_one (by decide) (by decide) (by omega) (by omega)
  case hsize => rw [rangeSize_nat]; omega
  · rintro i u ⟨cu, ct, so⟩ h4 tk4 I oI hi ⟨hcu, hso⟩ hne F4 N4
    dsimp only at hcu hso hne F4 N4
    rw [Int.zero_add] at F4
    k_steps
    all_goals
      refine TurnSt.next (σ := Nat × Tok × Bool) (_, _, _) (by assumption) (by assumption) (by intro p hp; exact hp) hne (ovl2_of (by rfl) (by rfl) ?_) ⟨?_, ?_⟩
      · intro y h1 h2 h3
        simp only [ovl, if_neg h1, if_neg h2, if_neg h3]
      · dsimp only
        first
          | (rw [cutAt_w (W := fun x => ws.any (· == x)) (by assumption)]; done)
          | (rw [cutAt_n (W := fun x => ws.any (· == x)) (by assumption) (by assumption)]; exact hcu)
          | (rw [cutAt_c (W := fun x => ws.any (· == x)) (by assumption) (by assumption) hso (by assumption)]; done)
          | (rw [cutAt_s (W := fun x => ws.any (· == x)) (by assumption) (by assumption) hso (by assumption)]; exact hcu)
      · dsimp only
        first
          | (rw [cutAt_w (W := fun x => ws.any (· == x)) (by assumption)]; done)
          | (rw [cutAt_n (W := fun x => ws.any (· == x)) (by assumption) (by assumption)]; done)
          | (rw [cutAt_c (W := fun x => ws.any (· == x)) (by assumption) (by assumption) hso (by assumption)]; assumption)
          | (rw [cutAt_s (W := fun x => ws.any (· == x)) (by assumption) (by assumption) hso (by assumption)]; assumption)
  · rintro ⟨cu, ct, so⟩ h4 tk4 u ⟨hcu, hso⟩ F4 N4
    dsimp only at hcu hso F4 N4
    subst hcu
    k_steps
    exact hret _ _ _ (by assumption) (by assumption)
end Mine
end

section
namespace Mine
def IsLastI (p : Int → Bool) (ns : List Int) (i : Int) : Prop :=
  -1 ≤ i ∧ (∀ (j : Nat) (c : Int), i < j → ns[j]? = some c → p c = false) ∧ (0 ≤ i → ∃ c, ns[i.toNat]? = some c ∧ p c = true)
theorem isLastI_unique {p : Int → Bool} {ns : List Int} {i j : Int} (h : IsLastI p ns i) (g : IsLastI p ns j) : i = j := by
  obtain ⟨a1, a2, a3⟩ := h
  obtain ⟨b1, b2, b3⟩ := g
  rcases Int.lt_trichotomy i j with q | q | q
  · obtain ⟨c, h1, h2⟩ := b3 (by omega)
    rw [a2 j.toNat c (by omega) h1] at h2; cases h2
  · exact q
  · obtain ⟨c, h1, h2⟩ := a3 (by omega)
    rw [b2 i.toNat c (by omega) h1] at h2; cases h2
theorem isLastI_or {p q : Int → Bool} {ts : List Int} {i j : Int} (hp : IsLastI p ts i) (hq : IsLastI q ts j) : IsLastI (fun x => p x || q x) ts (if j > i then j else i) := by
  obtain ⟨a1, a2, a3⟩ := hp
  obtain ⟨b1, b2, b3⟩ := hq
  split
  · rename_i h
    refine ⟨b1, fun k c hk hc => ?_, fun h0 => ?_⟩
    · show (p c || q c) = false; rw [a2 k c (by omega) hc, b2 k c hk hc]; rfl
    · obtain ⟨c, hc, hc'⟩ := b3 h0
      exact ⟨c, hc, by show (p c || q c) = true; rw [hc']; simp⟩
  · rename_i h
    refine ⟨a1, fun k c hk hc => ?_, fun h0 => ?_⟩
    · show (p c || q c) = false; rw [a2 k c hk hc, b2 k c (by omega) hc]; rfl
    · obtain ⟨c, hc, hc'⟩ := a3 h0
      exact ⟨c, hc, by show (p c || q c) = true; rw [hc']; rfl⟩
theorem isLastI_congr {p q : Int → Bool} {ts : List Int} {i : Int} (h : IsLastI p ts i) (e : ∀ x, p x = q x) : IsLastI q ts i := by
  have : p = q := funext e
  exact this ▸ h

section
variable {ns : List Int} {W : Int → Bool} {e sepi dot : Int}
theorem cut_start (hs : IsLastI W ns sepi) : cutAt ns W e (sepi + 1).toNat = (ns.length, false) := by
  obtain ⟨s1, s2, s3⟩ := hs
  by_cases h : sepi = -1
  · subst h; rfl
  · obtain ⟨c, h1, h2⟩ := s3 (by omega)
    rw [show (sepi + 1).toNat = sepi.toNat + 1 by omega]
    refine cutAt_w ?_
    rw [show ns.getD sepi.toNat 0 = c by simp [List.getD_eq_getElem?_getD, h1]]
    exact h2
theorem getD_of {i : Nat} (h : i < ns.length) : ns[i]? = some (ns.getD i 0) := by
  simp [List.getD_eq_getElem?_getD, List.getElem?_eq_getElem h]
theorem cut_solid (hs : IsLastI W ns sepi) : ∀ k, (sepi + 1).toNat + k ≤ ns.length → ((cutAt ns W e ((sepi + 1).toNat + k)).2 = true ↔ ∃ m, (sepi + 1).toNat ≤ m ∧ m < (sepi + 1).toNat + k ∧ ns.getD m 0 ≠ e)
  | 0, _ => by
    rw [Nat.add_zero, cut_start hs]
    constructor
    · intro h; cases h
    · rintro ⟨m, h1, h2, _⟩; omega
  | k + 1, hk => by
    have ih := cut_solid hs k (by omega)
    have hw : W (ns.getD ((sepi + 1).toNat + k) 0) = false := hs.2.1 ((sepi + 1).toNat + k) _ (by have := hs.1; omega) (getD_of (by omega))
    rw [show (sepi + 1).toNat + (k + 1) = (sepi + 1).toNat + k + 1 by omega]
    by_cases hx : ns.getD ((sepi + 1).toNat + k) 0 = e
    · have step : (cutAt ns W e ((sepi + 1).toNat + k + 1)).2 = (cutAt ns W e ((sepi + 1).toNat + k)).2 := by
        cases hso : (cutAt ns W e ((sepi + 1).toNat + k)).2 with
        | true => rw [cutAt_c hw hx rfl hso]
        | false => rw [cutAt_s hw hx rfl hso]
      rw [step, ih]
      constructor
      · rintro ⟨m, h1, h2, h3⟩; exact ⟨m, h1, by omega, h3⟩
      · rintro ⟨m, h1, h2, h3⟩
        refine ⟨m, h1, ?_, h3⟩
        by_cases hm : m = (sepi + 1).toNat + k
        · subst hm; exact absurd hx h3
        · omega
    · rw [cutAt_n hw hx]
      exact ⟨fun _ => ⟨(sepi + 1).toNat + k, by omega, by omega, hx⟩, fun _ => rfl⟩
theorem cut_yes (hs : IsLastI W ns sepi) (hd : IsLastI (fun x => e == x) ns dot) (hlt : sepi < dot) (hm : ∃ m : Nat, sepi < m ∧ m < dot ∧ ns.getD m 0 ≠ e) : (cutAt ns W e ns.length).1 = dot.toNat := by
  obtain ⟨m, m1, m2, m3⟩ := hm
  have s1 := hs.1
  obtain ⟨c, hc, hce⟩ := hd.2.2 (by omega)
  have hce' : c = e := by simpa using (beq_iff_eq.mp hce).symm
  subst hce'
  have hdl : dot.toNat < ns.length := by
    rcases Nat.lt_or_ge dot.toNat ns.length with q | q
    · exact q
    · rw [List.getElem?_eq_none q] at hc; cases hc
  have hgd : ns.getD dot.toNat 0 = c := by simp [List.getD_eq_getElem?_getD, hc]
  have hw : ∀ j : Nat, sepi < j → j < ns.length → W (ns.getD j 0) = false := fun j h1 h2 => hs.2.1 j _ h1 (getD_of h2)
  have hsolid : (cutAt ns W c dot.toNat).2 = true := by
    have := (cut_solid (e := c) hs (dot.toNat - (sepi + 1).toNat) (by omega)).mpr ⟨m, by omega, by omega, m3⟩
    rwa [show (sepi + 1).toNat + (dot.toNat - (sepi + 1).toNat) = dot.toNat by omega] at this
  have hat : cutAt ns W c (dot.toNat + 1) = (dot.toNat, true) := cutAt_c (hw _ (by omega) hdl) hgd rfl hsolid
  have go : ∀ k, dot.toNat + 1 + k ≤ ns.length → (cutAt ns W c (dot.toNat + 1 + k)).1 = dot.toNat := by
    intro k
    induction k with
    | zero => intro _; rw [Nat.add_zero, hat]
    | succ k ih =>
      intro hk
      have hne : ns.getD (dot.toNat + 1 + k) 0 ≠ c := by
        have := hd.2.1 (dot.toNat + 1 + k) _ (by omega) (getD_of (by omega))
        intro q; rw [q] at this; simp at this
      rw [show dot.toNat + 1 + (k + 1) = dot.toNat + 1 + k + 1 by omega, cutAt_n (hw _ (by omega) (by omega)) hne]
      exact ih (by omega)
  have := go (ns.length - (dot.toNat + 1)) (by omega)
  rwa [show dot.toNat + 1 + (ns.length - (dot.toNat + 1)) = ns.length by omega] at this
theorem cut_no (hs : IsLastI W ns sepi) (hd : IsLastI (fun x => e == x) ns dot) (hn : ¬ (sepi < dot ∧ ∃ m : Nat, sepi < m ∧ m < dot ∧ ns.getD m 0 ≠ e)) : (cutAt ns W e ns.length).1 = ns.length := by
  have s1 := hs.1
  have hsl : (sepi + 1).toNat ≤ ns.length := by
    by_cases h : sepi = -1
    · subst h; exact Nat.zero_le _
    · obtain ⟨c, h1, _⟩ := hs.2.2 (by omega)
      rcases Nat.lt_or_ge sepi.toNat ns.length with q | q
      · omega
      · rw [List.getElem?_eq_none q] at h1; cases h1
  have hw : ∀ j : Nat, sepi < j → j < ns.length → W (ns.getD j 0) = false := fun j h1 h2 => hs.2.1 j _ h1 (getD_of h2)
  have go : ∀ k, (sepi + 1).toNat + k ≤ ns.length → (cutAt ns W e ((sepi + 1).toNat + k)).1 = ns.length := by
    intro k
    induction k with
    | zero => intro _; rw [Nat.add_zero, cut_start hs]
    | succ k ih =>
      intro hk
      have hwk := hw ((sepi + 1).toNat + k) (by omega) (by omega)
      rw [show (sepi + 1).toNat + (k + 1) = (sepi + 1).toNat + k + 1 by omega]
      by_cases hx : ns.getD ((sepi + 1).toNat + k) 0 = e
      · have hso : (cutAt ns W e ((sepi + 1).toNat + k)).2 = false := by
          cases hso : (cutAt ns W e ((sepi + 1).toNat + k)).2 with
          | false => rfl
          | true =>
            exfalso
            obtain ⟨m, h1, h2, h3⟩ := (cut_solid hs k (by omega)).mp hso
            have hle : (((sepi + 1).toNat + k : Nat) : Int) ≤ dot := by
              rcases Int.lt_or_le dot (((sepi + 1).toNat + k : Nat) : Int) with q | q
              · have := hd.2.1 _ _ q (getD_of (by omega))
                rw [hx] at this; simp at this
              · exact q
            exact hn ⟨by omega, m, by omega, by omega, h3⟩
        rw [cutAt_s hwk hx rfl hso]
        exact ih (by omega)
      · rw [cutAt_n hwk hx]
        exact ih (by omega)
  have := go (ns.length - (sepi + 1).toNat) (by omega)
  rwa [show (sepi + 1).toNat + (ns.length - (sepi + 1).toNat) = ns.length by omega] at this
end
end Mine
end

section
namespace Mine
def Octets (ns : List Int) : Prop := ∀ n ∈ ns, 0 ≤ n ∧ n < 256
theorem Octets.at {ns : List Int} (h : Octets ns) {i : Nat} {c : Int} (hc : ns[i]? = some c) : 0 ≤ c ∧ c < 256 := h c (List.mem_of_getElem? hc)
theorem Octets.take {ns : List Int} (h : Octets ns) (k : Nat) : Octets (ns.take k) := fun n hn => h n (List.mem_of_mem_take hn)
theorem Octets.drop {ns : List Int} (h : Octets ns) (k : Nat) : Octets (ns.drop k) := fun n hn => h n (List.mem_of_mem_drop hn)
-- texts
theorem txt_list (ns : List Int) : (txtOf ns).cps.toList = ns.map Int.toNat := rfl
theorem txt_len (ns : List Int) : (txtOf ns).length = ns.length := by simp [txtOf, Str.length]
theorem txt_rfind {ns : List Int} {c : Int} (ho : Octets ns) (hc : 0 ≤ c) : IsLastI (fun x => c == x) ns (Txt.rfind (txtOf ns) (txtOf [c])) := by
  have e : txtOf [c] = ⟨#[c.toNat]⟩ := rfl
  rw [e, rfind_one, txt_list]
  obtain ⟨a1, a2, a3⟩ := isLast_one c.toNat (ns.map Int.toNat)
  refine ⟨a1, fun j d hj hd => ?_, fun h0 => ?_⟩
  · have := a2 j d.toNat hj (by rw [List.getElem?_map, hd]; rfl)
    have hd' := ho.at hd
    by_cases h : c = d
    · subst h; simp at this
    · simpa using h
  · obtain ⟨d, hd, hd'⟩ := a3 h0
    rw [List.getElem?_map] at hd
    cases hx : ns[(lastIx c.toNat (ns.map Int.toNat)).toNat]? with
    | none => rw [hx] at hd; cases hd
    | some y =>
      rw [hx] at hd
      have hy := ho.at hx
      have : y.toNat = d := by simpa using hd
      have h2 : c.toNat = d := by simpa using hd'
      exact ⟨y, rfl, by have : c = y := by omega
                        simpa using this⟩
theorem txt_to (ns : List Int) (k : Nat) (h : k ≤ ns.length) : Txt.slice (txtOf ns) none (some (k : Int)) = txtOf (ns.take k) := by
  rw [slice_to _ k (by rw [txt_len]; exact h), txt_list, txtOf, List.map_take]
theorem txt_from (ns : List Int) (k : Nat) (h : k ≤ ns.length) : Txt.slice (txtOf ns) (some (k : Int)) none = txtOf (ns.drop k) := by
  rw [slice_from _ k (by rw [txt_len]; exact h), txt_list, txtOf, List.map_drop]
theorem txt_one {ns : List Int} {e : Int} (ho : Octets ns) (he : 0 ≤ e) (i : Nat) (h : i < ns.length) : Txt.slice (txtOf ns) (some (i : Int)) (some ((i : Int) + 1)) ≠ txtOf [e] ↔ ns.getD i 0 ≠ e := by
  rw [slice_one _ i (by rw [txt_len]; exact h)]
  have hg := getD_of h
  have hn := ho.at hg
  have e1 : (txtOf ns).cps.toList[i]'(by rw [txt_list, List.length_map]; exact h) = (ns.getD i 0).toNat := by
    have : (txtOf ns).cps.toList[i]? = some (ns.getD i 0).toNat := by rw [txt_list, List.getElem?_map, hg]; rfl
    rw [List.getElem?_eq_getElem (by rw [txt_list, List.length_map]; exact h)] at this
    exact Option.some.inj this
  rw [e1]
  show ¬ ((⟨#[(ns.getD i 0).toNat]⟩ : Str) = ⟨#[e.toNat]⟩) ↔ _
  rw [mk1]
  omega
-- octets
theorem toUInt8_back {n : Int} (h : 0 ≤ n ∧ n < 256) : ((n.toNat.toUInt8.toNat : Nat) : Int) = n := by
  have : n.toNat < 256 := by omega
  simp [Nat.toUInt8, UInt8.toNat_ofNat]
  omega
theorem byt_ints {ns : List Int} (ho : Octets ns) : KBw.bInts (bytOf ns) = ns := by
  unfold KBw.bInts bytOf
  simp only [List.map_map]
  conv => rhs; rw [← List.map_id ns]
  apply List.map_congr_left
  intro n hn
  exact toUInt8_back (ho n hn)
theorem bInts_inj {a b : Array UInt8} (h : KBw.bInts a = KBw.bInts b) : a = b := by
  unfold KBw.bInts at h
  apply Array.toList_inj.mp
  have inj : Function.Injective (fun c : UInt8 => (c.toNat : Int)) := by
    intro x y hxy
    have : x.toNat = y.toNat := Int.ofNat_inj.mp hxy
    exact UInt8.toNat_inj.mp this
  exact (List.map_inj_right (fun x y hxy => inj hxy)).mp h
theorem byt_len (ns : List Int) : (bytOf ns).size = ns.length := by simp [bytOf]
theorem byt_pick {ns : List Int} (ho : Octets ns) (lo hi : Option Int) (xs : List Int) (hx : Octets xs) (e : (ns.drop (lo.elim 0 (clipAt ns.length))).take (hi.elim ns.length (clipAt ns.length) - lo.elim 0 (clipAt ns.length)) = xs) : KBy.picked (bytOf ns) lo hi = bytOf xs := by
  apply bInts_inj
  rw [KBc.ints_picked (byt_ints ho), byt_ints hx, e]
theorem byt_to {ns : List Int} (ho : Octets ns) (k : Nat) (h : k ≤ ns.length) : KBy.picked (bytOf ns) none (some (k : Int)) = bytOf (ns.take k) := by
  refine byt_pick ho _ _ _ (ho.take k) ?_
  simp only [Option.elim, clipAt_nat, List.drop_zero, Nat.sub_zero]
  rw [Nat.min_eq_left h]
theorem byt_from {ns : List Int} (ho : Octets ns) (k : Nat) (h : k ≤ ns.length) : KBy.picked (bytOf ns) (some (k : Int)) none = bytOf (ns.drop k) := by
  refine byt_pick ho _ _ _ (ho.drop k) ?_
  simp only [Option.elim, clipAt_nat]
  rw [Nat.min_eq_left h]
  apply List.take_of_length_le
  simp
theorem byt_one {ns : List Int} {e : Int} (ho : Octets ns) (he : 0 ≤ e ∧ e < 256) (i : Nat) (h : i < ns.length) : KBy.picked (bytOf ns) (some (i : Int)) (some ((i : Int) + 1)) ≠ bytOf [e] ↔ ns.getD i 0 ≠ e := by
  have hg := getD_of h
  have e1 : KBy.picked (bytOf ns) (some (i : Int)) (some ((i : Int) + 1)) = bytOf [ns.getD i 0] := by
    refine byt_pick ho _ _ _ (fun n hn => by rw [List.mem_singleton.mp hn]; exact ho.at hg) ?_
    simp only [Option.elim, clipAt_nat]
    rw [show ((i : Int) + 1) = ((i + 1 : Nat) : Int) by omega, clipAt_nat, Nat.min_eq_left (by omega), Nat.min_eq_left (by omega), show i + 1 - i = 1 by omega, List.drop_eq_getElem_cons h, List.take_succ_cons, List.take_zero]
    simp [List.getD_eq_getElem?_getD, List.getElem?_eq_getElem h]
  rw [e1]
  constructor
  · intro hne q; exact hne (by rw [q])
  · intro hne q
    have h1 := congrArg KBw.bInts q
    rw [byt_ints (fun n hn => by rw [List.mem_singleton.mp hn]; exact ho.at hg), byt_ints (fun n hn => by rw [List.mem_singleton.mp hn]; exact he)] at h1
    exact hne (by simpa using h1)
theorem find_last (p : Nat → Bool) : ∀ n, ((List.range n).reverse.find? p = none ∧ ∀ j, j < n → p j = false) ∨ ∃ k, (List.range n).reverse.find? p = some k ∧ k < n ∧ p k = true ∧ ∀ j, k < j → j < n → p j = false
  | 0 => .inl ⟨rfl, fun j h => absurd h (Nat.not_lt_zero _)⟩
  | n + 1 => by
    rw [List.range_succ, List.reverse_append]
    show (List.find? p (n :: (List.range n).reverse) = none ∧ _) ∨ ∃ k, List.find? p (n :: (List.range n).reverse) = some k ∧ _
    by_cases hn : p n = true
    · rw [List.find?_cons_of_pos hn]
      exact .inr ⟨n, rfl, by omega, hn, fun j h1 h2 => by omega⟩
    · rw [List.find?_cons_of_neg hn]
      have hn' : p n = false := by simpa using hn
      rcases find_last p n with ⟨h1, h2⟩ | ⟨k, h1, h2, h3, h4⟩
      · refine .inl ⟨h1, fun j hj => ?_⟩
        by_cases q : j = n
        · subst q; exact hn'
        · exact h2 j (by omega)
      · refine .inr ⟨k, h1, by omega, h3, fun j g1 g2 => ?_⟩
        by_cases q : j = n
        · subst q; exact hn'
        · exact h4 j g1 (by omega)
theorem byt_at {ns : List Int} {c : Int} (ho : Octets ns) (hc : 0 ≤ c ∧ c < 256) (i : Nat) (h : i < ns.length) : ((bytOf ns).extract i (i + (bytOf [c]).size) == bytOf [c]) = (c == ns.getD i 0) := by
  have hg := getD_of h
  have hs : (bytOf [c]).size = 1 := rfl
  rw [hs]
  have e1 : (bytOf ns).extract i (i + 1) = bytOf [ns.getD i 0] := by
    apply Array.toList_inj.mp
    simp only [Array.toList_extract, bytOf, List.extract_eq_take_drop, List.map_cons, List.map_nil]
    rw [show i + 1 - i = 1 by omega, List.drop_eq_getElem_cons (by simpa using h)]
    simp [List.getD_eq_getElem?_getD, List.getElem?_eq_getElem h]
  rw [e1]
  by_cases q : c = ns.getD i 0
  · rw [← q]; simp
  · have : bytOf [ns.getD i 0] ≠ bytOf [c] := by
      intro r
      have h1 := congrArg KBw.bInts r
      rw [byt_ints (fun n hn => by rw [List.mem_singleton.mp hn]; exact ho.at hg), byt_ints (fun n hn => by rw [List.mem_singleton.mp hn]; exact hc)] at h1
      exact q (by simpa using h1.symm)
    rw [beq_eq_false_iff_ne.mpr this, beq_eq_false_iff_ne.mpr q]
theorem byt_rfind {ns : List Int} {c : Int} (ho : Octets ns) (hc : 0 ≤ c ∧ c < 256) : IsLastI (fun x => c == x) ns (bfind (bytOf ns) (bytOf [c])) := by
  unfold bfind
  have hs : (bytOf [c]).size = 1 := rfl
  by_cases h0 : ((bytOf ns).size : Int) < ((bytOf [c]).size : Int)
  · rw [if_pos h0]
    rw [byt_len, hs] at h0
    have hz : ns.length = 0 := by omega
    have : ns = [] := List.length_eq_zero_iff.mp hz
    subst this
    exact ⟨by decide, fun j c _ h => by simp at h, fun h => by simp at h⟩
  · rw [if_neg h0]
    have e : PySem.Builtin.Bytes.rfind? (bytOf ns) (bytOf [c]) 0 (bytOf ns).size = (List.range ns.length).reverse.find? fun i => (bytOf ns).extract i (i + (bytOf [c]).size) == bytOf [c] := by
      unfold PySem.Builtin.Bytes.rfind?
      rw [hs, byt_len]
      simp
    rw [e]
    rcases find_last (fun i => (bytOf ns).extract i (i + (bytOf [c]).size) == bytOf [c]) ns.length with ⟨h1, h2⟩ | ⟨k, h1, h2, h3, h4⟩
    · rw [h1]
      refine ⟨by decide, fun j d hj hd => ?_, fun h => by simp at h⟩
      have hlt : j < ns.length := by
        rcases Nat.lt_or_ge j ns.length with q | q
        · exact q
        · rw [List.getElem?_eq_none q] at hd; cases hd
      have := h2 j hlt
      rw [byt_at ho hc j hlt] at this
      have hdd : ns.getD j 0 = d := by simp [List.getD_eq_getElem?_getD, hd]
      rwa [hdd] at this
    · rw [h1]
      refine ⟨by show (-1 : Int) ≤ (k : Int); omega, fun j d hj hd => ?_, fun _ => ?_⟩
      · have hlt : j < ns.length := by
          rcases Nat.lt_or_ge j ns.length with q | q
          · exact q
          · rw [List.getElem?_eq_none q] at hd; cases hd
        have hkj : k < j := by have : (k : Int) < (j : Int) := hj; omega
        have := h4 j hkj hlt
        rw [byt_at ho hc j hlt] at this
        have hdd : ns.getD j 0 = d := by simp [List.getD_eq_getElem?_getD, hd]
        rwa [hdd] at this
      · rw [byt_at ho hc k h2] at h3
        exact ⟨ns.getD k 0, getD_of h2, h3⟩
end Mine
end

section
namespace Mine
abbrev mkV (b : Bool) (ns : List Int) (t : Tok) : Value := if b then .str (txtOf ns) t else .bytes (bytOf ns) t
def isWall (sc : Int) (wall : List Int) (x : Int) : Bool := ([sc] ++ wall).any (· == x)
theorem end_s {nums : List Int} {W : Int → Bool} {ec sepi : Int} {a b : Str} (ho : Octets nums) (he : 0 ≤ ec) (hl : IsLastI W nums sepi) (hsp : SplitSpec (txtOf nums) sepi (Txt.rfind (txtOf nums) (txtOf [ec])) (txtOf [ec]) a b) :
    a = txtOf (nums.take (cutAt nums W ec nums.length).1) ∧ b = txtOf (nums.drop (cutAt nums W ec nums.length).1) := by
  have hd := txt_rfind ho he
  revert hsp hd
  generalize Txt.rfind (txtOf nums) (txtOf [ec]) = dot
  intro hsp hd
  have hdl : dot < nums.length := by
    by_cases h : 0 ≤ dot
    · obtain ⟨c, h1, _⟩ := hd.2.2 h
      rcases Nat.lt_or_ge dot.toNat nums.length with q | q
      · omega
      · rw [List.getElem?_eq_none q] at h1; cases h1
    · omega
  have hs1 := hl.1
  have conv : (∃ i : Int, sepi + 1 ≤ i ∧ i < dot ∧ Txt.slice (txtOf nums) (some i) (some (i + 1)) ≠ txtOf [ec]) ↔ ∃ m : Nat, sepi < m ∧ m < dot ∧ nums.getD m 0 ≠ ec := by
    constructor
    · rintro ⟨i, h1, h2, h3⟩
      obtain ⟨k, rfl⟩ : ∃ k : Nat, i = k := ⟨i.toNat, by omega⟩
      exact ⟨k, by omega, h2, (txt_one ho he k (by omega)).mp h3⟩
    · rintro ⟨m, h1, h2, h3⟩
      exact ⟨m, by omega, h2, (txt_one ho he m (by omega)).mpr h3⟩
  rcases hsp with ⟨h1, h2, ha, hb⟩ | ⟨h1, ha, hb⟩
  · rw [cut_yes hl hd h1 (conv.mp h2), ha, hb]
    obtain ⟨k, rfl⟩ : ∃ k : Nat, dot = k := ⟨dot.toNat, by omega⟩
    exact ⟨txt_to nums k (by omega), txt_from nums k (by omega)⟩
  · rw [cut_no hl hd (fun h => h1 ⟨h.1, conv.mpr h.2⟩), ha, hb]
    refine ⟨by rw [List.take_length], ?_⟩
    have := txt_to nums 0 (Nat.zero_le _)
    rw [List.drop_length]
    simpa using this
theorem end_b {nums : List Int} {W : Int → Bool} {ec sepi : Int} {a b : Array UInt8} (ho : Octets nums) (he : 0 ≤ ec ∧ ec < 256) (hl : IsLastI W nums sepi) (hsp : SplitSpecB (bytOf nums) sepi (bfind (bytOf nums) (bytOf [ec])) (bytOf [ec]) a b) :
    a = bytOf (nums.take (cutAt nums W ec nums.length).1) ∧ b = bytOf (nums.drop (cutAt nums W ec nums.length).1) := by
  have hd := byt_rfind ho he
  revert hsp hd
  generalize bfind (bytOf nums) (bytOf [ec]) = dot
  intro hsp hd
  have hdl : dot < nums.length := by
    by_cases h : 0 ≤ dot
    · obtain ⟨c, h1, _⟩ := hd.2.2 h
      rcases Nat.lt_or_ge dot.toNat nums.length with q | q
      · omega
      · rw [List.getElem?_eq_none q] at h1; cases h1
    · omega
  have hs1 := hl.1
  have conv : (∃ i : Int, sepi + 1 ≤ i ∧ i < dot ∧ KBy.picked (bytOf nums) (some i) (some (i + 1)) ≠ bytOf [ec]) ↔ ∃ m : Nat, sepi < m ∧ m < dot ∧ nums.getD m 0 ≠ ec := by
    constructor
    · rintro ⟨i, h1, h2, h3⟩
      obtain ⟨k, rfl⟩ : ∃ k : Nat, i = k := ⟨i.toNat, by omega⟩
      exact ⟨k, by omega, h2, (byt_one ho he k (by omega)).mp h3⟩
    · rintro ⟨m, h1, h2, h3⟩
      exact ⟨m, by omega, h2, (byt_one ho he m (by omega)).mpr h3⟩
  rcases hsp with ⟨h1, h2, ha, hb⟩ | ⟨h1, ha, hb⟩
  · rw [cut_yes hl hd h1 (conv.mp h2), ha, hb]
    obtain ⟨k, rfl⟩ : ∃ k : Nat, dot = k := ⟨dot.toNat, by omega⟩
    exact ⟨byt_to ho k (by omega), byt_from ho k (by omega)⟩
  · rw [cut_no hl hd (fun h => h1 ⟨h.1, conv.mpr h.2⟩), ha, hb]
    refine ⟨by rw [List.take_length], ?_⟩
    have := byt_to ho 0 (Nat.zero_le _)
    rw [List.drop_length]
    simpa using this
theorem wall0 (sc x : Int) : (sc == x) = isWall sc [] x := by simp [isWall]
theorem wall1 (sc c x : Int) : (sc == x || c == x) = isWall sc [c] x := by simp [isWall]
theorem splitext_all : ∀ (w : World) (mean : ExcName → Option Value) (mg mb : Str → Option Value) (dp un : Nat) (gd : Option (List Code)) (cn : Str) (cs : Scope) (a : Addr) (ccd : Value) (cl : List (Str × Addr)) (outer : List Env) (A₀ : Around) (base h₀ : Heap) (L : Addr) (m : Str → Option Value) (news : List (Addr × Obj)) (s : Shared)
    (nums wall : List Int) (sc ec : Int) (b ss sa es : Bool) (alt : Value) (t1 t2 t3 : Tok) (Q E : Value → Shared → Prop),
    Below A₀ base outer h₀ → Fr h₀ L s.heap m → (hd2.heap_39 w.params).In h₀ → News h₀ L s.heap news → Top hd2.view_39 (looseW hd2.view_39 []) mean mg mb h₀ → cs.kind = .function → dp < 900 → un < 900 →
    Octets nums → nums.length ≤ 200 → 0 ≤ sc ∧ sc < 256 → 0 ≤ ec ∧ ec < 256 → (wall = [] ∨ ∃ c, wall = [c] ∧ 0 ≤ c ∧ c < 256) → ((alt = .none ∧ wall = []) ∨ ∃ u, alt = mkV (b != sa) wall u) →
    ((ss || es || (sa && !wall.isEmpty)) = false → ∀ t ta tb h' tk', Fr h₀ L h' m → News h₀ L h' ((t, tupObj [mkV b (nums.take (cutAt nums (isWall sc wall) ec nums.length).1) ta, mkV b (nums.drop (cutAt nums (isWall sc wall) ec nums.length).1) tb]) :: news) → (∀ q ∈ news, q.1 < t) → Q (.ref t) { s with heap := h', toks := tk' }) →
    ((ss || es || (sa && !wall.isEmpty)) = true → ∀ e g h' tk', Fr h₀ L g m → g.UpToSlots h' → RaisedN base (envX cn cs L a ccd cl :: outer) e (.type "TypeError") news h' → E (.ref e) { s with heap := h', toks := tk' }) →
    wpAny (model PySem.Challenge.rw_dn0116_02.prog w) (ktrTop dp un gd cn cs L a ccd cl outer) (call (.ref 21) [mkV b nums t1, mkV (b != ss) [sc] t2, alt, mkV (b != es) [ec] t3]) Q E s := by
  intro w mean mg mb dp un gd cn cs a ccd cl outer A₀ base h₀ L m news s nums wall sc ec b ss sa es alt t1 t2 t3 Q E B F X N T hk hd hu ho hlen hsc hec hwall halt hret hraise
  have tl : (txtOf nums).length ≤ 1000000 := by rw [txt_len]; omega
  have raise : ∀ p sep alt ext, Mixed p sep alt ext → (ss || es || (sa && !wall.isEmpty)) = true → wpAny (model PySem.Challenge.rw_dn0116_02.prog w) (ktrTop dp un gd cn cs L a ccd cl outer) (call (.ref 21) [p, sep, alt, ext]) Q E s :=
    fun p sep alt ext hm hx => splitext_r w mean mg mb dp un gd cn cs a ccd cl outer A₀ base h₀ L m news s p sep alt ext Q E B F X N T hk hd hu hm (hraise hx)
  have goS : ∀ alt, b = true → (ss || es || (sa && !wall.isEmpty)) = false → (alt = .none ∨ (∃ u, alt = .bytes #[] u) ∨ ∃ y u, alt = .str y u ∧ y.length ≤ 1000000) → (∀ i, AltIx (txtOf nums) (txtOf [sc]) alt i → IsLastI (isWall sc wall) nums i) →
      wpAny (model PySem.Challenge.rw_dn0116_02.prog w) (ktrTop dp un gd cn cs L a ccd cl outer) (call (.ref 21) [.str (txtOf nums) t1, .str (txtOf [sc]) t2, alt, .str (txtOf [ec]) t3]) Q E s := by
    intro alt hb hx hal hix
    refine splitext_s w mean mg mb dp un gd cn cs a ccd cl outer A₀ base h₀ L m news s (txtOf nums) (txtOf [sc]) (txtOf [ec]) alt t1 t2 t3 Q E B F X N T hk hd hu tl hal ?_
    intro sepi t a' b' ta tb h' tk' hi hsp F' N' hlt
    obtain ⟨e1, e2⟩ := end_s ho hec.1 (hix sepi hi) hsp
    subst e1 e2 hb
    exact hret hx t ta tb h' tk' F' N' hlt
  have goB : ∀ alt, b = false → (ss || es || (sa && !wall.isEmpty)) = false → (alt = .none ∨ (∃ u, alt = .str ⟨#[]⟩ u) ∨ ∃ y u, alt = .bytes y u ∧ y.size ≤ 1000) → (∀ i, AltIxB (bytOf nums) (bytOf [sc]) alt i → IsLastI (isWall sc wall) nums i) →
      wpAny (model PySem.Challenge.rw_dn0116_02.prog w) (ktrTop dp un gd cn cs L a ccd cl outer) (call (.ref 21) [.bytes (bytOf nums) t1, .bytes (bytOf [sc]) t2, alt, .bytes (bytOf [ec]) t3]) Q E s := by
    intro alt hb hx hal hix
    refine splitext_b w mean mg mb dp un gd cn cs a ccd cl outer A₀ base h₀ L m news s (bytOf nums) (bytOf [sc]) (bytOf [ec]) nums alt t1 t2 t3 Q E B F X N T hk hd hu (byt_ints ho) (by omega) hal ?_
    intro sepi t a' b' ta tb h' tk' hi hsp F' N' hlt
    obtain ⟨e1, e2⟩ := end_b ho hec (hix sepi hi) hsp
    subst e1 e2 hb
    exact hret hx t ta tb h' tk' F' N' hlt
  have ixS0 : ∀ i, i = Txt.rfind (txtOf nums) (txtOf [sc]) → IsLastI (isWall sc []) nums i := fun i hi => hi ▸ isLastI_congr (txt_rfind ho hsc.1) (wall0 sc)
  have ixB0 : ∀ i, i = bfind (bytOf nums) (bytOf [sc]) → IsLastI (isWall sc []) nums i := fun i hi => hi ▸ isLastI_congr (byt_rfind ho hsc) (wall0 sc)
  cases ss with
  | true =>
    cases b with
    | true => exact raise _ _ _ _ (.sepT _ _ _ _ _ _) (by simp)
    | false => exact raise _ _ _ _ (.sepB _ _ _ _ _ _) (by simp)
  | false =>
    rcases halt with ⟨rfl, rfl⟩ | ⟨u, rfl⟩
    · cases es with
      | true =>
        cases b with
        | true => exact raise _ _ _ _ (.extT _ _ _ _ _ _ _ (.inl rfl)) (by simp)
        | false => exact raise _ _ _ _ (.extB _ _ _ _ _ _ _ (.inl rfl)) (by simp)
      | false =>
        cases b with
        | true => exact goS _ rfl (by simp) (.inl rfl) (fun i hi => ixS0 i hi)
        | false => exact goB _ rfl (by simp) (.inl rfl) (fun i hi => ixB0 i hi)
    · rcases hwall with rfl | ⟨c, rfl, hc⟩
      · cases es with
        | true =>
          cases b with
          | true =>
            cases sa with
            | true => exact raise _ _ _ _ (.extT _ _ _ _ _ _ _ (.inr (.inl ⟨u, rfl⟩))) (by simp)
            | false => exact raise _ _ _ _ (.extT _ _ _ _ _ _ _ (.inr (.inr ⟨_, u, rfl, Nat.zero_le _⟩))) (by simp)
          | false =>
            cases sa with
            | true => exact raise _ _ _ _ (.extB _ _ _ _ _ _ _ (.inr (.inl ⟨u, rfl⟩))) (by simp)
            | false => exact raise _ _ _ _ (.extB _ _ _ _ _ _ _ (.inr (.inr ⟨_, u, rfl, Nat.zero_le _⟩))) (by simp)
        | false =>
          cases b with
          | true =>
            cases sa with
            | true => exact goS _ rfl (by simp) (.inr (.inl ⟨u, rfl⟩)) (fun i hi => ixS0 i hi)
            | false => exact goS _ rfl (by simp) (.inr (.inr ⟨_, u, rfl, Nat.zero_le _⟩)) (fun i hi => ixS0 i hi)
          | false =>
            cases sa with
            | true => exact goB _ rfl (by simp) (.inr (.inl ⟨u, rfl⟩)) (fun i hi => ixB0 i hi)
            | false => exact goB _ rfl (by simp) (.inr (.inr ⟨_, u, rfl, Nat.zero_le _⟩)) (fun i hi => ixB0 i hi)
      · cases sa with
        | true =>
          cases b with
          | true => exact raise _ _ _ _ (.altT _ _ _ _ _ _ _ (by show (1 : Nat) ≠ 0; decide) (by show (1 : Nat) ≤ 1000; decide)) (by simp)
          | false => exact raise _ _ _ _ (.altB _ _ _ _ _ _ _ (by show (1 : Nat) ≠ 0; decide) (by show (1 : Nat) ≤ 1000; decide)) (by simp)
        | false =>
          cases es with
          | true =>
            cases b with
            | true => exact raise _ _ _ _ (.extT _ _ _ _ _ _ _ (.inr (.inr ⟨_, u, rfl, by show (1 : Nat) ≤ 1000; decide⟩))) (by simp)
            | false => exact raise _ _ _ _ (.extB _ _ _ _ _ _ _ (.inr (.inr ⟨_, u, rfl, by show (1 : Nat) ≤ 1000; decide⟩))) (by simp)
          | false =>
            cases b with
            | true =>
              refine goS _ rfl (by simp) (.inr (.inr ⟨_, u, rfl, by show (1 : Nat) ≤ 1000000; decide⟩)) (fun i hi => ?_)
              have hi' : i = (if Txt.rfind (txtOf nums) (txtOf [c]) > Txt.rfind (txtOf nums) (txtOf [sc]) then Txt.rfind (txtOf nums) (txtOf [c]) else Txt.rfind (txtOf nums) (txtOf [sc])) := hi
              rw [hi']
              exact isLastI_congr (isLastI_or (txt_rfind ho hsc.1) (txt_rfind ho hc.1)) (wall1 sc c)
            | false =>
              refine goB _ rfl (by simp) (.inr (.inr ⟨_, u, rfl, by show (1 : Nat) ≤ 1000; decide⟩)) (fun i hi => ?_)
              have hi' : i = (if bfind (bytOf nums) (bytOf [c]) > bfind (bytOf nums) (bytOf [sc]) then bfind (bytOf nums) (bytOf [c]) else bfind (bytOf nums) (bytOf [sc])) := hi
              rw [hi']
              exact isLastI_congr (isLastI_or (byt_rfind ho hsc) (byt_rfind ho hc)) (wall1 sc c)
end Mine
end

section
namespace Mine
/-- what joined ways leave: a value of a kind, the frame and the ledger -/
def JPost (h₀ : Heap) (L : Addr) (m : Str → Option Value) (news : List (Addr × Obj)) (P : Value → Prop) (s : Shared) (v : Value) (s' : Shared) : Prop :=
  ∃ h' k news', s' = { s with heap := h', toks := k } ∧ Fr h₀ L h' m ∧ News h₀ L h' news' ∧ (∀ p ∈ news, p ∈ news') ∧ P v
def WPost (h₀ : Heap) (L : Addr) (m : Str → Option Value) (news : List (Addr × Obj)) (P : List Int → Prop) (s : Shared) (v : Value) (s' : Shared) : Prop :=
  ∃ d its wall h' k, v = .ref d ∧ s' = { s with heap := h', toks := k } ∧ Fr h₀ L h' m ∧ News h₀ L h' ((d, W.listOf its 0) :: news) ∧ IntsAre its.toList wall ∧ P wall
section
variable {prog : Program} {w : World} {A : Around} {E : Value → Shared → Prop} {s : Shared} {h₀ : Heap} {L : Addr} {m : Str → Option Value} {news : List (Addr × Obj)} {Q : Value → Shared → Prop} {t : Sem Value}
theorem join_val (P : Value → Prop) (F : Fr h₀ L s.heap m) (N : News h₀ L s.heap news) (h1 : wpAny (model prog w) A t (JPost h₀ L m news P s) E s)
    (h2 : ∀ v h' k, P v → Fr h₀ L h' m → News h₀ L h' news → Q v { s with heap := h', toks := k }) : wpAny (model prog w) A t Q E s := by
  refine wpAny_mono h1 ?_ fun _ _ e => e
  rintro v s' ⟨h', k, news', rfl, F', N', sub, hP⟩
  exact h2 v h' k hP F' fun p hp => N' p (sub p hp)
def PW (X : Int) (wall : List Int) : Prop := (wall = [] ∨ ∃ c, wall = [c] ∧ 0 ≤ c ∧ c < 256) ∧ (X < 2 → wall = [])
theorem join_wall {X : Int} {u : Tok} (F : Fr h₀ L s.heap m) (N : News h₀ L s.heap news) (hX : m (Str.ofString "choice") = some (.int X u)) (h1 : wpAny (model prog w) A t (WPost h₀ L m news (PW X) s) E s)
    (h2 : ∀ d its wall h' k, PW X wall → IntsAre its.toList wall → Fr h₀ L h' m → News h₀ L h' ((d, W.listOf its 0) :: news) → Q (.ref d) { s with heap := h', toks := k }) : wpAny (model prog w) A t Q E s := by
  refine wpAny_mono h1 ?_ fun _ _ e => e
  rintro v s' ⟨d, its, wall, h', k, rfl, rfl, F', N', hI, hP⟩
  exact h2 d its wall h' k hP hI F' N'
theorem join_alt {b sa : Bool} (wall : List Int) (F : Fr h₀ L s.heap m) (N : News h₀ L s.heap news) (hb : m (Str.ofString "as_text") = some (.bool b)) (ha : m (Str.ofString "altsep_strange") = some (.bool sa)) (h1 : wpAny (model prog w) A t (JPost h₀ L m news (fun v => (v = .none ∧ wall = []) ∨ ∃ u, v = mkV (b != sa) wall u) s) E s)
    (h2 : ∀ v h' k, ((v = .none ∧ wall = []) ∨ ∃ u, v = mkV (b != sa) wall u) → Fr h₀ L h' m → News h₀ L h' news → Q v { s with heap := h', toks := k }) : wpAny (model prog w) A t Q E s := join_val _ F N h1 h2
theorem join_mix {ss es sa : Bool} (wall : List Int) (F : Fr h₀ L s.heap m) (N : News h₀ L s.heap news) (hb : m (Str.ofString "sep_strange") = some (.bool ss)) (he : m (Str.ofString "extsep_strange") = some (.bool es)) (ha : m (Str.ofString "altsep_strange") = some (.bool sa)) (h1 : wpAny (model prog w) A t (JPost h₀ L m news (fun v => v = .bool (ss || es || (sa && !wall.isEmpty))) s) E s)
    (h2 : ∀ mx h' k, (ss || es || (sa && !wall.isEmpty)) = mx → Fr h₀ L h' m → News h₀ L h' news → Q (.bool mx) { s with heap := h', toks := k }) : wpAny (model prog w) A t Q E s := join_val _ F N h1 (by rintro v h' k rfl; exact h2 _ h' k rfl)
theorem JPost.intro {P : Value → Prop} {v : Value} {h' : Heap} {k : Nat} {news' : List (Addr × Obj)} (F : Fr h₀ L h' m) (N : News h₀ L h' news') (sub : ∀ p ∈ news, p ∈ news') (hP : P v) : JPost h₀ L m news P s v { s with heap := h', toks := k } := ⟨h', k, news', rfl, F, N, sub, hP⟩
theorem WPost.intro {P : List Int → Prop} {d : Addr} {its : Array Value} {h' : Heap} {k : Nat} (wall : List Int) (F : Fr h₀ L h' m) (N : News h₀ L h' ((d, W.listOf its 0) :: news)) (hI : IntsAre its.toList wall) (hP : P wall) : WPost h₀ L m news P s (.ref d) { s with heap := h', toks := k } := ⟨d, its, wall, h', k, rfl, rfl, F, N, hI, hP⟩
end
section
variable {prog : Program} {w : World} {A : Around} {E : Value → Shared → Prop} {s' : Shared} {h₀ h : Heap} {outer : List Env} {L a e : Addr} {m : Str → Option Value} {cn : Str} {cs : Scope} {ccd : Value} {cl : List (Str × Addr)}
  {b₀ : Stmt} {suite : List Stmt} {pos np : Pos} {rest : List ExceptHandler} {Q : Flow → Shared → Prop} {news : List (Addr × Obj)}
  {p : Program} {loose : List Str} {mg mb : Str → Option Value} {x : Str} {X T' : String} {K : Frag}
/-- catching by a built-in class in a frame that may have cells -/
theorem caught_X (hfr : A.frames = some (envX cn cs L a ccd cl :: outer)) (F : Fr h₀ L h m) (hsm : h.UpToSlots s'.heap) (R : RaisedN h₀ (envX cn cs L a ccd cl :: outer) e (.type X) news s'.heap)
    (XI : K.In h₀) (T : TopRead p loose mg mb h₀) (he : nsIn K mainGlobals x = some none) (hv : bootBuiltins x = some (.type T')) (hn : x ≠ "__name__")
    (hexc : isSubtype (.type T') (.type "BaseException") = pure true) (hnt : isSubtype (.type ((Manifest.find? T').elim "type" fun y => y.metatype)) (.type "tuple") = pure false) (hsub : isSubtype (.type X) (.type T') = pure true)
    (hk : cs.kind = .function) (hx : (envX cn cs L a ccd cl).kindOf x = some .globalImplicit) (hd : (x == ("__debug__" : Str)) = false)
    (k : ∀ h' E', Fr h₀ L h' m → News h₀ L h' news → wpAny (model prog w) (A.mark (some (.ref e))) (execs (b₀ :: suite) (envX cn cs L a ccd cl)) Q E' { s' with heap := h' }) :
    wpAny (model prog w) A (noteFrame (.ref e) (envX cn cs L a ccd cl))
      (fun _ s₂ => wpAny (model prog w) A (setFlight (.ref e) none) (fun _ s₃ =>
        wpAny (model prog w) A (handleBy (.ref e) (envX cn cs L a ccd cl) (.ExceptHandler (some (.Name x np)) none (b₀ :: suite) pos :: rest)) Q E s₃) E s₂) E s' := by
  obtain ⟨B, a0, hB, hl, hfl⟩ := R
  have hL : B.get? L = none := by
    obtain ⟨_, ⟨L', _, hf, hn', _⟩, _⟩ := hfl.2.2.1
    obtain rfl : L = L' := Option.some.inj hf
    exact hn'
  refine wpAny_looks_onW hfr rfl hfl fun h₄ hheld₄ hsm₄ => ?_
  refine wpAny_landsW hheld₄ fun h₅ hheld hsm₅' => ?_
  have hsm₅ := hsm₄.trans hsm₅'
  have hheld' := flyingW_base hB hheld
  have F₅ := F.of_stays hheld'.1 (hsm.trans hsm₅)
  obtain ⟨ob, hob, hobc⟩ := hheld'.there
  refine wpAny_handleBy_builtin (X := X) (T := T') (b := true) hexc hnt hsub (nameX_B (s := { s' with heap := h₅ }) F₅ XI T he hv hn ⟨rfl, ⟨ob, hob, hobc⟩, ?_⟩ hk hx hd)
  refine lands_againW hheld fun h₆ hfl₆ hsm₆ => ?_
  have F₆ := F.of_stays (flyingW_base hB hfl₆).1 ((hsm.trans hsm₅).trans hsm₆)
  exact k h₆ _ F₆ fun q hq => ⟨hfl₆.1 _ _ (hl q hq).1, (fun z => by have := (hl q hq).1; rw [z, hL] at this; cases this), (hl q hq).2⟩
end
theorem pool_of2 {vs : List Value} (hl : vs.length = 6) (h : ∀ j, j < vs.length → ∃ c t, vs[j]? = some (.int c t) ∧ 0 ≤ c ∧ c < 256) : ∃ g, PoolInts vs g ∧ ∀ i, 0 ≤ g i ∧ g i < 256 := by
  refine ⟨fun j => if hj : j < vs.length then (h j hj).choose else 0, ⟨hl, fun i hi => ?_⟩, fun i => ?_⟩
  · have hj : i < vs.length := by omega
    simp only [dif_pos hj]
    obtain ⟨t, ht, _⟩ := (h i hj).choose_spec
    exact ⟨t, ht⟩
  · by_cases hj : i < vs.length
    · simp only [dif_pos hj]
      obtain ⟨t, _, hb⟩ := (h i hj).choose_spec
      exact hb
    · simp only [dif_neg hj]; omega
theorem upto_snoc2 {ys : List Value} {c : Int} {t : Tok} {i : Nat} (h : ys.length = i ∧ ∀ j, j < ys.length → ∃ c t, ys[j]? = some (Value.int c t) ∧ 0 ≤ c ∧ c < 256) (hc : 0 ≤ c ∧ c < 256) : (ys ++ [Value.int c t]).length = i + 1 ∧ ∀ j, j < (ys ++ [Value.int c t]).length → ∃ c' t', (ys ++ [Value.int c t])[j]? = some (Value.int c' t') ∧ 0 ≤ c' ∧ c' < 256 := by
  refine ⟨by rw [List.length_append, h.1]; rfl, fun j hj => ?_⟩
  rw [List.length_append, List.length_singleton] at hj
  by_cases hlt : j < ys.length
  · rw [List.getElem?_append_left hlt]; exact h.2 j hlt
  · have : j = ys.length := by omega
    subst this
    exact ⟨c, t, by simp, hc⟩
theorem pool_any2 {prog : Program} {w : World} {A : Around} {E : Value → Shared → Prop} {s : Shared} {h₀ : Heap} {L : Addr} {news : List (Addr × Obj)} {value slice : PySem.Expr} {pl : Addr} {pv : List Value} {g : Nat → Int} {k : Int} {u : Tok} {Q : Value → Shared → Prop} (hp : PoolInts pv g) (hg : ∀ i, 0 ≤ g i ∧ g i < 256) (N : News h₀ L s.heap news) (hm : (pl, LCg.lst pv) ∈ news) (h0 : 0 ≤ k) (h6 : k < 6)
    (hs : subscripted slice false (.ref pl) (.int k u) = operate [.ref pl, .int k u] (getItem (.ref pl) (.int k u)))
    (h : ∀ c t, 0 ≤ c ∧ c < 256 → Q (.int c t) s) :
    wpAny (model prog w) A (subscriptTail value slice (.ref pl) (.int k u)) Q E s := pool_int hp N hm h0 h6 hs fun t => h _ t (hg _)
theorem mix_last {x y z : Int} {wits : Array Value} {wall : List Int} (h1 : x ≠ 1) (h2 : y ≠ 1) (h3 : z = 1) (hI : IntsAre wits.toList wall) : Value.bool (wits.size != 0) = Value.bool (x == 1 || y == 1 || (z == 1 && !wall.isEmpty)) := by
  have e : wits.size = wall.length := by have := hI.length; simpa using this
  rw [beq_false_of_ne h1, beq_false_of_ne h2, h3, e]
  cases wall <;> rfl
theorem mix_none {x y z : Int} {wall : List Int} (h1 : x ≠ 1) (h2 : y ≠ 1) (h3 : z ≠ 1) : Value.bool (z == 1) = Value.bool (x == 1 || y == 1 || (z == 1 && !wall.isEmpty)) := by
  rw [beq_false_of_ne h1, beq_false_of_ne h2, beq_false_of_ne h3]; rfl
theorem wall_octets {wall : List Int} (h : wall = [] ∨ ∃ c, wall = [c] ∧ 0 ≤ c ∧ c < 256) : Octets wall := by
  rcases h with rfl | ⟨c, rfl, hc⟩
  · intro n hn; cases hn
  · intro n hn; rw [List.mem_singleton.mp hn]; exact hc
theorem wall_small {wall : List Int} (h : wall = [] ∨ ∃ c, wall = [c] ∧ 0 ≤ c ∧ c < 256) : wall.length ≤ 200 := by
  rcases h with rfl | ⟨c, rfl, hc⟩
  · exact Nat.zero_le _
  · exact (by decide : 1 ≤ 200)
theorem mkV_true (ns : List Int) (t : Tok) : mkV true ns t = .str (txtOf ns) t := rfl
theorem mkV_false (ns : List Int) (t : Tok) : mkV false ns t = .bytes (bytOf ns) t := rfl
theorem cutAt_le (ns : List Int) (W : Int → Bool) (e : Int) : ∀ i, i ≤ ns.length → (cutAt ns W e i).1 ≤ ns.length
  | 0, _ => Nat.le_refl _
  | i + 1, h => by
    have ih := cutAt_le ns W e i (by omega)
    rw [cutAt]
    split
    · exact Nat.le_refl _
    · split
      · exact ih
      · split
        · exact (by omega : i ≤ ns.length)
        · exact ih
theorem cat_ints {prog : Program} {w : World} {A : Around} {E : Value → Shared → Prop} {s : Shared} {h₀ : Heap} {L a b : Addr} {m : Str → Option Value} {news : List (Addr × Obj)} {its its2 : Array Value} {e e2 : Nat} {ns ms : List Int} {Q : Value → Shared → Prop}
    (F : Fr h₀ L s.heap m) (N : News h₀ L s.heap news) (hm1 : (a, W.listOf its e) ∈ news) (hm2 : (b, W.listOf its2 e2) ∈ news) (hi : IntsAre its.toList ns) (hj : IntsAre its2.toList ms) (hz : ns.length + ms.length ≤ 201)
    (h : ∀ D us h', Fr h₀ L h' m → News h₀ L h' ((D, W.listOf us 0) :: news) → (∀ p ∈ news, p.1 < D) → IntsAre us.toList (ns ++ ms) → Q (.ref D) { s with heap := h' }) : wpAny (model prog w) A (binaryOp .Add (.ref a) (.ref b)) Q E s := by
  refine kmk_add_ints (vs := its.toList) (ws := its2.toList) F N ⟨_, (N _ hm1).1, rfl, e, by simp⟩ ⟨_, (N _ hm2).1, rfl, e2, by simp⟩ hi hj (fun D us h' F' N' hl hk => h D us.toArray h' F' N' hl hk) ?_
  rw [sizeLine_eq]; omega
theorem cut_v : ∀ (w : World) (mean : ExcName → Option Value) (mg mb : Str → Option Value) (dp un : Nat) (gd : Option (List Code)) (cn : Str) (cs : Scope) (a : Addr) (ccd : Value) (cl : List (Str × Addr)) (outer : List Env) (A₀ : Around) (base h₀ : Heap) (L : Addr) (m : Str → Option Value) (news : List (Addr × Obj)) (s : Shared)
    (d wl : Addr) (its wits : Array Value) (e we : Nat) (ns : List Int) (sc : Int) (wall : List Int) (ec : Int) (t1 : Tok) (Q E : Value → Shared → Prop),
    Below A₀ base outer h₀ → Fr h₀ L s.heap m → (hd2.heap_39 w.params).In h₀ → News h₀ L s.heap news → Top hd2.view_39 (looseW hd2.view_39 []) mean mg mb h₀ → cs.kind = .function → dp < 900 → un < 900 →
    (d, W.listOf its e) ∈ news → IntsAre its.toList ns → ns.length ≤ 1000 → (wl, W.listOf wits we) ∈ news → IntsAre wits.toList ([sc] ++ wall) →
    (∀ t h' tk', Fr h₀ L h' m → News h₀ L h' news → Q (.int ((cutAt ns (isWall sc wall) ec ns.length).1 : Int) t) { s with heap := h', toks := tk' }) →
    wpAny (model PySem.Challenge.rw_dn0116_02.prog w) (ktrTop dp un gd cn cs L a ccd cl outer) (call (.ref 40) [.ref d, .ref wl, .int ec t1]) Q E s := by
  intro w mean mg mb dp un gd cn cs a ccd cl outer A₀ base h₀ L m news s d wl its wits e we ns sc wall ec t1 Q E B F X N T hk hd hu h1 h2 h3 h4 h5 h6
  exact cut_c w mean mg mb dp un gd cn cs a ccd cl outer A₀ base h₀ L m news s d wl its wits e we ns ([sc] ++ wall) ec t1 Q E B F X N T hk hd hu h1 h2 h3 h4 h5 h6
theorem eq_pairS {prog : Program} {w : World} {A : Around} {E : Value → Shared → Prop} {s : Shared} {h₀ : Heap} {L t d : Addr} {news : List (Addr × Obj)} {a b a' b' : Str} {ta tb ta' tb' : Tok} {Q : Value → Shared → Prop} (N : News h₀ L s.heap news)
    (ht : (t, tupObj [.str a ta, .str b tb]) ∈ news) (hd : (d, tupObj [.str a' ta', .str b' tb']) ∈ news) (ea : a' = a) (eb : b' = b) (hu : A.units < cLine) (h : Q (.bool true) s) : wpAny (model prog w) A (compareOp .Eq (.ref t) (.ref d)) Q E s := by
  subst ea; subst eb
  refine PySem.SeqAt.eq_tupleAt (items := #[.str a' ta, .str b' tb]) (items2 := #[.str a' ta', .str b' tb']) (e := fun _ => true) ⟨_, (N _ ht).1, rfl, _, rfl⟩ ⟨_, (N _ hd).1, rfl, _, rfl⟩ hu ?_ ?_
  · intro j h1 h2
    have h1' : j < 2 := h1
    have : j = 0 ∨ j = 1 := by omega
    rcases this with rfl | rfl
    · have := PySem.SeqAt.EqAt.str_str (A := A.in1) (s := s) a' ta a' ta'
      rwa [beq_self_eq_true] at this
    · have := PySem.SeqAt.EqAt.str_str (A := A.in1) (s := s) b' tb b' tb'
      rwa [beq_self_eq_true] at this
  · exact h
theorem eqAt_bytes {A : Around} {s : Shared} (a : Array UInt8) (t u : Tok) : PySem.SeqAt.EqAt A s (.bytes a t) (.bytes a u) true := fun prog w E Q h => by
  unfold eqBool
  refine wpAny_holding ?_
  refine wpAny_ite_split (fun hab => ?_) (fun _ => ?_)
  · exact wpAny_bind (wpAny_rule (wpAny_pure h))
  · refine wpAny_bind (richCompare_gives (op := .Eq) (T := "bytes") rfl rfl FB.slot_bytes_eq FB.entry_bytes_eq (FB.args_bytes_eq_2 _ _) (gives_bytes_eq a a t u) (fun x => nomatch x) (wpAny_truthy_bool ?_))
    rw [beq_self_eq_true]; exact h
theorem eq_pairB {prog : Program} {w : World} {A : Around} {E : Value → Shared → Prop} {s : Shared} {h₀ : Heap} {L t d : Addr} {news : List (Addr × Obj)} {a b a' b' : Array UInt8} {ta tb ta' tb' : Tok} {Q : Value → Shared → Prop} (N : News h₀ L s.heap news)
    (ht : (t, tupObj [.bytes a ta, .bytes b tb]) ∈ news) (hd : (d, tupObj [.bytes a' ta', .bytes b' tb']) ∈ news) (ea : a' = a) (eb : b' = b) (hu : A.units < cLine) (h : Q (.bool true) s) : wpAny (model prog w) A (compareOp .Eq (.ref t) (.ref d)) Q E s := by
  subst ea; subst eb
  refine PySem.SeqAt.eq_tupleAt (items := #[.bytes a' ta, .bytes b' tb]) (items2 := #[.bytes a' ta', .bytes b' tb']) (e := fun _ => true) ⟨_, (N _ ht).1, rfl, _, rfl⟩ ⟨_, (N _ hd).1, rfl, _, rfl⟩ hu ?_ ?_
  · intro j h1 h2
    have h1' : j < 2 := h1
    have : j = 0 ∨ j = 1 := by omega
    rcases this with rfl | rfl
    · exact eqAt_bytes a' ta ta'
    · exact eqAt_bytes b' tb tb'
  · exact h
theorem made_v : ∀ (w : World) (mean : ExcName → Option Value) (mg mb : Str → Option Value) (dp un : Nat) (gd : Option (List Code)) (cn : Str) (cs : Scope) (a : Addr) (ccd : Value) (cl : List (Str × Addr)) (outer : List Env) (A₀ : Around) (base h₀ : Heap) (L : Addr) (m : Str → Option Value) (news : List (Addr × Obj)) (s : Shared)
    (d : Addr) (its : Array Value) (e : Nat) (ns : List Int) (b : Bool) (Q E : Value → Shared → Prop),
    Below A₀ base outer h₀ → Fr h₀ L s.heap m → (hd2.heap_39 w.params).In h₀ → News h₀ L s.heap news → Top hd2.view_39 (looseW hd2.view_39 []) mean mg mb h₀ → cs.kind = .function → dp < 900 → un < 900 →
    (d, W.listOf its e) ∈ news → IntsAre its.toList ns → Octets ns → ns.length ≤ 200 →
    (∀ t h' tk', Fr h₀ L h' m → News h₀ L h' news → Q (mkV b ns t) { s with heap := h', toks := tk' }) →
    wpAny (model PySem.Challenge.rw_dn0116_02.prog w) (ktrTop dp un gd cn cs L a ccd cl outer) (call (.ref 33) [.ref d, .bool b]) Q E s := made_c
end Mine
open Mine
local macro_rules | `(tactic| walk_at "subscriptTail") => `(tactic| ((with_reducible show wpAny _ _ (subscriptTail (Expr.Name _ _) (Expr.BinOp _ _ _ _) (Value.ref _) (Value.int _ _)) _ _ _); with_reducible refine Stop.out ?_))
local macro_rules | `(tactic| walk_at "call ref cons nil") => `(tactic| (with_reducible refine Stop.out ?_))
local macro_rules | `(tactic| walk_at "eval IfExp") => `(tactic| (with_reducible refine Stop.out ?_))
local macro_rules | `(tactic| walk_at "eval BoolOp") => `(tactic| (with_reducible refine Stop.out ?_))
local macro_rules | `(tactic| walk_at "compareOp Eq ref ref") => `(tactic| (with_reducible refine Stop.out ?_))
local macro_rules | `(tactic| walk_at "compareOp NotEq ref ref") => `(tactic| k_dflt (refine ne_nilK (News.isList (by assumption) (by repeat' first | assumption | exact List.mem_cons_self | refine List.mem_cons_of_mem _ ?_)) (News.isList (by assumption) (by repeat' first | assumption | exact List.mem_cons_self | refine List.mem_cons_of_mem _ ?_)) (by exact (by decide : (7 : Nat) < cLine)) ?_))
local macro_rules | `(tactic| walk_at "exec Assign cons ListComp") => `(tactic| k_dflt (refine Assign_ListComp_go (by assumption) (by rfl) (by rfl) (by rfl) (by rfl) (by decide) (by rfl) (by rfl) ?_))
theorem PySem.Challenge.cw_dn0116_02_holds : PySem.Challenge.rw_dn0116_02.Holds := by
  refine Mine.hd2 ?_
  k_go0
  rename Below _ _ _ _ => hB
  unfold Top.heap at hB
  (all_goals try k_fold)
  rename IntsAre _ _ => hInts
  rename ¬ (_ : Int) < _ => h63
  k_steps
  refine CompGo.range (σ := Unit) 6 (fun _ => _) (fun i _ ys => ys.length = i ∧ ∀ j, j < ys.length → ∃ c t, ys[j]? = some (.int c t) ∧ 0 ≤ c ∧ c < 256) () (by rfl) (by assumption) (by decide) (by decide) (by assumption) (by assumption) (fun _ h => h) (by decide) ⟨by rfl, fun j hj => absurd hj (Nat.not_lt_zero _)⟩ (by decide) (by rfl) (by rfl) ?_ ?_
  · intro i u c ys I oI C oC D m₂ h tk E' hi hR hyl hC hm F1 N1 off dis
    refine PySem.wpAny_tests_nil ?_
    rw [if_pos rfl]
    k_steps
    exact CEnd.intro () (by assumption) (by assumption) (fun _ h => h) off (upto_snoc2 hR ⟨Int.fmod_nonneg_of_pos _ (by decide), Int.fmod_lt_of_pos _ (by decide)⟩)
  · intro D c ys hR off h2 tk2 F2 N2
    obtain ⟨g, hpool, hg⟩ := pool_of2 hR.1 hR.2
    k_steps
    refine ⟨?_⟩
    refine pool_any2 hpool hg (by with_reducible assumption) List.mem_cons_self (Int.fmod_nonneg_of_pos _ (by decide)) (Int.lt_trans (Int.fmod_lt_of_pos _ (by decide)) (by decide)) (by with_unfolding_all rfl) ?_
    intro sc st hsc
    k_steps
    refine ⟨?_⟩
    refine pool_any2 hpool hg (by with_reducible assumption) List.mem_cons_self (Int.fmod_nonneg_of_pos _ (by decide)) (Int.lt_trans (Int.fmod_lt_of_pos _ (by decide)) (by decide)) (by with_unfolding_all rfl) ?_
    intro ec et hec
    k_steps
    refine ⟨?_⟩
    refine join_wall (by with_reducible assumption) (by with_reducible assumption) (by rfl) (IfExp_ ?_) ?_
    · k_steps
      · exact WPost.intro [] (by with_reducible assumption) (by with_reducible assumption) .nil ⟨.inl rfl, fun _ => rfl⟩
      · refine ⟨?_⟩
        refine pool_any2 hpool hg (by with_reducible assumption) List.mem_cons_self (Int.fmod_nonneg_of_pos _ (by decide)) (Int.lt_trans (Int.fmod_lt_of_pos _ (by decide)) (by decide)) (by with_unfolding_all rfl) ?_
        intro c ct hc
        k_steps
        rename ¬ _ < (2 : Int) => h2c
        exact WPost.intro [c] (by with_reducible assumption) (by with_reducible assumption) (.cons _ _ .nil) ⟨.inr ⟨c, rfl, hc⟩, fun h => absurd h h2c⟩
    · intro wd wits wall h3 tk3 hwall hwI F3 N3
      k_steps
      refine ⟨?_⟩
      refine join_val (fun v => ∃ i t, v = .int i t) (by with_reducible assumption) (by with_reducible assumption) (IfExp_ ?_) ?_
      · k_steps
        · exact JPost.intro (by with_reducible assumption) (by with_reducible assumption) (fun _ h => h) ⟨_, _, rfl⟩
        · exact JPost.intro (by with_reducible assumption) (by with_reducible assumption) (fun _ h => h) ⟨_, _, rfl⟩
      · rintro _ h4 tk4 ⟨i4, t4, rfl⟩ F4 N4
        k_steps
        refine ⟨?_⟩
        refine numbers_c _ _ _ _ _ _ _ _ _ _ _ _ _ _ _ _ _ _ _ _ _ _ _ _ _ g _ _ hB (by with_reducible assumption) (by with_reducible assumption) (by with_reducible assumption) (by with_reducible assumption) (by rfl) (by decide) (by decide) (by with_reducible assumption) hInts (by omega) (List.mem_cons_of_mem _ List.mem_cons_self) hpool ?_
        intro nd nits ne h5 tk5 hnI hnlt F5 N5
        obtain ⟨nums, hnI, ho, hlen⟩ : ∃ nums, IntsAre nits.toList nums ∧ Octets nums ∧ nums.length ≤ 200 := by
          refine ⟨_, hnI, ?_, ?_⟩
          · intro n hn
            obtain ⟨j, _, rfl⟩ := List.mem_map.mp hn
            exact hg j
          · rw [List.length_map]; exact Nat.le_trans (placesOf_length _) (by omega)
        k_steps
        refine ⟨?_⟩
        refine made_v _ _ _ _ _ _ _ _ _ _ _ _ _ _ _ _ _ _ _ _ _ _ _ _ _ _ _ hB (by with_reducible assumption) (by with_reducible assumption) (by with_reducible assumption) (by with_reducible assumption) (by rfl) (by decide) (by decide) List.mem_cons_self hnI ho hlen ?_
        intro pt h6 tk6 F6 N6
        k_steps
        refine ⟨?_⟩
        refine join_alt wall (by with_reducible assumption) (by with_reducible assumption) (by rfl) (by rfl) (IfExp_ ?_) ?_
        · k_steps
          · rename_i hc0
            exact JPost.intro (by with_reducible assumption) (by with_reducible assumption) (fun _ h => h) (.inl ⟨rfl, hwall.2 (by omega)⟩)
          · refine ⟨?_⟩
            refine made_v _ _ _ _ _ _ _ _ _ _ _ _ _ _ _ _ _ _ _ _ _ _ _ _ _ _ _ hB (by with_reducible assumption) (by with_reducible assumption) (by with_reducible assumption) (by with_reducible assumption) (by rfl) (by decide) (by decide) (List.mem_cons_of_mem _ List.mem_cons_self) hwI (wall_octets hwall.1) (wall_small hwall.1) ?_
            intro at6 h7 tk7 F7 N7
            exact JPost.intro (by with_reducible assumption) (by with_reducible assumption) (fun _ h => h) (.inr ⟨_, rfl⟩)
        · intro alt h7 tk7 halt F7 N7
          k_steps
          refine ⟨?_⟩
          refine join_mix wall (by with_reducible assumption) (by with_reducible assumption) (by rfl) (by rfl) (by rfl) (BoolOp_or ?_) ?_
          · k_steps
            · rename_i hc1
              exact JPost.intro (by with_reducible assumption) (by with_reducible assumption) (fun _ h => h) (by simp [hc1])
            · refine ⟨?_⟩
              rename_i hc1
              refine BoolOp_or ?_
              k_steps
              · rename_i hc2
                exact JPost.intro (by with_reducible assumption) (by with_reducible assumption) (fun _ h => h) (by simp [hc2])
              · refine ⟨?_⟩
                rename_i hc2
                refine BoolOp_one (BoolOp_and ?_)
                k_steps
                · refine ⟨?_⟩
                  rename_i hc3
                  refine BoolOp_one ?_
                  k_steps
                  exact JPost.intro (by with_reducible assumption) (by with_reducible assumption) (fun _ h => List.mem_cons_of_mem _ h) (mix_last hc1 hc2 hc3 hwI)
                · rename_i hc3
                  exact JPost.intro (by with_reducible assumption) (by with_reducible assumption) (fun _ h => h) (mix_none hc1 hc2 hc3)
          · intro mx h8 tk8 hmx F8 N8
            k_steps
            refine wpAny_Try_except ?_
            k_steps
            refine ⟨?_⟩
            refine made_v _ _ _ _ _ _ _ _ _ _ _ _ _ _ _ _ _ _ _ _ _ _ _ [sc] _ _ _ hB (by with_reducible assumption) (by with_reducible assumption) (by with_reducible assumption) (by with_reducible assumption) (by rfl) (by decide) (by decide) List.mem_cons_self (.cons _ _ .nil) (wall_octets (.inr ⟨sc, rfl, hsc⟩)) (wall_small (.inr ⟨sc, rfl, hsc⟩)) ?_
            intro t9 h9 tk9 F9 N9
            k_steps
            refine ⟨?_⟩
            refine made_v _ _ _ _ _ _ _ _ _ _ _ _ _ _ _ _ _ _ _ _ _ _ _ [ec] _ _ _ hB (by with_reducible assumption) (by with_reducible assumption) (by with_reducible assumption) (by with_reducible assumption) (by rfl) (by decide) (by decide) List.mem_cons_self (.cons _ _ .nil) (wall_octets (.inr ⟨ec, rfl, hec⟩)) (wall_small (.inr ⟨ec, rfl, hec⟩)) ?_
            intro t10 h10 tk10 F10 N10
            k_steps
            refine ⟨?_⟩
            refine splitext_all _ _ _ _ _ _ _ _ _ _ _ _ _ _ _ _ _ _ _ _ _ wall sc ec _ _ _ _ alt _ _ _ _ _ hB (by with_reducible assumption) (by with_reducible assumption) (by with_reducible assumption) (by with_reducible assumption) (by rfl) (by decide) (by decide) ho hlen hsc hec hwall.1 halt ?_ ?_
            · intro hx t11 ta tb h11 tk11 F11 N11 hlt11
              obtain rfl : mx = false := hmx.symm.trans hx
              generalize hb : decide ((5 : Int) < _) = b at F11 N11
              cases b
              · simp only [mkV_false] at F11 N11
                have hks : KBw.bInts (bytOf nums) = nums := byt_ints ho
                k_steps
                refine cat_ints (ns := [sc]) (ms := wall) (by with_reducible assumption) (by with_reducible assumption) List.mem_cons_self (by repeat' first | exact List.mem_cons_self | refine List.mem_cons_of_mem _ ?_) (.cons _ _ .nil) hwI (by have := wall_small hwall.1; simp only [List.length_singleton]; omega) ?_
                intro D13 us13 h13 F13 N13 l13 hI13
                k_steps
                refine ⟨?_⟩
                refine cut_v _ _ _ _ _ _ _ _ _ _ _ _ _ _ _ _ _ _ _ _ _ _ _ us13 ne 0 _ sc wall ec _ _ _ hB (by with_reducible assumption) (by with_reducible assumption) (by with_reducible assumption) (by with_reducible assumption) (by rfl) (by decide) (by decide) (by repeat' first | exact List.mem_cons_self | refine List.mem_cons_of_mem _ ?_) hnI (by omega) List.mem_cons_self hI13 ?_
                intro t14 h14 tk14 F14 N14
                k_steps
                refine ⟨?_⟩
                refine BoolOp_and ?_
                k_steps
                refine ⟨?_⟩
                refine BoolOp_one ?_
                k_steps
                refine ⟨?_⟩
                refine eq_pairB (by with_reducible assumption) (by repeat' first | exact List.mem_cons_self | refine List.mem_cons_of_mem _ ?_) List.mem_cons_self (byt_to ho _ (cutAt_le _ _ _ _ (Nat.le_refl _))) (byt_from ho _ (cutAt_le _ _ _ _ (Nat.le_refl _))) (by exact (by decide : (7 : Nat) < cLine)) ?_
                k_steps
              · simp only [mkV_true] at F11 N11
                have htl : (txtOf nums).length ≤ 1000000 := by rw [txt_len]; omega
                k_steps
                refine cat_ints (ns := [sc]) (ms := wall) (by with_reducible assumption) (by with_reducible assumption) List.mem_cons_self (by repeat' first | exact List.mem_cons_self | refine List.mem_cons_of_mem _ ?_) (.cons _ _ .nil) hwI (by have := wall_small hwall.1; simp only [List.length_singleton]; omega) ?_
                intro D13 us13 h13 F13 N13 l13 hI13
                k_steps
                refine ⟨?_⟩
                refine cut_v _ _ _ _ _ _ _ _ _ _ _ _ _ _ _ _ _ _ _ _ _ _ _ us13 ne 0 _ sc wall ec _ _ _ hB (by with_reducible assumption) (by with_reducible assumption) (by with_reducible assumption) (by with_reducible assumption) (by rfl) (by decide) (by decide) (by repeat' first | exact List.mem_cons_self | refine List.mem_cons_of_mem _ ?_) hnI (by omega) List.mem_cons_self hI13 ?_
                intro t14 h14 tk14 F14 N14
                k_steps
                refine ⟨?_⟩
                refine BoolOp_and ?_
                k_steps
                refine ⟨?_⟩
                refine BoolOp_one ?_
                k_steps
                refine ⟨?_⟩
                refine eq_pairS (by with_reducible assumption) (by repeat' first | exact List.mem_cons_self | refine List.mem_cons_of_mem _ ?_) List.mem_cons_self (txt_to _ _ (cutAt_le _ _ _ _ (Nat.le_refl _))) (txt_from _ _ (cutAt_le _ _ _ _ (Nat.le_refl _))) (by exact (by decide : (7 : Nat) < cLine)) ?_
                k_steps
            · intro hx e11 g11 h11 tk11 F11 hup R11
              refine caught_X (T' := "TypeError") (by rfl) F11 hup R11 (by with_reducible assumption) (topRead_of (by with_reducible assumption)) (by k_is) (by boot_fast) (by decide) (by rfl) (by rfl) (by rfl) (by rfl) (by rfl) (by decide) ?_
              intro h12 E12 F12 N12
              obtain rfl : mx = true := hmx.symm.trans hx
              k_steps
end
